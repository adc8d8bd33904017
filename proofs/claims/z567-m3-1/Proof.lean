import JvmDerived
import JvmDerived.Pilot.@@N@@Statement
import JvmDerived.Pilot.@@N@@Code
set_option linter.unusedVariables false
set_option linter.unusedSimpArgs false
namespace Jvm.Pilot.@@N@@
open Jvm Jvm.ClassFile Sem Op Lib Jvm.Free Jvm.Stand Jvm.LawKit Jvm.RoadKit Bundle Jvm.Pilot.@@N@@.Jvm.D
section OwnKit
variable {p : Program} {l : Launch} {e : Env} {R : Room} {s : State} {m : MethodId} {args : Array Value} {below : List Frame} {meth : Method} {c : Code} {T : State} {locs : List Loc} {cells slots : Nat} {Z : State} {a0 : Array Value} {h : Heap} {bs : ByteArray} {own mnm : String} {mx : Nat} {rt : Option FieldType} {G : Outcome → State → Prop} {pc pc' : Nat} {Ls Ls' : Array Slot} {st : List Value}
/-- from T the run comes to an end of which G holds -/
def Go (tb : Tables) (e : Env) (below : List Frame) (G : Outcome → State → Prop) (T : State) : Prop := ∃ s₂ o, Steps tb e below T s₂ ∧ s₂.status = .running ∧ Ended s₂ below o ∧ G o s₂
theorem Go.step {tb : Tables} {T T' : State} (g : Go tb e below G T') (h : ∀ t, Steps tb e below T' t → Steps tb e below T t) : Go tb e below G T := by
  obtain ⟨s₂, o, h1, h2⟩ := g
  exact ⟨s₂, o, h _ h1, h2⟩
/-- what a walk knows of its own body -/
def Cx (p : Program) (s : State) (m : MethodId) (meth : Method) (c : Code) (bs : ByteArray) (mx : Nat) (own mnm : String) (rt : Option FieldType) (Z : State) : Prop :=
  p.tables.exec = Jvm.exec ∧ c.code = bs ∧ c.maxLocals = mx ∧ s.vm.findClass own = some m.cls ∧ meth.name = mnm ∧ meth.sig.returnType = rt ∧ meth.locks = false ∧ Z.Warmed39 s.vm
theorem Cx.hown (C : Cx p s m meth c bs mx own mnm rt Z) : s.vm.findClass own = some m.cls := C.2.2.2.1
theorem Cx.nm (C : Cx p s m meth c bs mx own mnm rt Z) : meth.name = mnm := C.2.2.2.2.1
theorem Cx.ret (C : Cx p s m meth c bs mx own mnm rt Z) : meth.sig.returnType = rt := C.2.2.2.2.2.1
theorem Cx.locks (C : Cx p s m meth c bs mx own mnm rt Z) : meth.locks = false := C.2.2.2.2.2.2.1
theorem Cx.hZ (C : Cx p s m meth c bs mx own mnm rt Z) : Z.Warmed39 s.vm := C.2.2.2.2.2.2.2
/-- the end: returned, Q of the value, the heap and the places written; the frame -/
def End (s : State) (Q : Option Value → Heap → List Loc → Prop) (ce sl : Nat) (o : Outcome) (U' : State) : Prop := ∃ v L, o = .returned v ∧ Q v U'.heap L ∧ FrameEnd s o U' L ce sl
theorem met_of {y : MethodName} {ws : List Jvm.Cond} {rm : Room} {as' : Array Value} {Q : Option Value → Heap → List Loc → Prop} {ce sl : Nat} (hpn : plainFor y = true) (hef : ∀ m, entryFrame m as' mx = mkF m 0 Ls [])
    (hbody : ∀ (p : Program) (e : Env) (s : State) (m : MethodId) (below : List Frame) (meth : Method) (c : Code) (T : State), Cx p s m meth c bs mx y.cls y.name rt Z → Stand p l e rm s m as' below meth c T [] 0 0 → T.heap = h → Go p.tables e below (End s Q ce sl) (T.setTop (mkF m 0 Ls []))) :
    MetFree l y (head1 (Jvm.Cond.code y bs mx rt :: ws) rm) (fun a U => a = as' ∧ Z.Warmed39 U.vm ∧ U.heap = h) (fun _ _ _ _ _ => True) (fun _ U o U' => ∃ v L, o = .returned v ∧ Q v U'.heap L ∧ FrameEnd U o U' L ce sl) := by
  refine MetFree.of_bodySF hpn hisR ?_
  intro p e s m args below meth c s₁ Bd hml0 hP hK
  obtain ⟨rfl, hZ, hh⟩ := hP
  have X0 : Stand p l e rm s m _ below meth c s₁ [] 0 0 := Stand.of_body Bd
  have e0 : s₁.heap = h := by rw [← hh, Bd.state]; rfl
  obtain ⟨s₂, o, h1, h2, h3, h4⟩ := hbody p e s m below meth c s₁ ⟨Bd.exec, Bd.bytes, hml0, findClass_of_methodNamed Bd.named, (name_of_methodNamed Bd.named Bd.method).1, Bd.returns, Bd.notSynchronized, hZ⟩ X0 e0
  exact ⟨s₂, o, castTop (hef m) h1, h2, h3, h4⟩

theorem g_iloadN (C : Cx p s m meth c bs mx own mnm rt Z) (X : Stand p l e R s m args below meth c T locs cells slots) {k : Fin 4} {v : Int32} (hd : decode bs pc = .ok (.iload_n k, 1)) (hl : Ls[k.val]? = some (.val (.int v))) (hn : pc + 1 = pc')
    (hr : Go p.tables e below G (T.setTop (mkF m pc' Ls (.int v :: st)))) : Go p.tables e below G (T.setTop (mkF m pc Ls st)) := by
  subst hn; exact hr.step fun t k => XS.iloadN X.here C.1 rfl (hb C.2.1 hd) hl k
theorem g_iload (C : Cx p s m meth c bs mx own mnm rt Z) (X : Stand p l e R s m args below meth c T locs cells slots) {k : Nat} {v : Int32} (hd : decode bs pc = .ok (.iload k, 2)) (hl : Ls[k]? = some (.val (.int v))) (hn : pc + 2 = pc')
    (hr : Go p.tables e below G (T.setTop (mkF m pc' Ls (.int v :: st)))) : Go p.tables e below G (T.setTop (mkF m pc Ls st)) := by
  subst hn; exact hr.step fun t k => XS.iload X.here C.1 rfl (hb C.2.1 hd) hl k
theorem g_istoreN (C : Cx p s m meth c bs mx own mnm rt Z) (X : Stand p l e R s m args below meth c T locs cells slots) {k : Fin 4} {v : Int32} (hd : decode bs pc = .ok (.istore_n k, 1)) (hl : storeLocals Ls k.val (.int v) = some Ls') (hn : pc + 1 = pc')
    (hr : Go p.tables e below G (T.setTop (mkF m pc' Ls' st))) : Go p.tables e below G (T.setTop (mkF m pc Ls (.int v :: st))) := by
  subst hn; exact hr.step fun t k => XS.istoreN X.here C.1 rfl (hb C.2.1 hd) rfl hl k
theorem g_istore (C : Cx p s m meth c bs mx own mnm rt Z) (X : Stand p l e R s m args below meth c T locs cells slots) {k : Nat} {v : Int32} (hd : decode bs pc = .ok (.istore k, 2)) (hl : storeLocals Ls k (.int v) = some Ls') (hn : pc + 2 = pc')
    (hr : Go p.tables e below G (T.setTop (mkF m pc' Ls' st))) : Go p.tables e below G (T.setTop (mkF m pc Ls (.int v :: st))) := by
  subst hn; exact hr.step fun t k => XS.istore X.here C.1 rfl (hb C.2.1 hd) rfl hl k
theorem g_aloadN (C : Cx p s m meth c bs mx own mnm rt Z) (X : Stand p l e R s m args below meth c T locs cells slots) {k : Fin 4} {v : Value} (hd : decode bs pc = .ok (.aload_n k, 1)) (hl : Ls[k.val]? = some (.val v)) (hv : v.isRef = true) (hn : pc + 1 = pc')
    (hr : Go p.tables e below G (T.setTop (mkF m pc' Ls (v :: st)))) : Go p.tables e below G (T.setTop (mkF m pc Ls st)) := by
  subst hn; exact hr.step fun t k => XS.aloadN X.here C.1 rfl (hb C.2.1 hd) hl hv k
theorem g_astoreN (C : Cx p s m meth c bs mx own mnm rt Z) (X : Stand p l e R s m args below meth c T locs cells slots) {k : Fin 4} {v : Value} (hd : decode bs pc = .ok (.astore_n k, 1)) (hv : v.isRef = true) (hl : storeLocals Ls k.val v = some Ls') (hn : pc + 1 = pc')
    (hr : Go p.tables e below G (T.setTop (mkF m pc' Ls' st))) : Go p.tables e below G (T.setTop (mkF m pc Ls (v :: st))) := by
  subst hn; exact hr.step fun t k => XS.astoreN X.here C.1 rfl (hb C.2.1 hd) rfl hv hl k
theorem g_iconst (C : Cx p s m meth c bs mx own mnm rt Z) (X : Stand p l e R s m args below meth c T locs cells slots) {i : Int} {v : Int32} (hd : decode bs pc = .ok (.iconst i, 1)) (hv : Int32.ofInt i = v) (hn : pc + 1 = pc')
    (hr : Go p.tables e below G (T.setTop (mkF m pc' Ls (.int v :: st)))) : Go p.tables e below G (T.setTop (mkF m pc Ls st)) := by
  subst hn; exact hr.step fun t k => XS.iconst X.here C.1 rfl (hb C.2.1 hd) (by rw [hv]; exact k)
theorem g_bipush (C : Cx p s m meth c bs mx own mnm rt Z) (X : Stand p l e R s m args below meth c T locs cells slots) {i : Int} {v : Int32} (hd : decode bs pc = .ok (.bipush i, 2)) (hv : (Int8.ofInt i).toInt32 = v) (hn : pc + 2 = pc')
    (hr : Go p.tables e below G (T.setTop (mkF m pc' Ls (.int v :: st)))) : Go p.tables e below G (T.setTop (mkF m pc Ls st)) := by
  subst hn; exact hr.step fun t k => XS.bipush X.here C.1 rfl (hb C.2.1 hd) (by rw [hv]; exact k)
theorem g_iand (C : Cx p s m meth c bs mx own mnm rt Z) (X : Stand p l e R s m args below meth c T locs cells slots) {x y : Int32} (hd : decode bs pc = .ok (.iand, 1)) (hn : pc + 1 = pc')
    (hr : Go p.tables e below G (T.setTop (mkF m pc' Ls (.int (x &&& y) :: st)))) : Go p.tables e below G (T.setTop (mkF m pc Ls (.int y :: .int x :: st))) := by
  subst hn; exact hr.step fun t k => XS.iand X.here C.1 rfl (hb C.2.1 hd) rfl k
theorem g_goto (C : Cx p s m meth c bs mx own mnm rt Z) (X : Stand p l e R s m args below meth c T locs cells slots) {o : Int} (hd : decode bs pc = .ok (.goto o, 3)) (ho : 0 ≤ (pc : Int) + o) (hp : ((pc : Int) + o).toNat = pc')
    (hr : Go p.tables e below G (T.setTop (mkF m pc' Ls st))) : Go p.tables e below G (T.setTop (mkF m pc Ls st)) :=
  hr.step fun t k => XS.goto X.here C.1 rfl rfl (hb C.2.1 hd) ho hp k
theorem g_icmpY (C : Cx p s m meth c bs mx own mnm rt Z) (X : Stand p l e R s m args below meth c T locs cells slots) {cd : ClassFile.Cond} {x y : Int32} {o : Int} (hd : decode bs pc = .ok (.if_icmp cd o, 3)) (hc : if_icmp.holds cd x y = true) (ho : 0 ≤ (pc : Int) + o) (hp : ((pc : Int) + o).toNat = pc')
    (hr : Go p.tables e below G (T.setTop (mkF m pc' Ls st))) : Go p.tables e below G (T.setTop (mkF m pc Ls (.int y :: .int x :: st))) :=
  hr.step fun t k => XS.icmpYes X.here C.1 rfl rfl (hb C.2.1 hd) rfl hc ho hp k
theorem g_icmpN (C : Cx p s m meth c bs mx own mnm rt Z) (X : Stand p l e R s m args below meth c T locs cells slots) {cd : ClassFile.Cond} {x y : Int32} {o : Int} (hd : decode bs pc = .ok (.if_icmp cd o, 3)) (hc : if_icmp.holds cd x y = false) (hn : pc + 3 = pc')
    (hr : Go p.tables e below G (T.setTop (mkF m pc' Ls st))) : Go p.tables e below G (T.setTop (mkF m pc Ls (.int y :: .int x :: st))) := by
  subst hn; exact hr.step fun t k => XS.icmpNo X.here C.1 rfl (hb C.2.1 hd) rfl hc k
theorem g_ifY (C : Cx p s m meth c bs mx own mnm rt Z) (X : Stand p l e R s m args below meth c T locs cells slots) {cd : ClassFile.Cond} {x : Int32} {o : Int} (hd : decode bs pc = .ok (.ifCond cd o, 3)) (hc : if_icmp.holds cd x 0 = true) (ho : 0 ≤ (pc : Int) + o) (hp : ((pc : Int) + o).toNat = pc')
    (hr : Go p.tables e below G (T.setTop (mkF m pc' Ls st))) : Go p.tables e below G (T.setTop (mkF m pc Ls (.int x :: st))) :=
  hr.step fun t k => XS.ifYes X.here C.1 rfl rfl (hb C.2.1 hd) rfl ((if0 _ _).trans hc) ho hp k
theorem g_ifN (C : Cx p s m meth c bs mx own mnm rt Z) (X : Stand p l e R s m args below meth c T locs cells slots) {cd : ClassFile.Cond} {x : Int32} {o : Int} (hd : decode bs pc = .ok (.ifCond cd o, 3)) (hc : if_icmp.holds cd x 0 = false) (hn : pc + 3 = pc')
    (hr : Go p.tables e below G (T.setTop (mkF m pc' Ls st))) : Go p.tables e below G (T.setTop (mkF m pc Ls (.int x :: st))) := by
  subst hn; exact hr.step fun t k => XS.ifNo X.here C.1 rfl (hb C.2.1 hd) rfl ((if0 _ _).trans hc) k
theorem g_ifnullY (C : Cx p s m meth c bs mx own mnm rt Z) (X : Stand p l e R s m args below meth c T locs cells slots) {o : Int} (hd : decode bs pc = .ok (.ifnull o, 3)) (ho : 0 ≤ (pc : Int) + o) (hp : ((pc : Int) + o).toNat = pc')
    (hr : Go p.tables e below G (T.setTop (mkF m pc' Ls st))) : Go p.tables e below G (T.setTop (mkF m pc Ls (.null :: st))) :=
  hr.step fun t k => XS.ifnullYes X.here C.1 rfl rfl (hb C.2.1 hd) rfl ho hp k
theorem g_ifnullN (C : Cx p s m meth c bs mx own mnm rt Z) (X : Stand p l e R s m args below meth c T locs cells slots) {b : Addr} {o : Int} (hd : decode bs pc = .ok (.ifnull o, 3)) (hn : pc + 3 = pc')
    (hr : Go p.tables e below G (T.setTop (mkF m pc' Ls st))) : Go p.tables e below G (T.setTop (mkF m pc Ls (.ref b :: st))) := by
  subst hn; exact hr.step fun t k => XS.ifnullNo X.here C.1 rfl (hb C.2.1 hd) rfl k
theorem g_getS (C : Cx p s m meth c bs mx own mnm rt Z) (X : Stand p l e R s m args below meth c T locs cells slots) {O n d R0 host : String} {i : Nat} {v : Value} (hd : decode bs pc = .ok (.getstatic i, 3)) (w : (Jvm.Cond.fieldLink own i R0 n d).before a0 Z = true ∨ (Jvm.Cond.fieldLinkNest own i R0 n d host).before a0 Z = true) (via : Via Z R0 O n d) (eT : T.heap = h) (F : Sta Z h O n d v) (hn : pc + 3 = pc')
    (hr : ∀ T', Stand p l e R s m args below meth c T' locs cells slots → T'.heap = h → Go p.tables e below G (T'.setTop (mkF m pc' Ls (v :: st)))) : Go p.tables e below G (T.setTop (mkF m pc Ls st)) := by
  subst hn
  obtain ⟨T', X', e', st'⟩ := getS2 X C.1 C.hZ C.hown w via eT F (g := mkF m pc Ls st) rfl (hb C.2.1 hd)
  exact (hr T' X' e').step st'
theorem g_getF (C : Cx p s m meth c bs mx own mnm rt Z) (X : Stand p l e R s m args below meth c T locs cells slots) {O n d R0 host : String} {i : Nat} {a : Addr} {v : Value} (hd : decode bs pc = .ok (.getfield i, 3)) (w : (Jvm.Cond.fieldLink own i R0 n d).before a0 Z = true ∨ (Jvm.Cond.fieldLinkNest own i R0 n d host).before a0 Z = true) (via : Via Z R0 O n d) (eT : T.heap = h) (F : Fld Z h a O n d v) (hn : pc + 3 = pc')
    (hr : ∀ T', Stand p l e R s m args below meth c T' locs cells slots → T'.heap = h → Go p.tables e below G (T'.setTop (mkF m pc' Ls (v :: st)))) : Go p.tables e below G (T.setTop (mkF m pc Ls (.ref a :: st))) := by
  subst hn
  obtain ⟨T', X', e', st'⟩ := getF X C.1 C.hZ C.hown w via eT F (g := mkF m pc Ls (.ref a :: st)) rfl rfl (hb C.2.1 hd)
  exact (hr T' X' e').step st'
theorem g_callS (C : Cx p s m meth c bs mx own mnm rt Z) (X : Stand p l e R s m args below meth c T locs cells slots) {rm : Room} {as' : Array Value} {Q : Option Value → Heap → List Loc → Prop} {ml : Nat} {yb : ByteArray} {yr : Option FieldType} {ce sl W : Nat} {argsL : List Value} {ps : List FieldType} {pr : Option FieldType} {y : MethodName} {i : Nat} (hd : decode bs pc = .ok (.invokestatic i, 3)) (w1 : (Jvm.Cond.methodLink own i y).before a0 Z = true) (w2 : (Jvm.Cond.static y).before a0 Z = true) (w3 : (Jvm.Cond.initialized y.cls).before a0 Z = true) (w4 : (Jvm.Cond.code y yb ml yr).before a0 Z = true) (hy : y.cls ≠ "java/lang/invoke/MethodHandle" ∧ y.cls ≠ "java/lang/invoke/VarHandle")
    (hM : MetFree l y (head1 [Jvm.Cond.code y yb ml yr] rm) (fun a U => a = as' ∧ Z.Warmed39 U.vm ∧ U.heap = h) (fun _ _ _ _ _ => True) (fun _ U o U' => ∃ v L, o = .returned v ∧ Q v U'.heap L ∧ FrameEnd U o U' L rm.cells rm.slots)) (hf : rm.frames + 1 ≤ R.frames) (hlo : W + (ml + 11) + rm.locals ≤ R.locals) (hce : cells + rm.cells = ce) (hsl : slots + rm.slots = sl) (hce' : ce ≤ R.cells) (hsl' : sl ≤ R.slots) (has : argsL.toArray = as') (eT : T.heap = h) (hsz : Ls.size = mx) (hpd : parseMethodDescriptor y.desc = some ⟨ps, pr⟩) (hln : argsL.length = ps.length) (hW : (st.map fun v => v.category).sum ≤ W) (hn : pc + 3 = pc')
    (hr : ∀ v T' L, Stand p l e R s m args below meth c T' (locs ++ L) ce sl → Q v T'.heap L → Go p.tables e below G (T'.setTop (mkF m pc' Ls (v.toList ++ st)))) : Go p.tables e below G (T.setTop (mkF m pc Ls (argsL.reverse ++ st))) := by
  subst hn hce hsl has
  obtain ⟨v, vm1, ⟨T', L', k', n'⟩, -, X', ⟨Lc, hQ, l', y', z'⟩, st'⟩ := Jvm.LawKit.callS X C.1 (y := y) C.hown (mvT C.hZ w1) (mvT C.hZ w2) (mvT C.hZ w3) (mvT C.hZ w4) hy (backOf (W := W) hM C.hZ w4 w3 hf hlo) (g := mkF m pc Ls (argsL.reverse ++ st)) rfl (hsz.trans C.2.2.1.symm) (argsL := argsL) (rest := st) (lenOf hpd hln) rfl (by show 2 * 0 + _ ≤ _; omega) (hb C.2.1 hd) (fun _ _ => ⟨rfl, eT, hce', hsl'⟩)
  dsimp only [Pt.U, Pt.locs, Pt.cells, Pt.slots] at X' l' y' z' st' hQ
  subst l' y' z'
  exact (hr v T' Lc X' hQ).step st'
theorem g_callV (C : Cx p s m meth c bs mx own mnm rt Z) (X : Stand p l e R s m args below meth c T locs cells slots) {rm : Room} {as' : Array Value} {Q : Option Value → Heap → List Loc → Prop} {ml : Nat} {yb : ByteArray} {yr : Option FieldType} {ce sl W : Nat} {argsL : List Value} {ps : List FieldType} {pr : Option FieldType} {K : String} {y z : MethodName} {i : Nat} {b : Addr} (hd : decode bs pc = .ok (.invokevirtual i, 3)) (w1 : (Jvm.Cond.methodLink own i y).before a0 Z = true) (w2 : (Jvm.Cond.declares y).before a0 Z = true) (hnf : NotFace s y) (w3 : (Jvm.Cond.selects K y z).before a0 Z = true) (w4 : (Jvm.Cond.instanceMethod z).before a0 Z = true) (w5 : (Jvm.Cond.initialized z.cls).before a0 Z = true) (w6 : (Jvm.Cond.code z yb ml yr).before a0 Z = true) (hy : y.cls ≠ "java/lang/invoke/MethodHandle" ∧ y.cls ≠ "java/lang/invoke/VarHandle")
    (hM : MetFree l z (head1 [Jvm.Cond.code z yb ml yr] rm) (fun a U => a = as' ∧ Z.Warmed39 U.vm ∧ U.heap = h) (fun _ _ _ _ _ => True) (fun _ U o U' => ∃ v L, o = .returned v ∧ Q v U'.heap L ∧ FrameEnd U o U' L rm.cells rm.slots)) (hf : rm.frames + 1 ≤ R.frames) (hlo : W + (ml + 11) + rm.locals ≤ R.locals) (hce : cells + rm.cells = ce) (hsl : slots + rm.slots = sl) (hce' : ce ≤ R.cells) (hsl' : sl ≤ R.slots) (has : (.ref b :: argsL).toArray = as') (E : Exa Z h b K) (eT : T.heap = h) (hsz : Ls.size = mx) (hpd : parseMethodDescriptor y.desc = some ⟨ps, pr⟩) (hln : argsL.length = ps.length) (hW : (st.map fun v => v.category).sum ≤ W) (hn : pc + 3 = pc')
    (hr : ∀ v T' L, Stand p l e R s m args below meth c T' (locs ++ L) ce sl → Q v T'.heap L → Go p.tables e below G (T'.setTop (mkF m pc' Ls (v.toList ++ st)))) : Go p.tables e below G (T.setTop (mkF m pc Ls (argsL.reverse ++ .ref b :: st))) := by
  subst hn hce hsl has
  obtain ⟨cq, kq, qa, qb, qc⟩ := isOf C.hZ eT E
  obtain ⟨v, vm1, ⟨T', L', k', n'⟩, -, X', ⟨Lc, hQ, l', y', z'⟩, st'⟩ := X.virtualBack C.1 (y := y) (z := z) C.hown (mvT C.hZ w1) (mvT C.hZ w2) hnf (mvT C.hZ w3) (mvT C.hZ w4) hy (backOf (W := W) hM C.hZ w6 w5 hf hlo) qa qc (g := mkF m pc Ls (argsL.reverse ++ .ref b :: st)) rfl (hsz.trans C.2.2.1.symm) (Steps.refl _) (argsL := argsL) (rest := st) (lenOf hpd hln) rfl (by show 2 * 0 + _ ≤ _; omega) (hb C.2.1 hd) (fun _ _ => ⟨rfl, eT, hce', hsl'⟩)
  dsimp only [Pt.U, Pt.locs, Pt.cells, Pt.slots] at X' l' y' z' st' hQ
  subst l' y' z'
  exact (hr v T' Lc X' hQ).step fun t k => st'.trans k
theorem g_retA {t : FieldType} (C : Cx p s m meth c bs mx own mnm (some t) Z) (X : Stand p l e R s m args below meth c T locs cells slots) {Q : Option Value → Heap → List Loc → Prop} {ce sl : Nat} {v : Value} (ht : t.isReference = true) (hnw : narrow t v = v) (hv : v.isRef = true) (hd : decode bs pc = .ok (.areturn, 1)) (hc : cells ≤ ce) (hs : slots ≤ sl) (hQ : Q (some v) T.heap locs) : Go p.tables e below (End s Q ce sl) (T.setTop (mkF m pc Ls (v :: st))) := by
  obtain ⟨fs, hr, hrun, hended, hW, hsame⟩ := X.leave (v := (some v)) (fun h => by rw [C.ret] at h; cases h) C.locks
  exact ⟨_, _, retOut X C.1 C.ret hnw (Or.inr (Or.inr (Or.inr (Or.inr ⟨rfl, ht, hv⟩)))) (hb C.2.1 hd) hr, hrun, hended, _, _, rfl, hQ, ⟨_, rfl⟩, hW, hsame.mono hc hs⟩
theorem g_retN {t : FieldType} (C : Cx p s m meth c bs mx own mnm (some t) Z) (X : Stand p l e R s m args below meth c T locs cells slots) {Q : Option Value → Heap → List Loc → Prop} {ce sl : Nat} {z : Int32} (ht : t = .boolean ∨ t = .byte ∨ t = .char ∨ t = .short) (hd : decode bs pc = .ok (.ireturn, 1)) (hc : cells ≤ ce) (hs : slots ≤ sl) (hQ : Q (some (.int (nar t z))) T.heap locs) : Go p.tables e below (End s Q ce sl) (T.setTop (mkF m pc Ls (.int z :: st))) := by
  obtain ⟨fs, hr, hrun, hended, hW, hsame⟩ := X.leave (v := (some (.int (nar t z)))) (fun h => by rw [C.ret] at h; cases h) C.locks
  exact ⟨_, _, retN X C.1 C.ret ht (hb C.2.1 hd) hr, hrun, hended, _, _, rfl, hQ, ⟨_, rfl⟩, hW, hsame.mono hc hs⟩
theorem own_fin (n : Nat) (x : Int32) (h0 : 0 ≤ x.toInt) (h1 : x.toInt < n) : ∃ i : Fin n, x = Int32.ofNat i.val :=
  ⟨⟨x.toNatClampNeg, by show x.toInt.toNat < n; omega⟩, (back32 (by rw [Int32.lt_iff_toInt_lt]; show ¬ x.toInt < 0; omega)).1.symm⟩
theorem own_cast {tb : Tables} {S S' : State} (q : S = S') (g : Go tb e below G S') : Go tb e below G S := q ▸ g
end OwnKit
theorem own_eqi {args : Array Value} {s : State} {t : Term} {v : Int32} (h : (Jvm.Cond.eq t (.int v)).value args s none s [] = some true) : t.eval args s none [] s = some (.int v) := by
  simp only [Cond.value, Term.eval] at h
  cases ht : t.eval args s none [] s with
  | none => simp [ht] at h
  | some x => cases x <;> simp [ht] at h ⊢; exact h
theorem own_eqr {args : Array Value} {s : State} {t u : Term} {a : Addr} (h : (Jvm.Cond.eq t u).value args s none s [] = some true) (hu : u.eval args s none [] s = some (.ref a)) : t.eval args s none [] s = some (.ref a) := by
  simp only [Cond.value, hu] at h
  cases ht : t.eval args s none [] s with
  | none => simp [ht] at h
  | some x => cases x <;> simp [ht] at h ⊢; exact h
theorem own_len {args : Array Value} {s : State} {t : Term} {a : Addr} {cl : Cell} {ty : FieldType} {n : Int32} (ht : t.eval args s none [] s = some (.ref a)) (A : Arr s s.heap a cl ty) (h : (Term.length t).eval args s none [] s = some (.int n)) : cl.slots.size < 2 ^ 31 ∧ cl.slots.size.toInt32 = n := by
  have ha : s.arrayAt? a = some cl := A.fin (Vm.Alike.refl _)
  by_cases q : cl.slots.size < 2 ^ 31
  · rw [len_f ht ha q] at h
    exact ⟨q, Value.int.inj (Option.some.inj h)⟩
  · simp [Term.eval, ht, ha, q] at h
theorem own_fld {args : Array Value} {s : State} {t : Term} {C n d : String} {a : Addr} {v : Value} (ht : t.eval args s none [] s = some (.ref a)) (hv : (Term.field t C n d).eval args s none [] s = some v) : Fld s s.heap a C n d v := Fld.start ((fld_at ht).symm.trans hv)
def FX (Z : State) (h : Heap) (w_PARITY : Addr) (w_BUCHI : Addr) (w_BUCHIx : Addr) (w_WEAK_MULLER : Addr) (w_MULLER : Addr) (w_SAFETY : Addr) (w_SAFETYx : Addr) (w_REACH : Addr) (w_REACHx : Addr) (w_COBUCHI : Addr) (w_COBUCHIx : Addr) (w_WEAK_PARITY : Addr) : Prop := (Sta Z h "com/example/talence/talence/cli/Objective" "PARITY" "Lcom/example/talence/talence/cli/Objective;" (.ref w_PARITY)) ∧ (Sta Z h "com/example/talence/talence/cli/Objective" "BUCHI" "Lcom/example/talence/talence/cli/Objective;" (.ref w_BUCHI)) ∧ (Sta Z h "com/example/talence/talence/games/TargetCondition$Objective" "BUCHI" "Lcom/example/talence/talence/games/TargetCondition$Objective;" (.ref w_BUCHIx)) ∧ (Sta Z h "com/example/talence/talence/cli/Objective" "WEAK_MULLER" "Lcom/example/talence/talence/cli/Objective;" (.ref w_WEAK_MULLER)) ∧ (Sta Z h "com/example/talence/talence/cli/Objective" "MULLER" "Lcom/example/talence/talence/cli/Objective;" (.ref w_MULLER)) ∧ (Sta Z h "com/example/talence/talence/cli/Objective" "SAFETY" "Lcom/example/talence/talence/cli/Objective;" (.ref w_SAFETY)) ∧ (Sta Z h "com/example/talence/talence/games/TargetCondition$Objective" "SAFETY" "Lcom/example/talence/talence/games/TargetCondition$Objective;" (.ref w_SAFETYx)) ∧ (Sta Z h "com/example/talence/talence/cli/Objective" "REACH" "Lcom/example/talence/talence/cli/Objective;" (.ref w_REACH)) ∧ (Sta Z h "com/example/talence/talence/games/TargetCondition$Objective" "REACH" "Lcom/example/talence/talence/games/TargetCondition$Objective;" (.ref w_REACHx)) ∧ (Sta Z h "com/example/talence/talence/cli/Objective" "COBUCHI" "Lcom/example/talence/talence/cli/Objective;" (.ref w_COBUCHI)) ∧ (Sta Z h "com/example/talence/talence/games/TargetCondition$Objective" "COBUCHI" "Lcom/example/talence/talence/games/TargetCondition$Objective;" (.ref w_COBUCHIx)) ∧ (Sta Z h "com/example/talence/talence/cli/Objective" "WEAK_PARITY" "Lcom/example/talence/talence/cli/Objective;" (.ref w_WEAK_PARITY)) ∧ (Exa Z h w_PARITY "com/example/talence/talence/cli/Objective") ∧ (Fld Z h w_PARITY "com/example/talence/talence/cli/Objective" "target" "Lcom/example/talence/talence/games/TargetCondition$Objective;" .null) ∧ (Exa Z h w_BUCHI "com/example/talence/talence/cli/Objective") ∧ (Exa Z h w_BUCHIx "com/example/talence/talence/games/TargetCondition$Objective") ∧ (Fld Z h w_BUCHI "com/example/talence/talence/cli/Objective" "target" "Lcom/example/talence/talence/games/TargetCondition$Objective;" (.ref w_BUCHIx)) ∧ (Exa Z h w_WEAK_MULLER "com/example/talence/talence/cli/Objective") ∧ (Fld Z h w_WEAK_MULLER "com/example/talence/talence/cli/Objective" "target" "Lcom/example/talence/talence/games/TargetCondition$Objective;" .null) ∧ (Exa Z h w_MULLER "com/example/talence/talence/cli/Objective") ∧ (Fld Z h w_MULLER "com/example/talence/talence/cli/Objective" "target" "Lcom/example/talence/talence/games/TargetCondition$Objective;" .null) ∧ (Exa Z h w_SAFETY "com/example/talence/talence/cli/Objective") ∧ (Exa Z h w_SAFETYx "com/example/talence/talence/games/TargetCondition$Objective") ∧ (Fld Z h w_SAFETY "com/example/talence/talence/cli/Objective" "target" "Lcom/example/talence/talence/games/TargetCondition$Objective;" (.ref w_SAFETYx)) ∧ (Exa Z h w_REACH "com/example/talence/talence/cli/Objective") ∧ (Exa Z h w_REACHx "com/example/talence/talence/games/TargetCondition$Objective") ∧ (Fld Z h w_REACH "com/example/talence/talence/cli/Objective" "target" "Lcom/example/talence/talence/games/TargetCondition$Objective;" (.ref w_REACHx)) ∧ (Exa Z h w_COBUCHI "com/example/talence/talence/cli/Objective") ∧ (Exa Z h w_COBUCHIx "com/example/talence/talence/games/TargetCondition$Objective") ∧ (Fld Z h w_COBUCHI "com/example/talence/talence/cli/Objective" "target" "Lcom/example/talence/talence/games/TargetCondition$Objective;" (.ref w_COBUCHIx)) ∧ (Exa Z h w_WEAK_PARITY "com/example/talence/talence/cli/Objective") ∧ (Fld Z h w_WEAK_PARITY "com/example/talence/talence/cli/Objective" "target" "Lcom/example/talence/talence/games/TargetCondition$Objective;" .null)
theorem d1_0 : decode method_2_code 0 = .ok (.iload_n 0, 1) := by decide +kernel
theorem d1_1 : decode method_2_code 1 = .ok (.ifCond .ne 7, 3) := by decide +kernel
theorem d1_4 : decode method_2_code 4 = .ok (.getstatic 7, 3) := by decide +kernel
theorem d1_7 : decode method_2_code 7 = .ok (.areturn, 1) := by decide +kernel
theorem d1_8 : decode method_2_code 8 = .ok (.iload_n 0, 1) := by decide +kernel
theorem d1_9 : decode method_2_code 9 = .ok (.iconst 1, 1) := by decide +kernel
theorem d1_10 : decode method_2_code 10 = .ok (.if_icmp .ne 7, 3) := by decide +kernel
theorem d1_13 : decode method_2_code 13 = .ok (.getstatic 13, 3) := by decide +kernel
theorem d1_16 : decode method_2_code 16 = .ok (.areturn, 1) := by decide +kernel
theorem d1_17 : decode method_2_code 17 = .ok (.iload_n 0, 1) := by decide +kernel
theorem d1_18 : decode method_2_code 18 = .ok (.iconst 2, 1) := by decide +kernel
theorem d1_19 : decode method_2_code 19 = .ok (.if_icmp .ne 7, 3) := by decide +kernel
theorem d1_22 : decode method_2_code 22 = .ok (.getstatic 16, 3) := by decide +kernel
theorem d1_25 : decode method_2_code 25 = .ok (.areturn, 1) := by decide +kernel
theorem d1_26 : decode method_2_code 26 = .ok (.iload_n 0, 1) := by decide +kernel
theorem d1_27 : decode method_2_code 27 = .ok (.iconst 3, 1) := by decide +kernel
theorem d1_28 : decode method_2_code 28 = .ok (.if_icmp .ne 7, 3) := by decide +kernel
theorem d1_31 : decode method_2_code 31 = .ok (.getstatic 19, 3) := by decide +kernel
theorem d1_34 : decode method_2_code 34 = .ok (.areturn, 1) := by decide +kernel
theorem d1_35 : decode method_2_code 35 = .ok (.iload_n 0, 1) := by decide +kernel
theorem d1_36 : decode method_2_code 36 = .ok (.iconst 4, 1) := by decide +kernel
theorem d1_37 : decode method_2_code 37 = .ok (.if_icmp .ne 7, 3) := by decide +kernel
theorem d1_40 : decode method_2_code 40 = .ok (.getstatic 22, 3) := by decide +kernel
theorem d1_43 : decode method_2_code 43 = .ok (.areturn, 1) := by decide +kernel
theorem d1_44 : decode method_2_code 44 = .ok (.iload_n 0, 1) := by decide +kernel
theorem d1_45 : decode method_2_code 45 = .ok (.iconst 5, 1) := by decide +kernel
theorem d1_46 : decode method_2_code 46 = .ok (.if_icmp .ne 7, 3) := by decide +kernel
theorem d1_49 : decode method_2_code 49 = .ok (.getstatic 25, 3) := by decide +kernel
theorem d1_52 : decode method_2_code 52 = .ok (.areturn, 1) := by decide +kernel
theorem d1_53 : decode method_2_code 53 = .ok (.iload_n 0, 1) := by decide +kernel
theorem d1_54 : decode method_2_code 54 = .ok (.bipush 6, 2) := by decide +kernel
theorem d1_56 : decode method_2_code 56 = .ok (.if_icmp .ne 7, 3) := by decide +kernel
theorem d1_59 : decode method_2_code 59 = .ok (.getstatic 28, 3) := by decide +kernel
theorem d1_62 : decode method_2_code 62 = .ok (.areturn, 1) := by decide +kernel
theorem d1_63 : decode method_2_code 63 = .ok (.getstatic 31, 3) := by decide +kernel
theorem d1_66 : decode method_2_code 66 = .ok (.areturn, 1) := by decide +kernel
def F1 (p1 : Int32) (w_PARITY : Addr) (w_BUCHI : Addr) (w_WEAK_MULLER : Addr) (w_MULLER : Addr) (w_SAFETY : Addr) (w_REACH : Addr) (w_COBUCHI : Addr) (w_WEAK_PARITY : Addr) : Addr := (if p1 = (0 : Int32) then w_PARITY else (if p1 = (1 : Int32) then w_REACH else (if p1 = (2 : Int32) then w_SAFETY else (if p1 = (3 : Int32) then w_BUCHI else (if p1 = (4 : Int32) then w_COBUCHI else (if p1 = (5 : Int32) then w_WEAK_PARITY else (if p1 = (6 : Int32) then w_WEAK_MULLER else w_MULLER)))))))
theorem F1_l0 (p1 : Int32) (w_PARITY : Addr) (w_BUCHI : Addr) (w_WEAK_MULLER : Addr) (w_MULLER : Addr) (w_SAFETY : Addr) (w_REACH : Addr) (w_COBUCHI : Addr) (w_WEAK_PARITY : Addr) (h0 : p1 = (0 : Int32)) : F1 p1 w_PARITY w_BUCHI w_WEAK_MULLER w_MULLER w_SAFETY w_REACH w_COBUCHI w_WEAK_PARITY = w_PARITY := by
  unfold F1; rw [if_pos h0]
theorem F1_l1 (p1 : Int32) (w_PARITY : Addr) (w_BUCHI : Addr) (w_WEAK_MULLER : Addr) (w_MULLER : Addr) (w_SAFETY : Addr) (w_REACH : Addr) (w_COBUCHI : Addr) (w_WEAK_PARITY : Addr) (h0 : ¬ (p1 = (0 : Int32))) (h1 : p1 = (1 : Int32)) : F1 p1 w_PARITY w_BUCHI w_WEAK_MULLER w_MULLER w_SAFETY w_REACH w_COBUCHI w_WEAK_PARITY = w_REACH := by
  unfold F1; rw [if_neg h0, if_pos h1]
theorem F1_l2 (p1 : Int32) (w_PARITY : Addr) (w_BUCHI : Addr) (w_WEAK_MULLER : Addr) (w_MULLER : Addr) (w_SAFETY : Addr) (w_REACH : Addr) (w_COBUCHI : Addr) (w_WEAK_PARITY : Addr) (h0 : ¬ (p1 = (0 : Int32))) (h1 : ¬ (p1 = (1 : Int32))) (h2 : p1 = (2 : Int32)) : F1 p1 w_PARITY w_BUCHI w_WEAK_MULLER w_MULLER w_SAFETY w_REACH w_COBUCHI w_WEAK_PARITY = w_SAFETY := by
  unfold F1; rw [if_neg h0, if_neg h1, if_pos h2]
theorem F1_l3 (p1 : Int32) (w_PARITY : Addr) (w_BUCHI : Addr) (w_WEAK_MULLER : Addr) (w_MULLER : Addr) (w_SAFETY : Addr) (w_REACH : Addr) (w_COBUCHI : Addr) (w_WEAK_PARITY : Addr) (h0 : ¬ (p1 = (0 : Int32))) (h1 : ¬ (p1 = (1 : Int32))) (h2 : ¬ (p1 = (2 : Int32))) (h3 : p1 = (3 : Int32)) : F1 p1 w_PARITY w_BUCHI w_WEAK_MULLER w_MULLER w_SAFETY w_REACH w_COBUCHI w_WEAK_PARITY = w_BUCHI := by
  unfold F1; rw [if_neg h0, if_neg h1, if_neg h2, if_pos h3]
theorem F1_l4 (p1 : Int32) (w_PARITY : Addr) (w_BUCHI : Addr) (w_WEAK_MULLER : Addr) (w_MULLER : Addr) (w_SAFETY : Addr) (w_REACH : Addr) (w_COBUCHI : Addr) (w_WEAK_PARITY : Addr) (h0 : ¬ (p1 = (0 : Int32))) (h1 : ¬ (p1 = (1 : Int32))) (h2 : ¬ (p1 = (2 : Int32))) (h3 : ¬ (p1 = (3 : Int32))) (h4 : p1 = (4 : Int32)) : F1 p1 w_PARITY w_BUCHI w_WEAK_MULLER w_MULLER w_SAFETY w_REACH w_COBUCHI w_WEAK_PARITY = w_COBUCHI := by
  unfold F1; rw [if_neg h0, if_neg h1, if_neg h2, if_neg h3, if_pos h4]
theorem F1_l5 (p1 : Int32) (w_PARITY : Addr) (w_BUCHI : Addr) (w_WEAK_MULLER : Addr) (w_MULLER : Addr) (w_SAFETY : Addr) (w_REACH : Addr) (w_COBUCHI : Addr) (w_WEAK_PARITY : Addr) (h0 : ¬ (p1 = (0 : Int32))) (h1 : ¬ (p1 = (1 : Int32))) (h2 : ¬ (p1 = (2 : Int32))) (h3 : ¬ (p1 = (3 : Int32))) (h4 : ¬ (p1 = (4 : Int32))) (h5 : p1 = (5 : Int32)) : F1 p1 w_PARITY w_BUCHI w_WEAK_MULLER w_MULLER w_SAFETY w_REACH w_COBUCHI w_WEAK_PARITY = w_WEAK_PARITY := by
  unfold F1; rw [if_neg h0, if_neg h1, if_neg h2, if_neg h3, if_neg h4, if_pos h5]
theorem F1_l6 (p1 : Int32) (w_PARITY : Addr) (w_BUCHI : Addr) (w_WEAK_MULLER : Addr) (w_MULLER : Addr) (w_SAFETY : Addr) (w_REACH : Addr) (w_COBUCHI : Addr) (w_WEAK_PARITY : Addr) (h0 : ¬ (p1 = (0 : Int32))) (h1 : ¬ (p1 = (1 : Int32))) (h2 : ¬ (p1 = (2 : Int32))) (h3 : ¬ (p1 = (3 : Int32))) (h4 : ¬ (p1 = (4 : Int32))) (h5 : ¬ (p1 = (5 : Int32))) (h6 : p1 = (6 : Int32)) : F1 p1 w_PARITY w_BUCHI w_WEAK_MULLER w_MULLER w_SAFETY w_REACH w_COBUCHI w_WEAK_PARITY = w_WEAK_MULLER := by
  unfold F1; rw [if_neg h0, if_neg h1, if_neg h2, if_neg h3, if_neg h4, if_neg h5, if_pos h6]
theorem F1_l7 (p1 : Int32) (w_PARITY : Addr) (w_BUCHI : Addr) (w_WEAK_MULLER : Addr) (w_MULLER : Addr) (w_SAFETY : Addr) (w_REACH : Addr) (w_COBUCHI : Addr) (w_WEAK_PARITY : Addr) (h0 : ¬ (p1 = (0 : Int32))) (h1 : ¬ (p1 = (1 : Int32))) (h2 : ¬ (p1 = (2 : Int32))) (h3 : ¬ (p1 = (3 : Int32))) (h4 : ¬ (p1 = (4 : Int32))) (h5 : ¬ (p1 = (5 : Int32))) (h6 : ¬ (p1 = (6 : Int32))) : F1 p1 w_PARITY w_BUCHI w_WEAK_MULLER w_MULLER w_SAFETY w_REACH w_COBUCHI w_WEAK_PARITY = w_MULLER := by
  unfold F1; rw [if_neg h0, if_neg h1, if_neg h2, if_neg h3, if_neg h4, if_neg h5, if_neg h6]
theorem ef_1 (m : MethodId) (p1 : Int32) : entryFrame m #[(.int p1)] 1 = mkF m 0 #[.val (.int p1)] [] := by first | (simp [entryFrame, mkF, argsToLocals, Value.category]; done) | rfl
def Q_1 (Z : State) (p1 : Int32) (w_PARITY : Addr) (w_BUCHI : Addr) (w_BUCHIx : Addr) (w_WEAK_MULLER : Addr) (w_MULLER : Addr) (w_SAFETY : Addr) (w_SAFETYx : Addr) (w_REACH : Addr) (w_REACHx : Addr) (w_COBUCHI : Addr) (w_COBUCHIx : Addr) (w_WEAK_PARITY : Addr) (h0 : Heap) (n0 : Nat) (v : Option Value) (h : Heap) (L : List Loc) : Prop := v = some (.ref (F1 p1 w_PARITY w_BUCHI w_WEAK_MULLER w_MULLER w_SAFETY w_REACH w_COBUCHI w_WEAK_PARITY)) ∧ Fr n0 L ∧ h = h0
set_option maxRecDepth 65536 in
set_option maxHeartbeats 40000000 in
theorem rm1 (l : Launch) (Z : State) (a0 : Array Value) (hw : ∀ d ∈ tables_1, d.before a0 Z = true) (ws : List Jvm.Cond) (p1 : Int32) (w_PARITY : Addr) (w_BUCHI : Addr) (w_BUCHIx : Addr) (w_WEAK_MULLER : Addr) (w_MULLER : Addr) (w_SAFETY : Addr) (w_SAFETYx : Addr) (w_REACH : Addr) (w_REACHx : Addr) (w_COBUCHI : Addr) (w_COBUCHIx : Addr) (w_WEAK_PARITY : Addr) (h0 : Heap) (n0 : Nat) (hF : FX Z h0 w_PARITY w_BUCHI w_BUCHIx w_WEAK_MULLER w_MULLER w_SAFETY w_SAFETYx w_REACH w_REACHx w_COBUCHI w_COBUCHIx w_WEAK_PARITY) :
    MetFree l (⟨"com/example/talence/talence/cli/ObjectiveNeedsTargetPinLaw", "pick", "(I)Lcom/example/talence/talence/cli/Objective;"⟩ : MethodName) (head1 (Jvm.Cond.code (⟨"com/example/talence/talence/cli/ObjectiveNeedsTargetPinLaw", "pick", "(I)Lcom/example/talence/talence/cli/Objective;"⟩ : MethodName) method_2_code 1 (some (.object "com/example/talence/talence/cli/Objective")) :: ws) ({ frames := 0, cells := 0, slots := 0, locals := 0 } : Room)) (fun a U => a = #[(.int p1)] ∧ Z.Warmed39 U.vm ∧ U.heap = h0) (fun _ _ _ _ _ => True) (fun _ U o U' => ∃ v L, o = .returned v ∧ Q_1 Z p1 w_PARITY w_BUCHI w_BUCHIx w_WEAK_MULLER w_MULLER w_SAFETY w_SAFETYx w_REACH w_REACHx w_COBUCHI w_COBUCHIx w_WEAK_PARITY h0 n0 v U'.heap L ∧ FrameEnd U o U' L ({ frames := 0, cells := 0, slots := 0, locals := 0 } : Room).cells ({ frames := 0, cells := 0, slots := 0, locals := 0 } : Room).slots) := by
  refine met_of (Ls := #[.val (.int p1)]) (plainFor_of_name (by first | (simp [plainName, overriddenIn]; done) | decide +kernel)) (fun m => ef_1 m p1) ?_
  intro p e s m below meth c T0 C X0 e0
  obtain ⟨S_w_PARITY, S_w_BUCHI, S_w_BUCHIx, S_w_WEAK_MULLER, S_w_MULLER, S_w_SAFETY, S_w_SAFETYx, S_w_REACH, S_w_REACHx, S_w_COBUCHI, S_w_COBUCHIx, S_w_WEAK_PARITY, E_w_PARITY, F_target_w_PARITY, E_w_BUCHI, E_w_BUCHIx, F_target_w_BUCHI, E_w_WEAK_MULLER, F_target_w_WEAK_MULLER, E_w_MULLER, F_target_w_MULLER, E_w_SAFETY, E_w_SAFETYx, F_target_w_SAFETY, E_w_REACH, E_w_REACHx, F_target_w_REACH, E_w_COBUCHI, E_w_COBUCHIx, F_target_w_COBUCHI, E_w_WEAK_PARITY, F_target_w_WEAK_PARITY⟩ := id hF
  have N0 := Fr.nil n0
  refine g_iloadN (pc' := 1) C X0 d1_0 rfl rfl ?_
  by_cases c1 : p1 = (0 : Int32)
  · refine g_ifN (pc' := 4) C X0 d1_1 (teq c1).2 rfl ?_
    refine g_getS (pc' := 7) C X0 d1_4 (host := "") (Or.inl (hw _ (List.mem_of_getElem? (i := 4) rfl))) Via.refl e0 S_w_PARITY rfl (fun T2 X2 e2 => ?_)
    exact g_retA C X2 rfl rfl rfl d1_7 (by decide) (by decide) ⟨congrArg (fun z => some (Value.ref z)) (F1_l0 p1 w_PARITY w_BUCHI w_WEAK_MULLER w_MULLER w_SAFETY w_REACH w_COBUCHI w_WEAK_PARITY c1).symm, N0, e2⟩
  · refine g_ifY (pc' := 8) C X0 d1_1 (feq c1).2 (by decide) (by decide) ?_
    refine g_iloadN (pc' := 9) C X0 d1_8 rfl rfl ?_
    refine g_iconst (pc' := 10) (v := (1 : Int32)) C X0 d1_9 rfl rfl ?_
    by_cases c3 : p1 = (1 : Int32)
    · refine g_icmpN (pc' := 13) C X0 d1_10 (teq c3).2 rfl ?_
      refine g_getS (pc' := 16) C X0 d1_13 (host := "") (Or.inl (hw _ (List.mem_of_getElem? (i := 30) rfl))) Via.refl e0 S_w_REACH rfl (fun T4 X4 e4 => ?_)
      exact g_retA C X4 rfl rfl rfl d1_16 (by decide) (by decide) ⟨congrArg (fun z => some (Value.ref z)) (F1_l1 p1 w_PARITY w_BUCHI w_WEAK_MULLER w_MULLER w_SAFETY w_REACH w_COBUCHI w_WEAK_PARITY c1 c3).symm, N0, e4⟩
    · refine g_icmpY (pc' := 17) C X0 d1_10 (feq c3).2 (by decide) (by decide) ?_
      refine g_iloadN (pc' := 18) C X0 d1_17 rfl rfl ?_
      refine g_iconst (pc' := 19) (v := (2 : Int32)) C X0 d1_18 rfl rfl ?_
      by_cases c5 : p1 = (2 : Int32)
      · refine g_icmpN (pc' := 22) C X0 d1_19 (teq c5).2 rfl ?_
        refine g_getS (pc' := 25) C X0 d1_22 (host := "") (Or.inl (hw _ (List.mem_of_getElem? (i := 27) rfl))) Via.refl e0 S_w_SAFETY rfl (fun T6 X6 e6 => ?_)
        exact g_retA C X6 rfl rfl rfl d1_25 (by decide) (by decide) ⟨congrArg (fun z => some (Value.ref z)) (F1_l2 p1 w_PARITY w_BUCHI w_WEAK_MULLER w_MULLER w_SAFETY w_REACH w_COBUCHI w_WEAK_PARITY c1 c3 c5).symm, N0, e6⟩
      · refine g_icmpY (pc' := 26) C X0 d1_19 (feq c5).2 (by decide) (by decide) ?_
        refine g_iloadN (pc' := 27) C X0 d1_26 rfl rfl ?_
        refine g_iconst (pc' := 28) (v := (3 : Int32)) C X0 d1_27 rfl rfl ?_
        by_cases c7 : p1 = (3 : Int32)
        · refine g_icmpN (pc' := 31) C X0 d1_28 (teq c7).2 rfl ?_
          refine g_getS (pc' := 34) C X0 d1_31 (host := "") (Or.inl (hw _ (List.mem_of_getElem? (i := 19) rfl))) Via.refl e0 S_w_BUCHI rfl (fun T8 X8 e8 => ?_)
          exact g_retA C X8 rfl rfl rfl d1_34 (by decide) (by decide) ⟨congrArg (fun z => some (Value.ref z)) (F1_l3 p1 w_PARITY w_BUCHI w_WEAK_MULLER w_MULLER w_SAFETY w_REACH w_COBUCHI w_WEAK_PARITY c1 c3 c5 c7).symm, N0, e8⟩
        · refine g_icmpY (pc' := 35) C X0 d1_28 (feq c7).2 (by decide) (by decide) ?_
          refine g_iloadN (pc' := 36) C X0 d1_35 rfl rfl ?_
          refine g_iconst (pc' := 37) (v := (4 : Int32)) C X0 d1_36 rfl rfl ?_
          by_cases c9 : p1 = (4 : Int32)
          · refine g_icmpN (pc' := 40) C X0 d1_37 (teq c9).2 rfl ?_
            refine g_getS (pc' := 43) C X0 d1_40 (host := "") (Or.inl (hw _ (List.mem_of_getElem? (i := 33) rfl))) Via.refl e0 S_w_COBUCHI rfl (fun T10 X10 e10 => ?_)
            exact g_retA C X10 rfl rfl rfl d1_43 (by decide) (by decide) ⟨congrArg (fun z => some (Value.ref z)) (F1_l4 p1 w_PARITY w_BUCHI w_WEAK_MULLER w_MULLER w_SAFETY w_REACH w_COBUCHI w_WEAK_PARITY c1 c3 c5 c7 c9).symm, N0, e10⟩
          · refine g_icmpY (pc' := 44) C X0 d1_37 (feq c9).2 (by decide) (by decide) ?_
            refine g_iloadN (pc' := 45) C X0 d1_44 rfl rfl ?_
            refine g_iconst (pc' := 46) (v := (5 : Int32)) C X0 d1_45 rfl rfl ?_
            by_cases c11 : p1 = (5 : Int32)
            · refine g_icmpN (pc' := 49) C X0 d1_46 (teq c11).2 rfl ?_
              refine g_getS (pc' := 52) C X0 d1_49 (host := "") (Or.inl (hw _ (List.mem_of_getElem? (i := 36) rfl))) Via.refl e0 S_w_WEAK_PARITY rfl (fun T12 X12 e12 => ?_)
              exact g_retA C X12 rfl rfl rfl d1_52 (by decide) (by decide) ⟨congrArg (fun z => some (Value.ref z)) (F1_l5 p1 w_PARITY w_BUCHI w_WEAK_MULLER w_MULLER w_SAFETY w_REACH w_COBUCHI w_WEAK_PARITY c1 c3 c5 c7 c9 c11).symm, N0, e12⟩
            · refine g_icmpY (pc' := 53) C X0 d1_46 (feq c11).2 (by decide) (by decide) ?_
              refine g_iloadN (pc' := 54) C X0 d1_53 rfl rfl ?_
              refine g_bipush (pc' := 56) (v := (6 : Int32)) C X0 d1_54 rfl rfl ?_
              by_cases c13 : p1 = (6 : Int32)
              · refine g_icmpN (pc' := 59) C X0 d1_56 (teq c13).2 rfl ?_
                refine g_getS (pc' := 62) C X0 d1_59 (host := "") (Or.inl (hw _ (List.mem_of_getElem? (i := 23) rfl))) Via.refl e0 S_w_WEAK_MULLER rfl (fun T14 X14 e14 => ?_)
                exact g_retA C X14 rfl rfl rfl d1_62 (by decide) (by decide) ⟨congrArg (fun z => some (Value.ref z)) (F1_l6 p1 w_PARITY w_BUCHI w_WEAK_MULLER w_MULLER w_SAFETY w_REACH w_COBUCHI w_WEAK_PARITY c1 c3 c5 c7 c9 c11 c13).symm, N0, e14⟩
              · refine g_icmpY (pc' := 63) C X0 d1_56 (feq c13).2 (by decide) (by decide) ?_
                refine g_getS (pc' := 66) C X0 d1_63 (host := "") (Or.inl (hw _ (List.mem_of_getElem? (i := 25) rfl))) Via.refl e0 S_w_MULLER rfl (fun T15 X15 e15 => ?_)
                exact g_retA C X15 rfl rfl rfl d1_66 (by decide) (by decide) ⟨congrArg (fun z => some (Value.ref z)) (F1_l7 p1 w_PARITY w_BUCHI w_WEAK_MULLER w_MULLER w_SAFETY w_REACH w_COBUCHI w_WEAK_PARITY c1 c3 c5 c7 c9 c11 c13).symm, N0, e15⟩
theorem d2_0 : decode prog_23_method_6_code 0 = .ok (.aload_n 0, 1) := by decide +kernel
theorem d2_1 : decode prog_23_method_6_code 1 = .ok (.getfield 60, 3) := by decide +kernel
theorem d2_4 : decode prog_23_method_6_code 4 = .ok (.ifnull 7, 3) := by decide +kernel
theorem d2_11 : decode prog_23_method_6_code 11 = .ok (.iconst 0, 1) := by decide +kernel
theorem d2_12 : decode prog_23_method_6_code 12 = .ok (.ireturn, 1) := by decide +kernel
def F2n  : Int32 := (0 : Int32)
theorem F2n_l0   : F2n  = (0 : Int32) := rfl
theorem ef_2n (m : MethodId) (a1 : Addr) : entryFrame m #[(.ref a1)] 1 = mkF m 0 #[.val (.ref a1)] [] := by first | (simp [entryFrame, mkF, argsToLocals, Value.category]; done) | rfl
def Q_2n (Z : State) (a1 : Addr) (w_PARITY : Addr) (w_BUCHI : Addr) (w_BUCHIx : Addr) (w_WEAK_MULLER : Addr) (w_MULLER : Addr) (w_SAFETY : Addr) (w_SAFETYx : Addr) (w_REACH : Addr) (w_REACHx : Addr) (w_COBUCHI : Addr) (w_COBUCHIx : Addr) (w_WEAK_PARITY : Addr) (h0 : Heap) (n0 : Nat) (v : Option Value) (h : Heap) (L : List Loc) : Prop := v = some (.int (F2n )) ∧ Fr n0 L ∧ h = h0
set_option maxRecDepth 65536 in
set_option maxHeartbeats 40000000 in
theorem rm2n (l : Launch) (Z : State) (a0 : Array Value) (hw : ∀ d ∈ tables_1, d.before a0 Z = true) (ws : List Jvm.Cond) (a1 : Addr) (w_PARITY : Addr) (w_BUCHI : Addr) (w_BUCHIx : Addr) (w_WEAK_MULLER : Addr) (w_MULLER : Addr) (w_SAFETY : Addr) (w_SAFETYx : Addr) (w_REACH : Addr) (w_REACHx : Addr) (w_COBUCHI : Addr) (w_COBUCHIx : Addr) (w_WEAK_PARITY : Addr) (h0 : Heap) (n0 : Nat) (hF : FX Z h0 w_PARITY w_BUCHI w_BUCHIx w_WEAK_MULLER w_MULLER w_SAFETY w_SAFETYx w_REACH w_REACHx w_COBUCHI w_COBUCHIx w_WEAK_PARITY) (Ft : Fld Z h0 a1 "com/example/talence/talence/cli/Objective" "target" "Lcom/example/talence/talence/games/TargetCondition$Objective;" .null) :
    MetFree l (⟨"com/example/talence/talence/cli/Objective", "needsTarget", "()Z"⟩ : MethodName) (head1 (Jvm.Cond.code (⟨"com/example/talence/talence/cli/Objective", "needsTarget", "()Z"⟩ : MethodName) prog_23_method_6_code 1 (some .boolean) :: ws) ({ frames := 0, cells := 0, slots := 0, locals := 0 } : Room)) (fun a U => a = #[(.ref a1)] ∧ Z.Warmed39 U.vm ∧ U.heap = h0) (fun _ _ _ _ _ => True) (fun _ U o U' => ∃ v L, o = .returned v ∧ Q_2n Z a1 w_PARITY w_BUCHI w_BUCHIx w_WEAK_MULLER w_MULLER w_SAFETY w_SAFETYx w_REACH w_REACHx w_COBUCHI w_COBUCHIx w_WEAK_PARITY h0 n0 v U'.heap L ∧ FrameEnd U o U' L ({ frames := 0, cells := 0, slots := 0, locals := 0 } : Room).cells ({ frames := 0, cells := 0, slots := 0, locals := 0 } : Room).slots) := by
  refine met_of (Ls := #[.val (.ref a1)]) (plainFor_of_name (by first | (simp [plainName, overriddenIn]; done) | decide +kernel)) (fun m => ef_2n m a1) ?_
  intro p e s m below meth c T0 C X0 e0
  obtain ⟨S_w_PARITY, S_w_BUCHI, S_w_BUCHIx, S_w_WEAK_MULLER, S_w_MULLER, S_w_SAFETY, S_w_SAFETYx, S_w_REACH, S_w_REACHx, S_w_COBUCHI, S_w_COBUCHIx, S_w_WEAK_PARITY, E_w_PARITY, F_target_w_PARITY, E_w_BUCHI, E_w_BUCHIx, F_target_w_BUCHI, E_w_WEAK_MULLER, F_target_w_WEAK_MULLER, E_w_MULLER, F_target_w_MULLER, E_w_SAFETY, E_w_SAFETYx, F_target_w_SAFETY, E_w_REACH, E_w_REACHx, F_target_w_REACH, E_w_COBUCHI, E_w_COBUCHIx, F_target_w_COBUCHI, E_w_WEAK_PARITY, F_target_w_WEAK_PARITY⟩ := id hF
  have N0 := Fr.nil n0
  refine g_aloadN (pc' := 1) C X0 d2_0 rfl rfl rfl ?_
  refine g_getF (pc' := 4) C X0 d2_1 (host := "") (Or.inl (hw _ (List.mem_of_getElem? (i := 12) rfl))) Via.refl e0 Ft rfl (fun T1 X1 e1 => ?_)
  refine g_ifnullY (pc' := 11) C X1 d2_4 (by decide) (by decide) ?_
  refine g_iconst (pc' := 12) (v := (0 : Int32)) C X1 d2_11 rfl rfl ?_
  exact g_retN C X1 (by simp) d2_12 (by decide) (by decide) ⟨congrArg (fun z => some (Value.int z)) (F2n_l0  ).symm, N0, e1⟩
theorem d2_7 : decode prog_23_method_6_code 7 = .ok (.iconst 1, 1) := by decide +kernel
theorem d2_8 : decode prog_23_method_6_code 8 = .ok (.goto 4, 3) := by decide +kernel
def F2r  : Int32 := (1 : Int32)
theorem F2r_l0   : F2r  = (1 : Int32) := rfl
theorem ef_2r (m : MethodId) (a1 : Addr) : entryFrame m #[(.ref a1)] 1 = mkF m 0 #[.val (.ref a1)] [] := by first | (simp [entryFrame, mkF, argsToLocals, Value.category]; done) | rfl
def Q_2r (Z : State) (a1 : Addr) (wt : Addr) (w_PARITY : Addr) (w_BUCHI : Addr) (w_BUCHIx : Addr) (w_WEAK_MULLER : Addr) (w_MULLER : Addr) (w_SAFETY : Addr) (w_SAFETYx : Addr) (w_REACH : Addr) (w_REACHx : Addr) (w_COBUCHI : Addr) (w_COBUCHIx : Addr) (w_WEAK_PARITY : Addr) (h0 : Heap) (n0 : Nat) (v : Option Value) (h : Heap) (L : List Loc) : Prop := v = some (.int (F2r )) ∧ Fr n0 L ∧ h = h0
set_option maxRecDepth 65536 in
set_option maxHeartbeats 40000000 in
theorem rm2r (l : Launch) (Z : State) (a0 : Array Value) (hw : ∀ d ∈ tables_1, d.before a0 Z = true) (ws : List Jvm.Cond) (a1 : Addr) (wt : Addr) (w_PARITY : Addr) (w_BUCHI : Addr) (w_BUCHIx : Addr) (w_WEAK_MULLER : Addr) (w_MULLER : Addr) (w_SAFETY : Addr) (w_SAFETYx : Addr) (w_REACH : Addr) (w_REACHx : Addr) (w_COBUCHI : Addr) (w_COBUCHIx : Addr) (w_WEAK_PARITY : Addr) (h0 : Heap) (n0 : Nat) (hF : FX Z h0 w_PARITY w_BUCHI w_BUCHIx w_WEAK_MULLER w_MULLER w_SAFETY w_SAFETYx w_REACH w_REACHx w_COBUCHI w_COBUCHIx w_WEAK_PARITY) (Ft : Fld Z h0 a1 "com/example/talence/talence/cli/Objective" "target" "Lcom/example/talence/talence/games/TargetCondition$Objective;" (.ref wt)) :
    MetFree l (⟨"com/example/talence/talence/cli/Objective", "needsTarget", "()Z"⟩ : MethodName) (head1 (Jvm.Cond.code (⟨"com/example/talence/talence/cli/Objective", "needsTarget", "()Z"⟩ : MethodName) prog_23_method_6_code 1 (some .boolean) :: ws) ({ frames := 0, cells := 0, slots := 0, locals := 0 } : Room)) (fun a U => a = #[(.ref a1)] ∧ Z.Warmed39 U.vm ∧ U.heap = h0) (fun _ _ _ _ _ => True) (fun _ U o U' => ∃ v L, o = .returned v ∧ Q_2r Z a1 wt w_PARITY w_BUCHI w_BUCHIx w_WEAK_MULLER w_MULLER w_SAFETY w_SAFETYx w_REACH w_REACHx w_COBUCHI w_COBUCHIx w_WEAK_PARITY h0 n0 v U'.heap L ∧ FrameEnd U o U' L ({ frames := 0, cells := 0, slots := 0, locals := 0 } : Room).cells ({ frames := 0, cells := 0, slots := 0, locals := 0 } : Room).slots) := by
  refine met_of (Ls := #[.val (.ref a1)]) (plainFor_of_name (by first | (simp [plainName, overriddenIn]; done) | decide +kernel)) (fun m => ef_2r m a1) ?_
  intro p e s m below meth c T0 C X0 e0
  obtain ⟨S_w_PARITY, S_w_BUCHI, S_w_BUCHIx, S_w_WEAK_MULLER, S_w_MULLER, S_w_SAFETY, S_w_SAFETYx, S_w_REACH, S_w_REACHx, S_w_COBUCHI, S_w_COBUCHIx, S_w_WEAK_PARITY, E_w_PARITY, F_target_w_PARITY, E_w_BUCHI, E_w_BUCHIx, F_target_w_BUCHI, E_w_WEAK_MULLER, F_target_w_WEAK_MULLER, E_w_MULLER, F_target_w_MULLER, E_w_SAFETY, E_w_SAFETYx, F_target_w_SAFETY, E_w_REACH, E_w_REACHx, F_target_w_REACH, E_w_COBUCHI, E_w_COBUCHIx, F_target_w_COBUCHI, E_w_WEAK_PARITY, F_target_w_WEAK_PARITY⟩ := id hF
  have N0 := Fr.nil n0
  refine g_aloadN (pc' := 1) C X0 d2_0 rfl rfl rfl ?_
  refine g_getF (pc' := 4) C X0 d2_1 (host := "") (Or.inl (hw _ (List.mem_of_getElem? (i := 12) rfl))) Via.refl e0 Ft rfl (fun T1 X1 e1 => ?_)
  refine g_ifnullN (pc' := 7) C X1 d2_4 rfl ?_
  refine g_iconst (pc' := 8) (v := (1 : Int32)) C X1 d2_7 rfl rfl ?_
  refine g_goto (pc' := 12) C X1 d2_8 (by decide) (by decide) ?_
  exact g_retN C X1 (by simp) d2_12 (by decide) (by decide) ⟨congrArg (fun z => some (Value.int z)) (F2r_l0  ).symm, N0, e1⟩
theorem d3_0 : decode prog_23_method_5_code 0 = .ok (.aload_n 0, 1) := by decide +kernel
theorem d3_1 : decode prog_23_method_5_code 1 = .ok (.getfield 60, 3) := by decide +kernel
theorem d3_4 : decode prog_23_method_5_code 4 = .ok (.areturn, 1) := by decide +kernel
def F3n  : Value := .null
theorem F3n_l0   : F3n  = .null := rfl
theorem ef_3n (m : MethodId) (a1 : Addr) : entryFrame m #[(.ref a1)] 1 = mkF m 0 #[.val (.ref a1)] [] := by first | (simp [entryFrame, mkF, argsToLocals, Value.category]; done) | rfl
def Q_3n (Z : State) (a1 : Addr) (w_PARITY : Addr) (w_BUCHI : Addr) (w_BUCHIx : Addr) (w_WEAK_MULLER : Addr) (w_MULLER : Addr) (w_SAFETY : Addr) (w_SAFETYx : Addr) (w_REACH : Addr) (w_REACHx : Addr) (w_COBUCHI : Addr) (w_COBUCHIx : Addr) (w_WEAK_PARITY : Addr) (h0 : Heap) (n0 : Nat) (v : Option Value) (h : Heap) (L : List Loc) : Prop := v = some (F3n ) ∧ Fr n0 L ∧ h = h0
set_option maxRecDepth 65536 in
set_option maxHeartbeats 40000000 in
theorem rm3n (l : Launch) (Z : State) (a0 : Array Value) (hw : ∀ d ∈ tables_1, d.before a0 Z = true) (ws : List Jvm.Cond) (a1 : Addr) (w_PARITY : Addr) (w_BUCHI : Addr) (w_BUCHIx : Addr) (w_WEAK_MULLER : Addr) (w_MULLER : Addr) (w_SAFETY : Addr) (w_SAFETYx : Addr) (w_REACH : Addr) (w_REACHx : Addr) (w_COBUCHI : Addr) (w_COBUCHIx : Addr) (w_WEAK_PARITY : Addr) (h0 : Heap) (n0 : Nat) (hF : FX Z h0 w_PARITY w_BUCHI w_BUCHIx w_WEAK_MULLER w_MULLER w_SAFETY w_SAFETYx w_REACH w_REACHx w_COBUCHI w_COBUCHIx w_WEAK_PARITY) (Ft : Fld Z h0 a1 "com/example/talence/talence/cli/Objective" "target" "Lcom/example/talence/talence/games/TargetCondition$Objective;" .null) :
    MetFree l (⟨"com/example/talence/talence/cli/Objective", "getTarget", "()Lcom/example/talence/talence/games/TargetCondition$Objective;"⟩ : MethodName) (head1 (Jvm.Cond.code (⟨"com/example/talence/talence/cli/Objective", "getTarget", "()Lcom/example/talence/talence/games/TargetCondition$Objective;"⟩ : MethodName) prog_23_method_5_code 1 (some (.object "com/example/talence/talence/games/TargetCondition$Objective")) :: ws) ({ frames := 0, cells := 0, slots := 0, locals := 0 } : Room)) (fun a U => a = #[(.ref a1)] ∧ Z.Warmed39 U.vm ∧ U.heap = h0) (fun _ _ _ _ _ => True) (fun _ U o U' => ∃ v L, o = .returned v ∧ Q_3n Z a1 w_PARITY w_BUCHI w_BUCHIx w_WEAK_MULLER w_MULLER w_SAFETY w_SAFETYx w_REACH w_REACHx w_COBUCHI w_COBUCHIx w_WEAK_PARITY h0 n0 v U'.heap L ∧ FrameEnd U o U' L ({ frames := 0, cells := 0, slots := 0, locals := 0 } : Room).cells ({ frames := 0, cells := 0, slots := 0, locals := 0 } : Room).slots) := by
  refine met_of (Ls := #[.val (.ref a1)]) (plainFor_of_name (by first | (simp [plainName, overriddenIn]; done) | decide +kernel)) (fun m => ef_3n m a1) ?_
  intro p e s m below meth c T0 C X0 e0
  obtain ⟨S_w_PARITY, S_w_BUCHI, S_w_BUCHIx, S_w_WEAK_MULLER, S_w_MULLER, S_w_SAFETY, S_w_SAFETYx, S_w_REACH, S_w_REACHx, S_w_COBUCHI, S_w_COBUCHIx, S_w_WEAK_PARITY, E_w_PARITY, F_target_w_PARITY, E_w_BUCHI, E_w_BUCHIx, F_target_w_BUCHI, E_w_WEAK_MULLER, F_target_w_WEAK_MULLER, E_w_MULLER, F_target_w_MULLER, E_w_SAFETY, E_w_SAFETYx, F_target_w_SAFETY, E_w_REACH, E_w_REACHx, F_target_w_REACH, E_w_COBUCHI, E_w_COBUCHIx, F_target_w_COBUCHI, E_w_WEAK_PARITY, F_target_w_WEAK_PARITY⟩ := id hF
  have N0 := Fr.nil n0
  refine g_aloadN (pc' := 1) C X0 d3_0 rfl rfl rfl ?_
  refine g_getF (pc' := 4) C X0 d3_1 (host := "") (Or.inl (hw _ (List.mem_of_getElem? (i := 12) rfl))) Via.refl e0 Ft rfl (fun T1 X1 e1 => ?_)
  exact g_retA C X1 rfl rfl rfl d3_4 (by decide) (by decide) ⟨congrArg (fun z => some (z)) (F3n_l0  ).symm, N0, e1⟩
def F3r (wt : Addr) : Addr := wt
theorem F3r_l0 (wt : Addr)  : F3r wt = wt := rfl
theorem ef_3r (m : MethodId) (a1 : Addr) : entryFrame m #[(.ref a1)] 1 = mkF m 0 #[.val (.ref a1)] [] := by first | (simp [entryFrame, mkF, argsToLocals, Value.category]; done) | rfl
def Q_3r (Z : State) (a1 : Addr) (wt : Addr) (w_PARITY : Addr) (w_BUCHI : Addr) (w_BUCHIx : Addr) (w_WEAK_MULLER : Addr) (w_MULLER : Addr) (w_SAFETY : Addr) (w_SAFETYx : Addr) (w_REACH : Addr) (w_REACHx : Addr) (w_COBUCHI : Addr) (w_COBUCHIx : Addr) (w_WEAK_PARITY : Addr) (h0 : Heap) (n0 : Nat) (v : Option Value) (h : Heap) (L : List Loc) : Prop := v = some (.ref (F3r wt)) ∧ Fr n0 L ∧ h = h0
set_option maxRecDepth 65536 in
set_option maxHeartbeats 40000000 in
theorem rm3r (l : Launch) (Z : State) (a0 : Array Value) (hw : ∀ d ∈ tables_1, d.before a0 Z = true) (ws : List Jvm.Cond) (a1 : Addr) (wt : Addr) (w_PARITY : Addr) (w_BUCHI : Addr) (w_BUCHIx : Addr) (w_WEAK_MULLER : Addr) (w_MULLER : Addr) (w_SAFETY : Addr) (w_SAFETYx : Addr) (w_REACH : Addr) (w_REACHx : Addr) (w_COBUCHI : Addr) (w_COBUCHIx : Addr) (w_WEAK_PARITY : Addr) (h0 : Heap) (n0 : Nat) (hF : FX Z h0 w_PARITY w_BUCHI w_BUCHIx w_WEAK_MULLER w_MULLER w_SAFETY w_SAFETYx w_REACH w_REACHx w_COBUCHI w_COBUCHIx w_WEAK_PARITY) (Ft : Fld Z h0 a1 "com/example/talence/talence/cli/Objective" "target" "Lcom/example/talence/talence/games/TargetCondition$Objective;" (.ref wt)) :
    MetFree l (⟨"com/example/talence/talence/cli/Objective", "getTarget", "()Lcom/example/talence/talence/games/TargetCondition$Objective;"⟩ : MethodName) (head1 (Jvm.Cond.code (⟨"com/example/talence/talence/cli/Objective", "getTarget", "()Lcom/example/talence/talence/games/TargetCondition$Objective;"⟩ : MethodName) prog_23_method_5_code 1 (some (.object "com/example/talence/talence/games/TargetCondition$Objective")) :: ws) ({ frames := 0, cells := 0, slots := 0, locals := 0 } : Room)) (fun a U => a = #[(.ref a1)] ∧ Z.Warmed39 U.vm ∧ U.heap = h0) (fun _ _ _ _ _ => True) (fun _ U o U' => ∃ v L, o = .returned v ∧ Q_3r Z a1 wt w_PARITY w_BUCHI w_BUCHIx w_WEAK_MULLER w_MULLER w_SAFETY w_SAFETYx w_REACH w_REACHx w_COBUCHI w_COBUCHIx w_WEAK_PARITY h0 n0 v U'.heap L ∧ FrameEnd U o U' L ({ frames := 0, cells := 0, slots := 0, locals := 0 } : Room).cells ({ frames := 0, cells := 0, slots := 0, locals := 0 } : Room).slots) := by
  refine met_of (Ls := #[.val (.ref a1)]) (plainFor_of_name (by first | (simp [plainName, overriddenIn]; done) | decide +kernel)) (fun m => ef_3r m a1) ?_
  intro p e s m below meth c T0 C X0 e0
  obtain ⟨S_w_PARITY, S_w_BUCHI, S_w_BUCHIx, S_w_WEAK_MULLER, S_w_MULLER, S_w_SAFETY, S_w_SAFETYx, S_w_REACH, S_w_REACHx, S_w_COBUCHI, S_w_COBUCHIx, S_w_WEAK_PARITY, E_w_PARITY, F_target_w_PARITY, E_w_BUCHI, E_w_BUCHIx, F_target_w_BUCHI, E_w_WEAK_MULLER, F_target_w_WEAK_MULLER, E_w_MULLER, F_target_w_MULLER, E_w_SAFETY, E_w_SAFETYx, F_target_w_SAFETY, E_w_REACH, E_w_REACHx, F_target_w_REACH, E_w_COBUCHI, E_w_COBUCHIx, F_target_w_COBUCHI, E_w_WEAK_PARITY, F_target_w_WEAK_PARITY⟩ := id hF
  have N0 := Fr.nil n0
  refine g_aloadN (pc' := 1) C X0 d3_0 rfl rfl rfl ?_
  refine g_getF (pc' := 4) C X0 d3_1 (host := "") (Or.inl (hw _ (List.mem_of_getElem? (i := 12) rfl))) Via.refl e0 Ft rfl (fun T1 X1 e1 => ?_)
  exact g_retA C X1 rfl rfl rfl d3_4 (by decide) (by decide) ⟨congrArg (fun z => some (Value.ref z)) (F3r_l0 wt ).symm, N0, e1⟩
theorem own_eight (p : Int32) : (p &&& (7 : Int32)) = (0 : Int32) ∨ (p &&& (7 : Int32)) = (1 : Int32) ∨ (p &&& (7 : Int32)) = (2 : Int32) ∨ (p &&& (7 : Int32)) = (3 : Int32) ∨ (p &&& (7 : Int32)) = (4 : Int32) ∨ (p &&& (7 : Int32)) = (5 : Int32) ∨ (p &&& (7 : Int32)) = (6 : Int32) ∨ (p &&& (7 : Int32)) = (7 : Int32) := by
  have e : (p &&& (7 : Int32)).toInt = p.toInt % (2 ^ 3 : Nat) := c_mask p 7 3 (by decide) (by decide)
  obtain ⟨i, hi⟩ := own_fin 8 (p &&& (7 : Int32)) (by omega) (by omega)
  rw [hi]; clear hi; revert i; decide
theorem pd_0 : parseMethodDescriptor "(I)Lcom/example/talence/talence/cli/Objective;" = some ⟨[.int], some (.object "com/example/talence/talence/cli/Objective")⟩ := by decide +kernel
theorem pd_1 : parseMethodDescriptor "()Z" = some ⟨[], some .boolean⟩ := by decide +kernel
theorem pd_2 : parseMethodDescriptor "()Lcom/example/talence/talence/games/TargetCondition$Objective;" = some ⟨[], some (.object "com/example/talence/talence/games/TargetCondition$Objective")⟩ := by decide +kernel
theorem ef_0 (m : MethodId) (p1 : Int32) : entryFrame m #[(.int p1)] maxLocals = mkF m 0 #[.val (.int p1), .unset, .unset, .unset, .unset, .unset] [] := by first | (simp [entryFrame, mkF, argsToLocals, Value.category, maxLocals]; done) | rfl
def Q_0 (Z : State) (p1 : Int32) (w_PARITY : Addr) (w_BUCHI : Addr) (w_BUCHIx : Addr) (w_WEAK_MULLER : Addr) (w_MULLER : Addr) (w_SAFETY : Addr) (w_SAFETYx : Addr) (w_REACH : Addr) (w_REACHx : Addr) (w_COBUCHI : Addr) (w_COBUCHIx : Addr) (w_WEAK_PARITY : Addr) (h0 : Heap) (n0 : Nat) (v : Option Value) (h : Heap) (L : List Loc) : Prop := v = some (.int 1) ∧ Fr n0 L
set_option maxRecDepth 65536 in
set_option maxHeartbeats 40000000 in
theorem rm0 (l : Launch) (Z : State) (a0 : Array Value) (hw : ∀ d ∈ tables_1, d.before a0 Z = true) (ws : List Jvm.Cond) (p1 : Int32) (w_PARITY : Addr) (w_BUCHI : Addr) (w_BUCHIx : Addr) (w_WEAK_MULLER : Addr) (w_MULLER : Addr) (w_SAFETY : Addr) (w_SAFETYx : Addr) (w_REACH : Addr) (w_REACHx : Addr) (w_COBUCHI : Addr) (w_COBUCHIx : Addr) (w_WEAK_PARITY : Addr) (h0 : Heap) (n0 : Nat) (hF : FX Z h0 w_PARITY w_BUCHI w_BUCHIx w_WEAK_MULLER w_MULLER w_SAFETY w_SAFETYx w_REACH w_REACHx w_COBUCHI w_COBUCHIx w_WEAK_PARITY) :
    MetFree l x (head1 (Jvm.Cond.code x code maxLocals ret :: ws) room_1) (fun a U => a = #[(.int p1)] ∧ Z.Warmed39 U.vm ∧ U.heap = h0) (fun _ _ _ _ _ => True) (fun _ U o U' => ∃ v L, o = .returned v ∧ Q_0 Z p1 w_PARITY w_BUCHI w_BUCHIx w_WEAK_MULLER w_MULLER w_SAFETY w_SAFETYx w_REACH w_REACHx w_COBUCHI w_COBUCHIx w_WEAK_PARITY h0 n0 v U'.heap L ∧ FrameEnd U o U' L 0 0) := by
  refine met_of (Ls := #[.val (.int p1), .unset, .unset, .unset, .unset, .unset]) (plainFor_of_name (by first | (simp [plainName, overriddenIn]; done) | decide +kernel)) (fun m => ef_0 m p1) ?_
  intro p e s m below meth c T0 C X0 e0
  obtain ⟨S_w_PARITY, S_w_BUCHI, S_w_BUCHIx, S_w_WEAK_MULLER, S_w_MULLER, S_w_SAFETY, S_w_SAFETYx, S_w_REACH, S_w_REACHx, S_w_COBUCHI, S_w_COBUCHIx, S_w_WEAK_PARITY, E_w_PARITY, F_target_w_PARITY, E_w_BUCHI, E_w_BUCHIx, F_target_w_BUCHI, E_w_WEAK_MULLER, F_target_w_WEAK_MULLER, E_w_MULLER, F_target_w_MULLER, E_w_SAFETY, E_w_SAFETYx, F_target_w_SAFETY, E_w_REACH, E_w_REACHx, F_target_w_REACH, E_w_COBUCHI, E_w_COBUCHIx, F_target_w_COBUCHI, E_w_WEAK_PARITY, F_target_w_WEAK_PARITY⟩ := id hF
  have N0 := Fr.nil n0
  refine g_iloadN (pc' := 1) C X0 at_0 rfl rfl ?_
  refine g_bipush (pc' := 3) (v := (7 : Int32)) C X0 at_1 rfl rfl ?_
  refine g_iand (pc' := 4) C X0 at_3 rfl ?_
  refine g_istoreN (pc' := 5) (Ls' := #[.val (.int p1), .val (.int (p1 &&& (7 : Int32))), .unset, .unset, .unset, .unset]) C X0 at_4 rfl rfl ?_
  rcases own_eight p1 with s1 | s1 | s1 | s1 | s1 | s1 | s1 | s1
  · refine own_cast (show T0.setTop (mkF m 5 #[.val (.int p1), .val (.int (p1 &&& (7 : Int32))), .unset, .unset, .unset, .unset] []) = T0.setTop (mkF m 5 #[.val (.int p1), .val (.int (0 : Int32)), .unset, .unset, .unset, .unset] []) from by rw [s1]) ?_
    refine g_iloadN (pc' := 6) C X0 at_5 rfl rfl ?_
    refine g_callS (y := (⟨"com/example/talence/talence/cli/ObjectiveNeedsTargetPinLaw", "pick", "(I)Lcom/example/talence/talence/cli/Objective;"⟩ : MethodName)) (argsL := [(.int (0 : Int32))]) (st := []) (pc' := 9) C X0 at_6 (hw _ (List.mem_of_getElem? (i := 0) rfl)) (hw _ (List.mem_of_getElem? (i := 1) rfl)) (hw _ (List.mem_of_getElem? (i := 2) rfl)) (hw _ (List.mem_of_getElem? (i := 3) rfl)) (by decide) (rm1 l Z a0 hw [] (0 : Int32) w_PARITY w_BUCHI w_BUCHIx w_WEAK_MULLER w_MULLER w_SAFETY w_SAFETYx w_REACH w_REACHx w_COBUCHI w_COBUCHIx w_WEAK_PARITY h0 n0 hF) (W := 0) (by decide) (by decide) (ce := 0) (sl := 0) rfl rfl (by decide) (by decide) rfl e0 rfl pd_0 rfl (Nat.le_refl _) rfl (fun v2 T2 L2 X2 Q2 => ?_)
    obtain ⟨q2, Nq2, e2⟩ := Q2
    have N2 := Fr.app N0 Nq2
    rw [F1_l0 (0 : Int32) w_PARITY w_BUCHI w_WEAK_MULLER w_MULLER w_SAFETY w_REACH w_COBUCHI w_WEAK_PARITY (show (0 : Int32) = (0 : Int32) from (by decide))] at q2
    subst q2
    show Go p.tables e below _ (T2.setTop (mkF m 9 #[.val (.int p1), .val (.int (0 : Int32)), .unset, .unset, .unset, .unset] [(.ref w_PARITY)]))
    refine g_astoreN (pc' := 10) (Ls' := #[.val (.int p1), .val (.int (0 : Int32)), .val (.ref w_PARITY), .unset, .unset, .unset]) C X2 at_9 rfl rfl rfl ?_
    refine g_iloadN (pc' := 11) C X2 at_10 rfl rfl ?_
    refine g_iconst (pc' := 12) (v := (1 : Int32)) C X2 at_11 rfl rfl ?_
    refine g_icmpY (pc' := 24) C X2 at_12 (tlt (show (0 : Int32) < (1 : Int32) from (by decide))).1 (by decide) (by decide) ?_
    refine g_iconst (pc' := 25) (v := (0 : Int32)) C X2 at_24 rfl rfl ?_
    refine g_istoreN (pc' := 26) (Ls' := #[.val (.int p1), .val (.int (0 : Int32)), .val (.ref w_PARITY), .val (.int (0 : Int32)), .unset, .unset]) C X2 at_25 rfl rfl ?_
    refine g_aloadN (pc' := 27) C X2 at_26 rfl rfl rfl ?_
    refine g_callV (b := w_PARITY) (z := (⟨"com/example/talence/talence/cli/Objective", "needsTarget", "()Z"⟩ : MethodName)) (y := (⟨"com/example/talence/talence/cli/Objective", "needsTarget", "()Z"⟩ : MethodName)) (argsL := []) (st := []) (pc' := 30) C X2 at_27 (hw _ (List.mem_of_getElem? (i := 7) rfl)) (hw _ (List.mem_of_getElem? (i := 8) rfl)) (notFace_of_selects (args := #[]) (mvT C.hZ (hw _ (List.mem_of_getElem? (i := 10) rfl)))) (hw _ (List.mem_of_getElem? (i := 10) rfl)) (hw _ (List.mem_of_getElem? (i := 9) rfl)) (hw _ (List.mem_of_getElem? (i := 5) rfl)) (hw _ (List.mem_of_getElem? (i := 11) rfl)) (by decide) (rm2n l Z a0 hw [] w_PARITY w_PARITY w_BUCHI w_BUCHIx w_WEAK_MULLER w_MULLER w_SAFETY w_SAFETYx w_REACH w_REACHx w_COBUCHI w_COBUCHIx w_WEAK_PARITY h0 n0 hF F_target_w_PARITY) (W := 0) (by decide) (by decide) (ce := 0) (sl := 0) rfl rfl (by decide) (by decide) rfl E_w_PARITY e2 rfl pd_1 rfl (Nat.le_refl _) rfl (fun v3 T3 L3 X3 Q3 => ?_)
    obtain ⟨q3, Nq3, e3⟩ := Q3
    have N3 := Fr.app N2 Nq3
    rw [F2n_l0 ] at q3
    subst q3
    show Go p.tables e below _ (T3.setTop (mkF m 30 #[.val (.int p1), .val (.int (0 : Int32)), .val (.ref w_PARITY), .val (.int (0 : Int32)), .unset, .unset] [(.int (0 : Int32))]))
    refine g_istore (pc' := 32) (Ls' := #[.val (.int p1), .val (.int (0 : Int32)), .val (.ref w_PARITY), .val (.int (0 : Int32)), .val (.int (0 : Int32)), .unset]) C X3 at_30 rfl rfl ?_
    refine g_aloadN (pc' := 33) C X3 at_32 rfl rfl rfl ?_
    refine g_callV (b := w_PARITY) (z := (⟨"com/example/talence/talence/cli/Objective", "getTarget", "()Lcom/example/talence/talence/games/TargetCondition$Objective;"⟩ : MethodName)) (y := (⟨"com/example/talence/talence/cli/Objective", "getTarget", "()Lcom/example/talence/talence/games/TargetCondition$Objective;"⟩ : MethodName)) (argsL := []) (st := []) (pc' := 36) C X3 at_33 (hw _ (List.mem_of_getElem? (i := 14) rfl)) (hw _ (List.mem_of_getElem? (i := 15) rfl)) (notFace_of_selects (args := #[]) (mvT C.hZ (hw _ (List.mem_of_getElem? (i := 17) rfl)))) (hw _ (List.mem_of_getElem? (i := 17) rfl)) (hw _ (List.mem_of_getElem? (i := 16) rfl)) (hw _ (List.mem_of_getElem? (i := 5) rfl)) (hw _ (List.mem_of_getElem? (i := 18) rfl)) (by decide) (rm3n l Z a0 hw [] w_PARITY w_PARITY w_BUCHI w_BUCHIx w_WEAK_MULLER w_MULLER w_SAFETY w_SAFETYx w_REACH w_REACHx w_COBUCHI w_COBUCHIx w_WEAK_PARITY h0 n0 hF F_target_w_PARITY) (W := 0) (by decide) (by decide) (ce := 0) (sl := 0) rfl rfl (by decide) (by decide) rfl E_w_PARITY e3 rfl pd_2 rfl (Nat.le_refl _) rfl (fun v4 T4 L4 X4 Q4 => ?_)
    obtain ⟨q4, Nq4, e4⟩ := Q4
    have N4 := Fr.app N3 Nq4
    rw [F3n_l0 ] at q4
    subst q4
    show Go p.tables e below _ (T4.setTop (mkF m 36 #[.val (.int p1), .val (.int (0 : Int32)), .val (.ref w_PARITY), .val (.int (0 : Int32)), .val (.int (0 : Int32)), .unset] [.null]))
    refine g_ifnullY (pc' := 43) C X4 at_36 (by decide) (by decide) ?_
    refine g_iconst (pc' := 44) (v := (0 : Int32)) C X4 at_43 rfl rfl ?_
    refine g_istore (pc' := 46) (Ls' := #[.val (.int p1), .val (.int (0 : Int32)), .val (.ref w_PARITY), .val (.int (0 : Int32)), .val (.int (0 : Int32)), .val (.int (0 : Int32))]) C X4 at_44 rfl rfl ?_
    refine g_iload (pc' := 48) C X4 at_46 rfl rfl ?_
    refine g_iloadN (pc' := 49) C X4 at_48 rfl rfl ?_
    refine g_icmpN (pc' := 52) C X4 at_49 (teq (show (0 : Int32) = (0 : Int32) from (by decide))).2 rfl ?_
    refine g_iload (pc' := 54) C X4 at_52 rfl rfl ?_
    refine g_iload (pc' := 56) C X4 at_54 rfl rfl ?_
    refine g_icmpN (pc' := 59) C X4 at_56 (teq (show (0 : Int32) = (0 : Int32) from (by decide))).2 rfl ?_
    refine g_iconst (pc' := 60) (v := (1 : Int32)) C X4 at_59 rfl rfl ?_
    refine g_goto (pc' := 64) C X4 at_60 (by decide) (by decide) ?_
    exact g_retN C X4 (by simp) at_64 (by decide) (by decide) ⟨rfl, N4⟩
  · refine own_cast (show T0.setTop (mkF m 5 #[.val (.int p1), .val (.int (p1 &&& (7 : Int32))), .unset, .unset, .unset, .unset] []) = T0.setTop (mkF m 5 #[.val (.int p1), .val (.int (1 : Int32)), .unset, .unset, .unset, .unset] []) from by rw [s1]) ?_
    refine g_iloadN (pc' := 6) C X0 at_5 rfl rfl ?_
    refine g_callS (y := (⟨"com/example/talence/talence/cli/ObjectiveNeedsTargetPinLaw", "pick", "(I)Lcom/example/talence/talence/cli/Objective;"⟩ : MethodName)) (argsL := [(.int (1 : Int32))]) (st := []) (pc' := 9) C X0 at_6 (hw _ (List.mem_of_getElem? (i := 0) rfl)) (hw _ (List.mem_of_getElem? (i := 1) rfl)) (hw _ (List.mem_of_getElem? (i := 2) rfl)) (hw _ (List.mem_of_getElem? (i := 3) rfl)) (by decide) (rm1 l Z a0 hw [] (1 : Int32) w_PARITY w_BUCHI w_BUCHIx w_WEAK_MULLER w_MULLER w_SAFETY w_SAFETYx w_REACH w_REACHx w_COBUCHI w_COBUCHIx w_WEAK_PARITY h0 n0 hF) (W := 0) (by decide) (by decide) (ce := 0) (sl := 0) rfl rfl (by decide) (by decide) rfl e0 rfl pd_0 rfl (Nat.le_refl _) rfl (fun v5 T5 L5 X5 Q5 => ?_)
    obtain ⟨q5, Nq5, e5⟩ := Q5
    have N5 := Fr.app N0 Nq5
    rw [F1_l1 (1 : Int32) w_PARITY w_BUCHI w_WEAK_MULLER w_MULLER w_SAFETY w_REACH w_COBUCHI w_WEAK_PARITY (show ¬ ((1 : Int32) = (0 : Int32)) from (by decide)) (show (1 : Int32) = (1 : Int32) from (by decide))] at q5
    subst q5
    show Go p.tables e below _ (T5.setTop (mkF m 9 #[.val (.int p1), .val (.int (1 : Int32)), .unset, .unset, .unset, .unset] [(.ref w_REACH)]))
    refine g_astoreN (pc' := 10) (Ls' := #[.val (.int p1), .val (.int (1 : Int32)), .val (.ref w_REACH), .unset, .unset, .unset]) C X5 at_9 rfl rfl rfl ?_
    refine g_iloadN (pc' := 11) C X5 at_10 rfl rfl ?_
    refine g_iconst (pc' := 12) (v := (1 : Int32)) C X5 at_11 rfl rfl ?_
    refine g_icmpN (pc' := 15) C X5 at_12 (flt (show ¬ ((1 : Int32) < (1 : Int32)) from (by decide))).1 rfl ?_
    refine g_iloadN (pc' := 16) C X5 at_15 rfl rfl ?_
    refine g_iconst (pc' := 17) (v := (4 : Int32)) C X5 at_16 rfl rfl ?_
    refine g_icmpN (pc' := 20) C X5 at_17 (flt (show ¬ ((4 : Int32) < (1 : Int32)) from (by decide))).2.2.1 rfl ?_
    refine g_iconst (pc' := 21) (v := (1 : Int32)) C X5 at_20 rfl rfl ?_
    refine g_goto (pc' := 25) C X5 at_21 (by decide) (by decide) ?_
    refine g_istoreN (pc' := 26) (Ls' := #[.val (.int p1), .val (.int (1 : Int32)), .val (.ref w_REACH), .val (.int (1 : Int32)), .unset, .unset]) C X5 at_25 rfl rfl ?_
    refine g_aloadN (pc' := 27) C X5 at_26 rfl rfl rfl ?_
    refine g_callV (b := w_REACH) (z := (⟨"com/example/talence/talence/cli/Objective", "needsTarget", "()Z"⟩ : MethodName)) (y := (⟨"com/example/talence/talence/cli/Objective", "needsTarget", "()Z"⟩ : MethodName)) (argsL := []) (st := []) (pc' := 30) C X5 at_27 (hw _ (List.mem_of_getElem? (i := 7) rfl)) (hw _ (List.mem_of_getElem? (i := 8) rfl)) (notFace_of_selects (args := #[]) (mvT C.hZ (hw _ (List.mem_of_getElem? (i := 10) rfl)))) (hw _ (List.mem_of_getElem? (i := 10) rfl)) (hw _ (List.mem_of_getElem? (i := 9) rfl)) (hw _ (List.mem_of_getElem? (i := 5) rfl)) (hw _ (List.mem_of_getElem? (i := 11) rfl)) (by decide) (rm2r l Z a0 hw [] w_REACH w_REACHx w_PARITY w_BUCHI w_BUCHIx w_WEAK_MULLER w_MULLER w_SAFETY w_SAFETYx w_REACH w_REACHx w_COBUCHI w_COBUCHIx w_WEAK_PARITY h0 n0 hF F_target_w_REACH) (W := 0) (by decide) (by decide) (ce := 0) (sl := 0) rfl rfl (by decide) (by decide) rfl E_w_REACH e5 rfl pd_1 rfl (Nat.le_refl _) rfl (fun v6 T6 L6 X6 Q6 => ?_)
    obtain ⟨q6, Nq6, e6⟩ := Q6
    have N6 := Fr.app N5 Nq6
    rw [F2r_l0 ] at q6
    subst q6
    show Go p.tables e below _ (T6.setTop (mkF m 30 #[.val (.int p1), .val (.int (1 : Int32)), .val (.ref w_REACH), .val (.int (1 : Int32)), .unset, .unset] [(.int (1 : Int32))]))
    refine g_istore (pc' := 32) (Ls' := #[.val (.int p1), .val (.int (1 : Int32)), .val (.ref w_REACH), .val (.int (1 : Int32)), .val (.int (1 : Int32)), .unset]) C X6 at_30 rfl rfl ?_
    refine g_aloadN (pc' := 33) C X6 at_32 rfl rfl rfl ?_
    refine g_callV (b := w_REACH) (z := (⟨"com/example/talence/talence/cli/Objective", "getTarget", "()Lcom/example/talence/talence/games/TargetCondition$Objective;"⟩ : MethodName)) (y := (⟨"com/example/talence/talence/cli/Objective", "getTarget", "()Lcom/example/talence/talence/games/TargetCondition$Objective;"⟩ : MethodName)) (argsL := []) (st := []) (pc' := 36) C X6 at_33 (hw _ (List.mem_of_getElem? (i := 14) rfl)) (hw _ (List.mem_of_getElem? (i := 15) rfl)) (notFace_of_selects (args := #[]) (mvT C.hZ (hw _ (List.mem_of_getElem? (i := 17) rfl)))) (hw _ (List.mem_of_getElem? (i := 17) rfl)) (hw _ (List.mem_of_getElem? (i := 16) rfl)) (hw _ (List.mem_of_getElem? (i := 5) rfl)) (hw _ (List.mem_of_getElem? (i := 18) rfl)) (by decide) (rm3r l Z a0 hw [] w_REACH w_REACHx w_PARITY w_BUCHI w_BUCHIx w_WEAK_MULLER w_MULLER w_SAFETY w_SAFETYx w_REACH w_REACHx w_COBUCHI w_COBUCHIx w_WEAK_PARITY h0 n0 hF F_target_w_REACH) (W := 0) (by decide) (by decide) (ce := 0) (sl := 0) rfl rfl (by decide) (by decide) rfl E_w_REACH e6 rfl pd_2 rfl (Nat.le_refl _) rfl (fun v7 T7 L7 X7 Q7 => ?_)
    obtain ⟨q7, Nq7, e7⟩ := Q7
    have N7 := Fr.app N6 Nq7
    rw [F3r_l0 w_REACHx] at q7
    subst q7
    show Go p.tables e below _ (T7.setTop (mkF m 36 #[.val (.int p1), .val (.int (1 : Int32)), .val (.ref w_REACH), .val (.int (1 : Int32)), .val (.int (1 : Int32)), .unset] [(.ref w_REACHx)]))
    refine g_ifnullN (pc' := 39) C X7 at_36 rfl ?_
    refine g_iconst (pc' := 40) (v := (1 : Int32)) C X7 at_39 rfl rfl ?_
    refine g_goto (pc' := 44) C X7 at_40 (by decide) (by decide) ?_
    refine g_istore (pc' := 46) (Ls' := #[.val (.int p1), .val (.int (1 : Int32)), .val (.ref w_REACH), .val (.int (1 : Int32)), .val (.int (1 : Int32)), .val (.int (1 : Int32))]) C X7 at_44 rfl rfl ?_
    refine g_iload (pc' := 48) C X7 at_46 rfl rfl ?_
    refine g_iloadN (pc' := 49) C X7 at_48 rfl rfl ?_
    refine g_icmpN (pc' := 52) C X7 at_49 (teq (show (1 : Int32) = (1 : Int32) from (by decide))).2 rfl ?_
    refine g_iload (pc' := 54) C X7 at_52 rfl rfl ?_
    refine g_iload (pc' := 56) C X7 at_54 rfl rfl ?_
    refine g_icmpN (pc' := 59) C X7 at_56 (teq (show (1 : Int32) = (1 : Int32) from (by decide))).2 rfl ?_
    refine g_iconst (pc' := 60) (v := (1 : Int32)) C X7 at_59 rfl rfl ?_
    refine g_goto (pc' := 64) C X7 at_60 (by decide) (by decide) ?_
    exact g_retN C X7 (by simp) at_64 (by decide) (by decide) ⟨rfl, N7⟩
  · refine own_cast (show T0.setTop (mkF m 5 #[.val (.int p1), .val (.int (p1 &&& (7 : Int32))), .unset, .unset, .unset, .unset] []) = T0.setTop (mkF m 5 #[.val (.int p1), .val (.int (2 : Int32)), .unset, .unset, .unset, .unset] []) from by rw [s1]) ?_
    refine g_iloadN (pc' := 6) C X0 at_5 rfl rfl ?_
    refine g_callS (y := (⟨"com/example/talence/talence/cli/ObjectiveNeedsTargetPinLaw", "pick", "(I)Lcom/example/talence/talence/cli/Objective;"⟩ : MethodName)) (argsL := [(.int (2 : Int32))]) (st := []) (pc' := 9) C X0 at_6 (hw _ (List.mem_of_getElem? (i := 0) rfl)) (hw _ (List.mem_of_getElem? (i := 1) rfl)) (hw _ (List.mem_of_getElem? (i := 2) rfl)) (hw _ (List.mem_of_getElem? (i := 3) rfl)) (by decide) (rm1 l Z a0 hw [] (2 : Int32) w_PARITY w_BUCHI w_BUCHIx w_WEAK_MULLER w_MULLER w_SAFETY w_SAFETYx w_REACH w_REACHx w_COBUCHI w_COBUCHIx w_WEAK_PARITY h0 n0 hF) (W := 0) (by decide) (by decide) (ce := 0) (sl := 0) rfl rfl (by decide) (by decide) rfl e0 rfl pd_0 rfl (Nat.le_refl _) rfl (fun v8 T8 L8 X8 Q8 => ?_)
    obtain ⟨q8, Nq8, e8⟩ := Q8
    have N8 := Fr.app N0 Nq8
    rw [F1_l2 (2 : Int32) w_PARITY w_BUCHI w_WEAK_MULLER w_MULLER w_SAFETY w_REACH w_COBUCHI w_WEAK_PARITY (show ¬ ((2 : Int32) = (0 : Int32)) from (by decide)) (show ¬ ((2 : Int32) = (1 : Int32)) from (by decide)) (show (2 : Int32) = (2 : Int32) from (by decide))] at q8
    subst q8
    show Go p.tables e below _ (T8.setTop (mkF m 9 #[.val (.int p1), .val (.int (2 : Int32)), .unset, .unset, .unset, .unset] [(.ref w_SAFETY)]))
    refine g_astoreN (pc' := 10) (Ls' := #[.val (.int p1), .val (.int (2 : Int32)), .val (.ref w_SAFETY), .unset, .unset, .unset]) C X8 at_9 rfl rfl rfl ?_
    refine g_iloadN (pc' := 11) C X8 at_10 rfl rfl ?_
    refine g_iconst (pc' := 12) (v := (1 : Int32)) C X8 at_11 rfl rfl ?_
    refine g_icmpN (pc' := 15) C X8 at_12 (flt (show ¬ ((2 : Int32) < (1 : Int32)) from (by decide))).1 rfl ?_
    refine g_iloadN (pc' := 16) C X8 at_15 rfl rfl ?_
    refine g_iconst (pc' := 17) (v := (4 : Int32)) C X8 at_16 rfl rfl ?_
    refine g_icmpN (pc' := 20) C X8 at_17 (flt (show ¬ ((4 : Int32) < (2 : Int32)) from (by decide))).2.2.1 rfl ?_
    refine g_iconst (pc' := 21) (v := (1 : Int32)) C X8 at_20 rfl rfl ?_
    refine g_goto (pc' := 25) C X8 at_21 (by decide) (by decide) ?_
    refine g_istoreN (pc' := 26) (Ls' := #[.val (.int p1), .val (.int (2 : Int32)), .val (.ref w_SAFETY), .val (.int (1 : Int32)), .unset, .unset]) C X8 at_25 rfl rfl ?_
    refine g_aloadN (pc' := 27) C X8 at_26 rfl rfl rfl ?_
    refine g_callV (b := w_SAFETY) (z := (⟨"com/example/talence/talence/cli/Objective", "needsTarget", "()Z"⟩ : MethodName)) (y := (⟨"com/example/talence/talence/cli/Objective", "needsTarget", "()Z"⟩ : MethodName)) (argsL := []) (st := []) (pc' := 30) C X8 at_27 (hw _ (List.mem_of_getElem? (i := 7) rfl)) (hw _ (List.mem_of_getElem? (i := 8) rfl)) (notFace_of_selects (args := #[]) (mvT C.hZ (hw _ (List.mem_of_getElem? (i := 10) rfl)))) (hw _ (List.mem_of_getElem? (i := 10) rfl)) (hw _ (List.mem_of_getElem? (i := 9) rfl)) (hw _ (List.mem_of_getElem? (i := 5) rfl)) (hw _ (List.mem_of_getElem? (i := 11) rfl)) (by decide) (rm2r l Z a0 hw [] w_SAFETY w_SAFETYx w_PARITY w_BUCHI w_BUCHIx w_WEAK_MULLER w_MULLER w_SAFETY w_SAFETYx w_REACH w_REACHx w_COBUCHI w_COBUCHIx w_WEAK_PARITY h0 n0 hF F_target_w_SAFETY) (W := 0) (by decide) (by decide) (ce := 0) (sl := 0) rfl rfl (by decide) (by decide) rfl E_w_SAFETY e8 rfl pd_1 rfl (Nat.le_refl _) rfl (fun v9 T9 L9 X9 Q9 => ?_)
    obtain ⟨q9, Nq9, e9⟩ := Q9
    have N9 := Fr.app N8 Nq9
    rw [F2r_l0 ] at q9
    subst q9
    show Go p.tables e below _ (T9.setTop (mkF m 30 #[.val (.int p1), .val (.int (2 : Int32)), .val (.ref w_SAFETY), .val (.int (1 : Int32)), .unset, .unset] [(.int (1 : Int32))]))
    refine g_istore (pc' := 32) (Ls' := #[.val (.int p1), .val (.int (2 : Int32)), .val (.ref w_SAFETY), .val (.int (1 : Int32)), .val (.int (1 : Int32)), .unset]) C X9 at_30 rfl rfl ?_
    refine g_aloadN (pc' := 33) C X9 at_32 rfl rfl rfl ?_
    refine g_callV (b := w_SAFETY) (z := (⟨"com/example/talence/talence/cli/Objective", "getTarget", "()Lcom/example/talence/talence/games/TargetCondition$Objective;"⟩ : MethodName)) (y := (⟨"com/example/talence/talence/cli/Objective", "getTarget", "()Lcom/example/talence/talence/games/TargetCondition$Objective;"⟩ : MethodName)) (argsL := []) (st := []) (pc' := 36) C X9 at_33 (hw _ (List.mem_of_getElem? (i := 14) rfl)) (hw _ (List.mem_of_getElem? (i := 15) rfl)) (notFace_of_selects (args := #[]) (mvT C.hZ (hw _ (List.mem_of_getElem? (i := 17) rfl)))) (hw _ (List.mem_of_getElem? (i := 17) rfl)) (hw _ (List.mem_of_getElem? (i := 16) rfl)) (hw _ (List.mem_of_getElem? (i := 5) rfl)) (hw _ (List.mem_of_getElem? (i := 18) rfl)) (by decide) (rm3r l Z a0 hw [] w_SAFETY w_SAFETYx w_PARITY w_BUCHI w_BUCHIx w_WEAK_MULLER w_MULLER w_SAFETY w_SAFETYx w_REACH w_REACHx w_COBUCHI w_COBUCHIx w_WEAK_PARITY h0 n0 hF F_target_w_SAFETY) (W := 0) (by decide) (by decide) (ce := 0) (sl := 0) rfl rfl (by decide) (by decide) rfl E_w_SAFETY e9 rfl pd_2 rfl (Nat.le_refl _) rfl (fun v10 T10 L10 X10 Q10 => ?_)
    obtain ⟨q10, Nq10, e10⟩ := Q10
    have N10 := Fr.app N9 Nq10
    rw [F3r_l0 w_SAFETYx] at q10
    subst q10
    show Go p.tables e below _ (T10.setTop (mkF m 36 #[.val (.int p1), .val (.int (2 : Int32)), .val (.ref w_SAFETY), .val (.int (1 : Int32)), .val (.int (1 : Int32)), .unset] [(.ref w_SAFETYx)]))
    refine g_ifnullN (pc' := 39) C X10 at_36 rfl ?_
    refine g_iconst (pc' := 40) (v := (1 : Int32)) C X10 at_39 rfl rfl ?_
    refine g_goto (pc' := 44) C X10 at_40 (by decide) (by decide) ?_
    refine g_istore (pc' := 46) (Ls' := #[.val (.int p1), .val (.int (2 : Int32)), .val (.ref w_SAFETY), .val (.int (1 : Int32)), .val (.int (1 : Int32)), .val (.int (1 : Int32))]) C X10 at_44 rfl rfl ?_
    refine g_iload (pc' := 48) C X10 at_46 rfl rfl ?_
    refine g_iloadN (pc' := 49) C X10 at_48 rfl rfl ?_
    refine g_icmpN (pc' := 52) C X10 at_49 (teq (show (1 : Int32) = (1 : Int32) from (by decide))).2 rfl ?_
    refine g_iload (pc' := 54) C X10 at_52 rfl rfl ?_
    refine g_iload (pc' := 56) C X10 at_54 rfl rfl ?_
    refine g_icmpN (pc' := 59) C X10 at_56 (teq (show (1 : Int32) = (1 : Int32) from (by decide))).2 rfl ?_
    refine g_iconst (pc' := 60) (v := (1 : Int32)) C X10 at_59 rfl rfl ?_
    refine g_goto (pc' := 64) C X10 at_60 (by decide) (by decide) ?_
    exact g_retN C X10 (by simp) at_64 (by decide) (by decide) ⟨rfl, N10⟩
  · refine own_cast (show T0.setTop (mkF m 5 #[.val (.int p1), .val (.int (p1 &&& (7 : Int32))), .unset, .unset, .unset, .unset] []) = T0.setTop (mkF m 5 #[.val (.int p1), .val (.int (3 : Int32)), .unset, .unset, .unset, .unset] []) from by rw [s1]) ?_
    refine g_iloadN (pc' := 6) C X0 at_5 rfl rfl ?_
    refine g_callS (y := (⟨"com/example/talence/talence/cli/ObjectiveNeedsTargetPinLaw", "pick", "(I)Lcom/example/talence/talence/cli/Objective;"⟩ : MethodName)) (argsL := [(.int (3 : Int32))]) (st := []) (pc' := 9) C X0 at_6 (hw _ (List.mem_of_getElem? (i := 0) rfl)) (hw _ (List.mem_of_getElem? (i := 1) rfl)) (hw _ (List.mem_of_getElem? (i := 2) rfl)) (hw _ (List.mem_of_getElem? (i := 3) rfl)) (by decide) (rm1 l Z a0 hw [] (3 : Int32) w_PARITY w_BUCHI w_BUCHIx w_WEAK_MULLER w_MULLER w_SAFETY w_SAFETYx w_REACH w_REACHx w_COBUCHI w_COBUCHIx w_WEAK_PARITY h0 n0 hF) (W := 0) (by decide) (by decide) (ce := 0) (sl := 0) rfl rfl (by decide) (by decide) rfl e0 rfl pd_0 rfl (Nat.le_refl _) rfl (fun v11 T11 L11 X11 Q11 => ?_)
    obtain ⟨q11, Nq11, e11⟩ := Q11
    have N11 := Fr.app N0 Nq11
    rw [F1_l3 (3 : Int32) w_PARITY w_BUCHI w_WEAK_MULLER w_MULLER w_SAFETY w_REACH w_COBUCHI w_WEAK_PARITY (show ¬ ((3 : Int32) = (0 : Int32)) from (by decide)) (show ¬ ((3 : Int32) = (1 : Int32)) from (by decide)) (show ¬ ((3 : Int32) = (2 : Int32)) from (by decide)) (show (3 : Int32) = (3 : Int32) from (by decide))] at q11
    subst q11
    show Go p.tables e below _ (T11.setTop (mkF m 9 #[.val (.int p1), .val (.int (3 : Int32)), .unset, .unset, .unset, .unset] [(.ref w_BUCHI)]))
    refine g_astoreN (pc' := 10) (Ls' := #[.val (.int p1), .val (.int (3 : Int32)), .val (.ref w_BUCHI), .unset, .unset, .unset]) C X11 at_9 rfl rfl rfl ?_
    refine g_iloadN (pc' := 11) C X11 at_10 rfl rfl ?_
    refine g_iconst (pc' := 12) (v := (1 : Int32)) C X11 at_11 rfl rfl ?_
    refine g_icmpN (pc' := 15) C X11 at_12 (flt (show ¬ ((3 : Int32) < (1 : Int32)) from (by decide))).1 rfl ?_
    refine g_iloadN (pc' := 16) C X11 at_15 rfl rfl ?_
    refine g_iconst (pc' := 17) (v := (4 : Int32)) C X11 at_16 rfl rfl ?_
    refine g_icmpN (pc' := 20) C X11 at_17 (flt (show ¬ ((4 : Int32) < (3 : Int32)) from (by decide))).2.2.1 rfl ?_
    refine g_iconst (pc' := 21) (v := (1 : Int32)) C X11 at_20 rfl rfl ?_
    refine g_goto (pc' := 25) C X11 at_21 (by decide) (by decide) ?_
    refine g_istoreN (pc' := 26) (Ls' := #[.val (.int p1), .val (.int (3 : Int32)), .val (.ref w_BUCHI), .val (.int (1 : Int32)), .unset, .unset]) C X11 at_25 rfl rfl ?_
    refine g_aloadN (pc' := 27) C X11 at_26 rfl rfl rfl ?_
    refine g_callV (b := w_BUCHI) (z := (⟨"com/example/talence/talence/cli/Objective", "needsTarget", "()Z"⟩ : MethodName)) (y := (⟨"com/example/talence/talence/cli/Objective", "needsTarget", "()Z"⟩ : MethodName)) (argsL := []) (st := []) (pc' := 30) C X11 at_27 (hw _ (List.mem_of_getElem? (i := 7) rfl)) (hw _ (List.mem_of_getElem? (i := 8) rfl)) (notFace_of_selects (args := #[]) (mvT C.hZ (hw _ (List.mem_of_getElem? (i := 10) rfl)))) (hw _ (List.mem_of_getElem? (i := 10) rfl)) (hw _ (List.mem_of_getElem? (i := 9) rfl)) (hw _ (List.mem_of_getElem? (i := 5) rfl)) (hw _ (List.mem_of_getElem? (i := 11) rfl)) (by decide) (rm2r l Z a0 hw [] w_BUCHI w_BUCHIx w_PARITY w_BUCHI w_BUCHIx w_WEAK_MULLER w_MULLER w_SAFETY w_SAFETYx w_REACH w_REACHx w_COBUCHI w_COBUCHIx w_WEAK_PARITY h0 n0 hF F_target_w_BUCHI) (W := 0) (by decide) (by decide) (ce := 0) (sl := 0) rfl rfl (by decide) (by decide) rfl E_w_BUCHI e11 rfl pd_1 rfl (Nat.le_refl _) rfl (fun v12 T12 L12 X12 Q12 => ?_)
    obtain ⟨q12, Nq12, e12⟩ := Q12
    have N12 := Fr.app N11 Nq12
    rw [F2r_l0 ] at q12
    subst q12
    show Go p.tables e below _ (T12.setTop (mkF m 30 #[.val (.int p1), .val (.int (3 : Int32)), .val (.ref w_BUCHI), .val (.int (1 : Int32)), .unset, .unset] [(.int (1 : Int32))]))
    refine g_istore (pc' := 32) (Ls' := #[.val (.int p1), .val (.int (3 : Int32)), .val (.ref w_BUCHI), .val (.int (1 : Int32)), .val (.int (1 : Int32)), .unset]) C X12 at_30 rfl rfl ?_
    refine g_aloadN (pc' := 33) C X12 at_32 rfl rfl rfl ?_
    refine g_callV (b := w_BUCHI) (z := (⟨"com/example/talence/talence/cli/Objective", "getTarget", "()Lcom/example/talence/talence/games/TargetCondition$Objective;"⟩ : MethodName)) (y := (⟨"com/example/talence/talence/cli/Objective", "getTarget", "()Lcom/example/talence/talence/games/TargetCondition$Objective;"⟩ : MethodName)) (argsL := []) (st := []) (pc' := 36) C X12 at_33 (hw _ (List.mem_of_getElem? (i := 14) rfl)) (hw _ (List.mem_of_getElem? (i := 15) rfl)) (notFace_of_selects (args := #[]) (mvT C.hZ (hw _ (List.mem_of_getElem? (i := 17) rfl)))) (hw _ (List.mem_of_getElem? (i := 17) rfl)) (hw _ (List.mem_of_getElem? (i := 16) rfl)) (hw _ (List.mem_of_getElem? (i := 5) rfl)) (hw _ (List.mem_of_getElem? (i := 18) rfl)) (by decide) (rm3r l Z a0 hw [] w_BUCHI w_BUCHIx w_PARITY w_BUCHI w_BUCHIx w_WEAK_MULLER w_MULLER w_SAFETY w_SAFETYx w_REACH w_REACHx w_COBUCHI w_COBUCHIx w_WEAK_PARITY h0 n0 hF F_target_w_BUCHI) (W := 0) (by decide) (by decide) (ce := 0) (sl := 0) rfl rfl (by decide) (by decide) rfl E_w_BUCHI e12 rfl pd_2 rfl (Nat.le_refl _) rfl (fun v13 T13 L13 X13 Q13 => ?_)
    obtain ⟨q13, Nq13, e13⟩ := Q13
    have N13 := Fr.app N12 Nq13
    rw [F3r_l0 w_BUCHIx] at q13
    subst q13
    show Go p.tables e below _ (T13.setTop (mkF m 36 #[.val (.int p1), .val (.int (3 : Int32)), .val (.ref w_BUCHI), .val (.int (1 : Int32)), .val (.int (1 : Int32)), .unset] [(.ref w_BUCHIx)]))
    refine g_ifnullN (pc' := 39) C X13 at_36 rfl ?_
    refine g_iconst (pc' := 40) (v := (1 : Int32)) C X13 at_39 rfl rfl ?_
    refine g_goto (pc' := 44) C X13 at_40 (by decide) (by decide) ?_
    refine g_istore (pc' := 46) (Ls' := #[.val (.int p1), .val (.int (3 : Int32)), .val (.ref w_BUCHI), .val (.int (1 : Int32)), .val (.int (1 : Int32)), .val (.int (1 : Int32))]) C X13 at_44 rfl rfl ?_
    refine g_iload (pc' := 48) C X13 at_46 rfl rfl ?_
    refine g_iloadN (pc' := 49) C X13 at_48 rfl rfl ?_
    refine g_icmpN (pc' := 52) C X13 at_49 (teq (show (1 : Int32) = (1 : Int32) from (by decide))).2 rfl ?_
    refine g_iload (pc' := 54) C X13 at_52 rfl rfl ?_
    refine g_iload (pc' := 56) C X13 at_54 rfl rfl ?_
    refine g_icmpN (pc' := 59) C X13 at_56 (teq (show (1 : Int32) = (1 : Int32) from (by decide))).2 rfl ?_
    refine g_iconst (pc' := 60) (v := (1 : Int32)) C X13 at_59 rfl rfl ?_
    refine g_goto (pc' := 64) C X13 at_60 (by decide) (by decide) ?_
    exact g_retN C X13 (by simp) at_64 (by decide) (by decide) ⟨rfl, N13⟩
  · refine own_cast (show T0.setTop (mkF m 5 #[.val (.int p1), .val (.int (p1 &&& (7 : Int32))), .unset, .unset, .unset, .unset] []) = T0.setTop (mkF m 5 #[.val (.int p1), .val (.int (4 : Int32)), .unset, .unset, .unset, .unset] []) from by rw [s1]) ?_
    refine g_iloadN (pc' := 6) C X0 at_5 rfl rfl ?_
    refine g_callS (y := (⟨"com/example/talence/talence/cli/ObjectiveNeedsTargetPinLaw", "pick", "(I)Lcom/example/talence/talence/cli/Objective;"⟩ : MethodName)) (argsL := [(.int (4 : Int32))]) (st := []) (pc' := 9) C X0 at_6 (hw _ (List.mem_of_getElem? (i := 0) rfl)) (hw _ (List.mem_of_getElem? (i := 1) rfl)) (hw _ (List.mem_of_getElem? (i := 2) rfl)) (hw _ (List.mem_of_getElem? (i := 3) rfl)) (by decide) (rm1 l Z a0 hw [] (4 : Int32) w_PARITY w_BUCHI w_BUCHIx w_WEAK_MULLER w_MULLER w_SAFETY w_SAFETYx w_REACH w_REACHx w_COBUCHI w_COBUCHIx w_WEAK_PARITY h0 n0 hF) (W := 0) (by decide) (by decide) (ce := 0) (sl := 0) rfl rfl (by decide) (by decide) rfl e0 rfl pd_0 rfl (Nat.le_refl _) rfl (fun v14 T14 L14 X14 Q14 => ?_)
    obtain ⟨q14, Nq14, e14⟩ := Q14
    have N14 := Fr.app N0 Nq14
    rw [F1_l4 (4 : Int32) w_PARITY w_BUCHI w_WEAK_MULLER w_MULLER w_SAFETY w_REACH w_COBUCHI w_WEAK_PARITY (show ¬ ((4 : Int32) = (0 : Int32)) from (by decide)) (show ¬ ((4 : Int32) = (1 : Int32)) from (by decide)) (show ¬ ((4 : Int32) = (2 : Int32)) from (by decide)) (show ¬ ((4 : Int32) = (3 : Int32)) from (by decide)) (show (4 : Int32) = (4 : Int32) from (by decide))] at q14
    subst q14
    show Go p.tables e below _ (T14.setTop (mkF m 9 #[.val (.int p1), .val (.int (4 : Int32)), .unset, .unset, .unset, .unset] [(.ref w_COBUCHI)]))
    refine g_astoreN (pc' := 10) (Ls' := #[.val (.int p1), .val (.int (4 : Int32)), .val (.ref w_COBUCHI), .unset, .unset, .unset]) C X14 at_9 rfl rfl rfl ?_
    refine g_iloadN (pc' := 11) C X14 at_10 rfl rfl ?_
    refine g_iconst (pc' := 12) (v := (1 : Int32)) C X14 at_11 rfl rfl ?_
    refine g_icmpN (pc' := 15) C X14 at_12 (flt (show ¬ ((4 : Int32) < (1 : Int32)) from (by decide))).1 rfl ?_
    refine g_iloadN (pc' := 16) C X14 at_15 rfl rfl ?_
    refine g_iconst (pc' := 17) (v := (4 : Int32)) C X14 at_16 rfl rfl ?_
    refine g_icmpN (pc' := 20) C X14 at_17 (flt (show ¬ ((4 : Int32) < (4 : Int32)) from (by decide))).2.2.1 rfl ?_
    refine g_iconst (pc' := 21) (v := (1 : Int32)) C X14 at_20 rfl rfl ?_
    refine g_goto (pc' := 25) C X14 at_21 (by decide) (by decide) ?_
    refine g_istoreN (pc' := 26) (Ls' := #[.val (.int p1), .val (.int (4 : Int32)), .val (.ref w_COBUCHI), .val (.int (1 : Int32)), .unset, .unset]) C X14 at_25 rfl rfl ?_
    refine g_aloadN (pc' := 27) C X14 at_26 rfl rfl rfl ?_
    refine g_callV (b := w_COBUCHI) (z := (⟨"com/example/talence/talence/cli/Objective", "needsTarget", "()Z"⟩ : MethodName)) (y := (⟨"com/example/talence/talence/cli/Objective", "needsTarget", "()Z"⟩ : MethodName)) (argsL := []) (st := []) (pc' := 30) C X14 at_27 (hw _ (List.mem_of_getElem? (i := 7) rfl)) (hw _ (List.mem_of_getElem? (i := 8) rfl)) (notFace_of_selects (args := #[]) (mvT C.hZ (hw _ (List.mem_of_getElem? (i := 10) rfl)))) (hw _ (List.mem_of_getElem? (i := 10) rfl)) (hw _ (List.mem_of_getElem? (i := 9) rfl)) (hw _ (List.mem_of_getElem? (i := 5) rfl)) (hw _ (List.mem_of_getElem? (i := 11) rfl)) (by decide) (rm2r l Z a0 hw [] w_COBUCHI w_COBUCHIx w_PARITY w_BUCHI w_BUCHIx w_WEAK_MULLER w_MULLER w_SAFETY w_SAFETYx w_REACH w_REACHx w_COBUCHI w_COBUCHIx w_WEAK_PARITY h0 n0 hF F_target_w_COBUCHI) (W := 0) (by decide) (by decide) (ce := 0) (sl := 0) rfl rfl (by decide) (by decide) rfl E_w_COBUCHI e14 rfl pd_1 rfl (Nat.le_refl _) rfl (fun v15 T15 L15 X15 Q15 => ?_)
    obtain ⟨q15, Nq15, e15⟩ := Q15
    have N15 := Fr.app N14 Nq15
    rw [F2r_l0 ] at q15
    subst q15
    show Go p.tables e below _ (T15.setTop (mkF m 30 #[.val (.int p1), .val (.int (4 : Int32)), .val (.ref w_COBUCHI), .val (.int (1 : Int32)), .unset, .unset] [(.int (1 : Int32))]))
    refine g_istore (pc' := 32) (Ls' := #[.val (.int p1), .val (.int (4 : Int32)), .val (.ref w_COBUCHI), .val (.int (1 : Int32)), .val (.int (1 : Int32)), .unset]) C X15 at_30 rfl rfl ?_
    refine g_aloadN (pc' := 33) C X15 at_32 rfl rfl rfl ?_
    refine g_callV (b := w_COBUCHI) (z := (⟨"com/example/talence/talence/cli/Objective", "getTarget", "()Lcom/example/talence/talence/games/TargetCondition$Objective;"⟩ : MethodName)) (y := (⟨"com/example/talence/talence/cli/Objective", "getTarget", "()Lcom/example/talence/talence/games/TargetCondition$Objective;"⟩ : MethodName)) (argsL := []) (st := []) (pc' := 36) C X15 at_33 (hw _ (List.mem_of_getElem? (i := 14) rfl)) (hw _ (List.mem_of_getElem? (i := 15) rfl)) (notFace_of_selects (args := #[]) (mvT C.hZ (hw _ (List.mem_of_getElem? (i := 17) rfl)))) (hw _ (List.mem_of_getElem? (i := 17) rfl)) (hw _ (List.mem_of_getElem? (i := 16) rfl)) (hw _ (List.mem_of_getElem? (i := 5) rfl)) (hw _ (List.mem_of_getElem? (i := 18) rfl)) (by decide) (rm3r l Z a0 hw [] w_COBUCHI w_COBUCHIx w_PARITY w_BUCHI w_BUCHIx w_WEAK_MULLER w_MULLER w_SAFETY w_SAFETYx w_REACH w_REACHx w_COBUCHI w_COBUCHIx w_WEAK_PARITY h0 n0 hF F_target_w_COBUCHI) (W := 0) (by decide) (by decide) (ce := 0) (sl := 0) rfl rfl (by decide) (by decide) rfl E_w_COBUCHI e15 rfl pd_2 rfl (Nat.le_refl _) rfl (fun v16 T16 L16 X16 Q16 => ?_)
    obtain ⟨q16, Nq16, e16⟩ := Q16
    have N16 := Fr.app N15 Nq16
    rw [F3r_l0 w_COBUCHIx] at q16
    subst q16
    show Go p.tables e below _ (T16.setTop (mkF m 36 #[.val (.int p1), .val (.int (4 : Int32)), .val (.ref w_COBUCHI), .val (.int (1 : Int32)), .val (.int (1 : Int32)), .unset] [(.ref w_COBUCHIx)]))
    refine g_ifnullN (pc' := 39) C X16 at_36 rfl ?_
    refine g_iconst (pc' := 40) (v := (1 : Int32)) C X16 at_39 rfl rfl ?_
    refine g_goto (pc' := 44) C X16 at_40 (by decide) (by decide) ?_
    refine g_istore (pc' := 46) (Ls' := #[.val (.int p1), .val (.int (4 : Int32)), .val (.ref w_COBUCHI), .val (.int (1 : Int32)), .val (.int (1 : Int32)), .val (.int (1 : Int32))]) C X16 at_44 rfl rfl ?_
    refine g_iload (pc' := 48) C X16 at_46 rfl rfl ?_
    refine g_iloadN (pc' := 49) C X16 at_48 rfl rfl ?_
    refine g_icmpN (pc' := 52) C X16 at_49 (teq (show (1 : Int32) = (1 : Int32) from (by decide))).2 rfl ?_
    refine g_iload (pc' := 54) C X16 at_52 rfl rfl ?_
    refine g_iload (pc' := 56) C X16 at_54 rfl rfl ?_
    refine g_icmpN (pc' := 59) C X16 at_56 (teq (show (1 : Int32) = (1 : Int32) from (by decide))).2 rfl ?_
    refine g_iconst (pc' := 60) (v := (1 : Int32)) C X16 at_59 rfl rfl ?_
    refine g_goto (pc' := 64) C X16 at_60 (by decide) (by decide) ?_
    exact g_retN C X16 (by simp) at_64 (by decide) (by decide) ⟨rfl, N16⟩
  · refine own_cast (show T0.setTop (mkF m 5 #[.val (.int p1), .val (.int (p1 &&& (7 : Int32))), .unset, .unset, .unset, .unset] []) = T0.setTop (mkF m 5 #[.val (.int p1), .val (.int (5 : Int32)), .unset, .unset, .unset, .unset] []) from by rw [s1]) ?_
    refine g_iloadN (pc' := 6) C X0 at_5 rfl rfl ?_
    refine g_callS (y := (⟨"com/example/talence/talence/cli/ObjectiveNeedsTargetPinLaw", "pick", "(I)Lcom/example/talence/talence/cli/Objective;"⟩ : MethodName)) (argsL := [(.int (5 : Int32))]) (st := []) (pc' := 9) C X0 at_6 (hw _ (List.mem_of_getElem? (i := 0) rfl)) (hw _ (List.mem_of_getElem? (i := 1) rfl)) (hw _ (List.mem_of_getElem? (i := 2) rfl)) (hw _ (List.mem_of_getElem? (i := 3) rfl)) (by decide) (rm1 l Z a0 hw [] (5 : Int32) w_PARITY w_BUCHI w_BUCHIx w_WEAK_MULLER w_MULLER w_SAFETY w_SAFETYx w_REACH w_REACHx w_COBUCHI w_COBUCHIx w_WEAK_PARITY h0 n0 hF) (W := 0) (by decide) (by decide) (ce := 0) (sl := 0) rfl rfl (by decide) (by decide) rfl e0 rfl pd_0 rfl (Nat.le_refl _) rfl (fun v17 T17 L17 X17 Q17 => ?_)
    obtain ⟨q17, Nq17, e17⟩ := Q17
    have N17 := Fr.app N0 Nq17
    rw [F1_l5 (5 : Int32) w_PARITY w_BUCHI w_WEAK_MULLER w_MULLER w_SAFETY w_REACH w_COBUCHI w_WEAK_PARITY (show ¬ ((5 : Int32) = (0 : Int32)) from (by decide)) (show ¬ ((5 : Int32) = (1 : Int32)) from (by decide)) (show ¬ ((5 : Int32) = (2 : Int32)) from (by decide)) (show ¬ ((5 : Int32) = (3 : Int32)) from (by decide)) (show ¬ ((5 : Int32) = (4 : Int32)) from (by decide)) (show (5 : Int32) = (5 : Int32) from (by decide))] at q17
    subst q17
    show Go p.tables e below _ (T17.setTop (mkF m 9 #[.val (.int p1), .val (.int (5 : Int32)), .unset, .unset, .unset, .unset] [(.ref w_WEAK_PARITY)]))
    refine g_astoreN (pc' := 10) (Ls' := #[.val (.int p1), .val (.int (5 : Int32)), .val (.ref w_WEAK_PARITY), .unset, .unset, .unset]) C X17 at_9 rfl rfl rfl ?_
    refine g_iloadN (pc' := 11) C X17 at_10 rfl rfl ?_
    refine g_iconst (pc' := 12) (v := (1 : Int32)) C X17 at_11 rfl rfl ?_
    refine g_icmpN (pc' := 15) C X17 at_12 (flt (show ¬ ((5 : Int32) < (1 : Int32)) from (by decide))).1 rfl ?_
    refine g_iloadN (pc' := 16) C X17 at_15 rfl rfl ?_
    refine g_iconst (pc' := 17) (v := (4 : Int32)) C X17 at_16 rfl rfl ?_
    refine g_icmpY (pc' := 24) C X17 at_17 (tlt (show (4 : Int32) < (5 : Int32) from (by decide))).2.2.1 (by decide) (by decide) ?_
    refine g_iconst (pc' := 25) (v := (0 : Int32)) C X17 at_24 rfl rfl ?_
    refine g_istoreN (pc' := 26) (Ls' := #[.val (.int p1), .val (.int (5 : Int32)), .val (.ref w_WEAK_PARITY), .val (.int (0 : Int32)), .unset, .unset]) C X17 at_25 rfl rfl ?_
    refine g_aloadN (pc' := 27) C X17 at_26 rfl rfl rfl ?_
    refine g_callV (b := w_WEAK_PARITY) (z := (⟨"com/example/talence/talence/cli/Objective", "needsTarget", "()Z"⟩ : MethodName)) (y := (⟨"com/example/talence/talence/cli/Objective", "needsTarget", "()Z"⟩ : MethodName)) (argsL := []) (st := []) (pc' := 30) C X17 at_27 (hw _ (List.mem_of_getElem? (i := 7) rfl)) (hw _ (List.mem_of_getElem? (i := 8) rfl)) (notFace_of_selects (args := #[]) (mvT C.hZ (hw _ (List.mem_of_getElem? (i := 10) rfl)))) (hw _ (List.mem_of_getElem? (i := 10) rfl)) (hw _ (List.mem_of_getElem? (i := 9) rfl)) (hw _ (List.mem_of_getElem? (i := 5) rfl)) (hw _ (List.mem_of_getElem? (i := 11) rfl)) (by decide) (rm2n l Z a0 hw [] w_WEAK_PARITY w_PARITY w_BUCHI w_BUCHIx w_WEAK_MULLER w_MULLER w_SAFETY w_SAFETYx w_REACH w_REACHx w_COBUCHI w_COBUCHIx w_WEAK_PARITY h0 n0 hF F_target_w_WEAK_PARITY) (W := 0) (by decide) (by decide) (ce := 0) (sl := 0) rfl rfl (by decide) (by decide) rfl E_w_WEAK_PARITY e17 rfl pd_1 rfl (Nat.le_refl _) rfl (fun v18 T18 L18 X18 Q18 => ?_)
    obtain ⟨q18, Nq18, e18⟩ := Q18
    have N18 := Fr.app N17 Nq18
    rw [F2n_l0 ] at q18
    subst q18
    show Go p.tables e below _ (T18.setTop (mkF m 30 #[.val (.int p1), .val (.int (5 : Int32)), .val (.ref w_WEAK_PARITY), .val (.int (0 : Int32)), .unset, .unset] [(.int (0 : Int32))]))
    refine g_istore (pc' := 32) (Ls' := #[.val (.int p1), .val (.int (5 : Int32)), .val (.ref w_WEAK_PARITY), .val (.int (0 : Int32)), .val (.int (0 : Int32)), .unset]) C X18 at_30 rfl rfl ?_
    refine g_aloadN (pc' := 33) C X18 at_32 rfl rfl rfl ?_
    refine g_callV (b := w_WEAK_PARITY) (z := (⟨"com/example/talence/talence/cli/Objective", "getTarget", "()Lcom/example/talence/talence/games/TargetCondition$Objective;"⟩ : MethodName)) (y := (⟨"com/example/talence/talence/cli/Objective", "getTarget", "()Lcom/example/talence/talence/games/TargetCondition$Objective;"⟩ : MethodName)) (argsL := []) (st := []) (pc' := 36) C X18 at_33 (hw _ (List.mem_of_getElem? (i := 14) rfl)) (hw _ (List.mem_of_getElem? (i := 15) rfl)) (notFace_of_selects (args := #[]) (mvT C.hZ (hw _ (List.mem_of_getElem? (i := 17) rfl)))) (hw _ (List.mem_of_getElem? (i := 17) rfl)) (hw _ (List.mem_of_getElem? (i := 16) rfl)) (hw _ (List.mem_of_getElem? (i := 5) rfl)) (hw _ (List.mem_of_getElem? (i := 18) rfl)) (by decide) (rm3n l Z a0 hw [] w_WEAK_PARITY w_PARITY w_BUCHI w_BUCHIx w_WEAK_MULLER w_MULLER w_SAFETY w_SAFETYx w_REACH w_REACHx w_COBUCHI w_COBUCHIx w_WEAK_PARITY h0 n0 hF F_target_w_WEAK_PARITY) (W := 0) (by decide) (by decide) (ce := 0) (sl := 0) rfl rfl (by decide) (by decide) rfl E_w_WEAK_PARITY e18 rfl pd_2 rfl (Nat.le_refl _) rfl (fun v19 T19 L19 X19 Q19 => ?_)
    obtain ⟨q19, Nq19, e19⟩ := Q19
    have N19 := Fr.app N18 Nq19
    rw [F3n_l0 ] at q19
    subst q19
    show Go p.tables e below _ (T19.setTop (mkF m 36 #[.val (.int p1), .val (.int (5 : Int32)), .val (.ref w_WEAK_PARITY), .val (.int (0 : Int32)), .val (.int (0 : Int32)), .unset] [.null]))
    refine g_ifnullY (pc' := 43) C X19 at_36 (by decide) (by decide) ?_
    refine g_iconst (pc' := 44) (v := (0 : Int32)) C X19 at_43 rfl rfl ?_
    refine g_istore (pc' := 46) (Ls' := #[.val (.int p1), .val (.int (5 : Int32)), .val (.ref w_WEAK_PARITY), .val (.int (0 : Int32)), .val (.int (0 : Int32)), .val (.int (0 : Int32))]) C X19 at_44 rfl rfl ?_
    refine g_iload (pc' := 48) C X19 at_46 rfl rfl ?_
    refine g_iloadN (pc' := 49) C X19 at_48 rfl rfl ?_
    refine g_icmpN (pc' := 52) C X19 at_49 (teq (show (0 : Int32) = (0 : Int32) from (by decide))).2 rfl ?_
    refine g_iload (pc' := 54) C X19 at_52 rfl rfl ?_
    refine g_iload (pc' := 56) C X19 at_54 rfl rfl ?_
    refine g_icmpN (pc' := 59) C X19 at_56 (teq (show (0 : Int32) = (0 : Int32) from (by decide))).2 rfl ?_
    refine g_iconst (pc' := 60) (v := (1 : Int32)) C X19 at_59 rfl rfl ?_
    refine g_goto (pc' := 64) C X19 at_60 (by decide) (by decide) ?_
    exact g_retN C X19 (by simp) at_64 (by decide) (by decide) ⟨rfl, N19⟩
  · refine own_cast (show T0.setTop (mkF m 5 #[.val (.int p1), .val (.int (p1 &&& (7 : Int32))), .unset, .unset, .unset, .unset] []) = T0.setTop (mkF m 5 #[.val (.int p1), .val (.int (6 : Int32)), .unset, .unset, .unset, .unset] []) from by rw [s1]) ?_
    refine g_iloadN (pc' := 6) C X0 at_5 rfl rfl ?_
    refine g_callS (y := (⟨"com/example/talence/talence/cli/ObjectiveNeedsTargetPinLaw", "pick", "(I)Lcom/example/talence/talence/cli/Objective;"⟩ : MethodName)) (argsL := [(.int (6 : Int32))]) (st := []) (pc' := 9) C X0 at_6 (hw _ (List.mem_of_getElem? (i := 0) rfl)) (hw _ (List.mem_of_getElem? (i := 1) rfl)) (hw _ (List.mem_of_getElem? (i := 2) rfl)) (hw _ (List.mem_of_getElem? (i := 3) rfl)) (by decide) (rm1 l Z a0 hw [] (6 : Int32) w_PARITY w_BUCHI w_BUCHIx w_WEAK_MULLER w_MULLER w_SAFETY w_SAFETYx w_REACH w_REACHx w_COBUCHI w_COBUCHIx w_WEAK_PARITY h0 n0 hF) (W := 0) (by decide) (by decide) (ce := 0) (sl := 0) rfl rfl (by decide) (by decide) rfl e0 rfl pd_0 rfl (Nat.le_refl _) rfl (fun v20 T20 L20 X20 Q20 => ?_)
    obtain ⟨q20, Nq20, e20⟩ := Q20
    have N20 := Fr.app N0 Nq20
    rw [F1_l6 (6 : Int32) w_PARITY w_BUCHI w_WEAK_MULLER w_MULLER w_SAFETY w_REACH w_COBUCHI w_WEAK_PARITY (show ¬ ((6 : Int32) = (0 : Int32)) from (by decide)) (show ¬ ((6 : Int32) = (1 : Int32)) from (by decide)) (show ¬ ((6 : Int32) = (2 : Int32)) from (by decide)) (show ¬ ((6 : Int32) = (3 : Int32)) from (by decide)) (show ¬ ((6 : Int32) = (4 : Int32)) from (by decide)) (show ¬ ((6 : Int32) = (5 : Int32)) from (by decide)) (show (6 : Int32) = (6 : Int32) from (by decide))] at q20
    subst q20
    show Go p.tables e below _ (T20.setTop (mkF m 9 #[.val (.int p1), .val (.int (6 : Int32)), .unset, .unset, .unset, .unset] [(.ref w_WEAK_MULLER)]))
    refine g_astoreN (pc' := 10) (Ls' := #[.val (.int p1), .val (.int (6 : Int32)), .val (.ref w_WEAK_MULLER), .unset, .unset, .unset]) C X20 at_9 rfl rfl rfl ?_
    refine g_iloadN (pc' := 11) C X20 at_10 rfl rfl ?_
    refine g_iconst (pc' := 12) (v := (1 : Int32)) C X20 at_11 rfl rfl ?_
    refine g_icmpN (pc' := 15) C X20 at_12 (flt (show ¬ ((6 : Int32) < (1 : Int32)) from (by decide))).1 rfl ?_
    refine g_iloadN (pc' := 16) C X20 at_15 rfl rfl ?_
    refine g_iconst (pc' := 17) (v := (4 : Int32)) C X20 at_16 rfl rfl ?_
    refine g_icmpY (pc' := 24) C X20 at_17 (tlt (show (4 : Int32) < (6 : Int32) from (by decide))).2.2.1 (by decide) (by decide) ?_
    refine g_iconst (pc' := 25) (v := (0 : Int32)) C X20 at_24 rfl rfl ?_
    refine g_istoreN (pc' := 26) (Ls' := #[.val (.int p1), .val (.int (6 : Int32)), .val (.ref w_WEAK_MULLER), .val (.int (0 : Int32)), .unset, .unset]) C X20 at_25 rfl rfl ?_
    refine g_aloadN (pc' := 27) C X20 at_26 rfl rfl rfl ?_
    refine g_callV (b := w_WEAK_MULLER) (z := (⟨"com/example/talence/talence/cli/Objective", "needsTarget", "()Z"⟩ : MethodName)) (y := (⟨"com/example/talence/talence/cli/Objective", "needsTarget", "()Z"⟩ : MethodName)) (argsL := []) (st := []) (pc' := 30) C X20 at_27 (hw _ (List.mem_of_getElem? (i := 7) rfl)) (hw _ (List.mem_of_getElem? (i := 8) rfl)) (notFace_of_selects (args := #[]) (mvT C.hZ (hw _ (List.mem_of_getElem? (i := 10) rfl)))) (hw _ (List.mem_of_getElem? (i := 10) rfl)) (hw _ (List.mem_of_getElem? (i := 9) rfl)) (hw _ (List.mem_of_getElem? (i := 5) rfl)) (hw _ (List.mem_of_getElem? (i := 11) rfl)) (by decide) (rm2n l Z a0 hw [] w_WEAK_MULLER w_PARITY w_BUCHI w_BUCHIx w_WEAK_MULLER w_MULLER w_SAFETY w_SAFETYx w_REACH w_REACHx w_COBUCHI w_COBUCHIx w_WEAK_PARITY h0 n0 hF F_target_w_WEAK_MULLER) (W := 0) (by decide) (by decide) (ce := 0) (sl := 0) rfl rfl (by decide) (by decide) rfl E_w_WEAK_MULLER e20 rfl pd_1 rfl (Nat.le_refl _) rfl (fun v21 T21 L21 X21 Q21 => ?_)
    obtain ⟨q21, Nq21, e21⟩ := Q21
    have N21 := Fr.app N20 Nq21
    rw [F2n_l0 ] at q21
    subst q21
    show Go p.tables e below _ (T21.setTop (mkF m 30 #[.val (.int p1), .val (.int (6 : Int32)), .val (.ref w_WEAK_MULLER), .val (.int (0 : Int32)), .unset, .unset] [(.int (0 : Int32))]))
    refine g_istore (pc' := 32) (Ls' := #[.val (.int p1), .val (.int (6 : Int32)), .val (.ref w_WEAK_MULLER), .val (.int (0 : Int32)), .val (.int (0 : Int32)), .unset]) C X21 at_30 rfl rfl ?_
    refine g_aloadN (pc' := 33) C X21 at_32 rfl rfl rfl ?_
    refine g_callV (b := w_WEAK_MULLER) (z := (⟨"com/example/talence/talence/cli/Objective", "getTarget", "()Lcom/example/talence/talence/games/TargetCondition$Objective;"⟩ : MethodName)) (y := (⟨"com/example/talence/talence/cli/Objective", "getTarget", "()Lcom/example/talence/talence/games/TargetCondition$Objective;"⟩ : MethodName)) (argsL := []) (st := []) (pc' := 36) C X21 at_33 (hw _ (List.mem_of_getElem? (i := 14) rfl)) (hw _ (List.mem_of_getElem? (i := 15) rfl)) (notFace_of_selects (args := #[]) (mvT C.hZ (hw _ (List.mem_of_getElem? (i := 17) rfl)))) (hw _ (List.mem_of_getElem? (i := 17) rfl)) (hw _ (List.mem_of_getElem? (i := 16) rfl)) (hw _ (List.mem_of_getElem? (i := 5) rfl)) (hw _ (List.mem_of_getElem? (i := 18) rfl)) (by decide) (rm3n l Z a0 hw [] w_WEAK_MULLER w_PARITY w_BUCHI w_BUCHIx w_WEAK_MULLER w_MULLER w_SAFETY w_SAFETYx w_REACH w_REACHx w_COBUCHI w_COBUCHIx w_WEAK_PARITY h0 n0 hF F_target_w_WEAK_MULLER) (W := 0) (by decide) (by decide) (ce := 0) (sl := 0) rfl rfl (by decide) (by decide) rfl E_w_WEAK_MULLER e21 rfl pd_2 rfl (Nat.le_refl _) rfl (fun v22 T22 L22 X22 Q22 => ?_)
    obtain ⟨q22, Nq22, e22⟩ := Q22
    have N22 := Fr.app N21 Nq22
    rw [F3n_l0 ] at q22
    subst q22
    show Go p.tables e below _ (T22.setTop (mkF m 36 #[.val (.int p1), .val (.int (6 : Int32)), .val (.ref w_WEAK_MULLER), .val (.int (0 : Int32)), .val (.int (0 : Int32)), .unset] [.null]))
    refine g_ifnullY (pc' := 43) C X22 at_36 (by decide) (by decide) ?_
    refine g_iconst (pc' := 44) (v := (0 : Int32)) C X22 at_43 rfl rfl ?_
    refine g_istore (pc' := 46) (Ls' := #[.val (.int p1), .val (.int (6 : Int32)), .val (.ref w_WEAK_MULLER), .val (.int (0 : Int32)), .val (.int (0 : Int32)), .val (.int (0 : Int32))]) C X22 at_44 rfl rfl ?_
    refine g_iload (pc' := 48) C X22 at_46 rfl rfl ?_
    refine g_iloadN (pc' := 49) C X22 at_48 rfl rfl ?_
    refine g_icmpN (pc' := 52) C X22 at_49 (teq (show (0 : Int32) = (0 : Int32) from (by decide))).2 rfl ?_
    refine g_iload (pc' := 54) C X22 at_52 rfl rfl ?_
    refine g_iload (pc' := 56) C X22 at_54 rfl rfl ?_
    refine g_icmpN (pc' := 59) C X22 at_56 (teq (show (0 : Int32) = (0 : Int32) from (by decide))).2 rfl ?_
    refine g_iconst (pc' := 60) (v := (1 : Int32)) C X22 at_59 rfl rfl ?_
    refine g_goto (pc' := 64) C X22 at_60 (by decide) (by decide) ?_
    exact g_retN C X22 (by simp) at_64 (by decide) (by decide) ⟨rfl, N22⟩
  · refine own_cast (show T0.setTop (mkF m 5 #[.val (.int p1), .val (.int (p1 &&& (7 : Int32))), .unset, .unset, .unset, .unset] []) = T0.setTop (mkF m 5 #[.val (.int p1), .val (.int (7 : Int32)), .unset, .unset, .unset, .unset] []) from by rw [s1]) ?_
    refine g_iloadN (pc' := 6) C X0 at_5 rfl rfl ?_
    refine g_callS (y := (⟨"com/example/talence/talence/cli/ObjectiveNeedsTargetPinLaw", "pick", "(I)Lcom/example/talence/talence/cli/Objective;"⟩ : MethodName)) (argsL := [(.int (7 : Int32))]) (st := []) (pc' := 9) C X0 at_6 (hw _ (List.mem_of_getElem? (i := 0) rfl)) (hw _ (List.mem_of_getElem? (i := 1) rfl)) (hw _ (List.mem_of_getElem? (i := 2) rfl)) (hw _ (List.mem_of_getElem? (i := 3) rfl)) (by decide) (rm1 l Z a0 hw [] (7 : Int32) w_PARITY w_BUCHI w_BUCHIx w_WEAK_MULLER w_MULLER w_SAFETY w_SAFETYx w_REACH w_REACHx w_COBUCHI w_COBUCHIx w_WEAK_PARITY h0 n0 hF) (W := 0) (by decide) (by decide) (ce := 0) (sl := 0) rfl rfl (by decide) (by decide) rfl e0 rfl pd_0 rfl (Nat.le_refl _) rfl (fun v23 T23 L23 X23 Q23 => ?_)
    obtain ⟨q23, Nq23, e23⟩ := Q23
    have N23 := Fr.app N0 Nq23
    rw [F1_l7 (7 : Int32) w_PARITY w_BUCHI w_WEAK_MULLER w_MULLER w_SAFETY w_REACH w_COBUCHI w_WEAK_PARITY (show ¬ ((7 : Int32) = (0 : Int32)) from (by decide)) (show ¬ ((7 : Int32) = (1 : Int32)) from (by decide)) (show ¬ ((7 : Int32) = (2 : Int32)) from (by decide)) (show ¬ ((7 : Int32) = (3 : Int32)) from (by decide)) (show ¬ ((7 : Int32) = (4 : Int32)) from (by decide)) (show ¬ ((7 : Int32) = (5 : Int32)) from (by decide)) (show ¬ ((7 : Int32) = (6 : Int32)) from (by decide))] at q23
    subst q23
    show Go p.tables e below _ (T23.setTop (mkF m 9 #[.val (.int p1), .val (.int (7 : Int32)), .unset, .unset, .unset, .unset] [(.ref w_MULLER)]))
    refine g_astoreN (pc' := 10) (Ls' := #[.val (.int p1), .val (.int (7 : Int32)), .val (.ref w_MULLER), .unset, .unset, .unset]) C X23 at_9 rfl rfl rfl ?_
    refine g_iloadN (pc' := 11) C X23 at_10 rfl rfl ?_
    refine g_iconst (pc' := 12) (v := (1 : Int32)) C X23 at_11 rfl rfl ?_
    refine g_icmpN (pc' := 15) C X23 at_12 (flt (show ¬ ((7 : Int32) < (1 : Int32)) from (by decide))).1 rfl ?_
    refine g_iloadN (pc' := 16) C X23 at_15 rfl rfl ?_
    refine g_iconst (pc' := 17) (v := (4 : Int32)) C X23 at_16 rfl rfl ?_
    refine g_icmpY (pc' := 24) C X23 at_17 (tlt (show (4 : Int32) < (7 : Int32) from (by decide))).2.2.1 (by decide) (by decide) ?_
    refine g_iconst (pc' := 25) (v := (0 : Int32)) C X23 at_24 rfl rfl ?_
    refine g_istoreN (pc' := 26) (Ls' := #[.val (.int p1), .val (.int (7 : Int32)), .val (.ref w_MULLER), .val (.int (0 : Int32)), .unset, .unset]) C X23 at_25 rfl rfl ?_
    refine g_aloadN (pc' := 27) C X23 at_26 rfl rfl rfl ?_
    refine g_callV (b := w_MULLER) (z := (⟨"com/example/talence/talence/cli/Objective", "needsTarget", "()Z"⟩ : MethodName)) (y := (⟨"com/example/talence/talence/cli/Objective", "needsTarget", "()Z"⟩ : MethodName)) (argsL := []) (st := []) (pc' := 30) C X23 at_27 (hw _ (List.mem_of_getElem? (i := 7) rfl)) (hw _ (List.mem_of_getElem? (i := 8) rfl)) (notFace_of_selects (args := #[]) (mvT C.hZ (hw _ (List.mem_of_getElem? (i := 10) rfl)))) (hw _ (List.mem_of_getElem? (i := 10) rfl)) (hw _ (List.mem_of_getElem? (i := 9) rfl)) (hw _ (List.mem_of_getElem? (i := 5) rfl)) (hw _ (List.mem_of_getElem? (i := 11) rfl)) (by decide) (rm2n l Z a0 hw [] w_MULLER w_PARITY w_BUCHI w_BUCHIx w_WEAK_MULLER w_MULLER w_SAFETY w_SAFETYx w_REACH w_REACHx w_COBUCHI w_COBUCHIx w_WEAK_PARITY h0 n0 hF F_target_w_MULLER) (W := 0) (by decide) (by decide) (ce := 0) (sl := 0) rfl rfl (by decide) (by decide) rfl E_w_MULLER e23 rfl pd_1 rfl (Nat.le_refl _) rfl (fun v24 T24 L24 X24 Q24 => ?_)
    obtain ⟨q24, Nq24, e24⟩ := Q24
    have N24 := Fr.app N23 Nq24
    rw [F2n_l0 ] at q24
    subst q24
    show Go p.tables e below _ (T24.setTop (mkF m 30 #[.val (.int p1), .val (.int (7 : Int32)), .val (.ref w_MULLER), .val (.int (0 : Int32)), .unset, .unset] [(.int (0 : Int32))]))
    refine g_istore (pc' := 32) (Ls' := #[.val (.int p1), .val (.int (7 : Int32)), .val (.ref w_MULLER), .val (.int (0 : Int32)), .val (.int (0 : Int32)), .unset]) C X24 at_30 rfl rfl ?_
    refine g_aloadN (pc' := 33) C X24 at_32 rfl rfl rfl ?_
    refine g_callV (b := w_MULLER) (z := (⟨"com/example/talence/talence/cli/Objective", "getTarget", "()Lcom/example/talence/talence/games/TargetCondition$Objective;"⟩ : MethodName)) (y := (⟨"com/example/talence/talence/cli/Objective", "getTarget", "()Lcom/example/talence/talence/games/TargetCondition$Objective;"⟩ : MethodName)) (argsL := []) (st := []) (pc' := 36) C X24 at_33 (hw _ (List.mem_of_getElem? (i := 14) rfl)) (hw _ (List.mem_of_getElem? (i := 15) rfl)) (notFace_of_selects (args := #[]) (mvT C.hZ (hw _ (List.mem_of_getElem? (i := 17) rfl)))) (hw _ (List.mem_of_getElem? (i := 17) rfl)) (hw _ (List.mem_of_getElem? (i := 16) rfl)) (hw _ (List.mem_of_getElem? (i := 5) rfl)) (hw _ (List.mem_of_getElem? (i := 18) rfl)) (by decide) (rm3n l Z a0 hw [] w_MULLER w_PARITY w_BUCHI w_BUCHIx w_WEAK_MULLER w_MULLER w_SAFETY w_SAFETYx w_REACH w_REACHx w_COBUCHI w_COBUCHIx w_WEAK_PARITY h0 n0 hF F_target_w_MULLER) (W := 0) (by decide) (by decide) (ce := 0) (sl := 0) rfl rfl (by decide) (by decide) rfl E_w_MULLER e24 rfl pd_2 rfl (Nat.le_refl _) rfl (fun v25 T25 L25 X25 Q25 => ?_)
    obtain ⟨q25, Nq25, e25⟩ := Q25
    have N25 := Fr.app N24 Nq25
    rw [F3n_l0 ] at q25
    subst q25
    show Go p.tables e below _ (T25.setTop (mkF m 36 #[.val (.int p1), .val (.int (7 : Int32)), .val (.ref w_MULLER), .val (.int (0 : Int32)), .val (.int (0 : Int32)), .unset] [.null]))
    refine g_ifnullY (pc' := 43) C X25 at_36 (by decide) (by decide) ?_
    refine g_iconst (pc' := 44) (v := (0 : Int32)) C X25 at_43 rfl rfl ?_
    refine g_istore (pc' := 46) (Ls' := #[.val (.int p1), .val (.int (7 : Int32)), .val (.ref w_MULLER), .val (.int (0 : Int32)), .val (.int (0 : Int32)), .val (.int (0 : Int32))]) C X25 at_44 rfl rfl ?_
    refine g_iload (pc' := 48) C X25 at_46 rfl rfl ?_
    refine g_iloadN (pc' := 49) C X25 at_48 rfl rfl ?_
    refine g_icmpN (pc' := 52) C X25 at_49 (teq (show (0 : Int32) = (0 : Int32) from (by decide))).2 rfl ?_
    refine g_iload (pc' := 54) C X25 at_52 rfl rfl ?_
    refine g_iload (pc' := 56) C X25 at_54 rfl rfl ?_
    refine g_icmpN (pc' := 59) C X25 at_56 (teq (show (0 : Int32) = (0 : Int32) from (by decide))).2 rfl ?_
    refine g_iconst (pc' := 60) (v := (1 : Int32)) C X25 at_59 rfl rfl ?_
    refine g_goto (pc' := 64) C X25 at_60 (by decide) (by decide) ?_
    exact g_retN C X25 (by simp) at_64 (by decide) (by decide) ⟨rfl, N25⟩
set_option maxRecDepth 65536 in
set_option maxHeartbeats 40000000 in
theorem comes_1 {Post : Tables → Env → Array Value → State → Outcome → State → Prop} (hpost : ∀ tb e args s v u, (limb_1_1.after args s (.returned v) u = true ∧ limb_1_2.after args s (.returned v) u = true ∧ True) → FrameEnd s (.returned v) u (Jvm.fieldLocs frame_1_writes args s ++ Jvm.arrayLocs frame_1_arrays args s ++ Jvm.staticLocs frame_1_statics s) 0 0 → Post tb e args s (.returned v) u) :
    ArmFor flags0 classFile x code maxLocals ret World_1 tables_1 room_1 Calls_1 rest_1 Pre_1 Post := by
  intro l hfl _ _ p e ha hc hk s m args below hf hA hF happ hP
  obtain ⟨hcalls, hrest, hpre⟩ := hP
  obtain ⟨-, -, -, hnamed, -, -, -, hat⟩ := (Spec.applies_iff hf).mp happ
  obtain ⟨hg, hnr⟩ := and_e (Cond.before_iff.mp (show (Jvm.Cond.and given_1 narrow_1).before args s = true from hpre))
  obtain ⟨gg1, gg2⟩ := and_e hg
  obtain ⟨w0, rfl⟩ : ∃ w0 : Value, args = #[w0] := by
    have hs : args.size = 1 := by simpa [Cond.value, given_1] using gg1
    obtain ⟨L⟩ := args
    match L, hs with
    | [w0], _ => exact ⟨w0, rfl⟩
  have hw := fun d (hd : d ∈ tables_1) => atoms_spec (ws := Jvm.Cond.code x code maxLocals ret :: tables_1) hat d (List.mem_cons_of_mem _ hd)
  have hfit : Fit s := fun {y c} hc i hi => by
    obtain ⟨ha, rfl⟩ := Array.getElem?_eq_some_iff.mp hc
    have q := List.all_eq_true.mp ((Array.all_eq_true_iff_forall_mem.mp hF) _ (Array.getElem_mem ha)) i (List.mem_range.mpr hi)
    simpa [Array.getElem?_eq_getElem hi] using q
  obtain ⟨i0, ei0⟩ := is_v gg2
  obtain rfl : w0 = (.int i0) := Option.some.inj ei0
  obtain ⟨hn0, hnr0⟩ := and_e hnr
  obtain ⟨hn1, hnr1⟩ := and_e hnr0
  obtain ⟨hn2, hnr2⟩ := and_e hnr1
  obtain ⟨hn3, hnr3⟩ := and_e hnr2
  obtain ⟨hn4, hnr4⟩ := and_e hnr3
  obtain ⟨hn5, hnr5⟩ := and_e hnr4
  obtain ⟨hn6, hnr6⟩ := and_e hnr5
  obtain ⟨hn7, hnr7⟩ := and_e hnr6
  obtain ⟨hn8, hnr8⟩ := and_e hnr7
  obtain ⟨hn9, hnr9⟩ := and_e hnr8
  obtain ⟨hn10, hnr10⟩ := and_e hnr9
  obtain ⟨hn11, hnr11⟩ := and_e hnr10
  obtain ⟨hn12, hnr12⟩ := and_e hnr11
  obtain ⟨hn13, hnr13⟩ := and_e hnr12
  obtain ⟨hn14, hnr14⟩ := and_e hnr13
  obtain ⟨hn15, hnr15⟩ := and_e hnr14
  obtain ⟨hn16, hnr16⟩ := and_e hnr15
  obtain ⟨hn17, hnr17⟩ := and_e hnr16
  obtain ⟨hn18, hn19⟩ := and_e hnr17
  obtain ⟨w_PARITY, ev_w_PARITY⟩ := exa_v hn0
  have S_w_PARITY := Sta.start ev_w_PARITY (Or.inr ⟨(hw _ (List.mem_of_getElem? (i := 5) rfl)), (hw _ (List.mem_of_getElem? (i := 6) rfl))⟩)
  obtain ⟨w_BUCHI, ev_w_BUCHI⟩ := exa_v hn2
  have S_w_BUCHI := Sta.start ev_w_BUCHI (Or.inr ⟨(hw _ (List.mem_of_getElem? (i := 5) rfl)), (hw _ (List.mem_of_getElem? (i := 20) rfl))⟩)
  obtain ⟨w_BUCHIx, ev_w_BUCHIx⟩ := exa_v hn3
  have S_w_BUCHIx := Sta.start ev_w_BUCHIx (Or.inr ⟨(hw _ (List.mem_of_getElem? (i := 21) rfl)), (hw _ (List.mem_of_getElem? (i := 22) rfl))⟩)
  obtain ⟨w_WEAK_MULLER, ev_w_WEAK_MULLER⟩ := exa_v hn5
  have S_w_WEAK_MULLER := Sta.start ev_w_WEAK_MULLER (Or.inr ⟨(hw _ (List.mem_of_getElem? (i := 5) rfl)), (hw _ (List.mem_of_getElem? (i := 24) rfl))⟩)
  obtain ⟨w_MULLER, ev_w_MULLER⟩ := exa_v hn7
  have S_w_MULLER := Sta.start ev_w_MULLER (Or.inr ⟨(hw _ (List.mem_of_getElem? (i := 5) rfl)), (hw _ (List.mem_of_getElem? (i := 26) rfl))⟩)
  obtain ⟨w_SAFETY, ev_w_SAFETY⟩ := exa_v hn9
  have S_w_SAFETY := Sta.start ev_w_SAFETY (Or.inr ⟨(hw _ (List.mem_of_getElem? (i := 5) rfl)), (hw _ (List.mem_of_getElem? (i := 28) rfl))⟩)
  obtain ⟨w_SAFETYx, ev_w_SAFETYx⟩ := exa_v hn10
  have S_w_SAFETYx := Sta.start ev_w_SAFETYx (Or.inr ⟨(hw _ (List.mem_of_getElem? (i := 21) rfl)), (hw _ (List.mem_of_getElem? (i := 29) rfl))⟩)
  obtain ⟨w_REACH, ev_w_REACH⟩ := exa_v hn12
  have S_w_REACH := Sta.start ev_w_REACH (Or.inr ⟨(hw _ (List.mem_of_getElem? (i := 5) rfl)), (hw _ (List.mem_of_getElem? (i := 31) rfl))⟩)
  obtain ⟨w_REACHx, ev_w_REACHx⟩ := exa_v hn13
  have S_w_REACHx := Sta.start ev_w_REACHx (Or.inr ⟨(hw _ (List.mem_of_getElem? (i := 21) rfl)), (hw _ (List.mem_of_getElem? (i := 32) rfl))⟩)
  obtain ⟨w_COBUCHI, ev_w_COBUCHI⟩ := exa_v hn15
  have S_w_COBUCHI := Sta.start ev_w_COBUCHI (Or.inr ⟨(hw _ (List.mem_of_getElem? (i := 5) rfl)), (hw _ (List.mem_of_getElem? (i := 34) rfl))⟩)
  obtain ⟨w_COBUCHIx, ev_w_COBUCHIx⟩ := exa_v hn16
  have S_w_COBUCHIx := Sta.start ev_w_COBUCHIx (Or.inr ⟨(hw _ (List.mem_of_getElem? (i := 21) rfl)), (hw _ (List.mem_of_getElem? (i := 35) rfl))⟩)
  obtain ⟨w_WEAK_PARITY, ev_w_WEAK_PARITY⟩ := exa_v hn18
  have S_w_WEAK_PARITY := Sta.start ev_w_WEAK_PARITY (Or.inr ⟨(hw _ (List.mem_of_getElem? (i := 5) rfl)), (hw _ (List.mem_of_getElem? (i := 37) rfl))⟩)
  have E_w_PARITY := Exa.start ev_w_PARITY hn0
  have F_target_w_PARITY := own_fld ev_w_PARITY (null_v hn1)
  have E_w_BUCHI := Exa.start ev_w_BUCHI hn2
  have E_w_BUCHIx := Exa.start ev_w_BUCHIx hn3
  have F_target_w_BUCHI := own_fld ev_w_BUCHI (own_eqr hn4 ev_w_BUCHIx)
  have E_w_WEAK_MULLER := Exa.start ev_w_WEAK_MULLER hn5
  have F_target_w_WEAK_MULLER := own_fld ev_w_WEAK_MULLER (null_v hn6)
  have E_w_MULLER := Exa.start ev_w_MULLER hn7
  have F_target_w_MULLER := own_fld ev_w_MULLER (null_v hn8)
  have E_w_SAFETY := Exa.start ev_w_SAFETY hn9
  have E_w_SAFETYx := Exa.start ev_w_SAFETYx hn10
  have F_target_w_SAFETY := own_fld ev_w_SAFETY (own_eqr hn11 ev_w_SAFETYx)
  have E_w_REACH := Exa.start ev_w_REACH hn12
  have E_w_REACHx := Exa.start ev_w_REACHx hn13
  have F_target_w_REACH := own_fld ev_w_REACH (own_eqr hn14 ev_w_REACHx)
  have E_w_COBUCHI := Exa.start ev_w_COBUCHI hn15
  have E_w_COBUCHIx := Exa.start ev_w_COBUCHIx hn16
  have F_target_w_COBUCHI := own_fld ev_w_COBUCHI (own_eqr hn17 ev_w_COBUCHIx)
  have E_w_WEAK_PARITY := Exa.start ev_w_WEAK_PARITY hn18
  have F_target_w_WEAK_PARITY := own_fld ev_w_WEAK_PARITY (null_v hn19)
  have hFX : FX s s.heap w_PARITY w_BUCHI w_BUCHIx w_WEAK_MULLER w_MULLER w_SAFETY w_SAFETYx w_REACH w_REACHx w_COBUCHI w_COBUCHIx w_WEAK_PARITY := ⟨S_w_PARITY, S_w_BUCHI, S_w_BUCHIx, S_w_WEAK_MULLER, S_w_MULLER, S_w_SAFETY, S_w_SAFETYx, S_w_REACH, S_w_REACHx, S_w_COBUCHI, S_w_COBUCHIx, S_w_WEAK_PARITY, E_w_PARITY, F_target_w_PARITY, E_w_BUCHI, E_w_BUCHIx, F_target_w_BUCHI, E_w_WEAK_MULLER, F_target_w_WEAK_MULLER, E_w_MULLER, F_target_w_MULLER, E_w_SAFETY, E_w_SAFETYx, F_target_w_SAFETY, E_w_REACH, E_w_REACHx, F_target_w_REACH, E_w_COBUCHI, E_w_COBUCHIx, F_target_w_COBUCHI, E_w_WEAK_PARITY, F_target_w_WEAK_PARITY⟩
  obtain ⟨n, o, h1, h2, h3, _, L, rfl, ⟨hv, N⟩, hq⟩ := rm0 l s _ hw tables_1 i0 w_PARITY w_BUCHI w_BUCHIx w_WEAK_MULLER w_MULLER w_SAFETY w_SAFETYx w_REACH w_REACHx w_COBUCHI w_COBUCHIx w_WEAK_PARITY s.heap s.heap.size hFX p e ha hc hk s m _ below hf ((Spec.applies_iff_loose hf).mp happ).1 ⟨rfl, State.Warmed39.refl s, rfl⟩ trivial
  subst hv
  refine ⟨n, _, h1, h2, h3, hpost _ _ _ _ _ _ ⟨Cond.after_iff.mpr rfl, Cond.after_iff.mpr (eq_i res_at (Term.int_eval (1)) rfl), trivial⟩ ⟨hq.1, hq.2.1, (hq.2.2.sift fun y hy => Or.inr (N y hy)).mono (by decide) (by decide)⟩⟩
theorem main_1_1 : Claimed_1_1 := comes_1 fun _ _ _ _ _ _ h hF => ⟨h.1, hF⟩
theorem main_1_2 : Claimed_1_2 := comes_1 fun _ _ _ _ _ _ h hF => ⟨h.2.1, hF⟩
end Jvm.Pilot.@@N@@
namespace Jvm.Pilot.@@N@@
open Jvm Jvm.ClassFile Sem Op Lib Jvm.Free Jvm.Stand Jvm.Pilot.@@N@@.Jvm.D
/-! MADE BY PROGRAM (witnessworld.py) out of the Statement's table words and the real class files: 13 classes; the members and pool entries that the words name. The judged class is class 1, her method 2. -/
namespace start1
open Jvm.ClassFile
def u (s : String) : CpInfo := .utf8 (stringToUtf16 s)
/-- a pool by its gaps: so many unusable entries, then the entry; so many at the end -/
def gap : Nat → List CpInfo → List CpInfo
  | 0, r => r
  | n + 1, r => .unusable :: gap n r
def poolList (es : List (Nat × CpInfo)) (last : Nat) : List CpInfo := es.foldr (fun e r => gap e.1 (e.2 :: r)) (gap last [])
def pool (es : List (Nat × CpInfo)) (last : Nat) : Array CpInfo := ⟨poolList es last⟩
def fileOf (pool : Array CpInfo) (this : Nat) (attrs : Array Attribute := #[]) (ms : Array MethodInfo := #[]) (fl : Nat := 33) (sup : Nat := 0) (ifs : Array Nat := #[]) (fds : Array FieldInfo := #[]) : ClassFile where
  minorVersion := 0
  majorVersion := 65
  constantPool := pool
  accessFlags := fl
  thisClass := this
  superClass := sup
  interfaces := ifs
  fields := fds
  methods := ms
  attributes := attrs
def plain (name : String) (sup : Option ClassId) : Class where
  name := name
  kind := .ordinary
  loader := none
  accessFlags := 33
  super := sup
  interfaces := #[]
  cf := none
  fields := #[]
  methods := #[]
  instanceTypes := #[]
  staticTypes := #[]
  resolved := #[]
  callSites := []
  init := .initialized
  statics := none
  mirror := none

def pool0 : Array CpInfo := pool [(5, u "<init>"), (0, u "()V"), (1, .class_ 10), (1, u "java/lang/Object")] 113

def k0m0 : Method := { name := "<init>", desc := "()V", sig := { parameters := [], returnType := none }, accessFlags := 1, code := none }
/-- java/lang/Object -/
def k0 : Class := { plain "java/lang/Object" none with
  accessFlags := 33
  interfaces := #[]
  cf := some (fileOf pool0 8 #[] #[{ accessFlags := 1, nameIndex := 5, descriptorIndex := 6, attributes := #[] }] 33 0 #[] #[])
  fields := #[]
  methods := #[k0m0]
  instanceTypes := #[]
  staticTypes := #[]
  resolved := Array.replicate 124 none
  statics := none }

def pool1 : Array CpInfo := pool [(2, .class_ 4), (1, u "java/lang/Object"), (0, u "<init>"), (0, u "()V"), (0, .fieldref 8 9), (0, .class_ 10), (0, .nameAndType 11 12), (0, u "com/example/talence/talence/cli/Objective"), (0, u "PARITY"), (0, u "Lcom/example/talence/talence/cli/Objective;"), (0, .fieldref 8 14), (0, .nameAndType 15 12), (0, u "REACH"), (0, .fieldref 8 17), (0, .nameAndType 18 12), (0, u "SAFETY"), (0, .fieldref 8 20), (0, .nameAndType 21 12), (0, u "BUCHI"), (0, .fieldref 8 23), (0, .nameAndType 24 12), (0, u "COBUCHI"), (0, .fieldref 8 26), (0, .nameAndType 27 12), (0, u "WEAK_PARITY"), (0, .fieldref 8 29), (0, .nameAndType 30 12), (0, u "WEAK_MULLER"), (0, .fieldref 8 32), (0, .nameAndType 33 12), (0, u "MULLER"), (0, .methodref 35 36), (0, .class_ 37), (0, .nameAndType 38 39), (0, u "com/example/talence/talence/cli/ObjectiveNeedsTargetPinLaw"), (0, u "pick"), (0, u "(I)Lcom/example/talence/talence/cli/Objective;"), (0, .methodref 8 41), (0, .nameAndType 42 43), (0, u "needsTarget"), (0, u "()Z"), (0, .methodref 8 45), (0, .nameAndType 46 47), (0, u "getTarget"), (0, u "()Lcom/example/talence/talence/games/TargetCondition$Objective;"), (3, u "law"), (0, u "(I)Z")] 8

def k1m0 : Method := { name := "<init>", desc := "()V", sig := { parameters := [], returnType := none }, accessFlags := 1, code := none }
def k1c1 : Code := { maxStack := 2, maxLocals := 1, code := method_2_code, exceptionTable := #[], attributes := #[] }
def k1m1 : Method := { name := "pick", desc := "(I)Lcom/example/talence/talence/cli/Objective;", sig := { parameters := [.int], returnType := some (.object "com/example/talence/talence/cli/Objective") }, accessFlags := 10, code := some k1c1 }
def k1c2 : Code := { maxStack := 2, maxLocals := 6, code := code, exceptionTable := #[], attributes := #[] }
def k1m2 : Method := { name := "law", desc := "(I)Z", sig := { parameters := [.int], returnType := some .boolean }, accessFlags := 9, code := some k1c2 }
/-- com/example/talence/talence/cli/ObjectiveNeedsTargetPinLaw -/
def k1 : Class := { plain "com/example/talence/talence/cli/ObjectiveNeedsTargetPinLaw" (some 0) with
  accessFlags := 49
  interfaces := #[]
  cf := some (fileOf pool1 35 #[] #[{ accessFlags := 1, nameIndex := 5, descriptorIndex := 6, attributes := #[] }, { accessFlags := 10, nameIndex := 38, descriptorIndex := 39, attributes := #[] }, { accessFlags := 9, nameIndex := 51, descriptorIndex := 52, attributes := #[] }] 49 2 #[] #[])
  fields := #[]
  methods := #[k1m0, k1m1, k1m2]
  instanceTypes := #[]
  staticTypes := #[]
  resolved := Array.replicate 61 none
  statics := none }

def pool2 : Array CpInfo := pool [(1, .class_ 2), (0, u "java/lang/constant/Constable"), (0, .class_ 4), (0, u "java/lang/Object")] 6

/-- java/lang/constant/Constable -/
def k2 : Class := { plain "java/lang/constant/Constable" (some 0) with
  accessFlags := 1537
  interfaces := #[]
  cf := some (fileOf pool2 1 #[] #[] 1537 3 #[] #[])
  fields := #[]
  methods := #[]
  instanceTypes := #[]
  staticTypes := #[]
  resolved := Array.replicate 11 none
  statics := none }

def pool3 : Array CpInfo := pool [(1, .class_ 2), (0, u "java/lang/Comparable"), (0, .class_ 4), (0, u "java/lang/Object")] 7

/-- java/lang/Comparable -/
def k3 : Class := { plain "java/lang/Comparable" (some 0) with
  accessFlags := 1537
  interfaces := #[]
  cf := some (fileOf pool3 1 #[] #[] 1537 3 #[] #[])
  fields := #[]
  methods := #[]
  instanceTypes := #[]
  staticTypes := #[]
  resolved := Array.replicate 12 none
  statics := none }

def pool4 : Array CpInfo := pool [(1, .class_ 2), (0, u "java/io/Serializable"), (0, .class_ 4), (0, u "java/lang/Object")] 2

/-- java/io/Serializable -/
def k4 : Class := { plain "java/io/Serializable" (some 0) with
  accessFlags := 1537
  interfaces := #[]
  cf := some (fileOf pool4 1 #[] #[] 1537 3 #[] #[])
  fields := #[]
  methods := #[]
  instanceTypes := #[]
  staticTypes := #[]
  resolved := Array.replicate 7 none
  statics := none }

def pool5 : Array CpInfo := pool [(2, .class_ 4), (1, u "java/lang/Enum"), (0, u "name"), (0, u "Ljava/lang/String;"), (2, u "ordinal"), (0, u "I"), (1, .class_ 14), (1, u "java/lang/Object"), (4, u "hash"), (86, .class_ 108), (1, u "java/lang/Enum$EnumDesc"), (2, .class_ 112), (0, u "java/lang/constant/Constable"), (0, .class_ 114), (0, u "java/lang/Comparable"), (0, .class_ 116), (0, u "java/io/Serializable")] 87

/-- java/lang/Enum -/
def k5 : Class := { plain "java/lang/Enum" (some 0) with
  accessFlags := 1057
  interfaces := #[2, 3, 4]
  cf := some (fileOf pool5 2 #[.nestMembers #[106]] #[] 1057 12 #[111, 113, 115] #[{ accessFlags := 18, nameIndex := 5, descriptorIndex := 6, attributes := #[] }, { accessFlags := 18, nameIndex := 9, descriptorIndex := 10, attributes := #[] }, { accessFlags := 2, nameIndex := 19, descriptorIndex := 10, attributes := #[] }])
  fields := #[{ name := "name", type := (.object "java/lang/String"), accessFlags := 18, slot := 0, constantValue := 0 }, { name := "ordinal", type := .int, accessFlags := 18, slot := 1, constantValue := 0 }, { name := "hash", type := .int, accessFlags := 2, slot := 2, constantValue := 0 }]
  methods := #[]
  instanceTypes := #[(.object "java/lang/String"), .int, .int]
  staticTypes := #[]
  resolved := Array.replicate 204 none
  statics := none }

def pool6 : Array CpInfo := pool [(1, .class_ 2), (0, u "com/example/talence/talence/cli/Objective"), (2, u "PARITY"), (0, u "Lcom/example/talence/talence/cli/Objective;"), (2, u "REACH"), (2, u "SAFETY"), (2, u "BUCHI"), (2, u "COBUCHI"), (2, u "WEAK_PARITY"), (2, u "WEAK_MULLER"), (2, u "MULLER"), (2, u "$VALUES"), (0, u "[Lcom/example/talence/talence/cli/Objective;"), (6, .class_ 40), (1, u "java/lang/Enum"), (17, u "name"), (0, u "Ljava/lang/String;"), (0, .fieldref 1 61), (0, .nameAndType 62 63), (0, u "target"), (0, u "Lcom/example/talence/talence/games/TargetCondition$Objective;"), (2, u "takesParity"), (0, u "Z"), (2, u "takesStrategies"), (2, u "takesMuller"), (39, u "getTarget"), (0, u "()Lcom/example/talence/talence/games/TargetCondition$Objective;"), (0, u "needsTarget"), (0, u "()Z")] 10

def k6c0 : Code := { maxStack := 1, maxLocals := 1, code := prog_23_method_5_code, exceptionTable := #[], attributes := #[] }
def k6m0 : Method := { name := "getTarget", desc := "()Lcom/example/talence/talence/games/TargetCondition$Objective;", sig := { parameters := [], returnType := some (.object "com/example/talence/talence/games/TargetCondition$Objective") }, accessFlags := 0, code := some k6c0 }
def k6c1 : Code := { maxStack := 1, maxLocals := 1, code := prog_23_method_6_code, exceptionTable := #[], attributes := #[] }
def k6m1 : Method := { name := "needsTarget", desc := "()Z", sig := { parameters := [], returnType := some .boolean }, accessFlags := 0, code := some k6c1 }
/-- com/example/talence/talence/cli/Objective -/
def k6 : Class := { plain "com/example/talence/talence/cli/Objective" (some 5) with
  accessFlags := 16432
  interfaces := #[]
  cf := some (fileOf pool6 1 #[] #[{ accessFlags := 0, nameIndex := 113, descriptorIndex := 114, attributes := #[] }, { accessFlags := 0, nameIndex := 115, descriptorIndex := 116, attributes := #[] }] 16432 38 #[] #[{ accessFlags := 16409, nameIndex := 5, descriptorIndex := 6, attributes := #[] }, { accessFlags := 16409, nameIndex := 9, descriptorIndex := 6, attributes := #[] }, { accessFlags := 16409, nameIndex := 12, descriptorIndex := 6, attributes := #[] }, { accessFlags := 16409, nameIndex := 15, descriptorIndex := 6, attributes := #[] }, { accessFlags := 16409, nameIndex := 18, descriptorIndex := 6, attributes := #[] }, { accessFlags := 16409, nameIndex := 21, descriptorIndex := 6, attributes := #[] }, { accessFlags := 16409, nameIndex := 24, descriptorIndex := 6, attributes := #[] }, { accessFlags := 16409, nameIndex := 27, descriptorIndex := 6, attributes := #[] }, { accessFlags := 18, nameIndex := 58, descriptorIndex := 59, attributes := #[] }, { accessFlags := 18, nameIndex := 62, descriptorIndex := 63, attributes := #[] }, { accessFlags := 18, nameIndex := 66, descriptorIndex := 67, attributes := #[] }, { accessFlags := 18, nameIndex := 70, descriptorIndex := 67, attributes := #[] }, { accessFlags := 18, nameIndex := 73, descriptorIndex := 67, attributes := #[] }, { accessFlags := 4122, nameIndex := 30, descriptorIndex := 31, attributes := #[] }])
  fields := #[{ name := "PARITY", type := (.object "com/example/talence/talence/cli/Objective"), accessFlags := 16409, slot := 0, constantValue := 0 }, { name := "REACH", type := (.object "com/example/talence/talence/cli/Objective"), accessFlags := 16409, slot := 1, constantValue := 0 }, { name := "SAFETY", type := (.object "com/example/talence/talence/cli/Objective"), accessFlags := 16409, slot := 2, constantValue := 0 }, { name := "BUCHI", type := (.object "com/example/talence/talence/cli/Objective"), accessFlags := 16409, slot := 3, constantValue := 0 }, { name := "COBUCHI", type := (.object "com/example/talence/talence/cli/Objective"), accessFlags := 16409, slot := 4, constantValue := 0 }, { name := "WEAK_PARITY", type := (.object "com/example/talence/talence/cli/Objective"), accessFlags := 16409, slot := 5, constantValue := 0 }, { name := "WEAK_MULLER", type := (.object "com/example/talence/talence/cli/Objective"), accessFlags := 16409, slot := 6, constantValue := 0 }, { name := "MULLER", type := (.object "com/example/talence/talence/cli/Objective"), accessFlags := 16409, slot := 7, constantValue := 0 }, { name := "name", type := (.object "java/lang/String"), accessFlags := 18, slot := 3, constantValue := 0 }, { name := "target", type := (.object "com/example/talence/talence/games/TargetCondition$Objective"), accessFlags := 18, slot := 4, constantValue := 0 }, { name := "takesParity", type := .boolean, accessFlags := 18, slot := 5, constantValue := 0 }, { name := "takesStrategies", type := .boolean, accessFlags := 18, slot := 6, constantValue := 0 }, { name := "takesMuller", type := .boolean, accessFlags := 18, slot := 7, constantValue := 0 }, { name := "$VALUES", type := (.array (.object "com/example/talence/talence/cli/Objective")), accessFlags := 4122, slot := 8, constantValue := 0 }]
  methods := #[k6m0, k6m1]
  instanceTypes := #[(.object "java/lang/String"), .int, .int, (.object "java/lang/String"), (.object "com/example/talence/talence/games/TargetCondition$Objective"), .boolean, .boolean, .boolean]
  staticTypes := #[(.object "com/example/talence/talence/cli/Objective"), (.object "com/example/talence/talence/cli/Objective"), (.object "com/example/talence/talence/cli/Objective"), (.object "com/example/talence/talence/cli/Objective"), (.object "com/example/talence/talence/cli/Objective"), (.object "com/example/talence/talence/cli/Objective"), (.object "com/example/talence/talence/cli/Objective"), (.object "com/example/talence/talence/cli/Objective"), (.array (.object "com/example/talence/talence/cli/Objective"))]
  resolved := Array.replicate 127 none
  statics := some 0 }

def pool7 : Array CpInfo := pool [(1, .class_ 2), (0, u "com/example/talence/talence/games/TargetCondition$Objective"), (2, u "REACH"), (0, u "Lcom/example/talence/talence/games/TargetCondition$Objective;"), (2, u "SAFETY"), (2, u "BUCHI"), (2, u "COBUCHI"), (2, u "$VALUES"), (0, u "[Lcom/example/talence/talence/games/TargetCondition$Objective;"), (6, .class_ 28), (1, u "java/lang/Enum"), (8, u "name"), (0, u "Ljava/lang/String;"), (2, u "pursuer"), (0, u "Lcom/example/talence/talence/games/Player;"), (2, u "goalIsTarget"), (0, u "Z"), (2, u "recurring"), (42, .class_ 93), (0, u "com/example/talence/talence/games/TargetCondition")] 2

/-- com/example/talence/talence/games/TargetCondition$Objective -/
def k7 : Class := { plain "com/example/talence/talence/games/TargetCondition$Objective" (some 5) with
  accessFlags := 16433
  interfaces := #[]
  cf := some (fileOf pool7 1 #[.nestHost 92] #[] 16433 26 #[] #[{ accessFlags := 16409, nameIndex := 5, descriptorIndex := 6, attributes := #[] }, { accessFlags := 16409, nameIndex := 9, descriptorIndex := 6, attributes := #[] }, { accessFlags := 16409, nameIndex := 12, descriptorIndex := 6, attributes := #[] }, { accessFlags := 16409, nameIndex := 15, descriptorIndex := 6, attributes := #[] }, { accessFlags := 18, nameIndex := 37, descriptorIndex := 38, attributes := #[] }, { accessFlags := 18, nameIndex := 41, descriptorIndex := 42, attributes := #[] }, { accessFlags := 18, nameIndex := 45, descriptorIndex := 46, attributes := #[] }, { accessFlags := 18, nameIndex := 49, descriptorIndex := 46, attributes := #[] }, { accessFlags := 4122, nameIndex := 18, descriptorIndex := 19, attributes := #[] }])
  fields := #[{ name := "REACH", type := (.object "com/example/talence/talence/games/TargetCondition$Objective"), accessFlags := 16409, slot := 0, constantValue := 0 }, { name := "SAFETY", type := (.object "com/example/talence/talence/games/TargetCondition$Objective"), accessFlags := 16409, slot := 1, constantValue := 0 }, { name := "BUCHI", type := (.object "com/example/talence/talence/games/TargetCondition$Objective"), accessFlags := 16409, slot := 2, constantValue := 0 }, { name := "COBUCHI", type := (.object "com/example/talence/talence/games/TargetCondition$Objective"), accessFlags := 16409, slot := 3, constantValue := 0 }, { name := "name", type := (.object "java/lang/String"), accessFlags := 18, slot := 3, constantValue := 0 }, { name := "pursuer", type := (.object "com/example/talence/talence/games/Player"), accessFlags := 18, slot := 4, constantValue := 0 }, { name := "goalIsTarget", type := .boolean, accessFlags := 18, slot := 5, constantValue := 0 }, { name := "recurring", type := .boolean, accessFlags := 18, slot := 6, constantValue := 0 }, { name := "$VALUES", type := (.array (.object "com/example/talence/talence/games/TargetCondition$Objective")), accessFlags := 4122, slot := 4, constantValue := 0 }]
  methods := #[]
  instanceTypes := #[(.object "java/lang/String"), .int, .int, (.object "java/lang/String"), (.object "com/example/talence/talence/games/Player"), .boolean, .boolean]
  staticTypes := #[(.object "com/example/talence/talence/games/TargetCondition$Objective"), (.object "com/example/talence/talence/games/TargetCondition$Objective"), (.object "com/example/talence/talence/games/TargetCondition$Objective"), (.object "com/example/talence/talence/games/TargetCondition$Objective"), (.array (.object "com/example/talence/talence/games/TargetCondition$Objective"))]
  resolved := Array.replicate 96 none
  statics := some 1 }

def pool8 : Array CpInfo := pool [(1, u "java/lang/Cloneable"), (0, .class_ 1), (0, u "java/lang/Object"), (0, .class_ 3)] 3

/-- java/lang/Cloneable -/
def k8 : Class := { plain "java/lang/Cloneable" (some 0) with
  accessFlags := 1537
  interfaces := #[]
  cf := some (fileOf pool8 2 #[] #[] 1537 4 #[] #[])
  fields := #[]
  methods := #[]
  instanceTypes := #[]
  staticTypes := #[]
  resolved := Array.replicate 8 none
  statics := none }

/-- the primitive byte -/
def k9 : Class := { plain "byte" none with kind := .primitive 'B', accessFlags := 0x411 }
/-- [B -/
def k10 : Class := { plain "[B" (some 0) with kind := .array 9 .byte, interfaces := #[8, 4], accessFlags := 1041 }

/-- the primitive int -/
def k11 : Class := { plain "int" none with kind := .primitive 'I', accessFlags := 0x411 }
/-- [I -/
def k12 : Class := { plain "[I" (some 0) with kind := .array 11 .int, interfaces := #[8, 4], accessFlags := 1041 }

def heap : Heap := #[{ cls := 6, slots := #[.ref 2, .ref 9, .ref 7, .ref 3, .ref 11, .ref 13, .ref 5, .ref 6, .null], vm := .statics 6 },
  { cls := 7, slots := #[.ref 10, .ref 8, .ref 4, .ref 12, .null], vm := .statics 7 },
  { cls := 6, slots := #[.null, .int 0, .int 0, .null, .null, .int 0, .int 0, .int 0], vm := .none },
  { cls := 6, slots := #[.null, .int 0, .int 0, .null, .ref 4, .int 0, .int 0, .int 0], vm := .none },
  { cls := 7, slots := #[.null, .int 0, .int 0, .null, .null, .int 0, .int 0], vm := .none },
  { cls := 6, slots := #[.null, .int 0, .int 0, .null, .null, .int 0, .int 0, .int 0], vm := .none },
  { cls := 6, slots := #[.null, .int 0, .int 0, .null, .null, .int 0, .int 0, .int 0], vm := .none },
  { cls := 6, slots := #[.null, .int 0, .int 0, .null, .ref 8, .int 0, .int 0, .int 0], vm := .none },
  { cls := 7, slots := #[.null, .int 0, .int 0, .null, .null, .int 0, .int 0], vm := .none },
  { cls := 6, slots := #[.null, .int 0, .int 0, .null, .ref 10, .int 0, .int 0, .int 0], vm := .none },
  { cls := 7, slots := #[.null, .int 0, .int 0, .null, .null, .int 0, .int 0], vm := .none },
  { cls := 6, slots := #[.null, .int 0, .int 0, .null, .ref 12, .int 0, .int 0, .int 0], vm := .none },
  { cls := 7, slots := #[.null, .int 0, .int 0, .null, .null, .int 0, .int 0], vm := .none },
  { cls := 6, slots := #[.null, .int 0, .int 0, .null, .null, .int 0, .int 0, .int 0], vm := .none }]
def classes : Array Class := #[k0, k1, k2, k3, k4, k5, k6, k7, k8, k9, k10, k11, k12]
def interned : List (Array UInt16 × Addr) := []
def slotsUsed : Nat := 106
def theMethod : MethodId := ⟨1, 2⟩
def args0 : Array Value := #[.int 5]
def aboutOver (below : List Frame) : State where
  vm := { classes := classes, interned := interned.toArray }
  heap := heap
  slotsUsed := slotsUsed
  threads := #[{ frames := .invoking theMethod args0 :: below }]
def below0 : List Frame := [.native { method := ⟨0, 0⟩, args := #[] }]
def about1 : State := aboutOver below0
def p0 : Program := .bare "" "" ""
def e0 : Env := launch0.env 0 0 0
theorem w_frames : about1.frames = Frame.invoking theMethod args0 :: below0 := rfl
set_option maxRecDepth 65536 in
theorem w_args : argsFit about1.vm theMethod args0 = true := by decide +kernel
set_option maxRecDepth 65536 in
theorem w_heap : heapFits about1 = true := by decide +kernel
set_option maxRecDepth 65536 in
theorem w_runnable : about1.curStatus? = some .runnable := by decide +kernel
set_option maxRecDepth 65536 in
theorem w_alone : about1.alone = true := by decide +kernel
set_option maxRecDepth 65536 in
theorem w_named : about1.methodNamed? x = some theMethod := by decide +kernel
set_option maxRecDepth 65536 in
theorem w_hears : about1.hears theMethod below0 = true := by decide +kernel
set_option maxRecDepth 65536 in
theorem w_ripe : about1.ripe theMethod args0 below0 = true := by decide +kernel
theorem w_running : about1.status = .running := rfl
set_option maxRecDepth 65536 in
theorem w_room : about1.hasRoom e0.platform room_1 = true :=
  launch0.hasRoom_least _ room_1 (by decide +kernel) (by decide +kernel) (by decide +kernel) (by decide +kernel) (by decide +kernel) (by decide +kernel)
theorem allAtoms_all (ts : List Jvm.Cond) (a : Array Jvm.Value) (st : Jvm.State) : (allAtoms ts).before a st = ts.all (fun c => c.before a st) := by
  induction ts with
  | nil => rfl
  | cons c t ih =>
    show (Jvm.Cond.and c (allAtoms t)).before a st = _
    rw [Jvm.Cond.before_and, ih, List.all_cons]
def words1 : List Jvm.Cond := Jvm.Cond.code x code maxLocals ret :: tables_1
/-- a 'code' word, met by the world's own term for the bytes: nothing is compared byte by byte -/
theorem code_word {y : MethodName} {bytes : ByteArray} {mx : Nat} {rt : Option FieldType} {a : Array Value} {s : State} {m : MethodId} {meth : Method} {c : Code} (h1 : s.methodNamed? y = some m) (h2 : s.vm.method? m = some meth) (h3 : meth.code = some c) (h4 : c.code = bytes)
    (h5 : (c.maxLocals == mx && c.exceptionTable.isEmpty && decide (c.maxStack ≤ mostOperands) && decide (meth.sig.returnType = rt) && !meth.locks && decide (parseMethodDescriptor y.desc = some meth.sig)) = true) : (Jvm.Cond.code y bytes mx rt).before a s = true := by
  simp only [Bool.and_eq_true, beq_iff_eq, Bool.not_eq_true', decide_eq_true_eq] at h5
  obtain ⟨⟨⟨⟨⟨g1, g2⟩, g3⟩, g4⟩, g5⟩, g6⟩ := h5
  simp [Cond.before, Cond.holds, Cond.value, h1, h2, h3, h4, g1, g2, g3, g4, g5, g6]
def isCode : Jvm.Cond → Bool
  | .code _ _ _ _ => true
  | _ => false
theorem all_split {L : List Jvm.Cond} {P : Jvm.Cond → Bool} (h1 : L.all (fun c => isCode c || P c) = true) (h2 : ∀ c ∈ L.filter isCode, P c = true) : L.all P = true := by
  refine List.all_eq_true.mpr fun c hc => ?_
  have h := List.all_eq_true.mp h1 c hc
  rcases Bool.eq_false_or_eq_true (isCode c) with hi | hi
  · exact h2 c (List.mem_filter.mpr ⟨hc, hi⟩)
  · simpa [hi] using h
set_option maxRecDepth 65536 in
theorem w_c0 : (Jvm.Cond.code x code maxLocals ret).before args0 about1 = true := code_word (m := ⟨1, 2⟩) (meth := k1m2) (c := k1c2) (by decide +kernel) rfl rfl rfl (by decide +kernel)
set_option maxRecDepth 65536 in
theorem w_c1 : (Jvm.Cond.code ({ cls := "com/example/talence/talence/cli/ObjectiveNeedsTargetPinLaw", name := "pick", desc := "(I)Lcom/example/talence/talence/cli/Objective;" } : Jvm.MethodName) method_2_code (1 : Nat) (Option.some (Jvm.ClassFile.FieldType.object "com/example/talence/talence/cli/Objective"))).before args0 about1 = true := code_word (m := ⟨1, 1⟩) (meth := k1m1) (c := k1c1) (by decide +kernel) rfl rfl rfl (by decide +kernel)
set_option maxRecDepth 65536 in
theorem w_c2 : (Jvm.Cond.code ({ cls := "com/example/talence/talence/cli/Objective", name := "needsTarget", desc := "()Z" } : Jvm.MethodName) prog_23_method_6_code (1 : Nat) (Option.some Jvm.ClassFile.FieldType.boolean)).before args0 about1 = true := code_word (m := ⟨6, 1⟩) (meth := k6m1) (c := k6c1) (by decide +kernel) rfl rfl rfl (by decide +kernel)
set_option maxRecDepth 65536 in
theorem w_c3 : (Jvm.Cond.code ({ cls := "com/example/talence/talence/cli/Objective", name := "getTarget", desc := "()Lcom/example/talence/talence/games/TargetCondition$Objective;" } : Jvm.MethodName) prog_23_method_5_code (1 : Nat) (Option.some (Jvm.ClassFile.FieldType.object "com/example/talence/talence/games/TargetCondition$Objective"))).before args0 about1 = true := code_word (m := ⟨6, 0⟩) (meth := k6m0) (c := k6c0) (by decide +kernel) rfl rfl rfl (by decide +kernel)
def codes1 : List Jvm.Cond := [Jvm.Cond.code x code maxLocals ret, Jvm.Cond.code ({ cls := "com/example/talence/talence/cli/ObjectiveNeedsTargetPinLaw", name := "pick", desc := "(I)Lcom/example/talence/talence/cli/Objective;" } : Jvm.MethodName) method_2_code (1 : Nat) (Option.some (Jvm.ClassFile.FieldType.object "com/example/talence/talence/cli/Objective")), Jvm.Cond.code ({ cls := "com/example/talence/talence/cli/Objective", name := "needsTarget", desc := "()Z" } : Jvm.MethodName) prog_23_method_6_code (1 : Nat) (Option.some Jvm.ClassFile.FieldType.boolean), Jvm.Cond.code ({ cls := "com/example/talence/talence/cli/Objective", name := "getTarget", desc := "()Lcom/example/talence/talence/games/TargetCondition$Objective;" } : Jvm.MethodName) prog_23_method_5_code (1 : Nat) (Option.some (Jvm.ClassFile.FieldType.object "com/example/talence/talence/games/TargetCondition$Objective"))]
set_option maxRecDepth 65536 in
theorem codes_eq : words1.filter isCode = codes1 := rfl
theorem w_codes : ∀ c ∈ words1.filter isCode, c.before args0 about1 = true := by
  rw [codes_eq]
  intro c hc
  simp only [codes1, List.mem_cons, List.not_mem_nil, or_false] at hc
  rcases hc with rfl | rfl | rfl | rfl
  · exact w_c0
  · exact w_c1
  · exact w_c2
  · exact w_c3
set_option maxRecDepth 65536 in
theorem w_t1 : (words1.take 24).all (fun c => isCode c || c.before args0 about1) = true := by decide +kernel
set_option maxRecDepth 65536 in
theorem w_t2 : (words1.drop 24).all (fun c => isCode c || c.before args0 about1) = true := by decide +kernel
theorem w_tables : (allAtoms (Jvm.Cond.code x code maxLocals ret :: tables_1)).before args0 about1 = true := by
  rw [allAtoms_all]
  show words1.all (fun c => c.before args0 about1) = true
  refine all_split ?_ w_codes
  rw [← List.take_append_drop 24 words1, List.all_append, w_t1, w_t2]
  rfl
set_option maxRecDepth 65536 in
theorem w_case : (Jvm.Cond.and given_1 narrow_1).before args0 about1 = true := by decide +kernel
theorem w_applies : (headSpec (Jvm.Cond.code x code maxLocals ret :: tables_1) room_1).applies x e0.platform about1 = true :=
  (Spec.applies_iff w_frames).mpr ⟨w_running, w_runnable, w_alone, w_named, w_hears, w_ripe, w_room, w_tables⟩
theorem atStart : AtStart classFile x code maxLocals ret World_1 tables_1 room_1 Calls_1 rest_1 Pre_1 launch0 p0 e0 about1 theMethod args0 below0 :=
  ⟨lists_1, trivial, launch0.admits_env _ _ _, launch0.least_env, fairChoices_fair.cas, fairChoices_fair.clock, w_frames, w_args, w_heap, w_applies, trivial, trivial, w_case⟩
end start1
theorem witness_1 : WitnessClaimed_1 := ⟨start1.p0, start1.e0, start1.about1, start1.theMethod, start1.args0, start1.below0, start1.atStart⟩
end Jvm.Pilot.@@N@@
