import JvmDerived
import JvmDerived.Pilot.@@N@@Statement
import JvmDerived.Pilot.@@N@@Code
set_option linter.unusedVariables false
set_option linter.unusedSimpArgs false
namespace Jvm.Pilot.@@N@@
open Jvm Jvm.ClassFile Sem Op Lib Jvm.Free Jvm.Stand Jvm.LawKit Jvm.RoadKit Bundle Jvm.Pilot.@@N@@.Jvm.D
section OwnKit
variable {p : Program} {l : Launch} {e : Env} {R : Room} {s : State} {m : MethodId} {args : Array Value} {below : List Frame} {meth : Method} {c : Code} {T : State} {locs : List Loc} {cells slots : Nat} {Z : State} {a0 : Array Value} {h : Heap} {bs : ByteArray} {own mnm : String} {mx : Nat} {rt : Option FieldType} {G : Outcome → State → Prop} {pc pc' : Nat} {Ls Ls' : Array Slot} {st : List Value}
/-- from T the run comes to an end of which G holds -/
def Go (tb : Tables) (e : Env) (below : List Frame) (G : Outcome → State → Prop) (T : State) : Prop := ∃ s₂ o, Steps tb e below T s₂ ∧ s₂.status = .running ∧ Ended s₂ below o ∧ G o s₂
theorem Go.step {tb : Tables} {T T' : State} (g : Go tb e below G T') (h : ∀ t, Steps tb e below T' t → Steps tb e below T t) : Go tb e below G T := by
  obtain ⟨s₂, o, h1, h2⟩ := g
  exact ⟨s₂, o, h _ h1, h2⟩
/-- what a walk knows of its own body -/
def Cx (p : Program) (s : State) (m : MethodId) (meth : Method) (c : Code) (bs : ByteArray) (mx : Nat) (own mnm : String) (rt : Option FieldType) (Z : State) : Prop :=
  p.tables.exec = Jvm.exec ∧ c.code = bs ∧ c.maxLocals = mx ∧ s.vm.findClass own = some m.cls ∧ meth.name = mnm ∧ meth.sig.returnType = rt ∧ meth.locks = false ∧ Z.Warmed39 s.vm
theorem Cx.hown (C : Cx p s m meth c bs mx own mnm rt Z) : s.vm.findClass own = some m.cls := C.2.2.2.1
theorem Cx.nm (C : Cx p s m meth c bs mx own mnm rt Z) : meth.name = mnm := C.2.2.2.2.1
theorem Cx.ret (C : Cx p s m meth c bs mx own mnm rt Z) : meth.sig.returnType = rt := C.2.2.2.2.2.1
theorem Cx.locks (C : Cx p s m meth c bs mx own mnm rt Z) : meth.locks = false := C.2.2.2.2.2.2.1
theorem Cx.hZ (C : Cx p s m meth c bs mx own mnm rt Z) : Z.Warmed39 s.vm := C.2.2.2.2.2.2.2
/-- the end: returned, Q of the value, the heap and the places written; the frame -/
def End (s : State) (Q : Option Value → Heap → List Loc → Prop) (ce sl : Nat) (o : Outcome) (U' : State) : Prop := ∃ v L, o = .returned v ∧ Q v U'.heap L ∧ FrameEnd s o U' L ce sl
theorem met_of {y : MethodName} {ws : List Jvm.Cond} {rm : Room} {as' : Array Value} {Q : Option Value → Heap → List Loc → Prop} {ce sl : Nat} (hpn : plainFor y = true) (hef : ∀ m, entryFrame m as' mx = mkF m 0 Ls [])
    (hbody : ∀ (p : Program) (e : Env) (s : State) (m : MethodId) (below : List Frame) (meth : Method) (c : Code) (T : State), Cx p s m meth c bs mx y.cls y.name rt Z → Stand p l e rm s m as' below meth c T [] 0 0 → T.heap = h → Go p.tables e below (End s Q ce sl) (T.setTop (mkF m 0 Ls []))) :
    MetFree l y (head1 (Jvm.Cond.code y bs mx rt :: ws) rm) (fun a U => a = as' ∧ Z.Warmed39 U.vm ∧ U.heap = h) (fun _ _ _ _ _ => True) (fun _ U o U' => ∃ v L, o = .returned v ∧ Q v U'.heap L ∧ FrameEnd U o U' L ce sl) := by
  refine MetFree.of_bodySF hpn hisR ?_
  intro p e s m args below meth c s₁ Bd hml0 hP hK
  obtain ⟨rfl, hZ, hh⟩ := hP
  have X0 : Stand p l e rm s m _ below meth c s₁ [] 0 0 := Stand.of_body Bd
  have e0 : s₁.heap = h := by rw [← hh, Bd.state]; rfl
  obtain ⟨s₂, o, h1, h2, h3, h4⟩ := hbody p e s m below meth c s₁ ⟨Bd.exec, Bd.bytes, hml0, findClass_of_methodNamed Bd.named, (name_of_methodNamed Bd.named Bd.method).1, Bd.returns, Bd.notSynchronized, hZ⟩ X0 e0
  exact ⟨s₂, o, castTop (hef m) h1, h2, h3, h4⟩

theorem g_iloadN (C : Cx p s m meth c bs mx own mnm rt Z) (X : Stand p l e R s m args below meth c T locs cells slots) {k : Fin 4} {v : Int32} (hd : decode bs pc = .ok (.iload_n k, 1)) (hl : Ls[k.val]? = some (.val (.int v))) (hn : pc + 1 = pc')
    (hr : Go p.tables e below G (T.setTop (mkF m pc' Ls (.int v :: st)))) : Go p.tables e below G (T.setTop (mkF m pc Ls st)) := by
  subst hn; exact hr.step fun t k => XS.iloadN X.here C.1 rfl (hb C.2.1 hd) hl k
theorem g_iload (C : Cx p s m meth c bs mx own mnm rt Z) (X : Stand p l e R s m args below meth c T locs cells slots) {k : Nat} {v : Int32} (hd : decode bs pc = .ok (.iload k, 2)) (hl : Ls[k]? = some (.val (.int v))) (hn : pc + 2 = pc')
    (hr : Go p.tables e below G (T.setTop (mkF m pc' Ls (.int v :: st)))) : Go p.tables e below G (T.setTop (mkF m pc Ls st)) := by
  subst hn; exact hr.step fun t k => XS.iload X.here C.1 rfl (hb C.2.1 hd) hl k
theorem g_istoreN (C : Cx p s m meth c bs mx own mnm rt Z) (X : Stand p l e R s m args below meth c T locs cells slots) {k : Fin 4} {v : Int32} (hd : decode bs pc = .ok (.istore_n k, 1)) (hl : storeLocals Ls k.val (.int v) = some Ls') (hn : pc + 1 = pc')
    (hr : Go p.tables e below G (T.setTop (mkF m pc' Ls' st))) : Go p.tables e below G (T.setTop (mkF m pc Ls (.int v :: st))) := by
  subst hn; exact hr.step fun t k => XS.istoreN X.here C.1 rfl (hb C.2.1 hd) rfl hl k
theorem g_istore (C : Cx p s m meth c bs mx own mnm rt Z) (X : Stand p l e R s m args below meth c T locs cells slots) {k : Nat} {v : Int32} (hd : decode bs pc = .ok (.istore k, 2)) (hl : storeLocals Ls k (.int v) = some Ls') (hn : pc + 2 = pc')
    (hr : Go p.tables e below G (T.setTop (mkF m pc' Ls' st))) : Go p.tables e below G (T.setTop (mkF m pc Ls (.int v :: st))) := by
  subst hn; exact hr.step fun t k => XS.istore X.here C.1 rfl (hb C.2.1 hd) rfl hl k
theorem g_aloadN (C : Cx p s m meth c bs mx own mnm rt Z) (X : Stand p l e R s m args below meth c T locs cells slots) {k : Fin 4} {v : Value} (hd : decode bs pc = .ok (.aload_n k, 1)) (hl : Ls[k.val]? = some (.val v)) (hv : v.isRef = true) (hn : pc + 1 = pc')
    (hr : Go p.tables e below G (T.setTop (mkF m pc' Ls (v :: st)))) : Go p.tables e below G (T.setTop (mkF m pc Ls st)) := by
  subst hn; exact hr.step fun t k => XS.aloadN X.here C.1 rfl (hb C.2.1 hd) hl hv k
theorem g_aload (C : Cx p s m meth c bs mx own mnm rt Z) (X : Stand p l e R s m args below meth c T locs cells slots) {k : Nat} {v : Value} (hd : decode bs pc = .ok (.aload k, 2)) (hl : Ls[k]? = some (.val v)) (hv : v.isRef = true) (hn : pc + 2 = pc')
    (hr : Go p.tables e below G (T.setTop (mkF m pc' Ls (v :: st)))) : Go p.tables e below G (T.setTop (mkF m pc Ls st)) := by
  subst hn; exact hr.step fun t k => XS.aload X.here C.1 rfl (hb C.2.1 hd) hl hv k
theorem g_astore (C : Cx p s m meth c bs mx own mnm rt Z) (X : Stand p l e R s m args below meth c T locs cells slots) {k : Nat} {v : Value} (hd : decode bs pc = .ok (.astore k, 2)) (hv : v.isRef = true) (hl : storeLocals Ls k v = some Ls') (hn : pc + 2 = pc')
    (hr : Go p.tables e below G (T.setTop (mkF m pc' Ls' st))) : Go p.tables e below G (T.setTop (mkF m pc Ls (v :: st))) := by
  subst hn; exact hr.step fun t k => XS.astore X.here C.1 rfl (hb C.2.1 hd) rfl hv hl k
theorem g_iconst (C : Cx p s m meth c bs mx own mnm rt Z) (X : Stand p l e R s m args below meth c T locs cells slots) {i : Int} {v : Int32} (hd : decode bs pc = .ok (.iconst i, 1)) (hv : Int32.ofInt i = v) (hn : pc + 1 = pc')
    (hr : Go p.tables e below G (T.setTop (mkF m pc' Ls (.int v :: st)))) : Go p.tables e below G (T.setTop (mkF m pc Ls st)) := by
  subst hn; exact hr.step fun t k => XS.iconst X.here C.1 rfl (hb C.2.1 hd) (by rw [hv]; exact k)
theorem g_bipush (C : Cx p s m meth c bs mx own mnm rt Z) (X : Stand p l e R s m args below meth c T locs cells slots) {i : Int} {v : Int32} (hd : decode bs pc = .ok (.bipush i, 2)) (hv : (Int8.ofInt i).toInt32 = v) (hn : pc + 2 = pc')
    (hr : Go p.tables e below G (T.setTop (mkF m pc' Ls (.int v :: st)))) : Go p.tables e below G (T.setTop (mkF m pc Ls st)) := by
  subst hn; exact hr.step fun t k => XS.bipush X.here C.1 rfl (hb C.2.1 hd) (by rw [hv]; exact k)
theorem g_irem (C : Cx p s m meth c bs mx own mnm rt Z) (X : Stand p l e R s m args below meth c T locs cells slots) {x y : Int32} (hd : decode bs pc = .ok (.irem, 1)) (hy : ¬ y = 0) (hn : pc + 1 = pc')
    (hr : Go p.tables e below G (T.setTop (mkF m pc' Ls (.int (x % y) :: st)))) : Go p.tables e below G (T.setTop (mkF m pc Ls (.int y :: .int x :: st))) := by
  subst hn; exact hr.step fun t k => Jvm.RoadKit.iremM X C.1 rfl (hb C.2.1 hd) rfl hy k
theorem g_dup (C : Cx p s m meth c bs mx own mnm rt Z) (X : Stand p l e R s m args below meth c T locs cells slots) {x : Value} (hd : decode bs pc = .ok (.dup, 1)) (hc : x.category = 1) (hn : pc + 1 = pc')
    (hr : Go p.tables e below G (T.setTop (mkF m pc' Ls (x :: x :: st)))) : Go p.tables e below G (T.setTop (mkF m pc Ls (x :: st))) := by
  subst hn; exact hr.step fun t k => XS.dup X.here C.1 rfl (hb C.2.1 hd) rfl hc k
theorem g_goto (C : Cx p s m meth c bs mx own mnm rt Z) (X : Stand p l e R s m args below meth c T locs cells slots) {o : Int} (hd : decode bs pc = .ok (.goto o, 3)) (ho : 0 ≤ (pc : Int) + o) (hp : ((pc : Int) + o).toNat = pc')
    (hr : Go p.tables e below G (T.setTop (mkF m pc' Ls st))) : Go p.tables e below G (T.setTop (mkF m pc Ls st)) :=
  hr.step fun t k => XS.goto X.here C.1 rfl rfl (hb C.2.1 hd) ho hp k
theorem g_icmpY (C : Cx p s m meth c bs mx own mnm rt Z) (X : Stand p l e R s m args below meth c T locs cells slots) {cd : ClassFile.Cond} {x y : Int32} {o : Int} (hd : decode bs pc = .ok (.if_icmp cd o, 3)) (hc : if_icmp.holds cd x y = true) (ho : 0 ≤ (pc : Int) + o) (hp : ((pc : Int) + o).toNat = pc')
    (hr : Go p.tables e below G (T.setTop (mkF m pc' Ls st))) : Go p.tables e below G (T.setTop (mkF m pc Ls (.int y :: .int x :: st))) :=
  hr.step fun t k => XS.icmpYes X.here C.1 rfl rfl (hb C.2.1 hd) rfl hc ho hp k
theorem g_icmpN (C : Cx p s m meth c bs mx own mnm rt Z) (X : Stand p l e R s m args below meth c T locs cells slots) {cd : ClassFile.Cond} {x y : Int32} {o : Int} (hd : decode bs pc = .ok (.if_icmp cd o, 3)) (hc : if_icmp.holds cd x y = false) (hn : pc + 3 = pc')
    (hr : Go p.tables e below G (T.setTop (mkF m pc' Ls st))) : Go p.tables e below G (T.setTop (mkF m pc Ls (.int y :: .int x :: st))) := by
  subst hn; exact hr.step fun t k => XS.icmpNo X.here C.1 rfl (hb C.2.1 hd) rfl hc k
theorem g_ifY (C : Cx p s m meth c bs mx own mnm rt Z) (X : Stand p l e R s m args below meth c T locs cells slots) {cd : ClassFile.Cond} {x : Int32} {o : Int} (hd : decode bs pc = .ok (.ifCond cd o, 3)) (hc : if_icmp.holds cd x 0 = true) (ho : 0 ≤ (pc : Int) + o) (hp : ((pc : Int) + o).toNat = pc')
    (hr : Go p.tables e below G (T.setTop (mkF m pc' Ls st))) : Go p.tables e below G (T.setTop (mkF m pc Ls (.int x :: st))) :=
  hr.step fun t k => XS.ifYes X.here C.1 rfl rfl (hb C.2.1 hd) rfl ((if0 _ _).trans hc) ho hp k
theorem g_ifN (C : Cx p s m meth c bs mx own mnm rt Z) (X : Stand p l e R s m args below meth c T locs cells slots) {cd : ClassFile.Cond} {x : Int32} {o : Int} (hd : decode bs pc = .ok (.ifCond cd o, 3)) (hc : if_icmp.holds cd x 0 = false) (hn : pc + 3 = pc')
    (hr : Go p.tables e below G (T.setTop (mkF m pc' Ls st))) : Go p.tables e below G (T.setTop (mkF m pc Ls (.int x :: st))) := by
  subst hn; exact hr.step fun t k => XS.ifNo X.here C.1 rfl (hb C.2.1 hd) rfl ((if0 _ _).trans hc) k
theorem g_ifnonnullY (C : Cx p s m meth c bs mx own mnm rt Z) (X : Stand p l e R s m args below meth c T locs cells slots) {b : Addr} {o : Int} (hd : decode bs pc = .ok (.ifnonnull o, 3)) (ho : 0 ≤ (pc : Int) + o) (hp : ((pc : Int) + o).toNat = pc')
    (hr : Go p.tables e below G (T.setTop (mkF m pc' Ls st))) : Go p.tables e below G (T.setTop (mkF m pc Ls (.ref b :: st))) :=
  hr.step fun t k => XS.ifnonnullYes X.here C.1 rfl rfl (hb C.2.1 hd) rfl ho hp k
theorem g_getF (C : Cx p s m meth c bs mx own mnm rt Z) (X : Stand p l e R s m args below meth c T locs cells slots) {O n d R0 host : String} {i : Nat} {a : Addr} {v : Value} (hd : decode bs pc = .ok (.getfield i, 3)) (w : (Jvm.Cond.fieldLink own i R0 n d).before a0 Z = true ∨ (Jvm.Cond.fieldLinkNest own i R0 n d host).before a0 Z = true) (via : Via Z R0 O n d) (eT : T.heap = h) (F : Fld Z h a O n d v) (hn : pc + 3 = pc')
    (hr : ∀ T', Stand p l e R s m args below meth c T' locs cells slots → T'.heap = h → Go p.tables e below G (T'.setTop (mkF m pc' Ls (v :: st)))) : Go p.tables e below G (T.setTop (mkF m pc Ls (.ref a :: st))) := by
  subst hn
  obtain ⟨T', X', e', st'⟩ := getF X C.1 C.hZ C.hown w via eT F (g := mkF m pc Ls (.ref a :: st)) rfl rfl (hb C.2.1 hd)
  exact (hr T' X' e').step st'
theorem g_callS (C : Cx p s m meth c bs mx own mnm rt Z) (X : Stand p l e R s m args below meth c T locs cells slots) {rm : Room} {as' : Array Value} {Q : Option Value → Heap → List Loc → Prop} {ml : Nat} {yb : ByteArray} {yr : Option FieldType} {ce sl W : Nat} {argsL : List Value} {ps : List FieldType} {pr : Option FieldType} {y : MethodName} {i : Nat} (hd : decode bs pc = .ok (.invokestatic i, 3)) (w1 : (Jvm.Cond.methodLink own i y).before a0 Z = true) (w2 : (Jvm.Cond.static y).before a0 Z = true) (w3 : (Jvm.Cond.initialized y.cls).before a0 Z = true) (w4 : (Jvm.Cond.code y yb ml yr).before a0 Z = true) (hy : y.cls ≠ "java/lang/invoke/MethodHandle" ∧ y.cls ≠ "java/lang/invoke/VarHandle")
    (hM : MetFree l y (head1 [Jvm.Cond.code y yb ml yr] rm) (fun a U => a = as' ∧ Z.Warmed39 U.vm ∧ U.heap = h) (fun _ _ _ _ _ => True) (fun _ U o U' => ∃ v L, o = .returned v ∧ Q v U'.heap L ∧ FrameEnd U o U' L rm.cells rm.slots)) (hf : rm.frames + 1 ≤ R.frames) (hlo : W + (ml + 11) + rm.locals ≤ R.locals) (hce : cells + rm.cells = ce) (hsl : slots + rm.slots = sl) (hce' : ce ≤ R.cells) (hsl' : sl ≤ R.slots) (has : argsL.toArray = as') (eT : T.heap = h) (hsz : Ls.size = mx) (hpd : parseMethodDescriptor y.desc = some ⟨ps, pr⟩) (hln : argsL.length = ps.length) (hW : (st.map fun v => v.category).sum ≤ W) (hn : pc + 3 = pc')
    (hr : ∀ v T' L, Stand p l e R s m args below meth c T' (locs ++ L) ce sl → Q v T'.heap L → Go p.tables e below G (T'.setTop (mkF m pc' Ls (v.toList ++ st)))) : Go p.tables e below G (T.setTop (mkF m pc Ls (argsL.reverse ++ st))) := by
  subst hn hce hsl has
  obtain ⟨v, vm1, ⟨T', L', k', n'⟩, -, X', ⟨Lc, hQ, l', y', z'⟩, st'⟩ := Jvm.LawKit.callS X C.1 (y := y) C.hown (mvT C.hZ w1) (mvT C.hZ w2) (mvT C.hZ w3) (mvT C.hZ w4) hy (backOf (W := W) hM C.hZ w4 w3 hf hlo) (g := mkF m pc Ls (argsL.reverse ++ st)) rfl (hsz.trans C.2.2.1.symm) (argsL := argsL) (rest := st) (lenOf hpd hln) rfl (by show 2 * 0 + _ ≤ _; omega) (hb C.2.1 hd) (fun _ _ => ⟨rfl, eT, hce', hsl'⟩)
  dsimp only [Pt.U, Pt.locs, Pt.cells, Pt.slots] at X' l' y' z' st' hQ
  subst l' y' z'
  exact (hr v T' Lc X' hQ).step st'
theorem g_callV (C : Cx p s m meth c bs mx own mnm rt Z) (X : Stand p l e R s m args below meth c T locs cells slots) {rm : Room} {as' : Array Value} {Q : Option Value → Heap → List Loc → Prop} {ml : Nat} {yb : ByteArray} {yr : Option FieldType} {ce sl W : Nat} {argsL : List Value} {ps : List FieldType} {pr : Option FieldType} {K : String} {y z : MethodName} {i : Nat} {b : Addr} (hd : decode bs pc = .ok (.invokevirtual i, 3)) (w1 : (Jvm.Cond.methodLink own i y).before a0 Z = true) (w2 : (Jvm.Cond.declares y).before a0 Z = true) (hnf : NotFace s y) (w3 : (Jvm.Cond.selects K y z).before a0 Z = true) (w4 : (Jvm.Cond.instanceMethod z).before a0 Z = true) (w5 : (Jvm.Cond.initialized z.cls).before a0 Z = true) (w6 : (Jvm.Cond.code z yb ml yr).before a0 Z = true) (hy : y.cls ≠ "java/lang/invoke/MethodHandle" ∧ y.cls ≠ "java/lang/invoke/VarHandle")
    (hM : MetFree l z (head1 [Jvm.Cond.code z yb ml yr] rm) (fun a U => a = as' ∧ Z.Warmed39 U.vm ∧ U.heap = h) (fun _ _ _ _ _ => True) (fun _ U o U' => ∃ v L, o = .returned v ∧ Q v U'.heap L ∧ FrameEnd U o U' L rm.cells rm.slots)) (hf : rm.frames + 1 ≤ R.frames) (hlo : W + (ml + 11) + rm.locals ≤ R.locals) (hce : cells + rm.cells = ce) (hsl : slots + rm.slots = sl) (hce' : ce ≤ R.cells) (hsl' : sl ≤ R.slots) (has : (.ref b :: argsL).toArray = as') (E : Exa Z h b K) (eT : T.heap = h) (hsz : Ls.size = mx) (hpd : parseMethodDescriptor y.desc = some ⟨ps, pr⟩) (hln : argsL.length = ps.length) (hW : (st.map fun v => v.category).sum ≤ W) (hn : pc + 3 = pc')
    (hr : ∀ v T' L, Stand p l e R s m args below meth c T' (locs ++ L) ce sl → Q v T'.heap L → Go p.tables e below G (T'.setTop (mkF m pc' Ls (v.toList ++ st)))) : Go p.tables e below G (T.setTop (mkF m pc Ls (argsL.reverse ++ .ref b :: st))) := by
  subst hn hce hsl has
  obtain ⟨cq, kq, qa, qb, qc⟩ := isOf C.hZ eT E
  obtain ⟨v, vm1, ⟨T', L', k', n'⟩, -, X', ⟨Lc, hQ, l', y', z'⟩, st'⟩ := X.virtualBack C.1 (y := y) (z := z) C.hown (mvT C.hZ w1) (mvT C.hZ w2) hnf (mvT C.hZ w3) (mvT C.hZ w4) hy (backOf (W := W) hM C.hZ w6 w5 hf hlo) qa qc (g := mkF m pc Ls (argsL.reverse ++ .ref b :: st)) rfl (hsz.trans C.2.2.1.symm) (Steps.refl _) (argsL := argsL) (rest := st) (lenOf hpd hln) rfl (by show 2 * 0 + _ ≤ _; omega) (hb C.2.1 hd) (fun _ _ => ⟨rfl, eT, hce', hsl'⟩)
  dsimp only [Pt.U, Pt.locs, Pt.cells, Pt.slots] at X' l' y' z' st' hQ
  subst l' y' z'
  exact (hr v T' Lc X' hQ).step fun t k => st'.trans k
theorem g_callI (C : Cx p s m meth c bs mx own mnm rt Z) (X : Stand p l e R s m args below meth c T locs cells slots) {rm : Room} {as' : Array Value} {Q : Option Value → Heap → List Loc → Prop} {ml : Nat} {yb : ByteArray} {ce sl W : Nat} {argsL : List Value} {ps : List FieldType} {pr : Option FieldType} {y : MethodName} {i : Nat} {b : Addr} (hy1 : y.name = "<init>") (hd : decode bs pc = .ok (.invokespecial i, 3)) (w1 : (Jvm.Cond.methodLink own i y).before a0 Z = true) (w2 : (Jvm.Cond.instanceMethod y).before a0 Z = true) (w3 : (Jvm.Cond.initialized y.cls).before a0 Z = true) (w4 : (Jvm.Cond.code y yb ml none).before a0 Z = true) (hy : y.cls ≠ "java/lang/invoke/MethodHandle" ∧ y.cls ≠ "java/lang/invoke/VarHandle")
    (hM : MetFree l y (head1 [Jvm.Cond.code y yb ml none] rm) (fun a U => a = as' ∧ Z.Warmed39 U.vm ∧ U.heap = h) (fun _ _ _ _ _ => True) (fun _ U o U' => ∃ v L, o = .returned v ∧ Q v U'.heap L ∧ FrameEnd U o U' L rm.cells rm.slots)) (hf : rm.frames + 1 ≤ R.frames) (hlo : W + (ml + 11) + rm.locals ≤ R.locals) (hce : cells + rm.cells = ce) (hsl : slots + rm.slots = sl) (hce' : ce ≤ R.cells) (hsl' : sl ≤ R.slots) (has : (.ref b :: argsL).toArray = as') (eT : T.heap = h) (hsz : Ls.size = mx) (hpd : parseMethodDescriptor y.desc = some ⟨ps, pr⟩) (hln : argsL.length = ps.length) (hW : (st.map fun v => v.category).sum ≤ W) (hn : pc + 3 = pc')
    (hr : ∀ v T' L, Stand p l e R s m args below meth c T' (locs ++ L) ce sl → Q v T'.heap L → Go p.tables e below G (T'.setTop (mkF m pc' Ls (v.toList ++ st)))) : Go p.tables e below G (T.setTop (mkF m pc Ls (argsL.reverse ++ .ref b :: st))) := by
  subst hn hce hsl has
  obtain ⟨v, vm1, ⟨T', L', k', n'⟩, -, X', ⟨Lc, hQ, l', y', z'⟩, st'⟩ := X.specialBack C.1 (y := y) hy1 C.hown (mvT C.hZ w1) (mvT C.hZ w2) (mvT C.hZ w4) hy (backOf (W := W) hM C.hZ w4 w3 hf hlo) (g := mkF m pc Ls (argsL.reverse ++ .ref b :: st)) rfl (hsz.trans C.2.2.1.symm) (Steps.refl _) (a := b) (argsL := argsL) (rest := st) (lenOf hpd hln) rfl (by show 2 * 0 + _ ≤ _; omega) (hb C.2.1 hd) (fun _ _ => ⟨rfl, eT, hce', hsl'⟩)
  dsimp only [Pt.U, Pt.locs, Pt.cells, Pt.slots] at X' l' y' z' st' hQ
  subst l' y' z'
  exact (hr v T' Lc X' hQ).step fun t k => st'.trans k
theorem g_retI (C : Cx p s m meth c bs mx own mnm (some .int) Z) (X : Stand p l e R s m args below meth c T locs cells slots) {Q : Option Value → Heap → List Loc → Prop} {ce sl : Nat} {z : Int32} (hd : decode bs pc = .ok (.ireturn, 1)) (hc : cells ≤ ce) (hs : slots ≤ sl) (hQ : Q (some (.int z)) T.heap locs) : Go p.tables e below (End s Q ce sl) (T.setTop (mkF m pc Ls (.int z :: st))) := by
  obtain ⟨fs, hr, hrun, hended, hW, hsame⟩ := X.leave (v := (some (.int z))) (fun h => by rw [C.ret] at h; cases h) C.locks
  exact ⟨_, _, retOut X C.1 C.ret rfl (Or.inl ⟨rfl, Or.inl rfl, _, rfl⟩) (hb C.2.1 hd) hr, hrun, hended, _, _, rfl, hQ, ⟨_, rfl⟩, hW, hsame.mono hc hs⟩
theorem g_retA {t : FieldType} (C : Cx p s m meth c bs mx own mnm (some t) Z) (X : Stand p l e R s m args below meth c T locs cells slots) {Q : Option Value → Heap → List Loc → Prop} {ce sl : Nat} {v : Value} (ht : t.isReference = true) (hnw : narrow t v = v) (hv : v.isRef = true) (hd : decode bs pc = .ok (.areturn, 1)) (hc : cells ≤ ce) (hs : slots ≤ sl) (hQ : Q (some v) T.heap locs) : Go p.tables e below (End s Q ce sl) (T.setTop (mkF m pc Ls (v :: st))) := by
  obtain ⟨fs, hr, hrun, hended, hW, hsame⟩ := X.leave (v := (some v)) (fun h => by rw [C.ret] at h; cases h) C.locks
  exact ⟨_, _, retOut X C.1 C.ret hnw (Or.inr (Or.inr (Or.inr (Or.inr ⟨rfl, ht, hv⟩)))) (hb C.2.1 hd) hr, hrun, hended, _, _, rfl, hQ, ⟨_, rfl⟩, hW, hsame.mono hc hs⟩
theorem g_retN {t : FieldType} (C : Cx p s m meth c bs mx own mnm (some t) Z) (X : Stand p l e R s m args below meth c T locs cells slots) {Q : Option Value → Heap → List Loc → Prop} {ce sl : Nat} {z : Int32} (ht : t = .boolean ∨ t = .byte ∨ t = .char ∨ t = .short) (hd : decode bs pc = .ok (.ireturn, 1)) (hc : cells ≤ ce) (hs : slots ≤ sl) (hQ : Q (some (.int (nar t z))) T.heap locs) : Go p.tables e below (End s Q ce sl) (T.setTop (mkF m pc Ls (.int z :: st))) := by
  obtain ⟨fs, hr, hrun, hended, hW, hsame⟩ := X.leave (v := (some (.int (nar t z)))) (fun h => by rw [C.ret] at h; cases h) C.locks
  exact ⟨_, _, retN X C.1 C.ret ht (hb C.2.1 hd) hr, hrun, hended, _, _, rfl, hQ, ⟨_, rfl⟩, hW, hsame.mono hc hs⟩
theorem g_retV (C : Cx p s m meth c bs mx own mnm none Z) (X : Stand p l e R s m args below meth c T locs cells slots) {Q : Option Value → Heap → List Loc → Prop} {ce sl : Nat}  (hd : decode bs pc = .ok (.return_, 1)) (hc : cells ≤ ce) (hs : slots ≤ sl) (hQ : Q none T.heap locs) : Go p.tables e below (End s Q ce sl) (T.setTop (mkF m pc Ls [])) := by
  obtain ⟨fs, hr, hrun, hended, hW, hsame⟩ := X.leave (v := none) (fun _ => rfl) C.locks
  exact ⟨_, _, X.returnOut C.1 C.ret (hb C.2.1 hd) hr, hrun, hended, _, _, rfl, hQ, ⟨_, rfl⟩, hW, hsame.mono hc hs⟩
theorem g_new (C : Cx p s m meth c bs mx own mnm rt Z) (X : Stand p l e R s m args below meth c T locs cells slots) {K : String} {i n ce sl : Nat} (hd : decode bs pc = .ok (.new i, 3)) (w : (Jvm.Cond.classLink own i K).before a0 Z = true) (wi : (Jvm.Cond.instantiable K n).before a0 Z = true) (wz : (Jvm.Cond.initialized K).before a0 Z = true) (eT : T.heap = h) (hce : cells + 1 = ce) (hsl : slots + n = sl) (hce' : ce ≤ R.cells) (hsl' : sl ≤ R.slots) (hn : pc + 3 = pc')
    (hr : ∀ T' h' b, b = h.size → Stand p l e R s m args below meth c T' locs ce sl → T'.heap = h' → Ext h h' → Exa Z h' b K → (∀ {O nm d : String} {ty : FieldType}, Laid Z a0 K O nm d → parseFieldDescriptor d = some ty → Fld Z h' b O nm d (defaultValue ty)) → Go p.tables e below G (T'.setTop (mkF m pc' Ls (.ref b :: st)))) : Go p.tables e below G (T.setTop (mkF m pc Ls st)) := by
  subst hn hce hsl
  obtain ⟨T', h', X', e', E', A', D', -, st'⟩ := newO X C.1 C.hZ C.hown w wi wz eT (g := mkF m pc Ls st) rfl (hb C.2.1 hd) hce' hsl'
  exact (hr T' h' _ rfl X' e' E' A' D').step st'
theorem g_initO (C : Cx p s m meth c bs mx own mnm rt Z) (X : Stand p l e R s m args below meth c T locs cells slots) {i W : Nat} {a : Addr} (hd : decode bs pc = .ok (.invokespecial i, 3)) (w1 : (Jvm.Cond.methodLink own i Lib.objectInit).before a0 Z = true) (w2 : (Jvm.Cond.instanceMethod Lib.objectInit).before a0 Z = true) (w3 : (Jvm.Cond.code Lib.objectInit object_method_1_code 1 none).before a0 Z = true) (eT : T.heap = h) (hsz : Ls.size = mx) (hf : 1 ≤ R.frames) (hW : (st.map fun v => v.category).sum ≤ W) (hl : W + 12 ≤ R.locals) (hn : pc + 3 = pc')
    (hr : ∀ T', Stand p l e R s m args below meth c T' locs cells slots → T'.heap = h → Go p.tables e below G (T'.setTop (mkF m pc' Ls st))) : Go p.tables e below G (T.setTop (mkF m pc Ls (.ref a :: st))) := by
  subst hn
  obtain ⟨T', X', e', st'⟩ := initO X C.1 C.hZ C.hown w1 w2 w3 eT (g := mkF m pc Ls (.ref a :: st)) rfl (hsz.trans C.2.2.1.symm) rfl (hb C.2.1 hd) hf (W := W) (by show 2 * 0 + _ ≤ _; omega) hl
  exact (hr T' X' e').step st'
theorem g_putF (C : Cx p s m meth c bs mx own mnm rt Z) (X : Stand p l e R s m args below meth c T locs cells slots) {O n d R0 host K : String} {i kk : Nat} {ty : FieldType} {a : Addr} {v old : Value} (hd : decode bs pc = .ok (.putfield i, 3)) (w : (Jvm.Cond.fieldLink own i R0 n d).before a0 Z = true ∨ (Jvm.Cond.fieldLinkNest own i R0 n d host).before a0 Z = true) (via : Via Z R0 O n d) (eT : T.heap = h) (F : Fld Z h a O n d old) (E : Exa Z h a K) (L : (Jvm.Cond.lays K O n d).before a0 Z = true ∨ ((Jvm.Cond.laysFinal K O n d).before a0 Z = true ∧ own = O ∧ mnm = "<init>")) (wi : (Jvm.Cond.instantiable K kk).before a0 Z = true) (hty : parseFieldDescriptor d = some ty) (hnw : narrow ty v = v) (hf : fits ty v = true) (hn : pc + 3 = pc')
    (hr : ∀ T' h', Stand p l e R s m args below meth c T' (locs ++ [⟨a, Jvm.RoadKit.slotOf Z O n d⟩]) cells slots → T'.heap = h' → Wr h h' a (Jvm.RoadKit.slotOf Z O n d) v → Go p.tables e below G (T'.setTop (mkF m pc' Ls st))) : Go p.tables e below G (T.setTop (mkF m pc Ls (v :: .ref a :: st))) := by
  subst hn
  obtain ⟨T', h', X', e', W', st'⟩ := putF X C.1 C.hZ C.hown w via eT F E (L.imp id fun q => ⟨q.1, q.2.1, C.nm.trans q.2.2⟩) wi hty hnw hf (g := mkF m pc Ls (v :: .ref a :: st)) rfl rfl (hb C.2.1 hd)
  exact (hr T' h' X' e' W').step st'
theorem g_castY (C : Cx p s m meth c bs mx own mnm rt Z) (X : Stand p l e R s m args below meth c T locs cells slots) {i : Nat} {K : String} {a : Addr} (hd : decode bs pc = .ok (.checkcast i, 3)) (w : (Jvm.Cond.classLink own i K).before a0 Z = true) (eT : T.heap = h) (Iy : Ins Z h a K true) (hn : pc + 3 = pc')
    (hr : ∀ T', Stand p l e R s m args below meth c T' locs cells slots → T'.heap = h → Go p.tables e below G (T'.setTop (mkF m pc' Ls (.ref a :: st)))) : Go p.tables e below G (T.setTop (mkF m pc Ls (.ref a :: st))) := by
  subst hn
  obtain ⟨T', X', e', st'⟩ := castY X C.1 C.hZ C.hown w eT Iy (g := mkF m pc Ls (.ref a :: st)) rfl rfl (hb C.2.1 hd)
  exact (hr T' X' e').step st'
theorem g_dload (C : Cx p s m meth c bs mx own mnm rt Z) (X : Stand p l e R s m args below meth c T locs cells slots) {k : Nat} {v : UInt64} (hd : decode bs pc = .ok (.dload k, 2)) (hl : Ls[k]? = some (.val (.double v))) (hn : pc + 2 = pc')
    (hr : Go p.tables e below G (T.setTop (mkF m pc' Ls (.double v :: st)))) : Go p.tables e below G (T.setTop (mkF m pc Ls st)) := by
  subst hn; exact hr.step fun t k => XS.dload X.here C.1 rfl (hb C.2.1 hd) hl k
theorem g_i2d (C : Cx p s m meth c bs mx own mnm rt Z) (X : Stand p l e R s m args below meth c T locs cells slots) {x : Int32} (hd : decode bs pc = .ok (.i2d, 1)) (hn : pc + 1 = pc')
    (hr : Go p.tables e below G (T.setTop (mkF m pc' Ls (.double (FP.i2d x) :: st)))) : Go p.tables e below G (T.setTop (mkF m pc Ls (.int x :: st))) := by
  subst hn; exact hr.step fun t k => XS.i2dS X.here C.1 rfl (hb C.2.1 hd) rfl rfl k
theorem g_ddiv (C : Cx p s m meth c bs mx own mnm rt Z) (X : Stand p l e R s m args below meth c T locs cells slots) {x y : UInt64} (hd : decode bs pc = .ok (.ddiv, 1)) (hnn : Jvm.Free.Fl.NoNaN64 (FP.ddiv x y)) (hn : pc + 1 = pc')
    (hr : Go p.tables e below G (T.setTop (mkF m pc' Ls (.double (FP.ddiv x y) :: st)))) : Go p.tables e below G (T.setTop (mkF m pc Ls (.double y :: .double x :: st))) := by
  subst hn; exact hr.step fun t k => XS.ddivS X.here C.1 rfl (hb C.2.1 hd) rfl hnn rfl k
theorem g_dcmp (C : Cx p s m meth c bs mx own mnm rt Z) (X : Stand p l e R s m args below meth c T locs cells slots) {o : CmpOp} {x y : UInt64} (hd : decode bs pc = .ok (.dcmp o, 1)) (hn : pc + 1 = pc')
    (hr : Go p.tables e below G (T.setTop (mkF m pc' Ls (.int (cmpValue (FP.dcmp x y) o) :: st)))) : Go p.tables e below G (T.setTop (mkF m pc Ls (.double y :: .double x :: st))) := by
  subst hn; exact hr.step fun t k => XS.dcmpS X.here C.1 rfl (hb C.2.1 hd) rfl rfl k
theorem g_ldc2D (C : Cx p s m meth c bs mx own mnm rt Z) (X : Stand p l e R s m args below meth c T locs cells slots) {i : Nat} {v : UInt64} (hd : decode bs pc = .ok (.ldc2_w i, 3)) (w : (Jvm.Cond.constantDouble own i v).before a0 Z = true) (hn : pc + 3 = pc')
    (hr : Go p.tables e below G (T.setTop (mkF m pc' Ls (.double v :: st)))) : Go p.tables e below G (T.setTop (mkF m pc Ls st)) := by
  subst hn; exact hr.step fun t k => X.ldc2DoubleC C.1 C.hown (mvT C.hZ w) (g := mkF m pc Ls st) rfl (hb C.2.1 hd) _ k
/-- the end of a body that may intern -/
def EndW (s : State) (Q : Option Value → Heap → List Loc → Prop) (ce sl : Nat) (o : Outcome) (U' : State) : Prop := ∃ v L, o = .returned v ∧ Q v U'.heap L ∧ ReturnedEndW s o U' L ce sl
theorem met_ofW {y : MethodName} {ws : List Jvm.Cond} {rm : Room} {as' : Array Value} {Q : Option Value → Heap → List Loc → Prop} {ce sl : Nat} {Px : State → Prop} (hpn : plainFor y = true) (hef : ∀ m, entryFrame m as' mx = mkF m 0 Ls [])
    (hbody : ∀ (p : Program) (e : Env) (s : State) (m : MethodId) (below : List Frame) (meth : Method) (c : Code) (T : State), Px s → Cx p (s.setVm s.vm) m meth c bs mx y.cls y.name rt Z → Stand p l e rm (s.setVm s.vm) m as' below meth c T [] 0 0 → s.Since s.vm 0 → T.heap = h → Go p.tables e below (EndW s Q ce sl) (T.setTop (mkF m 0 Ls []))) :
    MetFree l y (head1 (Jvm.Cond.code y bs mx rt :: ws) rm) (fun a U => a = as' ∧ Z.Warmed39 U.vm ∧ U.heap = h ∧ Px U) (fun _ _ _ _ _ => True) (fun _ U o U' => ∃ v L, o = .returned v ∧ Q v U'.heap L ∧ ReturnedEndW U o U' L ce sl) := by
  refine MetFree.of_bodySF hpn hisR ?_
  intro p e s m args below meth c s₁ Bd hml0 hP hK
  obtain ⟨rfl, hZ, hh, hpx⟩ := hP
  have X0 : Stand p l e rm s m _ below meth c s₁ [] 0 0 := Stand.of_body Bd
  have e0 : s₁.heap = h := by rw [← hh, Bd.state]; rfl
  obtain ⟨s₂, o, h1, h2, h3, h4⟩ := hbody p e s m below meth c s₁ hpx ⟨Bd.exec, Bd.bytes, hml0, findClass_of_methodNamed Bd.named, (name_of_methodNamed Bd.named Bd.method).1, Bd.returns, Bd.notSynchronized, hZ⟩ X0 ((State.WarmedH.refl s).since 0) e0
  exact ⟨s₂, o, castTop (hef m) h1, h2, h3, h4⟩
theorem met_ofW0 {y : MethodName} {ws : List Jvm.Cond} {rm : Room} {as' : Array Value} {Q : Option Value → Heap → List Loc → Prop} {ce sl : Nat} (hpn : plainFor y = true) (hef : ∀ m, entryFrame m as' mx = mkF m 0 Ls [])
    (hbody : ∀ (p : Program) (e : Env) (s : State) (m : MethodId) (below : List Frame) (meth : Method) (c : Code) (T : State), Cx p (s.setVm s.vm) m meth c bs mx y.cls y.name rt Z → Stand p l e rm (s.setVm s.vm) m as' below meth c T [] 0 0 → s.Since s.vm 0 → T.heap = h → Go p.tables e below (EndW s Q ce sl) (T.setTop (mkF m 0 Ls []))) :
    MetFree l y (head1 (Jvm.Cond.code y bs mx rt :: ws) rm) (fun a U => a = as' ∧ Z.Warmed39 U.vm ∧ U.heap = h) (fun _ _ _ _ _ => True) (fun _ U o U' => ∃ v L, o = .returned v ∧ Q v U'.heap L ∧ ReturnedEndW U o U' L ce sl) := by
  refine MetFree.of_bodySF hpn hisR ?_
  intro p e s m args below meth c s₁ Bd hml0 hP hK
  obtain ⟨rfl, hZ, hh⟩ := hP
  have X0 : Stand p l e rm s m _ below meth c s₁ [] 0 0 := Stand.of_body Bd
  have e0 : s₁.heap = h := by rw [← hh, Bd.state]; rfl
  obtain ⟨s₂, o, h1, h2, h3, h4⟩ := hbody p e s m below meth c s₁ ⟨Bd.exec, Bd.bytes, hml0, findClass_of_methodNamed Bd.named, (name_of_methodNamed Bd.named Bd.method).1, Bd.returns, Bd.notSynchronized, hZ⟩ X0 ((State.WarmedH.refl s).since 0) e0
  exact ⟨s₂, o, castTop (hef m) h1, h2, h3, h4⟩
theorem Cx.reb {s' : State} (C : Cx p s m meth c bs mx own mnm rt Z) (hZ : Z.Warmed39 s'.vm) (ho : s'.vm.findClass own = some m.cls) : Cx p s' m meth c bs mx own mnm rt Z := ⟨C.1, C.2.1, C.2.2.1, ho, C.nm, C.ret, C.locks, hZ⟩
theorem g_ldcS {vm0 : Vm} {k0 : Nat} (C : Cx p (s.setVm vm0) m meth c bs mx own mnm rt Z) (X : Stand p l e R (s.setVm vm0) m args below meth c T locs cells slots) (hS : s.Since vm0 k0) (hk : k0 ≤ h.size) {i n ce sl : Nat} {text : String} (hd : decode bs pc = .ok (.ldc i, 2)) (w : (Jvm.Cond.stringLink own i text).before a0 Z = true) (wS : ∀ a ∈ Bundle.stringAtoms, a.before a0 Z = true) (eT : T.heap = h) (hn4 : 4 * text.toList.length ≤ n) (hbig : n ≤ 536870912) (hce : cells + 2 = ce) (hsl : slots + (n + 4) = sl) (hce' : ce ≤ R.cells) (hsl' : sl ≤ R.slots) (hn : pc + 2 = pc')
    (hr : ∀ a T' h' k1, Cx p (s.setVm T'.vm) m meth c bs mx own mnm rt Z → Stand p l e R (s.setVm T'.vm) m args below meth c T' locs ce sl → T'.heap = h' → Ext h h' → s.Since T'.vm k1 → k1 ≤ h'.size → Go p.tables e below G (T'.setTop (mkF m pc' Ls (.ref a :: st)))) : Go p.tables e below G (T.setTop (mkF m pc Ls st)) := by
  subst hn hce hsl
  obtain ⟨a, T', h', k1, X', e', E', hS', hk', hZ', ho', st'⟩ := ldcS X C.1 C.hZ C.hown w wS eT hS hk (g := mkF m pc Ls st) rfl (hb C.2.1 hd) hn4 hbig hce' hsl'
  exact (hr a T' h' k1 (C.reb hZ' ho') X' e' E' hS' hk').step st'
theorem g_callIW {vm0 : Vm} {k0 : Nat} (C : Cx p (s.setVm vm0) m meth c bs mx own mnm rt Z) (X : Stand p l e R (s.setVm vm0) m args below meth c T locs cells slots) (hS : s.Since vm0 k0) (hk : k0 ≤ h.size) {rm : Room} {as' : Array Value} {Q : Option Value → Heap → List Loc → Prop} {ml : Nat} {yb : ByteArray} {ce sl W : Nat} {argsL : List Value} {ps : List FieldType} {pr : Option FieldType} {y : MethodName} {i : Nat} {b : Addr} (hy1 : y.name = "<init>") (hd : decode bs pc = .ok (.invokespecial i, 3)) (w1 : (Jvm.Cond.methodLink own i y).before a0 Z = true) (w2 : (Jvm.Cond.instanceMethod y).before a0 Z = true) (w3 : (Jvm.Cond.initialized y.cls).before a0 Z = true) (w4 : (Jvm.Cond.code y yb ml none).before a0 Z = true) (hy : y.cls ≠ "java/lang/invoke/MethodHandle" ∧ y.cls ≠ "java/lang/invoke/VarHandle")
    (hM : MetFree l y (head1 [Jvm.Cond.code y yb ml none] rm) (fun a U => a = as' ∧ Z.Warmed39 U.vm ∧ U.heap = h) (fun _ _ _ _ _ => True) (fun _ U o U' => ∃ v L, o = .returned v ∧ Q v U'.heap L ∧ ReturnedEndW U o U' L rm.cells rm.slots)) (hf : rm.frames + 1 ≤ R.frames) (hlo : W + (ml + 11) + rm.locals ≤ R.locals) (hce : cells + rm.cells = ce) (hsl : slots + rm.slots = sl) (hce' : ce ≤ R.cells) (hsl' : sl ≤ R.slots) (has : (.ref b :: argsL).toArray = as') (eT : T.heap = h) (hsz : Ls.size = mx) (hpd : parseMethodDescriptor y.desc = some ⟨ps, pr⟩) (hln : argsL.length = ps.length) (hW : (st.map fun v => v.category).sum ≤ W) (hn : pc + 3 = pc')
    (hr : ∀ v T' L, Cx p (s.setVm T'.vm) m meth c bs mx own mnm rt Z → Stand p l e R (s.setVm T'.vm) m args below meth c T' (locs ++ L) ce sl → s.Since T'.vm T'.heap.size → Q v T'.heap L → Go p.tables e below G (T'.setTop (mkF m pc' Ls (v.toList ++ st)))) : Go p.tables e below G (T.setTop (mkF m pc Ls (argsL.reverse ++ .ref b :: st))) := by
  subst hn hce hsl has
  obtain ⟨v, vm1, ⟨T', L', k', n'⟩, -, X', hS1, hg1, ⟨Lc, hQ, l', y', z'⟩, st'⟩ := X.specialBackS C.1 (y := y) hy1 C.hown (mvT C.hZ w1) (mvT C.hZ w2) (mvT C.hZ w4) hy (backOfS (W := W) hM C.hZ w4 w3 hf hlo) (g := mkF m pc Ls (argsL.reverse ++ .ref b :: st)) rfl (hsz.trans C.2.2.1.symm) (Steps.refl _) (a := b) (argsL := argsL) (rest := st) (lenOf hpd hln) rfl (by show 2 * 0 + _ ≤ _; omega) (hb C.2.1 hd) (fun _ _ => ⟨rfl, eT, hce', hsl'⟩)
  dsimp only [Pt.U, Pt.locs, Pt.cells, Pt.slots] at X' hS1 hg1 l' y' z' st' hQ
  subst l' y' z'
  obtain ⟨X2, S2, hZ2, ho2⟩ := rebS hS (Nat.le_trans hk (Nat.le_of_eq (congrArg Array.size eT).symm)) X' hS1 hg1 C.hZ C.hown
  exact (hr v T' Lc (C.reb hZ2 ho2) X2 S2 hQ).step fun t k => st'.trans k
theorem g_retNW {vm0 : Vm} {k0 : Nat} {t : FieldType} (C : Cx p (s.setVm vm0) m meth c bs mx own mnm (some t) Z) (X : Stand p l e R (s.setVm vm0) m args below meth c T locs cells slots) (hS : s.Since vm0 k0) (hk : k0 ≤ T.heap.size) {Q : Option Value → Heap → List Loc → Prop} {ce sl : Nat} {z : Int32} (ht : t = .boolean ∨ t = .byte ∨ t = .char ∨ t = .short) (hd : decode bs pc = .ok (.ireturn, 1)) (hc : cells ≤ ce) (hs : slots ≤ sl) (hQ : Q (some (.int (nar t z))) T.heap locs) : Go p.tables e below (EndW s Q ce sl) (T.setTop (mkF m pc Ls (.int z :: st))) := by
  obtain ⟨fs, hr, hrun, hended, q1, q2, q3, q4⟩ := X.leaveW hS hk (v := (some (.int (nar t z)))) (fun h => by rw [C.ret] at h; cases h) C.locks
  exact ⟨_, _, retN X C.1 C.ret ht (hb C.2.1 hd) hr, hrun, hended, _, _, rfl, hQ, q1, q2, q3, q4.mono hc hs⟩
theorem g_retVW {vm0 : Vm} {k0 : Nat} (C : Cx p (s.setVm vm0) m meth c bs mx own mnm none Z) (X : Stand p l e R (s.setVm vm0) m args below meth c T locs cells slots) (hS : s.Since vm0 k0) (hk : k0 ≤ T.heap.size) {Q : Option Value → Heap → List Loc → Prop} {ce sl : Nat}  (hd : decode bs pc = .ok (.return_, 1)) (hc : cells ≤ ce) (hs : slots ≤ sl) (hQ : Q none T.heap locs) : Go p.tables e below (EndW s Q ce sl) (T.setTop (mkF m pc Ls [])) := by
  obtain ⟨fs, hr, hrun, hended, q1, q2, q3, q4⟩ := X.leaveW hS hk (v := none) (fun _ => rfl) C.locks
  exact ⟨_, _, X.returnOut C.1 C.ret (hb C.2.1 hd) hr, hrun, hended, _, _, rfl, hQ, q1, q2, q3, q4.mono hc hs⟩
end OwnKit
theorem own_wS {a0 : Array Value} {Z : State} (hw : ∀ d ∈ tables_1, d.before a0 Z = true) : ∀ a ∈ Bundle.stringAtoms, a.before a0 Z = true := by
  intro a ha
  simp only [Bundle.stringAtoms, Bundle.sN, List.mem_cons, List.not_mem_nil, or_false] at ha
  rcases ha with rfl | rfl | rfl | rfl | rfl | rfl | rfl
  · exact (hw _ (List.mem_of_getElem? (i := 24) rfl))
  · exact (hw _ (List.mem_of_getElem? (i := 25) rfl))
  · exact (hw _ (List.mem_of_getElem? (i := 26) rfl))
  · exact (hw _ (List.mem_of_getElem? (i := 27) rfl))
  · exact (hw _ (List.mem_of_getElem? (i := 28) rfl))
  · exact (hw _ (List.mem_of_getElem? (i := 29) rfl))
  · exact (hw _ (List.mem_of_getElem? (i := 30) rfl))
def own_D (x : Int32) : UInt64 := FP.ddiv (FP.i2d x) (4625196817309499392 : UInt64)
def own_I (i : Fin 33) : Int32 := Int32.ofInt ((i.val : Int) - 16)
theorem own_17 (p : Int32) : ∃ i : Fin 33, p % (17 : Int32) = own_I i := by
  have e : (17 : Int32).toInt = 17 := by decide
  have r := c_irem p (17 : Int32) 17 e
  have b : -16 ≤ (p % (17 : Int32)).toInt ∧ (p % (17 : Int32)).toInt ≤ 16 := by
    by_cases q : 0 ≤ p.toInt
    · have := r.1 q; omega
    · have := r.2 (by omega); omega
  refine ⟨⟨((p % (17 : Int32)).toInt + 16).toNat, by omega⟩, ?_⟩
  unfold own_I
  apply Int32.toInt_inj.mp
  rw [show ((((p % (17 : Int32)).toInt + 16).toNat : Nat) : Int) - 16 = (p % (17 : Int32)).toInt by omega, Int32.ofInt_toInt]
theorem own_nn : ∀ i : Fin 33, (own_D (own_I i)) &&& 0x7fffffffffffffff ≤ 0x7ff0000000000000 := by decide +kernel
theorem own_nan (p : Int32) : Jvm.Free.Fl.NoNaN64 (FP.ddiv (FP.i2d (p % (17 : Int32))) (4625196817309499392 : UInt64)) := by
  obtain ⟨i, hi⟩ := own_17 p
  rw [hi]; exact own_nn i
theorem own_cmp : ∀ i j : Fin 33, (0 < cmpValue (FP.dcmp (own_D (own_I i)) (own_D (own_I j))) .l) = (own_I j < own_I i) := by decide +kernel
theorem d4_0 : decode jdk_31_method_11_code 0 = .ok (.aload_n 0, 1) := by decide +kernel
theorem d4_1 : decode jdk_31_method_11_code 1 = .ok (.ifnonnull 12, 3) := by decide +kernel
theorem d4_13 : decode jdk_31_method_11_code 13 = .ok (.aload_n 0, 1) := by decide +kernel
theorem d4_14 : decode jdk_31_method_11_code 14 = .ok (.areturn, 1) := by decide +kernel
def F4 (a1 : Addr) : Addr := a1
theorem F4_l0 (a1 : Addr)  : F4 a1 = a1 := rfl
theorem ef_4 (m : MethodId) (a1 : Addr) (a2 : Addr) : entryFrame m #[(.ref a1), (.ref a2)] 2 = mkF m 0 #[.val (.ref a1), .val (.ref a2)] [] := by first | (simp [entryFrame, mkF, argsToLocals, Value.category]; done) | rfl
def Q_4 (Z : State) (a1 : Addr) (a2 : Addr) (h0 : Heap) (n0 : Nat) (v : Option Value) (h : Heap) (L : List Loc) : Prop := v = some (.ref (F4 a1)) ∧ Fr n0 L ∧ h = h0
set_option maxRecDepth 65536 in
set_option maxHeartbeats 40000000 in
theorem rm4 (l : Launch) (Z : State) (a0 : Array Value) (hw : ∀ d ∈ tables_1, d.before a0 Z = true) (ws : List Jvm.Cond) (a1 : Addr) (a2 : Addr) (h0 : Heap) (n0 : Nat) :
    MetFree l (⟨"java/util/Objects", "requireNonNull", "(Ljava/lang/Object;Ljava/lang/String;)Ljava/lang/Object;"⟩ : MethodName) (head1 (Jvm.Cond.code (⟨"java/util/Objects", "requireNonNull", "(Ljava/lang/Object;Ljava/lang/String;)Ljava/lang/Object;"⟩ : MethodName) jdk_31_method_11_code 2 (some (.object "java/lang/Object")) :: ws) ({ frames := 0, cells := 0, slots := 0, locals := 0 } : Room)) (fun a U => a = #[(.ref a1), (.ref a2)] ∧ Z.Warmed39 U.vm ∧ U.heap = h0) (fun _ _ _ _ _ => True) (fun _ U o U' => ∃ v L, o = .returned v ∧ Q_4 Z a1 a2 h0 n0 v U'.heap L ∧ FrameEnd U o U' L ({ frames := 0, cells := 0, slots := 0, locals := 0 } : Room).cells ({ frames := 0, cells := 0, slots := 0, locals := 0 } : Room).slots) := by
  refine met_of (Ls := #[.val (.ref a1), .val (.ref a2)]) (plainFor_of_name (by first | (simp [plainName, overriddenIn]; done) | decide +kernel)) (fun m => ef_4 m a1 a2) ?_
  intro p e s m below meth c T0 C X0 e0
  have N0 := Fr.nil n0
  refine g_aloadN (pc' := 1) C X0 d4_0 rfl rfl rfl ?_
  refine g_ifnonnullY (pc' := 13) C X0 d4_1 (by decide) (by decide) ?_
  refine g_aloadN (pc' := 14) C X0 d4_13 rfl rfl rfl ?_
  exact g_retA C X0 rfl rfl rfl d4_14 (by decide) (by decide) ⟨congrArg (fun z => some (Value.ref z)) (F4_l0 a1 ).symm, N0, e0⟩
theorem d5_0 : decode jdk_29_method_65_code 0 = .ok (.iload_n 0, 1) := by decide +kernel
theorem d5_1 : decode jdk_29_method_65_code 1 = .ok (.iload_n 1, 1) := by decide +kernel
theorem d5_2 : decode jdk_29_method_65_code 2 = .ok (.if_icmp .lt 7, 3) := by decide +kernel
theorem d5_9 : decode jdk_29_method_65_code 9 = .ok (.iload_n 1, 1) := by decide +kernel
theorem d5_10 : decode jdk_29_method_65_code 10 = .ok (.ireturn, 1) := by decide +kernel
theorem d5_5 : decode jdk_29_method_65_code 5 = .ok (.iload_n 0, 1) := by decide +kernel
theorem d5_6 : decode jdk_29_method_65_code 6 = .ok (.goto 4, 3) := by decide +kernel
def F5 (p1 : Int32) (p2 : Int32) : Int32 := (if p1 < p2 then p2 else p1)
theorem F5_l0 (p1 : Int32) (p2 : Int32) (h0 : p1 < p2) : F5 p1 p2 = p2 := by
  unfold F5; rw [if_pos h0]
theorem F5_l1 (p1 : Int32) (p2 : Int32) (h0 : ¬ (p1 < p2)) : F5 p1 p2 = p1 := by
  unfold F5; rw [if_neg h0]
theorem ef_5 (m : MethodId) (p1 : Int32) (p2 : Int32) : entryFrame m #[(.int p1), (.int p2)] 2 = mkF m 0 #[.val (.int p1), .val (.int p2)] [] := by first | (simp [entryFrame, mkF, argsToLocals, Value.category]; done) | rfl
def Q_5 (Z : State) (p1 : Int32) (p2 : Int32) (h0 : Heap) (n0 : Nat) (v : Option Value) (h : Heap) (L : List Loc) : Prop := v = some (.int (F5 p1 p2)) ∧ Fr n0 L ∧ h = h0
set_option maxRecDepth 65536 in
set_option maxHeartbeats 40000000 in
theorem rm5 (l : Launch) (Z : State) (a0 : Array Value) (hw : ∀ d ∈ tables_1, d.before a0 Z = true) (ws : List Jvm.Cond) (p1 : Int32) (p2 : Int32) (h0 : Heap) (n0 : Nat) :
    MetFree l (⟨"java/lang/Math", "max", "(II)I"⟩ : MethodName) (head1 (Jvm.Cond.code (⟨"java/lang/Math", "max", "(II)I"⟩ : MethodName) jdk_29_method_65_code 2 (some .int) :: ws) ({ frames := 0, cells := 0, slots := 0, locals := 0 } : Room)) (fun a U => a = #[(.int p1), (.int p2)] ∧ Z.Warmed39 U.vm ∧ U.heap = h0) (fun _ _ _ _ _ => True) (fun _ U o U' => ∃ v L, o = .returned v ∧ Q_5 Z p1 p2 h0 n0 v U'.heap L ∧ FrameEnd U o U' L ({ frames := 0, cells := 0, slots := 0, locals := 0 } : Room).cells ({ frames := 0, cells := 0, slots := 0, locals := 0 } : Room).slots) := by
  refine met_of (Ls := #[.val (.int p1), .val (.int p2)]) (Jvm.Free.JP.mathPlain rfl (by decide +kernel)) (fun m => ef_5 m p1 p2) ?_
  intro p e s m below meth c T0 C X0 e0
  have N0 := Fr.nil n0
  refine g_iloadN (pc' := 1) C X0 d5_0 rfl rfl ?_
  refine g_iloadN (pc' := 2) C X0 d5_1 rfl rfl ?_
  by_cases c1 : p1 < p2
  · refine g_icmpY (pc' := 9) C X0 d5_2 (tlt c1).1 (by decide) (by decide) ?_
    refine g_iloadN (pc' := 10) C X0 d5_9 rfl rfl ?_
    exact g_retI C X0 d5_10 (by decide) (by decide) ⟨congrArg (fun z => some (Value.int z)) (F5_l0 p1 p2 c1).symm, N0, e0⟩
  · refine g_icmpN (pc' := 5) C X0 d5_2 (flt c1).1 rfl ?_
    refine g_iloadN (pc' := 6) C X0 d5_5 rfl rfl ?_
    refine g_goto (pc' := 10) C X0 d5_6 (by decide) (by decide) ?_
    exact g_retI C X0 d5_10 (by decide) (by decide) ⟨congrArg (fun z => some (Value.int z)) (F5_l1 p1 p2 c1).symm, N0, e0⟩
theorem d1_0 : decode prog_22_method_1_code 0 = .ok (.aload_n 0, 1) := by decide +kernel
theorem d1_1 : decode prog_22_method_1_code 1 = .ok (.invokespecial 1, 3) := by decide +kernel
theorem d1_4 : decode prog_22_method_1_code 4 = .ok (.iload_n 1, 1) := by decide +kernel
theorem d1_5 : decode prog_22_method_1_code 5 = .ok (.ifCond .lt 21, 3) := by decide +kernel
theorem d1_8 : decode prog_22_method_1_code 8 = .ok (.iload_n 2, 1) := by decide +kernel
theorem d1_9 : decode prog_22_method_1_code 9 = .ok (.ifCond .lt 17, 3) := by decide +kernel
theorem d1_12 : decode prog_22_method_1_code 12 = .ok (.iload_n 3, 1) := by decide +kernel
theorem d1_13 : decode prog_22_method_1_code 13 = .ok (.ifCond .lt 13, 3) := by decide +kernel
theorem d1_16 : decode prog_22_method_1_code 16 = .ok (.iload_n 3, 1) := by decide +kernel
theorem d1_17 : decode prog_22_method_1_code 17 = .ok (.iload_n 1, 1) := by decide +kernel
theorem d1_18 : decode prog_22_method_1_code 18 = .ok (.if_icmp .gt 8, 3) := by decide +kernel
theorem d1_21 : decode prog_22_method_1_code 21 = .ok (.iload_n 3, 1) := by decide +kernel
theorem d1_22 : decode prog_22_method_1_code 22 = .ok (.iload_n 2, 1) := by decide +kernel
theorem d1_23 : decode prog_22_method_1_code 23 = .ok (.if_icmp .le 19, 3) := by decide +kernel
theorem d1_42 : decode prog_22_method_1_code 42 = .ok (.aload_n 0, 1) := by decide +kernel
theorem d1_43 : decode prog_22_method_1_code 43 = .ok (.iload_n 1, 1) := by decide +kernel
theorem d1_44 : decode prog_22_method_1_code 44 = .ok (.putfield 16, 3) := by decide +kernel
theorem d1_47 : decode prog_22_method_1_code 47 = .ok (.aload_n 0, 1) := by decide +kernel
theorem d1_48 : decode prog_22_method_1_code 48 = .ok (.iload_n 2, 1) := by decide +kernel
theorem d1_49 : decode prog_22_method_1_code 49 = .ok (.putfield 22, 3) := by decide +kernel
theorem d1_52 : decode prog_22_method_1_code 52 = .ok (.aload_n 0, 1) := by decide +kernel
theorem d1_53 : decode prog_22_method_1_code 53 = .ok (.iload_n 3, 1) := by decide +kernel
theorem d1_54 : decode prog_22_method_1_code 54 = .ok (.putfield 25, 3) := by decide +kernel
theorem d1_57 : decode prog_22_method_1_code 57 = .ok (.return_, 1) := by decide +kernel
theorem ef_1 (m : MethodId) (a1 : Addr) : entryFrame m #[(.ref a1), (.int (0 : Int32)), (.int (0 : Int32)), (.int (0 : Int32))] 4 = mkF m 0 #[.val (.ref a1), .val (.int (0 : Int32)), .val (.int (0 : Int32)), .val (.int (0 : Int32))] [] := by first | (simp [entryFrame, mkF, argsToLocals, Value.category]; done) | rfl
def Q_1 (Z : State) (a1 : Addr) (h0 : Heap) (n0 : Nat) (v : Option Value) (h : Heap) (L : List Loc) : Prop := (v = none) ∧ (Fr n0 L) ∧ (Keep h0 h [a1]) ∧ (Exa Z h a1 "com/example/wenshai/wenshai/model/Overlap")
set_option maxRecDepth 65536 in
set_option maxHeartbeats 40000000 in
theorem rm1 (l : Launch) (Z : State) (a0 : Array Value) (hw : ∀ d ∈ tables_1, d.before a0 Z = true) (ws : List Jvm.Cond) (a1 : Addr) (h0 : Heap) (n0 : Nat) (Z0 : n0 ≤ h0.size) (E_a1 : Exa Z h0 a1 "com/example/wenshai/wenshai/model/Overlap") (F_a : Fld Z h0 a1 "com/example/wenshai/wenshai/model/Overlap" "a" "I" (.int (0 : Int32))) (F_b : Fld Z h0 a1 "com/example/wenshai/wenshai/model/Overlap" "b" "I" (.int (0 : Int32))) (F_same : Fld Z h0 a1 "com/example/wenshai/wenshai/model/Overlap" "same" "I" (.int (0 : Int32))) (gn_a1 : n0 ≤ a1) :
    MetFree l (⟨"com/example/wenshai/wenshai/model/Overlap", "<init>", "(III)V"⟩ : MethodName) (head1 (Jvm.Cond.code (⟨"com/example/wenshai/wenshai/model/Overlap", "<init>", "(III)V"⟩ : MethodName) prog_22_method_1_code 4 none :: ws) ({ frames := 1, cells := 0, slots := 0, locals := 12 } : Room)) (fun a U => a = #[(.ref a1), (.int (0 : Int32)), (.int (0 : Int32)), (.int (0 : Int32))] ∧ Z.Warmed39 U.vm ∧ U.heap = h0) (fun _ _ _ _ _ => True) (fun _ U o U' => ∃ v L, o = .returned v ∧ Q_1 Z a1 h0 n0 v U'.heap L ∧ FrameEnd U o U' L ({ frames := 1, cells := 0, slots := 0, locals := 12 } : Room).cells ({ frames := 1, cells := 0, slots := 0, locals := 12 } : Room).slots) := by
  refine met_of (Ls := #[.val (.ref a1), .val (.int (0 : Int32)), .val (.int (0 : Int32)), .val (.int (0 : Int32))]) (plainFor_of_name (by first | (simp [plainName, overriddenIn]; done) | decide +kernel)) (fun m => ef_1 m a1) ?_
  intro p e s m below meth c T0 C X0 e0
  have N0 := Fr.nil n0
  have K0 : Keep h0 h0 [a1] := Keep.refl h0 _
  refine g_aloadN (pc' := 1) C X0 d1_0 rfl rfl rfl ?_
  refine g_initO (W := 0) (pc' := 4) C X0 d1_1 (hw _ (List.mem_of_getElem? (i := 6) rfl)) (hw _ (List.mem_of_getElem? (i := 7) rfl)) (hw _ (List.mem_of_getElem? (i := 8) rfl)) e0 rfl (by decide) (Nat.le_refl _) (by decide) rfl (fun T1 X1 e1 => ?_)
  refine g_iloadN (pc' := 5) C X1 d1_4 rfl rfl ?_
  refine g_ifN (pc' := 8) C X1 d1_5 (flt (show ¬ ((0 : Int32) < (0 : Int32)) from (by decide))).1 rfl ?_
  refine g_iloadN (pc' := 9) C X1 d1_8 rfl rfl ?_
  refine g_ifN (pc' := 12) C X1 d1_9 (flt (show ¬ ((0 : Int32) < (0 : Int32)) from (by decide))).1 rfl ?_
  refine g_iloadN (pc' := 13) C X1 d1_12 rfl rfl ?_
  refine g_ifN (pc' := 16) C X1 d1_13 (flt (show ¬ ((0 : Int32) < (0 : Int32)) from (by decide))).1 rfl ?_
  refine g_iloadN (pc' := 17) C X1 d1_16 rfl rfl ?_
  refine g_iloadN (pc' := 18) C X1 d1_17 rfl rfl ?_
  refine g_icmpN (pc' := 21) C X1 d1_18 (flt (show ¬ ((0 : Int32) < (0 : Int32)) from (by decide))).2.2.1 rfl ?_
  refine g_iloadN (pc' := 22) C X1 d1_21 rfl rfl ?_
  refine g_iloadN (pc' := 23) C X1 d1_22 rfl rfl ?_
  refine g_icmpY (pc' := 42) C X1 d1_23 (flt (show ¬ ((0 : Int32) < (0 : Int32)) from (by decide))).2.2.2 (by decide) (by decide) ?_
  refine g_aloadN (pc' := 43) C X1 d1_42 rfl rfl rfl ?_
  refine g_iloadN (pc' := 44) C X1 d1_43 rfl rfl ?_
  refine g_putF (pc' := 47) C X1 d1_44 (host := "") (Or.inl (hw _ (List.mem_of_getElem? (i := 9) rfl))) Via.refl e1 F_a E_a1 (Or.inr ⟨(hw _ (List.mem_of_getElem? (i := 10) rfl)), rfl, rfl⟩) (hw _ (List.mem_of_getElem? (i := 1) rfl)) (ty := .int) (by decide) rfl rfl rfl (fun T2 h2 X2 e2 W2 => ?_)
  have F2 := F_a.same W2
  have E_a1_2 := E_a1.wr W2
  have F_b_2 := F_b.other W2 (Or.inr (slot_ne (Or.inr (hw _ (List.mem_of_getElem? (i := 12) rfl))) (Or.inr (hw _ (List.mem_of_getElem? (i := 10) rfl))) (by decide) (t := .int) (t' := .int) (by decide) (by decide)))
  have F_same_2 := F_same.other W2 (Or.inr (slot_ne (Or.inr (hw _ (List.mem_of_getElem? (i := 14) rfl))) (Or.inr (hw _ (List.mem_of_getElem? (i := 10) rfl))) (by decide) (t := .int) (t' := .int) (by decide) (by decide)))
  have Z2 := Nat.le_trans Z0 (Nat.le_of_eq W2.size.symm)
  have N2 := Fr.snoc X2 N0 gn_a1
  have K2 := K0.wr W2 (Or.inl (List.mem_of_getElem? (i := 0) rfl))
  refine g_aloadN (pc' := 48) C X2 d1_47 rfl rfl rfl ?_
  refine g_iloadN (pc' := 49) C X2 d1_48 rfl rfl ?_
  refine g_putF (pc' := 52) C X2 d1_49 (host := "") (Or.inl (hw _ (List.mem_of_getElem? (i := 11) rfl))) Via.refl e2 F_b_2 E_a1_2 (Or.inr ⟨(hw _ (List.mem_of_getElem? (i := 12) rfl)), rfl, rfl⟩) (hw _ (List.mem_of_getElem? (i := 1) rfl)) (ty := .int) (by decide) rfl rfl rfl (fun T3 h3 X3 e3 W3 => ?_)
  have F3 := F_b_2.same W3
  have E_a1_3 := E_a1_2.wr W3
  have F_same_3 := F_same_2.other W3 (Or.inr (slot_ne (Or.inr (hw _ (List.mem_of_getElem? (i := 14) rfl))) (Or.inr (hw _ (List.mem_of_getElem? (i := 12) rfl))) (by decide) (t := .int) (t' := .int) (by decide) (by decide)))
  have F2_3 := F2.other W3 (Or.inr (slot_ne (Or.inr (hw _ (List.mem_of_getElem? (i := 10) rfl))) (Or.inr (hw _ (List.mem_of_getElem? (i := 12) rfl))) (by decide) (t := .int) (t' := .int) (by decide) (by decide)))
  have Z3 := Nat.le_trans Z2 (Nat.le_of_eq W3.size.symm)
  have N3 := Fr.snoc X3 N2 gn_a1
  have K3 := K2.wr W3 (Or.inl (List.mem_of_getElem? (i := 0) rfl))
  refine g_aloadN (pc' := 53) C X3 d1_52 rfl rfl rfl ?_
  refine g_iloadN (pc' := 54) C X3 d1_53 rfl rfl ?_
  refine g_putF (pc' := 57) C X3 d1_54 (host := "") (Or.inl (hw _ (List.mem_of_getElem? (i := 13) rfl))) Via.refl e3 F_same_3 E_a1_3 (Or.inr ⟨(hw _ (List.mem_of_getElem? (i := 14) rfl)), rfl, rfl⟩) (hw _ (List.mem_of_getElem? (i := 1) rfl)) (ty := .int) (by decide) rfl rfl rfl (fun T4 h4 X4 e4 W4 => ?_)
  have F4 := F_same_3.same W4
  have E_a1_4 := E_a1_3.wr W4
  have F2_4 := F2_3.other W4 (Or.inr (slot_ne (Or.inr (hw _ (List.mem_of_getElem? (i := 10) rfl))) (Or.inr (hw _ (List.mem_of_getElem? (i := 14) rfl))) (by decide) (t := .int) (t' := .int) (by decide) (by decide)))
  have F3_4 := F3.other W4 (Or.inr (slot_ne (Or.inr (hw _ (List.mem_of_getElem? (i := 12) rfl))) (Or.inr (hw _ (List.mem_of_getElem? (i := 14) rfl))) (by decide) (t := .int) (t' := .int) (by decide) (by decide)))
  have Z4 := Nat.le_trans Z3 (Nat.le_of_eq W4.size.symm)
  have N4 := Fr.snoc X4 N3 gn_a1
  have K4 := K3.wr W4 (Or.inl (List.mem_of_getElem? (i := 0) rfl))
  exact g_retV C X4 d1_57 (by decide) (by decide) ⟨rfl, N4, (by rw [e4]; exact K4), (by rw [e4]; exact E_a1_4)⟩
theorem d3_0 : decode prog_27_method_1_code 0 = .ok (.aload_n 0, 1) := by decide +kernel
theorem d3_1 : decode prog_27_method_1_code 1 = .ok (.invokespecial 1, 3) := by decide +kernel
theorem d3_4 : decode prog_27_method_1_code 4 = .ok (.aload_n 0, 1) := by decide +kernel
theorem d3_5 : decode prog_27_method_1_code 5 = .ok (.aload_n 1, 1) := by decide +kernel
theorem d3_6 : decode prog_27_method_1_code 6 = .ok (.ldc 7, 2) := by decide +kernel
theorem d3_8 : decode prog_27_method_1_code 8 = .ok (.invokestatic 9, 3) := by decide +kernel
theorem pd_0 : parseMethodDescriptor "(Ljava/lang/Object;Ljava/lang/String;)Ljava/lang/Object;" = some ⟨[(.object "java/lang/Object"), (.object "java/lang/String")], some (.object "java/lang/Object")⟩ := by decide +kernel
theorem d3_11 : decode prog_27_method_1_code 11 = .ok (.checkcast 15, 3) := by decide +kernel
theorem d3_14 : decode prog_27_method_1_code 14 = .ok (.putfield 17, 3) := by decide +kernel
theorem d3_17 : decode prog_27_method_1_code 17 = .ok (.aload_n 0, 1) := by decide +kernel
theorem d3_18 : decode prog_27_method_1_code 18 = .ok (.aload_n 2, 1) := by decide +kernel
theorem d3_19 : decode prog_27_method_1_code 19 = .ok (.ldc 22, 2) := by decide +kernel
theorem d3_21 : decode prog_27_method_1_code 21 = .ok (.invokestatic 9, 3) := by decide +kernel
theorem d3_24 : decode prog_27_method_1_code 24 = .ok (.checkcast 15, 3) := by decide +kernel
theorem d3_27 : decode prog_27_method_1_code 27 = .ok (.putfield 24, 3) := by decide +kernel
theorem d3_30 : decode prog_27_method_1_code 30 = .ok (.aload_n 0, 1) := by decide +kernel
theorem d3_31 : decode prog_27_method_1_code 31 = .ok (.aload_n 3, 1) := by decide +kernel
theorem d3_32 : decode prog_27_method_1_code 32 = .ok (.ldc 26, 2) := by decide +kernel
theorem d3_34 : decode prog_27_method_1_code 34 = .ok (.invokestatic 9, 3) := by decide +kernel
theorem d3_37 : decode prog_27_method_1_code 37 = .ok (.checkcast 15, 3) := by decide +kernel
theorem d3_40 : decode prog_27_method_1_code 40 = .ok (.putfield 28, 3) := by decide +kernel
theorem d3_43 : decode prog_27_method_1_code 43 = .ok (.aload_n 0, 1) := by decide +kernel
theorem d3_44 : decode prog_27_method_1_code 44 = .ok (.dload 4, 2) := by decide +kernel
theorem d3_46 : decode prog_27_method_1_code 46 = .ok (.putfield 30, 3) := by decide +kernel
theorem d3_49 : decode prog_27_method_1_code 49 = .ok (.aload_n 0, 1) := by decide +kernel
theorem d3_50 : decode prog_27_method_1_code 50 = .ok (.dload 6, 2) := by decide +kernel
theorem d3_52 : decode prog_27_method_1_code 52 = .ok (.putfield 34, 3) := by decide +kernel
theorem d3_55 : decode prog_27_method_1_code 55 = .ok (.aload_n 0, 1) := by decide +kernel
theorem d3_56 : decode prog_27_method_1_code 56 = .ok (.dload 8, 2) := by decide +kernel
theorem d3_58 : decode prog_27_method_1_code 58 = .ok (.putfield 37, 3) := by decide +kernel
theorem d3_61 : decode prog_27_method_1_code 61 = .ok (.return_, 1) := by decide +kernel
theorem ef_3 (m : MethodId) (a1 : Addr) (a2 : Addr) (d5 : UInt64) (d6 : UInt64) (d7 : UInt64) : entryFrame m #[(.ref a1), (.ref a2), (.ref a2), (.ref a2), (.double d5), (.double d6), (.double d7)] 10 = mkF m 0 #[.val (.ref a1), .val (.ref a2), .val (.ref a2), .val (.ref a2), .val (.double d5), .second, .val (.double d6), .second, .val (.double d7), .second] [] := by first | (simp [entryFrame, mkF, argsToLocals, Value.category]; done) | rfl
def Q_3 (Z : State) (a1 : Addr) (a2 : Addr) (d5 : UInt64) (d6 : UInt64) (d7 : UInt64) (h0 : Heap) (n0 : Nat) (v : Option Value) (h : Heap) (L : List Loc) : Prop := (v = none) ∧ (Fr n0 L) ∧ (Keep h0 h [a1]) ∧ (Exa Z h a1 "com/example/wenshai/wenshai/model/Similarity") ∧ (Fld Z h a1 "com/example/wenshai/wenshai/model/Similarity" "aToB" "D" (.double d5)) ∧ (Fld Z h a1 "com/example/wenshai/wenshai/model/Similarity" "bToA" "D" (.double d6)) ∧ (Fld Z h a1 "com/example/wenshai/wenshai/model/Similarity" "threshold" "D" (.double d7))
set_option maxRecDepth 65536 in
set_option maxHeartbeats 40000000 in
theorem rm3 (l : Launch) (Z : State) (a0 : Array Value) (hw : ∀ d ∈ tables_1, d.before a0 Z = true) (ws : List Jvm.Cond) (a1 : Addr) (a2 : Addr) (d5 : UInt64) (d6 : UInt64) (d7 : UInt64) (h0 : Heap) (n0 : Nat) (Z0 : n0 ≤ h0.size) (E_a1 : Exa Z h0 a1 "com/example/wenshai/wenshai/model/Similarity") (E_o : Exa Z h0 a2 "com/example/wenshai/wenshai/model/Overlap") (F_paragraphs : Fld Z h0 a1 "com/example/wenshai/wenshai/model/Similarity" "paragraphs" "Lcom/example/wenshai/wenshai/model/Overlap;" .null) (F_sentences : Fld Z h0 a1 "com/example/wenshai/wenshai/model/Similarity" "sentences" "Lcom/example/wenshai/wenshai/model/Overlap;" .null) (F_words : Fld Z h0 a1 "com/example/wenshai/wenshai/model/Similarity" "words" "Lcom/example/wenshai/wenshai/model/Overlap;" .null) (F_aToB : Fld Z h0 a1 "com/example/wenshai/wenshai/model/Similarity" "aToB" "D" (.double (0 : UInt64))) (F_bToA : Fld Z h0 a1 "com/example/wenshai/wenshai/model/Similarity" "bToA" "D" (.double (0 : UInt64))) (F_threshold : Fld Z h0 a1 "com/example/wenshai/wenshai/model/Similarity" "threshold" "D" (.double (0 : UInt64))) (gn_a1 : n0 ≤ a1) (ne21 : ¬ (a2 = a1)) :
    MetFree l (⟨"com/example/wenshai/wenshai/model/Similarity", "<init>", "(Lcom/example/wenshai/wenshai/model/Overlap;Lcom/example/wenshai/wenshai/model/Overlap;Lcom/example/wenshai/wenshai/model/Overlap;DDD)V"⟩ : MethodName) (head1 (Jvm.Cond.code (⟨"com/example/wenshai/wenshai/model/Similarity", "<init>", "(Lcom/example/wenshai/wenshai/model/Overlap;Lcom/example/wenshai/wenshai/model/Overlap;Lcom/example/wenshai/wenshai/model/Overlap;DDD)V"⟩ : MethodName) prog_27_method_1_code 10 none :: ws) ({ frames := 1, cells := 6, slots := 108, locals := 14 } : Room)) (fun a U => a = #[(.ref a1), (.ref a2), (.ref a2), (.ref a2), (.double d5), (.double d6), (.double d7)] ∧ Z.Warmed39 U.vm ∧ U.heap = h0) (fun _ _ _ _ _ => True) (fun _ U o U' => ∃ v L, o = .returned v ∧ Q_3 Z a1 a2 d5 d6 d7 h0 n0 v U'.heap L ∧ ReturnedEndW U o U' L ({ frames := 1, cells := 6, slots := 108, locals := 14 } : Room).cells ({ frames := 1, cells := 6, slots := 108, locals := 14 } : Room).slots) := by
  refine met_ofW0 (Ls := #[.val (.ref a1), .val (.ref a2), .val (.ref a2), .val (.ref a2), .val (.double d5), .second, .val (.double d6), .second, .val (.double d7), .second]) (plainFor_of_name (by first | (simp [plainName, overriddenIn]; done) | decide +kernel)) (fun m => ef_3 m a1 a2 d5 d6 d7) ?_
  intro p e s m below meth c T0 C X0 hS e0
  have N0 := Fr.nil n0
  have K0 : Keep h0 h0 [a1] := Keep.refl h0 _
  refine g_aloadN (pc' := 1) C X0 d3_0 rfl rfl rfl ?_
  refine g_initO (W := 0) (pc' := 4) C X0 d3_1 (hw _ (List.mem_of_getElem? (i := 22) rfl)) (hw _ (List.mem_of_getElem? (i := 7) rfl)) (hw _ (List.mem_of_getElem? (i := 8) rfl)) e0 rfl (by decide) (Nat.le_refl _) (by decide) rfl (fun T1 X1 e1 => ?_)
  refine g_aloadN (pc' := 5) C X1 d3_4 rfl rfl rfl ?_
  refine g_aloadN (pc' := 6) C X1 d3_5 rfl rfl rfl ?_
  refine g_ldcS (pc' := 8) (n := 40) C X1 hS (Nat.zero_le _) d3_6 (hw _ (List.mem_of_getElem? (i := 23) rfl)) (own_wS hw) e1 (by decide) (by decide) (ce := 2) (sl := 44) rfl rfl (by decide) (by decide) rfl (fun b2 T2 h2 k2 C X2 e2 E2 hS Kz2 => ?_)
  have E_a1_2 := E_a1.ext E2
  have E_o_2 := E_o.ext E2
  have F_paragraphs_2 := F_paragraphs.ext E2
  have F_sentences_2 := F_sentences.ext E2
  have F_words_2 := F_words.ext E2
  have F_aToB_2 := F_aToB.ext E2
  have F_bToA_2 := F_bToA.ext E2
  have F_threshold_2 := F_threshold.ext E2
  have Z2 := Nat.le_trans Z0 E2.1
  have K2 := K0.ext E2
  refine g_callS (y := (⟨"java/util/Objects", "requireNonNull", "(Ljava/lang/Object;Ljava/lang/String;)Ljava/lang/Object;"⟩ : MethodName)) (argsL := [(.ref a2), (.ref b2)]) (st := [(.ref a1)]) (pc' := 11) C X2 d3_8 (hw _ (List.mem_of_getElem? (i := 31) rfl)) (hw _ (List.mem_of_getElem? (i := 32) rfl)) (hw _ (List.mem_of_getElem? (i := 33) rfl)) (hw _ (List.mem_of_getElem? (i := 34) rfl)) (by decide) (rm4 l Z a0 hw [] a2 b2 h2 n0) (W := 1) (by decide) (by decide) (ce := 2) (sl := 44) rfl rfl (by decide) (by decide) rfl e2 rfl pd_0 rfl (Nat.le_refl _) rfl (fun v3 T3 L3 X3 Q3 => ?_)
  obtain ⟨q3, Nq3, e3⟩ := Q3
  have N3 := Fr.app N0 Nq3
  rw [F4_l0 a2] at q3
  subst q3
  show Go p.tables e below _ (T3.setTop (mkF m 11 #[.val (.ref a1), .val (.ref a2), .val (.ref a2), .val (.ref a2), .val (.double d5), .second, .val (.double d6), .second, .val (.double d7), .second] [(.ref a2), (.ref a1)]))
  refine g_castY (pc' := 14) C X3 d3_11 (hw _ (List.mem_of_getElem? (i := 35) rfl)) e3 (Ins.self E_o_2) rfl (fun T4 X4 e4 => ?_)
  refine g_putF (pc' := 17) C X4 d3_14 (host := "") (Or.inl (hw _ (List.mem_of_getElem? (i := 37) rfl))) Via.refl e4 F_paragraphs_2 E_a1_2 (Or.inr ⟨(hw _ (List.mem_of_getElem? (i := 38) rfl)), rfl, rfl⟩) (hw _ (List.mem_of_getElem? (i := 16) rfl)) (ty := (.object "com/example/wenshai/wenshai/model/Overlap")) (by decide) rfl rfl rfl (fun T5 h5 X5 e5 W5 => ?_)
  have F5 := F_paragraphs_2.same W5
  have E_a1_5 := E_a1_2.wr W5
  have E_o_5 := E_o_2.wr W5
  have F_sentences_5 := F_sentences_2.other W5 (Or.inr (slot_ne (Or.inr (hw _ (List.mem_of_getElem? (i := 41) rfl))) (Or.inr (hw _ (List.mem_of_getElem? (i := 38) rfl))) (by decide) (t := (.object "com/example/wenshai/wenshai/model/Overlap")) (t' := (.object "com/example/wenshai/wenshai/model/Overlap")) (by decide) (by decide)))
  have F_words_5 := F_words_2.other W5 (Or.inr (slot_ne (Or.inr (hw _ (List.mem_of_getElem? (i := 44) rfl))) (Or.inr (hw _ (List.mem_of_getElem? (i := 38) rfl))) (by decide) (t := (.object "com/example/wenshai/wenshai/model/Overlap")) (t' := (.object "com/example/wenshai/wenshai/model/Overlap")) (by decide) (by decide)))
  have F_aToB_5 := F_aToB_2.other W5 (Or.inr (slot_ne (Or.inr (hw _ (List.mem_of_getElem? (i := 46) rfl))) (Or.inr (hw _ (List.mem_of_getElem? (i := 38) rfl))) (by decide) (t := .double) (t' := (.object "com/example/wenshai/wenshai/model/Overlap")) (by decide) (by decide)))
  have F_bToA_5 := F_bToA_2.other W5 (Or.inr (slot_ne (Or.inr (hw _ (List.mem_of_getElem? (i := 48) rfl))) (Or.inr (hw _ (List.mem_of_getElem? (i := 38) rfl))) (by decide) (t := .double) (t' := (.object "com/example/wenshai/wenshai/model/Overlap")) (by decide) (by decide)))
  have F_threshold_5 := F_threshold_2.other W5 (Or.inr (slot_ne (Or.inr (hw _ (List.mem_of_getElem? (i := 50) rfl))) (Or.inr (hw _ (List.mem_of_getElem? (i := 38) rfl))) (by decide) (t := .double) (t' := (.object "com/example/wenshai/wenshai/model/Overlap")) (by decide) (by decide)))
  have Z5 := Nat.le_trans Z2 (Nat.le_of_eq W5.size.symm)
  have Kz5 := Nat.le_trans Kz2 (Nat.le_of_eq W5.size.symm)
  have N5 := Fr.snoc X5 N3 gn_a1
  have K5 := K2.wr W5 (Or.inl (List.mem_of_getElem? (i := 0) rfl))
  refine g_aloadN (pc' := 18) C X5 d3_17 rfl rfl rfl ?_
  refine g_aloadN (pc' := 19) C X5 d3_18 rfl rfl rfl ?_
  refine g_ldcS (pc' := 21) (n := 36) C X5 hS Kz5 d3_19 (hw _ (List.mem_of_getElem? (i := 39) rfl)) (own_wS hw) e5 (by decide) (by decide) (ce := 4) (sl := 84) rfl rfl (by decide) (by decide) rfl (fun b6 T6 h6 k6 C X6 e6 E6 hS Kz6 => ?_)
  have E_a1_6 := E_a1_5.ext E6
  have E_o_6 := E_o_5.ext E6
  have F_sentences_6 := F_sentences_5.ext E6
  have F_words_6 := F_words_5.ext E6
  have F_aToB_6 := F_aToB_5.ext E6
  have F_bToA_6 := F_bToA_5.ext E6
  have F_threshold_6 := F_threshold_5.ext E6
  have F5_6 := F5.ext E6
  have Z6 := Nat.le_trans Z5 E6.1
  have K6 := K5.ext E6
  refine g_callS (y := (⟨"java/util/Objects", "requireNonNull", "(Ljava/lang/Object;Ljava/lang/String;)Ljava/lang/Object;"⟩ : MethodName)) (argsL := [(.ref a2), (.ref b6)]) (st := [(.ref a1)]) (pc' := 24) C X6 d3_21 (hw _ (List.mem_of_getElem? (i := 31) rfl)) (hw _ (List.mem_of_getElem? (i := 32) rfl)) (hw _ (List.mem_of_getElem? (i := 33) rfl)) (hw _ (List.mem_of_getElem? (i := 34) rfl)) (by decide) (rm4 l Z a0 hw [] a2 b6 h6 n0) (W := 1) (by decide) (by decide) (ce := 4) (sl := 84) rfl rfl (by decide) (by decide) rfl e6 rfl pd_0 rfl (Nat.le_refl _) rfl (fun v7 T7 L7 X7 Q7 => ?_)
  obtain ⟨q7, Nq7, e7⟩ := Q7
  have N7 := Fr.app N5 Nq7
  rw [F4_l0 a2] at q7
  subst q7
  show Go p.tables e below _ (T7.setTop (mkF m 24 #[.val (.ref a1), .val (.ref a2), .val (.ref a2), .val (.ref a2), .val (.double d5), .second, .val (.double d6), .second, .val (.double d7), .second] [(.ref a2), (.ref a1)]))
  refine g_castY (pc' := 27) C X7 d3_24 (hw _ (List.mem_of_getElem? (i := 35) rfl)) e7 (Ins.self E_o_6) rfl (fun T8 X8 e8 => ?_)
  refine g_putF (pc' := 30) C X8 d3_27 (host := "") (Or.inl (hw _ (List.mem_of_getElem? (i := 40) rfl))) Via.refl e8 F_sentences_6 E_a1_6 (Or.inr ⟨(hw _ (List.mem_of_getElem? (i := 41) rfl)), rfl, rfl⟩) (hw _ (List.mem_of_getElem? (i := 16) rfl)) (ty := (.object "com/example/wenshai/wenshai/model/Overlap")) (by decide) rfl rfl rfl (fun T9 h9 X9 e9 W9 => ?_)
  have F9 := F_sentences_6.same W9
  have E_a1_9 := E_a1_6.wr W9
  have E_o_9 := E_o_6.wr W9
  have F_words_9 := F_words_6.other W9 (Or.inr (slot_ne (Or.inr (hw _ (List.mem_of_getElem? (i := 44) rfl))) (Or.inr (hw _ (List.mem_of_getElem? (i := 41) rfl))) (by decide) (t := (.object "com/example/wenshai/wenshai/model/Overlap")) (t' := (.object "com/example/wenshai/wenshai/model/Overlap")) (by decide) (by decide)))
  have F_aToB_9 := F_aToB_6.other W9 (Or.inr (slot_ne (Or.inr (hw _ (List.mem_of_getElem? (i := 46) rfl))) (Or.inr (hw _ (List.mem_of_getElem? (i := 41) rfl))) (by decide) (t := .double) (t' := (.object "com/example/wenshai/wenshai/model/Overlap")) (by decide) (by decide)))
  have F_bToA_9 := F_bToA_6.other W9 (Or.inr (slot_ne (Or.inr (hw _ (List.mem_of_getElem? (i := 48) rfl))) (Or.inr (hw _ (List.mem_of_getElem? (i := 41) rfl))) (by decide) (t := .double) (t' := (.object "com/example/wenshai/wenshai/model/Overlap")) (by decide) (by decide)))
  have F_threshold_9 := F_threshold_6.other W9 (Or.inr (slot_ne (Or.inr (hw _ (List.mem_of_getElem? (i := 50) rfl))) (Or.inr (hw _ (List.mem_of_getElem? (i := 41) rfl))) (by decide) (t := .double) (t' := (.object "com/example/wenshai/wenshai/model/Overlap")) (by decide) (by decide)))
  have F5_9 := F5_6.other W9 (Or.inr (slot_ne (Or.inr (hw _ (List.mem_of_getElem? (i := 38) rfl))) (Or.inr (hw _ (List.mem_of_getElem? (i := 41) rfl))) (by decide) (t := (.object "com/example/wenshai/wenshai/model/Overlap")) (t' := (.object "com/example/wenshai/wenshai/model/Overlap")) (by decide) (by decide)))
  have Z9 := Nat.le_trans Z6 (Nat.le_of_eq W9.size.symm)
  have Kz9 := Nat.le_trans Kz6 (Nat.le_of_eq W9.size.symm)
  have N9 := Fr.snoc X9 N7 gn_a1
  have K9 := K6.wr W9 (Or.inl (List.mem_of_getElem? (i := 0) rfl))
  refine g_aloadN (pc' := 31) C X9 d3_30 rfl rfl rfl ?_
  refine g_aloadN (pc' := 32) C X9 d3_31 rfl rfl rfl ?_
  refine g_ldcS (pc' := 34) (n := 20) C X9 hS Kz9 d3_32 (hw _ (List.mem_of_getElem? (i := 42) rfl)) (own_wS hw) e9 (by decide) (by decide) (ce := 6) (sl := 108) rfl rfl (by decide) (by decide) rfl (fun b10 T10 h10 k10 C X10 e10 E10 hS Kz10 => ?_)
  have E_a1_10 := E_a1_9.ext E10
  have E_o_10 := E_o_9.ext E10
  have F_words_10 := F_words_9.ext E10
  have F_aToB_10 := F_aToB_9.ext E10
  have F_bToA_10 := F_bToA_9.ext E10
  have F_threshold_10 := F_threshold_9.ext E10
  have F5_10 := F5_9.ext E10
  have F9_10 := F9.ext E10
  have Z10 := Nat.le_trans Z9 E10.1
  have K10 := K9.ext E10
  refine g_callS (y := (⟨"java/util/Objects", "requireNonNull", "(Ljava/lang/Object;Ljava/lang/String;)Ljava/lang/Object;"⟩ : MethodName)) (argsL := [(.ref a2), (.ref b10)]) (st := [(.ref a1)]) (pc' := 37) C X10 d3_34 (hw _ (List.mem_of_getElem? (i := 31) rfl)) (hw _ (List.mem_of_getElem? (i := 32) rfl)) (hw _ (List.mem_of_getElem? (i := 33) rfl)) (hw _ (List.mem_of_getElem? (i := 34) rfl)) (by decide) (rm4 l Z a0 hw [] a2 b10 h10 n0) (W := 1) (by decide) (by decide) (ce := 6) (sl := 108) rfl rfl (by decide) (by decide) rfl e10 rfl pd_0 rfl (Nat.le_refl _) rfl (fun v11 T11 L11 X11 Q11 => ?_)
  obtain ⟨q11, Nq11, e11⟩ := Q11
  have N11 := Fr.app N9 Nq11
  rw [F4_l0 a2] at q11
  subst q11
  show Go p.tables e below _ (T11.setTop (mkF m 37 #[.val (.ref a1), .val (.ref a2), .val (.ref a2), .val (.ref a2), .val (.double d5), .second, .val (.double d6), .second, .val (.double d7), .second] [(.ref a2), (.ref a1)]))
  refine g_castY (pc' := 40) C X11 d3_37 (hw _ (List.mem_of_getElem? (i := 35) rfl)) e11 (Ins.self E_o_10) rfl (fun T12 X12 e12 => ?_)
  refine g_putF (pc' := 43) C X12 d3_40 (host := "") (Or.inl (hw _ (List.mem_of_getElem? (i := 43) rfl))) Via.refl e12 F_words_10 E_a1_10 (Or.inr ⟨(hw _ (List.mem_of_getElem? (i := 44) rfl)), rfl, rfl⟩) (hw _ (List.mem_of_getElem? (i := 16) rfl)) (ty := (.object "com/example/wenshai/wenshai/model/Overlap")) (by decide) rfl rfl rfl (fun T13 h13 X13 e13 W13 => ?_)
  have F13 := F_words_10.same W13
  have E_a1_13 := E_a1_10.wr W13
  have E_o_13 := E_o_10.wr W13
  have F_aToB_13 := F_aToB_10.other W13 (Or.inr (slot_ne (Or.inr (hw _ (List.mem_of_getElem? (i := 46) rfl))) (Or.inr (hw _ (List.mem_of_getElem? (i := 44) rfl))) (by decide) (t := .double) (t' := (.object "com/example/wenshai/wenshai/model/Overlap")) (by decide) (by decide)))
  have F_bToA_13 := F_bToA_10.other W13 (Or.inr (slot_ne (Or.inr (hw _ (List.mem_of_getElem? (i := 48) rfl))) (Or.inr (hw _ (List.mem_of_getElem? (i := 44) rfl))) (by decide) (t := .double) (t' := (.object "com/example/wenshai/wenshai/model/Overlap")) (by decide) (by decide)))
  have F_threshold_13 := F_threshold_10.other W13 (Or.inr (slot_ne (Or.inr (hw _ (List.mem_of_getElem? (i := 50) rfl))) (Or.inr (hw _ (List.mem_of_getElem? (i := 44) rfl))) (by decide) (t := .double) (t' := (.object "com/example/wenshai/wenshai/model/Overlap")) (by decide) (by decide)))
  have F5_13 := F5_10.other W13 (Or.inr (slot_ne (Or.inr (hw _ (List.mem_of_getElem? (i := 38) rfl))) (Or.inr (hw _ (List.mem_of_getElem? (i := 44) rfl))) (by decide) (t := (.object "com/example/wenshai/wenshai/model/Overlap")) (t' := (.object "com/example/wenshai/wenshai/model/Overlap")) (by decide) (by decide)))
  have F9_13 := F9_10.other W13 (Or.inr (slot_ne (Or.inr (hw _ (List.mem_of_getElem? (i := 41) rfl))) (Or.inr (hw _ (List.mem_of_getElem? (i := 44) rfl))) (by decide) (t := (.object "com/example/wenshai/wenshai/model/Overlap")) (t' := (.object "com/example/wenshai/wenshai/model/Overlap")) (by decide) (by decide)))
  have Z13 := Nat.le_trans Z10 (Nat.le_of_eq W13.size.symm)
  have Kz13 := Nat.le_trans Kz10 (Nat.le_of_eq W13.size.symm)
  have N13 := Fr.snoc X13 N11 gn_a1
  have K13 := K10.wr W13 (Or.inl (List.mem_of_getElem? (i := 0) rfl))
  refine g_aloadN (pc' := 44) C X13 d3_43 rfl rfl rfl ?_
  refine g_dload (pc' := 46) C X13 d3_44 rfl rfl ?_
  refine g_putF (pc' := 49) C X13 d3_46 (host := "") (Or.inl (hw _ (List.mem_of_getElem? (i := 45) rfl))) Via.refl e13 F_aToB_13 E_a1_13 (Or.inr ⟨(hw _ (List.mem_of_getElem? (i := 46) rfl)), rfl, rfl⟩) (hw _ (List.mem_of_getElem? (i := 16) rfl)) (ty := .double) (by decide) rfl rfl rfl (fun T14 h14 X14 e14 W14 => ?_)
  have F14 := F_aToB_13.same W14
  have E_a1_14 := E_a1_13.wr W14
  have E_o_14 := E_o_13.wr W14
  have F_bToA_14 := F_bToA_13.other W14 (Or.inr (slot_ne (Or.inr (hw _ (List.mem_of_getElem? (i := 48) rfl))) (Or.inr (hw _ (List.mem_of_getElem? (i := 46) rfl))) (by decide) (t := .double) (t' := .double) (by decide) (by decide)))
  have F_threshold_14 := F_threshold_13.other W14 (Or.inr (slot_ne (Or.inr (hw _ (List.mem_of_getElem? (i := 50) rfl))) (Or.inr (hw _ (List.mem_of_getElem? (i := 46) rfl))) (by decide) (t := .double) (t' := .double) (by decide) (by decide)))
  have F5_14 := F5_13.other W14 (Or.inr (slot_ne (Or.inr (hw _ (List.mem_of_getElem? (i := 38) rfl))) (Or.inr (hw _ (List.mem_of_getElem? (i := 46) rfl))) (by decide) (t := (.object "com/example/wenshai/wenshai/model/Overlap")) (t' := .double) (by decide) (by decide)))
  have F9_14 := F9_13.other W14 (Or.inr (slot_ne (Or.inr (hw _ (List.mem_of_getElem? (i := 41) rfl))) (Or.inr (hw _ (List.mem_of_getElem? (i := 46) rfl))) (by decide) (t := (.object "com/example/wenshai/wenshai/model/Overlap")) (t' := .double) (by decide) (by decide)))
  have F13_14 := F13.other W14 (Or.inr (slot_ne (Or.inr (hw _ (List.mem_of_getElem? (i := 44) rfl))) (Or.inr (hw _ (List.mem_of_getElem? (i := 46) rfl))) (by decide) (t := (.object "com/example/wenshai/wenshai/model/Overlap")) (t' := .double) (by decide) (by decide)))
  have Z14 := Nat.le_trans Z13 (Nat.le_of_eq W14.size.symm)
  have Kz14 := Nat.le_trans Kz13 (Nat.le_of_eq W14.size.symm)
  have N14 := Fr.snoc X14 N13 gn_a1
  have K14 := K13.wr W14 (Or.inl (List.mem_of_getElem? (i := 0) rfl))
  refine g_aloadN (pc' := 50) C X14 d3_49 rfl rfl rfl ?_
  refine g_dload (pc' := 52) C X14 d3_50 rfl rfl ?_
  refine g_putF (pc' := 55) C X14 d3_52 (host := "") (Or.inl (hw _ (List.mem_of_getElem? (i := 47) rfl))) Via.refl e14 F_bToA_14 E_a1_14 (Or.inr ⟨(hw _ (List.mem_of_getElem? (i := 48) rfl)), rfl, rfl⟩) (hw _ (List.mem_of_getElem? (i := 16) rfl)) (ty := .double) (by decide) rfl rfl rfl (fun T15 h15 X15 e15 W15 => ?_)
  have F15 := F_bToA_14.same W15
  have E_a1_15 := E_a1_14.wr W15
  have E_o_15 := E_o_14.wr W15
  have F_threshold_15 := F_threshold_14.other W15 (Or.inr (slot_ne (Or.inr (hw _ (List.mem_of_getElem? (i := 50) rfl))) (Or.inr (hw _ (List.mem_of_getElem? (i := 48) rfl))) (by decide) (t := .double) (t' := .double) (by decide) (by decide)))
  have F5_15 := F5_14.other W15 (Or.inr (slot_ne (Or.inr (hw _ (List.mem_of_getElem? (i := 38) rfl))) (Or.inr (hw _ (List.mem_of_getElem? (i := 48) rfl))) (by decide) (t := (.object "com/example/wenshai/wenshai/model/Overlap")) (t' := .double) (by decide) (by decide)))
  have F9_15 := F9_14.other W15 (Or.inr (slot_ne (Or.inr (hw _ (List.mem_of_getElem? (i := 41) rfl))) (Or.inr (hw _ (List.mem_of_getElem? (i := 48) rfl))) (by decide) (t := (.object "com/example/wenshai/wenshai/model/Overlap")) (t' := .double) (by decide) (by decide)))
  have F13_15 := F13_14.other W15 (Or.inr (slot_ne (Or.inr (hw _ (List.mem_of_getElem? (i := 44) rfl))) (Or.inr (hw _ (List.mem_of_getElem? (i := 48) rfl))) (by decide) (t := (.object "com/example/wenshai/wenshai/model/Overlap")) (t' := .double) (by decide) (by decide)))
  have F14_15 := F14.other W15 (Or.inr (slot_ne (Or.inr (hw _ (List.mem_of_getElem? (i := 46) rfl))) (Or.inr (hw _ (List.mem_of_getElem? (i := 48) rfl))) (by decide) (t := .double) (t' := .double) (by decide) (by decide)))
  have Z15 := Nat.le_trans Z14 (Nat.le_of_eq W15.size.symm)
  have Kz15 := Nat.le_trans Kz14 (Nat.le_of_eq W15.size.symm)
  have N15 := Fr.snoc X15 N14 gn_a1
  have K15 := K14.wr W15 (Or.inl (List.mem_of_getElem? (i := 0) rfl))
  refine g_aloadN (pc' := 56) C X15 d3_55 rfl rfl rfl ?_
  refine g_dload (pc' := 58) C X15 d3_56 rfl rfl ?_
  refine g_putF (pc' := 61) C X15 d3_58 (host := "") (Or.inl (hw _ (List.mem_of_getElem? (i := 49) rfl))) Via.refl e15 F_threshold_15 E_a1_15 (Or.inr ⟨(hw _ (List.mem_of_getElem? (i := 50) rfl)), rfl, rfl⟩) (hw _ (List.mem_of_getElem? (i := 16) rfl)) (ty := .double) (by decide) rfl rfl rfl (fun T16 h16 X16 e16 W16 => ?_)
  have F16 := F_threshold_15.same W16
  have E_a1_16 := E_a1_15.wr W16
  have E_o_16 := E_o_15.wr W16
  have F5_16 := F5_15.other W16 (Or.inr (slot_ne (Or.inr (hw _ (List.mem_of_getElem? (i := 38) rfl))) (Or.inr (hw _ (List.mem_of_getElem? (i := 50) rfl))) (by decide) (t := (.object "com/example/wenshai/wenshai/model/Overlap")) (t' := .double) (by decide) (by decide)))
  have F9_16 := F9_15.other W16 (Or.inr (slot_ne (Or.inr (hw _ (List.mem_of_getElem? (i := 41) rfl))) (Or.inr (hw _ (List.mem_of_getElem? (i := 50) rfl))) (by decide) (t := (.object "com/example/wenshai/wenshai/model/Overlap")) (t' := .double) (by decide) (by decide)))
  have F13_16 := F13_15.other W16 (Or.inr (slot_ne (Or.inr (hw _ (List.mem_of_getElem? (i := 44) rfl))) (Or.inr (hw _ (List.mem_of_getElem? (i := 50) rfl))) (by decide) (t := (.object "com/example/wenshai/wenshai/model/Overlap")) (t' := .double) (by decide) (by decide)))
  have F14_16 := F14_15.other W16 (Or.inr (slot_ne (Or.inr (hw _ (List.mem_of_getElem? (i := 46) rfl))) (Or.inr (hw _ (List.mem_of_getElem? (i := 50) rfl))) (by decide) (t := .double) (t' := .double) (by decide) (by decide)))
  have F15_16 := F15.other W16 (Or.inr (slot_ne (Or.inr (hw _ (List.mem_of_getElem? (i := 48) rfl))) (Or.inr (hw _ (List.mem_of_getElem? (i := 50) rfl))) (by decide) (t := .double) (t' := .double) (by decide) (by decide)))
  have Z16 := Nat.le_trans Z15 (Nat.le_of_eq W16.size.symm)
  have Kz16 := Nat.le_trans Kz15 (Nat.le_of_eq W16.size.symm)
  have N16 := Fr.snoc X16 N15 gn_a1
  have K16 := K15.wr W16 (Or.inl (List.mem_of_getElem? (i := 0) rfl))
  exact g_retVW C X16 hS (by rw [e16]; exact Kz16) d3_61 (by decide) (by decide) ⟨rfl, N16, (by rw [e16]; exact K16), (by rw [e16]; exact E_a1_16), (by rw [e16]; exact F14_16), (by rw [e16]; exact F15_16), (by rw [e16]; exact F16)⟩
theorem d6_0 : decode prog_27_method_8_code 0 = .ok (.aload_n 0, 1) := by decide +kernel
theorem d6_1 : decode prog_27_method_8_code 1 = .ok (.getfield 30, 3) := by decide +kernel
theorem d6_4 : decode prog_27_method_8_code 4 = .ok (.aload_n 0, 1) := by decide +kernel
theorem d6_5 : decode prog_27_method_8_code 5 = .ok (.getfield 37, 3) := by decide +kernel
theorem d6_8 : decode prog_27_method_8_code 8 = .ok (.dcmp .l, 1) := by decide +kernel
theorem d6_9 : decode prog_27_method_8_code 9 = .ok (.ifCond .gt 15, 3) := by decide +kernel
theorem d6_24 : decode prog_27_method_8_code 24 = .ok (.iconst 1, 1) := by decide +kernel
theorem d6_25 : decode prog_27_method_8_code 25 = .ok (.goto 4, 3) := by decide +kernel
theorem d6_29 : decode prog_27_method_8_code 29 = .ok (.ireturn, 1) := by decide +kernel
theorem d6_12 : decode prog_27_method_8_code 12 = .ok (.aload_n 0, 1) := by decide +kernel
theorem d6_13 : decode prog_27_method_8_code 13 = .ok (.getfield 34, 3) := by decide +kernel
theorem d6_16 : decode prog_27_method_8_code 16 = .ok (.aload_n 0, 1) := by decide +kernel
theorem d6_17 : decode prog_27_method_8_code 17 = .ok (.getfield 37, 3) := by decide +kernel
theorem d6_20 : decode prog_27_method_8_code 20 = .ok (.dcmp .l, 1) := by decide +kernel
theorem d6_21 : decode prog_27_method_8_code 21 = .ok (.ifCond .le 7, 3) := by decide +kernel
theorem d6_28 : decode prog_27_method_8_code 28 = .ok (.iconst 0, 1) := by decide +kernel
def F6 (x : UInt64) (y : UInt64) (t : UInt64) : Int32 := (if (0 : Int32) < (cmpValue (FP.dcmp x t) .l) then (1 : Int32) else (if (0 : Int32) < (cmpValue (FP.dcmp y t) .l) then (1 : Int32) else (0 : Int32)))
theorem F6_l0 (x : UInt64) (y : UInt64) (t : UInt64) (h0 : (0 : Int32) < (cmpValue (FP.dcmp x t) .l)) : F6 x y t = (1 : Int32) := by
  unfold F6; rw [if_pos h0]
theorem F6_l1 (x : UInt64) (y : UInt64) (t : UInt64) (h0 : ¬ ((0 : Int32) < (cmpValue (FP.dcmp x t) .l))) (h1 : (0 : Int32) < (cmpValue (FP.dcmp y t) .l)) : F6 x y t = (1 : Int32) := by
  unfold F6; rw [if_neg h0, if_pos h1]
theorem F6_l2 (x : UInt64) (y : UInt64) (t : UInt64) (h0 : ¬ ((0 : Int32) < (cmpValue (FP.dcmp x t) .l))) (h1 : ¬ ((0 : Int32) < (cmpValue (FP.dcmp y t) .l))) : F6 x y t = (0 : Int32) := by
  unfold F6; rw [if_neg h0, if_neg h1]
theorem ef_6 (m : MethodId) (a1 : Addr) : entryFrame m #[(.ref a1)] 1 = mkF m 0 #[.val (.ref a1)] [] := by first | (simp [entryFrame, mkF, argsToLocals, Value.category]; done) | rfl
def Q_6 (Z : State) (a1 : Addr) (x : UInt64) (y : UInt64) (t : UInt64) (h0 : Heap) (n0 : Nat) (v : Option Value) (h : Heap) (L : List Loc) : Prop := v = some (.int (F6 x y t)) ∧ Fr n0 L ∧ h = h0
set_option maxRecDepth 65536 in
set_option maxHeartbeats 40000000 in
theorem rm6 (l : Launch) (Z : State) (a0 : Array Value) (hw : ∀ d ∈ tables_1, d.before a0 Z = true) (ws : List Jvm.Cond) (a1 : Addr) (x : UInt64) (y : UInt64) (t : UInt64) (h0 : Heap) (n0 : Nat) (F_aToB : Fld Z h0 a1 "com/example/wenshai/wenshai/model/Similarity" "aToB" "D" (.double x)) (F_bToA : Fld Z h0 a1 "com/example/wenshai/wenshai/model/Similarity" "bToA" "D" (.double y)) (F_threshold : Fld Z h0 a1 "com/example/wenshai/wenshai/model/Similarity" "threshold" "D" (.double t)) :
    MetFree l (⟨"com/example/wenshai/wenshai/model/Similarity", "isSimilar", "()Z"⟩ : MethodName) (head1 (Jvm.Cond.code (⟨"com/example/wenshai/wenshai/model/Similarity", "isSimilar", "()Z"⟩ : MethodName) prog_27_method_8_code 1 (some .boolean) :: ws) ({ frames := 0, cells := 0, slots := 0, locals := 0 } : Room)) (fun a U => a = #[(.ref a1)] ∧ Z.Warmed39 U.vm ∧ U.heap = h0) (fun _ _ _ _ _ => True) (fun _ U o U' => ∃ v L, o = .returned v ∧ Q_6 Z a1 x y t h0 n0 v U'.heap L ∧ FrameEnd U o U' L ({ frames := 0, cells := 0, slots := 0, locals := 0 } : Room).cells ({ frames := 0, cells := 0, slots := 0, locals := 0 } : Room).slots) := by
  refine met_of (Ls := #[.val (.ref a1)]) (plainFor_of_name (by first | (simp [plainName, overriddenIn]; done) | decide +kernel)) (fun m => ef_6 m a1) ?_
  intro p e s m below meth c T0 C X0 e0
  have N0 := Fr.nil n0
  refine g_aloadN (pc' := 1) C X0 d6_0 rfl rfl rfl ?_
  refine g_getF (pc' := 4) C X0 d6_1 (host := "") (Or.inl (hw _ (List.mem_of_getElem? (i := 45) rfl))) Via.refl e0 F_aToB rfl (fun T1 X1 e1 => ?_)
  refine g_aloadN (pc' := 5) C X1 d6_4 rfl rfl rfl ?_
  refine g_getF (pc' := 8) C X1 d6_5 (host := "") (Or.inl (hw _ (List.mem_of_getElem? (i := 49) rfl))) Via.refl e1 F_threshold rfl (fun T2 X2 e2 => ?_)
  refine g_dcmp (pc' := 9) C X2 d6_8 rfl ?_
  by_cases c3 : (0 : Int32) < (cmpValue (FP.dcmp x t) .l)
  · refine g_ifY (pc' := 24) C X2 d6_9 (tlt c3).2.2.1 (by decide) (by decide) ?_
    refine g_iconst (pc' := 25) (v := (1 : Int32)) C X2 d6_24 rfl rfl ?_
    refine g_goto (pc' := 29) C X2 d6_25 (by decide) (by decide) ?_
    exact g_retN C X2 (by simp) d6_29 (by decide) (by decide) ⟨congrArg (fun z => some (Value.int z)) (F6_l0 x y t c3).symm, N0, e2⟩
  · refine g_ifN (pc' := 12) C X2 d6_9 (flt c3).2.2.1 rfl ?_
    refine g_aloadN (pc' := 13) C X2 d6_12 rfl rfl rfl ?_
    refine g_getF (pc' := 16) C X2 d6_13 (host := "") (Or.inl (hw _ (List.mem_of_getElem? (i := 47) rfl))) Via.refl e2 F_bToA rfl (fun T4 X4 e4 => ?_)
    refine g_aloadN (pc' := 17) C X4 d6_16 rfl rfl rfl ?_
    refine g_getF (pc' := 20) C X4 d6_17 (host := "") (Or.inl (hw _ (List.mem_of_getElem? (i := 49) rfl))) Via.refl e4 F_threshold rfl (fun T5 X5 e5 => ?_)
    refine g_dcmp (pc' := 21) C X5 d6_20 rfl ?_
    by_cases c6 : (0 : Int32) < (cmpValue (FP.dcmp y t) .l)
    · refine g_ifN (pc' := 24) C X5 d6_21 (tlt c6).2.2.2 rfl ?_
      refine g_iconst (pc' := 25) (v := (1 : Int32)) C X5 d6_24 rfl rfl ?_
      refine g_goto (pc' := 29) C X5 d6_25 (by decide) (by decide) ?_
      exact g_retN C X5 (by simp) d6_29 (by decide) (by decide) ⟨congrArg (fun z => some (Value.int z)) (F6_l1 x y t c3 c6).symm, N0, e5⟩
    · refine g_ifY (pc' := 28) C X5 d6_21 (flt c6).2.2.2 (by decide) (by decide) ?_
      refine g_iconst (pc' := 29) (v := (0 : Int32)) C X5 d6_28 rfl rfl ?_
      exact g_retN C X5 (by simp) d6_29 (by decide) (by decide) ⟨congrArg (fun z => some (Value.int z)) (F6_l2 x y t c3 c6).symm, N0, e5⟩
theorem pd_1 : parseMethodDescriptor "(III)V" = some ⟨[.int, .int, .int], none⟩ := by decide +kernel
theorem pd_2 : parseMethodDescriptor "(Lcom/example/wenshai/wenshai/model/Overlap;Lcom/example/wenshai/wenshai/model/Overlap;Lcom/example/wenshai/wenshai/model/Overlap;DDD)V" = some ⟨[(.object "com/example/wenshai/wenshai/model/Overlap"), (.object "com/example/wenshai/wenshai/model/Overlap"), (.object "com/example/wenshai/wenshai/model/Overlap"), .double, .double, .double], none⟩ := by decide +kernel
theorem pd_3 : parseMethodDescriptor "(II)I" = some ⟨[.int, .int], some .int⟩ := by decide +kernel
theorem pd_4 : parseMethodDescriptor "()Z" = some ⟨[], some .boolean⟩ := by decide +kernel
def F0 (p1 : Int32) (p2 : Int32) (p3 : Int32) : Int32 := (if (p3 % (17 : Int32)) < (F5 (p1 % (17 : Int32)) (p2 % (17 : Int32))) then (if (F6 (FP.ddiv (FP.i2d (p1 % (17 : Int32))) (4625196817309499392 : UInt64)) (FP.ddiv (FP.i2d (p2 % (17 : Int32))) (4625196817309499392 : UInt64)) (FP.ddiv (FP.i2d (p3 % (17 : Int32))) (4625196817309499392 : UInt64))) = (1 : Int32) then (1 : Int32) else (0 : Int32)) else (if (F6 (FP.ddiv (FP.i2d (p1 % (17 : Int32))) (4625196817309499392 : UInt64)) (FP.ddiv (FP.i2d (p2 % (17 : Int32))) (4625196817309499392 : UInt64)) (FP.ddiv (FP.i2d (p3 % (17 : Int32))) (4625196817309499392 : UInt64))) = (0 : Int32) then (1 : Int32) else (0 : Int32)))
theorem F0_l0 (p1 : Int32) (p2 : Int32) (p3 : Int32) (h0 : (p3 % (17 : Int32)) < (F5 (p1 % (17 : Int32)) (p2 % (17 : Int32)))) (h1 : (F6 (FP.ddiv (FP.i2d (p1 % (17 : Int32))) (4625196817309499392 : UInt64)) (FP.ddiv (FP.i2d (p2 % (17 : Int32))) (4625196817309499392 : UInt64)) (FP.ddiv (FP.i2d (p3 % (17 : Int32))) (4625196817309499392 : UInt64))) = (1 : Int32)) : F0 p1 p2 p3 = (1 : Int32) := by
  unfold F0; rw [if_pos h0, if_pos h1]
theorem F0_l1 (p1 : Int32) (p2 : Int32) (p3 : Int32) (h0 : (p3 % (17 : Int32)) < (F5 (p1 % (17 : Int32)) (p2 % (17 : Int32)))) (h1 : ¬ ((F6 (FP.ddiv (FP.i2d (p1 % (17 : Int32))) (4625196817309499392 : UInt64)) (FP.ddiv (FP.i2d (p2 % (17 : Int32))) (4625196817309499392 : UInt64)) (FP.ddiv (FP.i2d (p3 % (17 : Int32))) (4625196817309499392 : UInt64))) = (1 : Int32))) : F0 p1 p2 p3 = (0 : Int32) := by
  unfold F0; rw [if_pos h0, if_neg h1]
theorem F0_l2 (p1 : Int32) (p2 : Int32) (p3 : Int32) (h0 : ¬ ((p3 % (17 : Int32)) < (F5 (p1 % (17 : Int32)) (p2 % (17 : Int32))))) (h1 : (F6 (FP.ddiv (FP.i2d (p1 % (17 : Int32))) (4625196817309499392 : UInt64)) (FP.ddiv (FP.i2d (p2 % (17 : Int32))) (4625196817309499392 : UInt64)) (FP.ddiv (FP.i2d (p3 % (17 : Int32))) (4625196817309499392 : UInt64))) = (0 : Int32)) : F0 p1 p2 p3 = (1 : Int32) := by
  unfold F0; rw [if_neg h0, if_pos h1]
theorem F0_l3 (p1 : Int32) (p2 : Int32) (p3 : Int32) (h0 : ¬ ((p3 % (17 : Int32)) < (F5 (p1 % (17 : Int32)) (p2 % (17 : Int32))))) (h1 : ¬ ((F6 (FP.ddiv (FP.i2d (p1 % (17 : Int32))) (4625196817309499392 : UInt64)) (FP.ddiv (FP.i2d (p2 % (17 : Int32))) (4625196817309499392 : UInt64)) (FP.ddiv (FP.i2d (p3 % (17 : Int32))) (4625196817309499392 : UInt64))) = (0 : Int32))) : F0 p1 p2 p3 = (0 : Int32) := by
  unfold F0; rw [if_neg h0, if_neg h1]
theorem ef_0 (m : MethodId) (p1 : Int32) (p2 : Int32) (p3 : Int32) : entryFrame m #[(.int p1), (.int p2), (.int p3)] maxLocals = mkF m 0 #[.val (.int p1), .val (.int p2), .val (.int p3), .unset, .unset, .unset, .unset, .unset, .unset] [] := by first | (simp [entryFrame, mkF, argsToLocals, Value.category, maxLocals]; done) | rfl
def Q_0 (Z : State) (p1 : Int32) (p2 : Int32) (p3 : Int32) (h0 : Heap) (n0 : Nat) (v : Option Value) (h : Heap) (L : List Loc) : Prop := v = some (.int (F0 p1 p2 p3)) ∧ Fr n0 L
set_option maxRecDepth 65536 in
set_option maxHeartbeats 40000000 in
theorem rm0 (l : Launch) (Z : State) (a0 : Array Value) (hw : ∀ d ∈ tables_1, d.before a0 Z = true) (ws : List Jvm.Cond) (p1 : Int32) (p2 : Int32) (p3 : Int32) (h0 : Heap) (n0 : Nat) (Z0 : n0 ≤ h0.size) :
    MetFree l x (head1 (Jvm.Cond.code x code maxLocals ret :: ws) room_1) (fun a U => a = #[(.int p1), (.int p2), (.int p3)] ∧ Z.Warmed39 U.vm ∧ U.heap = h0) (fun _ _ _ _ _ => True) (fun _ U o U' => ∃ v L, o = .returned v ∧ Q_0 Z p1 p2 p3 h0 n0 v U'.heap L ∧ ReturnedEndW U o U' L 8 117) := by
  refine met_ofW0 (Ls := #[.val (.int p1), .val (.int p2), .val (.int p3), .unset, .unset, .unset, .unset, .unset, .unset]) (plainFor_of_name (by first | (simp [plainName, overriddenIn]; done) | decide +kernel)) (fun m => ef_0 m p1 p2 p3) ?_
  intro p e s m below meth c T0 C X0 hS e0
  have N0 := Fr.nil n0
  refine g_iloadN (pc' := 1) C X0 at_0 rfl rfl ?_
  refine g_bipush (pc' := 3) (v := (17 : Int32)) C X0 at_1 rfl rfl ?_
  refine g_irem (pc' := 4) C X0 at_3 (by decide) rfl ?_
  refine g_istoreN (pc' := 5) (Ls' := #[.val (.int p1), .val (.int p2), .val (.int p3), .val (.int (p1 % (17 : Int32))), .unset, .unset, .unset, .unset, .unset]) C X0 at_4 rfl rfl ?_
  refine g_iloadN (pc' := 6) C X0 at_5 rfl rfl ?_
  refine g_bipush (pc' := 8) (v := (17 : Int32)) C X0 at_6 rfl rfl ?_
  refine g_irem (pc' := 9) C X0 at_8 (by decide) rfl ?_
  refine g_istore (pc' := 11) (Ls' := #[.val (.int p1), .val (.int p2), .val (.int p3), .val (.int (p1 % (17 : Int32))), .val (.int (p2 % (17 : Int32))), .unset, .unset, .unset, .unset]) C X0 at_9 rfl rfl ?_
  refine g_iloadN (pc' := 12) C X0 at_11 rfl rfl ?_
  refine g_bipush (pc' := 14) (v := (17 : Int32)) C X0 at_12 rfl rfl ?_
  refine g_irem (pc' := 15) C X0 at_14 (by decide) rfl ?_
  refine g_istore (pc' := 17) (Ls' := #[.val (.int p1), .val (.int p2), .val (.int p3), .val (.int (p1 % (17 : Int32))), .val (.int (p2 % (17 : Int32))), .val (.int (p3 % (17 : Int32))), .unset, .unset, .unset]) C X0 at_15 rfl rfl ?_
  refine g_new (pc' := 20) C X0 at_17 (hw _ (List.mem_of_getElem? (i := 0) rfl)) (hw _ (List.mem_of_getElem? (i := 1) rfl)) (hw _ (List.mem_of_getElem? (i := 2) rfl)) e0 (ce := 1) (sl := 3) rfl rfl (by decide) (by decide) rfl (fun T1 h1 b1 g1 X1 e1 E1 A1 D1 => ?_)
  have gn_b1 : n0 ≤ b1 := Nat.le_trans Z0 (Nat.le_of_eq g1.symm)
  have Z1 := Nat.le_trans Z0 E1.1
  have Kz1 := Nat.le_trans (Nat.zero_le _) E1.1
  have F1_a : Fld Z h1 b1 "com/example/wenshai/wenshai/model/Overlap" "a" "I" (.int (0 : Int32)) := D1 (Or.inr (hw _ (List.mem_of_getElem? (i := 10) rfl))) (ty := .int) (by decide)
  have F1_b : Fld Z h1 b1 "com/example/wenshai/wenshai/model/Overlap" "b" "I" (.int (0 : Int32)) := D1 (Or.inr (hw _ (List.mem_of_getElem? (i := 12) rfl))) (ty := .int) (by decide)
  have F1_same : Fld Z h1 b1 "com/example/wenshai/wenshai/model/Overlap" "same" "I" (.int (0 : Int32)) := D1 (Or.inr (hw _ (List.mem_of_getElem? (i := 14) rfl))) (ty := .int) (by decide)
  refine g_dup (pc' := 21) C X1 at_20 rfl rfl ?_
  refine g_iconst (pc' := 22) (v := (0 : Int32)) C X1 at_21 rfl rfl ?_
  refine g_iconst (pc' := 23) (v := (0 : Int32)) C X1 at_22 rfl rfl ?_
  refine g_iconst (pc' := 24) (v := (0 : Int32)) C X1 at_23 rfl rfl ?_
  refine g_callI (b := b1) (y := (⟨"com/example/wenshai/wenshai/model/Overlap", "<init>", "(III)V"⟩ : MethodName)) (argsL := [(.int (0 : Int32)), (.int (0 : Int32)), (.int (0 : Int32))]) (st := [(.ref b1)]) (pc' := 27) C X1 rfl at_24 (hw _ (List.mem_of_getElem? (i := 3) rfl)) (hw _ (List.mem_of_getElem? (i := 4) rfl)) (hw _ (List.mem_of_getElem? (i := 2) rfl)) (hw _ (List.mem_of_getElem? (i := 5) rfl)) (by decide) (rm1 l Z a0 hw [] b1 h1 n0 Z1 A1 F1_a F1_b F1_same gn_b1) (W := 1) (by decide) (by decide) (ce := 1) (sl := 3) rfl rfl (by decide) (by decide) rfl e1 rfl pd_1 rfl (Nat.le_refl _) rfl (fun v2 T2 L2 X2 Q2 => ?_)
  obtain ⟨q2, Nq2, Kq2, P2_0⟩ := Q2
  have N2 := Fr.app N0 Nq2
  have Z2 := Nat.le_trans Z1 Kq2.1
  have Kz2 := Nat.le_trans Kz1 Kq2.1
  subst q2
  show Go p.tables e below _ (T2.setTop (mkF m 27 #[.val (.int p1), .val (.int p2), .val (.int p3), .val (.int (p1 % (17 : Int32))), .val (.int (p2 % (17 : Int32))), .val (.int (p3 % (17 : Int32))), .unset, .unset, .unset] [(.ref b1)]))
  refine g_astore (pc' := 29) (Ls' := #[.val (.int p1), .val (.int p2), .val (.int p3), .val (.int (p1 % (17 : Int32))), .val (.int (p2 % (17 : Int32))), .val (.int (p3 % (17 : Int32))), .val (.ref b1), .unset, .unset]) C X2 at_27 rfl rfl rfl ?_
  refine g_new (pc' := 32) C X2 at_29 (hw _ (List.mem_of_getElem? (i := 15) rfl)) (hw _ (List.mem_of_getElem? (i := 16) rfl)) (hw _ (List.mem_of_getElem? (i := 17) rfl)) rfl (ce := 2) (sl := 9) rfl rfl (by decide) (by decide) rfl (fun T3 h3 b3 g3 X3 e3 E3 A3 D3 => ?_)
  have ne3_4 : ¬ (b1 = b3) := Nat.ne_of_lt (Nat.lt_of_lt_of_le P2_0.lt (Nat.le_of_eq g3.symm))
  have P2_0_3 := P2_0.ext E3
  have gn_b3 : n0 ≤ b3 := Nat.le_trans Z2 (Nat.le_of_eq g3.symm)
  have Z3 := Nat.le_trans Z2 E3.1
  have Kz3 := Nat.le_trans Kz2 E3.1
  have F3_paragraphs : Fld Z h3 b3 "com/example/wenshai/wenshai/model/Similarity" "paragraphs" "Lcom/example/wenshai/wenshai/model/Overlap;" .null := D3 (Or.inr (hw _ (List.mem_of_getElem? (i := 38) rfl))) (ty := (.object "com/example/wenshai/wenshai/model/Overlap")) (by decide)
  have F3_sentences : Fld Z h3 b3 "com/example/wenshai/wenshai/model/Similarity" "sentences" "Lcom/example/wenshai/wenshai/model/Overlap;" .null := D3 (Or.inr (hw _ (List.mem_of_getElem? (i := 41) rfl))) (ty := (.object "com/example/wenshai/wenshai/model/Overlap")) (by decide)
  have F3_words : Fld Z h3 b3 "com/example/wenshai/wenshai/model/Similarity" "words" "Lcom/example/wenshai/wenshai/model/Overlap;" .null := D3 (Or.inr (hw _ (List.mem_of_getElem? (i := 44) rfl))) (ty := (.object "com/example/wenshai/wenshai/model/Overlap")) (by decide)
  have F3_aToB : Fld Z h3 b3 "com/example/wenshai/wenshai/model/Similarity" "aToB" "D" (.double (0 : UInt64)) := D3 (Or.inr (hw _ (List.mem_of_getElem? (i := 46) rfl))) (ty := .double) (by decide)
  have F3_bToA : Fld Z h3 b3 "com/example/wenshai/wenshai/model/Similarity" "bToA" "D" (.double (0 : UInt64)) := D3 (Or.inr (hw _ (List.mem_of_getElem? (i := 48) rfl))) (ty := .double) (by decide)
  have F3_threshold : Fld Z h3 b3 "com/example/wenshai/wenshai/model/Similarity" "threshold" "D" (.double (0 : UInt64)) := D3 (Or.inr (hw _ (List.mem_of_getElem? (i := 50) rfl))) (ty := .double) (by decide)
  refine g_dup (pc' := 33) C X3 at_32 rfl rfl ?_
  refine g_aload (pc' := 35) C X3 at_33 rfl rfl rfl ?_
  refine g_aload (pc' := 37) C X3 at_35 rfl rfl rfl ?_
  refine g_aload (pc' := 39) C X3 at_37 rfl rfl rfl ?_
  refine g_iloadN (pc' := 40) C X3 at_39 rfl rfl ?_
  refine g_i2d (pc' := 41) C X3 at_40 rfl ?_
  refine g_ldc2D (pc' := 44) (v := (4625196817309499392 : UInt64)) C X3 at_41 (hw _ (List.mem_of_getElem? (i := 18) rfl)) rfl ?_
  refine g_ddiv (pc' := 45) C X3 at_44 (own_nan _) rfl ?_
  refine g_iload (pc' := 47) C X3 at_45 rfl rfl ?_
  refine g_i2d (pc' := 48) C X3 at_47 rfl ?_
  refine g_ldc2D (pc' := 51) (v := (4625196817309499392 : UInt64)) C X3 at_48 (hw _ (List.mem_of_getElem? (i := 18) rfl)) rfl ?_
  refine g_ddiv (pc' := 52) C X3 at_51 (own_nan _) rfl ?_
  refine g_iload (pc' := 54) C X3 at_52 rfl rfl ?_
  refine g_i2d (pc' := 55) C X3 at_54 rfl ?_
  refine g_ldc2D (pc' := 58) (v := (4625196817309499392 : UInt64)) C X3 at_55 (hw _ (List.mem_of_getElem? (i := 18) rfl)) rfl ?_
  refine g_ddiv (pc' := 59) C X3 at_58 (own_nan _) rfl ?_
  refine g_callIW (b := b3) (y := (⟨"com/example/wenshai/wenshai/model/Similarity", "<init>", "(Lcom/example/wenshai/wenshai/model/Overlap;Lcom/example/wenshai/wenshai/model/Overlap;Lcom/example/wenshai/wenshai/model/Overlap;DDD)V"⟩ : MethodName)) (argsL := [(.ref b1), (.ref b1), (.ref b1), (.double (FP.ddiv (FP.i2d (p1 % (17 : Int32))) (4625196817309499392 : UInt64))), (.double (FP.ddiv (FP.i2d (p2 % (17 : Int32))) (4625196817309499392 : UInt64))), (.double (FP.ddiv (FP.i2d (p3 % (17 : Int32))) (4625196817309499392 : UInt64)))]) (st := [(.ref b3)]) (pc' := 62) C X3 hS Kz3 rfl at_59 (hw _ (List.mem_of_getElem? (i := 19) rfl)) (hw _ (List.mem_of_getElem? (i := 20) rfl)) (hw _ (List.mem_of_getElem? (i := 17) rfl)) (hw _ (List.mem_of_getElem? (i := 21) rfl)) (by decide) (rm3 l Z a0 hw [] b3 b1 (FP.ddiv (FP.i2d (p1 % (17 : Int32))) (4625196817309499392 : UInt64)) (FP.ddiv (FP.i2d (p2 % (17 : Int32))) (4625196817309499392 : UInt64)) (FP.ddiv (FP.i2d (p3 % (17 : Int32))) (4625196817309499392 : UInt64)) h3 n0 Z3 A3 P2_0_3 F3_paragraphs F3_sentences F3_words F3_aToB F3_bToA F3_threshold gn_b3 ne3_4) (W := 1) (by decide) (by decide) (ce := 8) (sl := 117) rfl rfl (by decide) (by decide) rfl e3 rfl pd_2 rfl (Nat.le_refl _) rfl (fun v5 T5 L5 C X5 hS Q5 => ?_)
  obtain ⟨q5, Nq5, Kq5, P5_0, P5_1, P5_2, P5_3⟩ := Q5
  have N5 := Fr.app N2 Nq5
  have P2_0_5 := P2_0_3.keep Kq5
  have Z5 := Nat.le_trans Z3 Kq5.1
  have Kz5 := Nat.le_trans Kz3 Kq5.1
  subst q5
  show Go p.tables e below _ (T5.setTop (mkF m 62 #[.val (.int p1), .val (.int p2), .val (.int p3), .val (.int (p1 % (17 : Int32))), .val (.int (p2 % (17 : Int32))), .val (.int (p3 % (17 : Int32))), .val (.ref b1), .unset, .unset] [(.ref b3)]))
  refine g_astore (pc' := 64) (Ls' := #[.val (.int p1), .val (.int p2), .val (.int p3), .val (.int (p1 % (17 : Int32))), .val (.int (p2 % (17 : Int32))), .val (.int (p3 % (17 : Int32))), .val (.ref b1), .val (.ref b3), .unset]) C X5 at_62 rfl rfl rfl ?_
  refine g_iloadN (pc' := 65) C X5 at_64 rfl rfl ?_
  refine g_iload (pc' := 67) C X5 at_65 rfl rfl ?_
  refine g_callS (y := (⟨"java/lang/Math", "max", "(II)I"⟩ : MethodName)) (argsL := [(.int (p1 % (17 : Int32))), (.int (p2 % (17 : Int32)))]) (st := []) (pc' := 70) C X5 at_67 (hw _ (List.mem_of_getElem? (i := 51) rfl)) (hw _ (List.mem_of_getElem? (i := 52) rfl)) (hw _ (List.mem_of_getElem? (i := 53) rfl)) (hw _ (List.mem_of_getElem? (i := 54) rfl)) (by decide) (rm5 l Z a0 hw [] (p1 % (17 : Int32)) (p2 % (17 : Int32)) T5.heap n0) (W := 0) (by decide) (by decide) (ce := 8) (sl := 117) rfl rfl (by decide) (by decide) rfl rfl rfl pd_3 rfl (Nat.le_refl _) rfl (fun v6 T6 L6 X6 Q6 => ?_)
  obtain ⟨q6, Nq6, e6⟩ := Q6
  have N6 := Fr.app N5 Nq6
  subst q6
  show Go p.tables e below _ (T6.setTop (mkF m 70 #[.val (.int p1), .val (.int p2), .val (.int p3), .val (.int (p1 % (17 : Int32))), .val (.int (p2 % (17 : Int32))), .val (.int (p3 % (17 : Int32))), .val (.ref b1), .val (.ref b3), .unset] [(.int (F5 (p1 % (17 : Int32)) (p2 % (17 : Int32))))]))
  refine g_iload (pc' := 72) C X6 at_70 rfl rfl ?_
  by_cases c7 : (p3 % (17 : Int32)) < (F5 (p1 % (17 : Int32)) (p2 % (17 : Int32)))
  · refine g_icmpN (pc' := 75) C X6 at_72 (tlt c7).2.2.2 rfl ?_
    refine g_iconst (pc' := 76) (v := (1 : Int32)) C X6 at_75 rfl rfl ?_
    refine g_goto (pc' := 80) C X6 at_76 (by decide) (by decide) ?_
    refine g_istore (pc' := 82) (Ls' := #[.val (.int p1), .val (.int p2), .val (.int p3), .val (.int (p1 % (17 : Int32))), .val (.int (p2 % (17 : Int32))), .val (.int (p3 % (17 : Int32))), .val (.ref b1), .val (.ref b3), .val (.int (1 : Int32))]) C X6 at_80 rfl rfl ?_
    refine g_aload (pc' := 84) C X6 at_82 rfl rfl rfl ?_
    refine g_callV (b := b3) (z := (⟨"com/example/wenshai/wenshai/model/Similarity", "isSimilar", "()Z"⟩ : MethodName)) (y := (⟨"com/example/wenshai/wenshai/model/Similarity", "isSimilar", "()Z"⟩ : MethodName)) (argsL := []) (st := []) (pc' := 87) C X6 at_84 (hw _ (List.mem_of_getElem? (i := 55) rfl)) (hw _ (List.mem_of_getElem? (i := 56) rfl)) (notFace_of_selects (args := #[]) (mvT C.hZ (hw _ (List.mem_of_getElem? (i := 58) rfl)))) (hw _ (List.mem_of_getElem? (i := 58) rfl)) (hw _ (List.mem_of_getElem? (i := 57) rfl)) (hw _ (List.mem_of_getElem? (i := 17) rfl)) (hw _ (List.mem_of_getElem? (i := 59) rfl)) (by decide) (rm6 l Z a0 hw [] b3 (FP.ddiv (FP.i2d (p1 % (17 : Int32))) (4625196817309499392 : UInt64)) (FP.ddiv (FP.i2d (p2 % (17 : Int32))) (4625196817309499392 : UInt64)) (FP.ddiv (FP.i2d (p3 % (17 : Int32))) (4625196817309499392 : UInt64)) T5.heap n0 P5_1 P5_2 P5_3) (W := 0) (by decide) (by decide) (ce := 8) (sl := 117) rfl rfl (by decide) (by decide) rfl P5_0 e6 rfl pd_4 rfl (Nat.le_refl _) rfl (fun v8 T8 L8 X8 Q8 => ?_)
    obtain ⟨q8, Nq8, e8⟩ := Q8
    have N8 := Fr.app N6 Nq8
    subst q8
    show Go p.tables e below _ (T8.setTop (mkF m 87 #[.val (.int p1), .val (.int p2), .val (.int p3), .val (.int (p1 % (17 : Int32))), .val (.int (p2 % (17 : Int32))), .val (.int (p3 % (17 : Int32))), .val (.ref b1), .val (.ref b3), .val (.int (1 : Int32))] [(.int (F6 (FP.ddiv (FP.i2d (p1 % (17 : Int32))) (4625196817309499392 : UInt64)) (FP.ddiv (FP.i2d (p2 % (17 : Int32))) (4625196817309499392 : UInt64)) (FP.ddiv (FP.i2d (p3 % (17 : Int32))) (4625196817309499392 : UInt64))))]))
    refine g_iload (pc' := 89) C X8 at_87 rfl rfl ?_
    by_cases c9 : (F6 (FP.ddiv (FP.i2d (p1 % (17 : Int32))) (4625196817309499392 : UInt64)) (FP.ddiv (FP.i2d (p2 % (17 : Int32))) (4625196817309499392 : UInt64)) (FP.ddiv (FP.i2d (p3 % (17 : Int32))) (4625196817309499392 : UInt64))) = (1 : Int32)
    · refine g_icmpN (pc' := 92) C X8 at_89 (teq c9).2 rfl ?_
      refine g_iconst (pc' := 93) (v := (1 : Int32)) C X8 at_92 rfl rfl ?_
      refine g_goto (pc' := 97) C X8 at_93 (by decide) (by decide) ?_
      exact g_retNW C X8 hS (by rw [e8]; exact (Nat.le_refl _)) (by simp) at_97 (by decide) (by decide) ⟨congrArg (fun z => some (Value.int z)) (F0_l0 p1 p2 p3 c7 c9).symm, N8⟩
    · refine g_icmpY (pc' := 96) C X8 at_89 (feq c9).2 (by decide) (by decide) ?_
      refine g_iconst (pc' := 97) (v := (0 : Int32)) C X8 at_96 rfl rfl ?_
      exact g_retNW C X8 hS (by rw [e8]; exact (Nat.le_refl _)) (by simp) at_97 (by decide) (by decide) ⟨congrArg (fun z => some (Value.int z)) (F0_l1 p1 p2 p3 c7 c9).symm, N8⟩
  · refine g_icmpY (pc' := 79) C X6 at_72 (flt c7).2.2.2 (by decide) (by decide) ?_
    refine g_iconst (pc' := 80) (v := (0 : Int32)) C X6 at_79 rfl rfl ?_
    refine g_istore (pc' := 82) (Ls' := #[.val (.int p1), .val (.int p2), .val (.int p3), .val (.int (p1 % (17 : Int32))), .val (.int (p2 % (17 : Int32))), .val (.int (p3 % (17 : Int32))), .val (.ref b1), .val (.ref b3), .val (.int (0 : Int32))]) C X6 at_80 rfl rfl ?_
    refine g_aload (pc' := 84) C X6 at_82 rfl rfl rfl ?_
    refine g_callV (b := b3) (z := (⟨"com/example/wenshai/wenshai/model/Similarity", "isSimilar", "()Z"⟩ : MethodName)) (y := (⟨"com/example/wenshai/wenshai/model/Similarity", "isSimilar", "()Z"⟩ : MethodName)) (argsL := []) (st := []) (pc' := 87) C X6 at_84 (hw _ (List.mem_of_getElem? (i := 55) rfl)) (hw _ (List.mem_of_getElem? (i := 56) rfl)) (notFace_of_selects (args := #[]) (mvT C.hZ (hw _ (List.mem_of_getElem? (i := 58) rfl)))) (hw _ (List.mem_of_getElem? (i := 58) rfl)) (hw _ (List.mem_of_getElem? (i := 57) rfl)) (hw _ (List.mem_of_getElem? (i := 17) rfl)) (hw _ (List.mem_of_getElem? (i := 59) rfl)) (by decide) (rm6 l Z a0 hw [] b3 (FP.ddiv (FP.i2d (p1 % (17 : Int32))) (4625196817309499392 : UInt64)) (FP.ddiv (FP.i2d (p2 % (17 : Int32))) (4625196817309499392 : UInt64)) (FP.ddiv (FP.i2d (p3 % (17 : Int32))) (4625196817309499392 : UInt64)) T5.heap n0 P5_1 P5_2 P5_3) (W := 0) (by decide) (by decide) (ce := 8) (sl := 117) rfl rfl (by decide) (by decide) rfl P5_0 e6 rfl pd_4 rfl (Nat.le_refl _) rfl (fun v10 T10 L10 X10 Q10 => ?_)
    obtain ⟨q10, Nq10, e10⟩ := Q10
    have N10 := Fr.app N6 Nq10
    subst q10
    show Go p.tables e below _ (T10.setTop (mkF m 87 #[.val (.int p1), .val (.int p2), .val (.int p3), .val (.int (p1 % (17 : Int32))), .val (.int (p2 % (17 : Int32))), .val (.int (p3 % (17 : Int32))), .val (.ref b1), .val (.ref b3), .val (.int (0 : Int32))] [(.int (F6 (FP.ddiv (FP.i2d (p1 % (17 : Int32))) (4625196817309499392 : UInt64)) (FP.ddiv (FP.i2d (p2 % (17 : Int32))) (4625196817309499392 : UInt64)) (FP.ddiv (FP.i2d (p3 % (17 : Int32))) (4625196817309499392 : UInt64))))]))
    refine g_iload (pc' := 89) C X10 at_87 rfl rfl ?_
    by_cases c11 : (F6 (FP.ddiv (FP.i2d (p1 % (17 : Int32))) (4625196817309499392 : UInt64)) (FP.ddiv (FP.i2d (p2 % (17 : Int32))) (4625196817309499392 : UInt64)) (FP.ddiv (FP.i2d (p3 % (17 : Int32))) (4625196817309499392 : UInt64))) = (0 : Int32)
    · refine g_icmpN (pc' := 92) C X10 at_89 (teq c11).2 rfl ?_
      refine g_iconst (pc' := 93) (v := (1 : Int32)) C X10 at_92 rfl rfl ?_
      refine g_goto (pc' := 97) C X10 at_93 (by decide) (by decide) ?_
      exact g_retNW C X10 hS (by rw [e10]; exact (Nat.le_refl _)) (by simp) at_97 (by decide) (by decide) ⟨congrArg (fun z => some (Value.int z)) (F0_l2 p1 p2 p3 c7 c11).symm, N10⟩
    · refine g_icmpY (pc' := 96) C X10 at_89 (feq c11).2 (by decide) (by decide) ?_
      refine g_iconst (pc' := 97) (v := (0 : Int32)) C X10 at_96 rfl rfl ?_
      exact g_retNW C X10 hS (by rw [e10]; exact (Nat.le_refl _)) (by simp) at_97 (by decide) (by decide) ⟨congrArg (fun z => some (Value.int z)) (F0_l3 p1 p2 p3 c7 c11).symm, N10⟩
theorem own_F6 (i j k : Fin 33) : F6 (own_D (own_I i)) (own_D (own_I j)) (own_D (own_I k)) = (if own_I k < own_I i then 1 else if own_I k < own_I j then 1 else 0) := by
  have c1 := own_cmp i k
  have c2 := own_cmp j k
  unfold F6
  by_cases h1 : own_I k < own_I i
  · rw [if_pos h1, if_pos (by rw [c1]; exact h1)]
  · rw [if_neg h1, if_neg (by rw [c1]; exact h1)]
    by_cases h2 : own_I k < own_I j
    · rw [if_pos h2, if_pos (by rw [c2]; exact h2)]
    · rw [if_neg h2, if_neg (by rw [c2]; exact h2)]
theorem own_law (p1 p2 p3 : Int32) : F0 p1 p2 p3 = 1 := by
  obtain ⟨i, hi⟩ := own_17 p1
  obtain ⟨j, hj⟩ := own_17 p2
  obtain ⟨k, hk⟩ := own_17 p3
  have e := own_F6 i j k
  unfold own_D at e
  unfold F0 F5
  rw [hi, hj, hk, e]
  generalize own_I i = a at *
  generalize own_I j = b at *
  generalize own_I k = c at *
  clear e
  simp only [Int32.lt_iff_toInt_lt]
  by_cases h1 : a.toInt < b.toInt <;> by_cases h2 : c.toInt < a.toInt <;> by_cases h3 : c.toInt < b.toInt <;> simp [h1, h2, h3] <;> omega
set_option maxRecDepth 65536 in
set_option maxHeartbeats 40000000 in
theorem comes_1 {Post : Tables → Env → Array Value → State → Outcome → State → Prop} (hpost : ∀ tb e args s v u, (limb_1_1.after args s (.returned v) u = true ∧ limb_1_2.after args s (.returned v) u = true ∧ True) → ReturnedEndW s (.returned v) u (Jvm.fieldLocs frame_1_writes args s ++ Jvm.arrayLocs frame_1_arrays args s ++ Jvm.staticLocs frame_1_statics s) 24 3200 → Post tb e args s (.returned v) u) :
    ArmFor flags0 classFile x code maxLocals ret World_1 tables_1 room_1 Calls_1 rest_1 Pre_1 Post := by
  intro l hfl _ _ p e ha hc hk s m args below hf hA hF happ hP
  obtain ⟨hcalls, hrest, hpre⟩ := hP
  obtain ⟨-, -, -, hnamed, -, -, -, hat⟩ := (Spec.applies_iff hf).mp happ
  obtain ⟨hg, hnr⟩ := and_e (Cond.before_iff.mp (show (Jvm.Cond.and given_1 narrow_1).before args s = true from hpre))
  obtain ⟨gg1, gg2⟩ := and_e hg
  obtain ⟨gg3, gg4⟩ := and_e gg2
  obtain ⟨gg5, gg6⟩ := and_e gg4
  obtain ⟨w0, w1, w2, rfl⟩ : ∃ w0 w1 w2 : Value, args = #[w0, w1, w2] := by
    have hs : args.size = 3 := by simpa [Cond.value, given_1] using gg1
    obtain ⟨L⟩ := args
    match L, hs with
    | [w0, w1, w2], _ => exact ⟨w0, w1, w2, rfl⟩
  have hw := fun d (hd : d ∈ tables_1) => atoms_spec (ws := Jvm.Cond.code x code maxLocals ret :: tables_1) hat d (List.mem_cons_of_mem _ hd)
  have hfit : Fit s := fun {y c} hc i hi => by
    obtain ⟨ha, rfl⟩ := Array.getElem?_eq_some_iff.mp hc
    have q := List.all_eq_true.mp ((Array.all_eq_true_iff_forall_mem.mp hF) _ (Array.getElem_mem ha)) i (List.mem_range.mpr hi)
    simpa [Array.getElem?_eq_getElem hi] using q
  obtain ⟨i0, ei0⟩ := is_v gg3
  obtain rfl : w0 = (.int i0) := Option.some.inj ei0
  obtain ⟨i1, ei1⟩ := is_v gg5
  obtain rfl : w1 = (.int i1) := Option.some.inj ei1
  obtain ⟨i2, ei2⟩ := is_v gg6
  obtain rfl : w2 = (.int i2) := Option.some.inj ei2
  obtain ⟨n, o, h1, h2, h3, _, L, rfl, ⟨hv, N⟩, hq⟩ := rm0 l s _ hw tables_1 i0 i1 i2 s.heap s.heap.size (Nat.le_refl _) p e ha hc hk s m _ below hf ((Spec.applies_iff_loose hf).mp happ).1 ⟨rfl, State.Warmed39.refl s, rfl⟩ trivial
  rw [own_law i0 i1 i2] at hv
  subst hv
  refine ⟨n, _, h1, h2, h3, hpost _ _ _ _ _ _ ⟨Cond.after_iff.mpr rfl, Cond.after_iff.mpr (eq_i res_at (Term.int_eval (1)) rfl), trivial⟩ ⟨hq.1, hq.2.1, hq.2.2.1, (hq.2.2.2.sift fun y hy => Or.inr (N y hy)).mono (by decide) (by decide)⟩⟩
theorem main_1_1 : Claimed_1_1 := comes_1 fun _ _ _ _ _ _ h hF => ⟨h.1, hF⟩
theorem main_1_2 : Claimed_1_2 := comes_1 fun _ _ _ _ _ _ h hF => ⟨h.2.1, hF⟩
end Jvm.Pilot.@@N@@
namespace Jvm.Pilot.@@N@@
open Jvm Jvm.ClassFile Sem Op Lib Jvm.Free Jvm.Stand Jvm.Pilot.@@N@@.Jvm.D
/-! MADE BY PROGRAM (witnessworld.py) out of the Statement's table words and the real class files: 17 classes; the members and pool entries that the words name. The judged class is class 1, her method 1. -/
namespace start1
open Jvm.ClassFile
def u (s : String) : CpInfo := .utf8 (stringToUtf16 s)
/-- a pool by its gaps: so many unusable entries, then the entry; so many at the end -/
def gap : Nat → List CpInfo → List CpInfo
  | 0, r => r
  | n + 1, r => .unusable :: gap n r
def poolList (es : List (Nat × CpInfo)) (last : Nat) : List CpInfo := es.foldr (fun e r => gap e.1 (e.2 :: r)) (gap last [])
def pool (es : List (Nat × CpInfo)) (last : Nat) : Array CpInfo := ⟨poolList es last⟩
def fileOf (pool : Array CpInfo) (this : Nat) (attrs : Array Attribute := #[]) (ms : Array MethodInfo := #[]) (fl : Nat := 33) (sup : Nat := 0) (ifs : Array Nat := #[]) (fds : Array FieldInfo := #[]) : ClassFile where
  minorVersion := 0
  majorVersion := 65
  constantPool := pool
  accessFlags := fl
  thisClass := this
  superClass := sup
  interfaces := ifs
  fields := fds
  methods := ms
  attributes := attrs
def plain (name : String) (sup : Option ClassId) : Class where
  name := name
  kind := .ordinary
  loader := none
  accessFlags := 33
  super := sup
  interfaces := #[]
  cf := none
  fields := #[]
  methods := #[]
  instanceTypes := #[]
  staticTypes := #[]
  resolved := #[]
  callSites := []
  init := .initialized
  statics := none
  mirror := none

def pool0 : Array CpInfo := pool [(5, u "<init>"), (0, u "()V"), (1, .class_ 10), (1, u "java/lang/Object")] 113

def k0c0 : Code := { maxStack := 0, maxLocals := 1, code := object_method_1_code, exceptionTable := #[], attributes := #[] }
def k0m0 : Method := { name := "<init>", desc := "()V", sig := { parameters := [], returnType := none }, accessFlags := 1, code := some k0c0 }
/-- java/lang/Object -/
def k0 : Class := { plain "java/lang/Object" none with
  accessFlags := 33
  interfaces := #[]
  cf := some (fileOf pool0 8 #[] #[{ accessFlags := 1, nameIndex := 5, descriptorIndex := 6, attributes := #[] }] 33 0 #[] #[])
  fields := #[]
  methods := #[k0m0]
  instanceTypes := #[]
  staticTypes := #[]
  resolved := Array.replicate 124 none
  statics := none }

def pool1 : Array CpInfo := pool [(2, .class_ 4), (1, u "java/lang/Object"), (0, u "<init>"), (0, u "()V"), (0, .class_ 8), (0, u "com/example/wenshai/wenshai/model/Overlap"), (0, .methodref 7 10), (0, .nameAndType 5 11), (0, u "(III)V"), (0, .class_ 13), (0, u "com/example/wenshai/wenshai/model/Similarity"), (0, .double 4625196817309499392), (1, .methodref 12 17), (0, .nameAndType 5 18), (0, u "(Lcom/example/wenshai/wenshai/model/Overlap;Lcom/example/wenshai/wenshai/model/Overlap;Lcom/example/wenshai/wenshai/model/Overlap;DDD)V"), (0, .methodref 20 21), (0, .class_ 22), (0, .nameAndType 23 24), (0, u "java/lang/Math"), (0, u "max"), (0, u "(II)I"), (0, .methodref 12 26), (0, .nameAndType 27 28), (0, u "isSimilar"), (0, u "()Z"), (0, .class_ 30), (0, u "com/example/wenshai/wenshai/model/SimilarityIsSimilarPinLaw"), (2, u "law"), (0, u "(III)Z")] 3

def k1m0 : Method := { name := "<init>", desc := "()V", sig := { parameters := [], returnType := none }, accessFlags := 1, code := none }
def k1c1 : Code := { maxStack := 13, maxLocals := 9, code := code, exceptionTable := #[], attributes := #[] }
def k1m1 : Method := { name := "law", desc := "(III)Z", sig := { parameters := [.int, .int, .int], returnType := some .boolean }, accessFlags := 9, code := some k1c1 }
/-- com/example/wenshai/wenshai/model/SimilarityIsSimilarPinLaw -/
def k1 : Class := { plain "com/example/wenshai/wenshai/model/SimilarityIsSimilarPinLaw" (some 0) with
  accessFlags := 49
  interfaces := #[]
  cf := some (fileOf pool1 29 #[] #[{ accessFlags := 1, nameIndex := 5, descriptorIndex := 6, attributes := #[] }, { accessFlags := 9, nameIndex := 33, descriptorIndex := 34, attributes := #[] }] 49 2 #[] #[])
  fields := #[]
  methods := #[k1m0, k1m1]
  instanceTypes := #[]
  staticTypes := #[]
  resolved := Array.replicate 38 none
  statics := none }

def pool2 : Array CpInfo := pool [(1, .methodref 2 3), (0, .class_ 4), (0, .nameAndType 5 6), (0, u "java/lang/Object"), (0, u "<init>"), (0, u "()V"), (9, .fieldref 17 18), (0, .class_ 19), (0, .nameAndType 20 21), (0, u "com/example/wenshai/wenshai/model/Overlap"), (0, u "a"), (0, u "I"), (0, .fieldref 17 23), (0, .nameAndType 24 21), (0, u "b"), (0, .fieldref 17 26), (0, .nameAndType 27 21), (0, u "same"), (4, u "(III)V")] 27

def k2c0 : Code := { maxStack := 5, maxLocals := 4, code := prog_22_method_1_code, exceptionTable := #[], attributes := #[] }
def k2m0 : Method := { name := "<init>", desc := "(III)V", sig := { parameters := [.int, .int, .int], returnType := none }, accessFlags := 1, code := some k2c0 }
/-- com/example/wenshai/wenshai/model/Overlap -/
def k2 : Class := { plain "com/example/wenshai/wenshai/model/Overlap" (some 0) with
  accessFlags := 49
  interfaces := #[]
  cf := some (fileOf pool2 17 #[] #[{ accessFlags := 1, nameIndex := 5, descriptorIndex := 32, attributes := #[] }] 49 2 #[] #[{ accessFlags := 18, nameIndex := 20, descriptorIndex := 21, attributes := #[] }, { accessFlags := 18, nameIndex := 24, descriptorIndex := 21, attributes := #[] }, { accessFlags := 18, nameIndex := 27, descriptorIndex := 21, attributes := #[] }])
  fields := #[{ name := "a", type := .int, accessFlags := 18, slot := 0, constantValue := 0 }, { name := "b", type := .int, accessFlags := 18, slot := 1, constantValue := 0 }, { name := "same", type := .int, accessFlags := 18, slot := 2, constantValue := 0 }]
  methods := #[k2m0]
  instanceTypes := #[.int, .int, .int]
  staticTypes := #[]
  resolved := Array.replicate 60 none
  statics := none }

def pool3 : Array CpInfo := pool [(1, .methodref 2 3), (0, .class_ 4), (0, .nameAndType 5 6), (0, u "java/lang/Object"), (0, u "<init>"), (0, u "()V"), (0, .string 8), (0, u "paragraphs"), (0, .methodref 10 11), (0, .class_ 12), (0, .nameAndType 13 14), (0, u "java/util/Objects"), (0, u "requireNonNull"), (0, u "(Ljava/lang/Object;Ljava/lang/String;)Ljava/lang/Object;"), (0, .class_ 16), (0, u "com/example/wenshai/wenshai/model/Overlap"), (0, .fieldref 18 19), (0, .class_ 20), (0, .nameAndType 8 21), (0, u "com/example/wenshai/wenshai/model/Similarity"), (0, u "Lcom/example/wenshai/wenshai/model/Overlap;"), (0, .string 23), (0, u "sentences"), (0, .fieldref 18 25), (0, .nameAndType 23 21), (0, .string 27), (0, u "words"), (0, .fieldref 18 29), (0, .nameAndType 27 21), (0, .fieldref 18 31), (0, .nameAndType 32 33), (0, u "aToB"), (0, u "D"), (0, .fieldref 18 35), (0, .nameAndType 36 33), (0, u "bToA"), (0, .fieldref 18 38), (0, .nameAndType 39 33), (0, u "threshold"), (0, u "(Lcom/example/wenshai/wenshai/model/Overlap;Lcom/example/wenshai/wenshai/model/Overlap;Lcom/example/wenshai/wenshai/model/Overlap;DDD)V"), (10, u "isSimilar"), (0, u "()Z")] 3

def k3c0 : Code := { maxStack := 3, maxLocals := 10, code := prog_27_method_1_code, exceptionTable := #[], attributes := #[] }
def k3m0 : Method := { name := "<init>", desc := "(Lcom/example/wenshai/wenshai/model/Overlap;Lcom/example/wenshai/wenshai/model/Overlap;Lcom/example/wenshai/wenshai/model/Overlap;DDD)V", sig := { parameters := [(.object "com/example/wenshai/wenshai/model/Overlap"), (.object "com/example/wenshai/wenshai/model/Overlap"), (.object "com/example/wenshai/wenshai/model/Overlap"), .double, .double, .double], returnType := none }, accessFlags := 1, code := some k3c0 }
def k3c1 : Code := { maxStack := 4, maxLocals := 1, code := prog_27_method_8_code, exceptionTable := #[], attributes := #[] }
def k3m1 : Method := { name := "isSimilar", desc := "()Z", sig := { parameters := [], returnType := some .boolean }, accessFlags := 1, code := some k3c1 }
/-- com/example/wenshai/wenshai/model/Similarity -/
def k3 : Class := { plain "com/example/wenshai/wenshai/model/Similarity" (some 0) with
  accessFlags := 49
  interfaces := #[]
  cf := some (fileOf pool3 18 #[] #[{ accessFlags := 1, nameIndex := 5, descriptorIndex := 40, attributes := #[] }, { accessFlags := 1, nameIndex := 51, descriptorIndex := 52, attributes := #[] }] 49 2 #[] #[{ accessFlags := 18, nameIndex := 8, descriptorIndex := 21, attributes := #[] }, { accessFlags := 18, nameIndex := 23, descriptorIndex := 21, attributes := #[] }, { accessFlags := 18, nameIndex := 27, descriptorIndex := 21, attributes := #[] }, { accessFlags := 18, nameIndex := 32, descriptorIndex := 33, attributes := #[] }, { accessFlags := 18, nameIndex := 36, descriptorIndex := 33, attributes := #[] }, { accessFlags := 18, nameIndex := 39, descriptorIndex := 33, attributes := #[] }])
  fields := #[{ name := "paragraphs", type := (.object "com/example/wenshai/wenshai/model/Overlap"), accessFlags := 18, slot := 0, constantValue := 0 }, { name := "sentences", type := (.object "com/example/wenshai/wenshai/model/Overlap"), accessFlags := 18, slot := 1, constantValue := 0 }, { name := "words", type := (.object "com/example/wenshai/wenshai/model/Overlap"), accessFlags := 18, slot := 2, constantValue := 0 }, { name := "aToB", type := .double, accessFlags := 18, slot := 3, constantValue := 0 }, { name := "bToA", type := .double, accessFlags := 18, slot := 4, constantValue := 0 }, { name := "threshold", type := .double, accessFlags := 18, slot := 5, constantValue := 0 }]
  methods := #[k3m0, k3m1]
  instanceTypes := #[(.object "com/example/wenshai/wenshai/model/Overlap"), (.object "com/example/wenshai/wenshai/model/Overlap"), (.object "com/example/wenshai/wenshai/model/Overlap"), .double, .double, .double]
  staticTypes := #[]
  resolved := Array.replicate 56 none
  statics := none }

def pool4 : Array CpInfo := pool [(1, .class_ 2), (0, u "java/io/Serializable"), (0, .class_ 4), (0, u "java/lang/Object")] 2

/-- java/io/Serializable -/
def k4 : Class := { plain "java/io/Serializable" (some 0) with
  accessFlags := 1537
  interfaces := #[]
  cf := some (fileOf pool4 1 #[] #[] 1537 3 #[] #[])
  fields := #[]
  methods := #[]
  instanceTypes := #[]
  staticTypes := #[]
  resolved := Array.replicate 7 none
  statics := none }

def pool5 : Array CpInfo := pool [(1, .class_ 2), (0, u "java/lang/Comparable"), (0, .class_ 4), (0, u "java/lang/Object")] 7

/-- java/lang/Comparable -/
def k5 : Class := { plain "java/lang/Comparable" (some 0) with
  accessFlags := 1537
  interfaces := #[]
  cf := some (fileOf pool5 1 #[] #[] 1537 3 #[] #[])
  fields := #[]
  methods := #[]
  instanceTypes := #[]
  staticTypes := #[]
  resolved := Array.replicate 12 none
  statics := none }

def pool6 : Array CpInfo := pool [(2, .class_ 4), (1, u "java/lang/CharSequence"), (42, .class_ 48), (0, u "java/lang/CharSequence$1CodePointIterator"), (10, .class_ 60), (0, u "java/lang/CharSequence$1CharIterator"), (5, .class_ 67), (0, u "java/lang/Object")] 63

/-- java/lang/CharSequence -/
def k6 : Class := { plain "java/lang/CharSequence" (some 0) with
  accessFlags := 1537
  interfaces := #[]
  cf := some (fileOf pool6 2 #[.nestMembers #[47, 59]] #[] 1537 66 #[] #[])
  fields := #[]
  methods := #[]
  instanceTypes := #[]
  staticTypes := #[]
  resolved := Array.replicate 131 none
  statics := none }

def pool7 : Array CpInfo := pool [(1, .class_ 2), (0, u "java/lang/constant/Constable"), (0, .class_ 4), (0, u "java/lang/Object")] 6

/-- java/lang/constant/Constable -/
def k7 : Class := { plain "java/lang/constant/Constable" (some 0) with
  accessFlags := 1537
  interfaces := #[]
  cf := some (fileOf pool7 1 #[] #[] 1537 3 #[] #[])
  fields := #[]
  methods := #[]
  instanceTypes := #[]
  staticTypes := #[]
  resolved := Array.replicate 11 none
  statics := none }

def pool8 : Array CpInfo := pool [(1, .class_ 2), (0, u "java/lang/constant/ConstantDesc"), (0, .class_ 4), (0, u "java/lang/Object")] 32

/-- java/lang/constant/ConstantDesc -/
def k8 : Class := { plain "java/lang/constant/ConstantDesc" (some 0) with
  accessFlags := 1537
  interfaces := #[]
  cf := some (fileOf pool8 1 #[] #[] 1537 3 #[] #[])
  fields := #[]
  methods := #[]
  instanceTypes := #[]
  staticTypes := #[]
  resolved := Array.replicate 37 none
  statics := none }

def pool9 : Array CpInfo := pool [(2, .class_ 4), (1, u "java/lang/Object"), (0, u "<init>"), (0, u "()V"), (3, .class_ 12), (1, u "java/lang/String"), (0, u "value"), (0, u "[B"), (2, u "coder"), (0, u "B"), (2, u "hash"), (0, u "I"), (2, u "hashIsZero"), (0, u "Z"), (13, u "COMPACT_STRINGS"), (534, .class_ 576), (0, u "java/lang/CharSequence"), (22, u "CASE_INSENSITIVE_ORDER"), (0, u "Ljava/util/Comparator;"), (500, u "serialPersistentFields"), (0, u "[Ljava/io/ObjectStreamField;"), (0, .class_ 1104), (0, u "java/lang/String$CaseInsensitiveComparator"), (1, .class_ 1107), (0, u "java/io/Serializable"), (0, .class_ 1109), (0, u "java/lang/Comparable"), (0, .class_ 1111), (0, u "java/lang/constant/Constable"), (0, .class_ 1113), (0, u "java/lang/constant/ConstantDesc"), (2, u "serialVersionUID"), (0, u "J"), (3, u "REPL"), (0, u "C"), (2, u "LATIN1"), (1, u "UTF16")] 323

def k9m0 : Method := { name := "<init>", desc := "()V", sig := { parameters := [], returnType := none }, accessFlags := 1, code := none }
/-- java/lang/String -/
def k9 : Class := { plain "java/lang/String" (some 0) with
  accessFlags := 49
  interfaces := #[4, 5, 6, 7, 8]
  cf := some (fileOf pool9 10 #[.nestMembers #[1103]] #[{ accessFlags := 1, nameIndex := 5, descriptorIndex := 6, attributes := #[] }] 49 2 #[1106, 1108, 575, 1110, 1112] #[{ accessFlags := 18, nameIndex := 13, descriptorIndex := 14, attributes := #[] }, { accessFlags := 18, nameIndex := 17, descriptorIndex := 18, attributes := #[] }, { accessFlags := 2, nameIndex := 21, descriptorIndex := 22, attributes := #[] }, { accessFlags := 2, nameIndex := 25, descriptorIndex := 26, attributes := #[] }, { accessFlags := 26, nameIndex := 1116, descriptorIndex := 1117, attributes := #[] }, { accessFlags := 24, nameIndex := 40, descriptorIndex := 26, attributes := #[] }, { accessFlags := 26, nameIndex := 1101, descriptorIndex := 1102, attributes := #[] }, { accessFlags := 26, nameIndex := 1121, descriptorIndex := 1122, attributes := #[] }, { accessFlags := 25, nameIndex := 599, descriptorIndex := 600, attributes := #[] }, { accessFlags := 24, nameIndex := 1125, descriptorIndex := 18, attributes := #[] }, { accessFlags := 24, nameIndex := 1127, descriptorIndex := 18, attributes := #[] }])
  fields := #[{ name := "value", type := (.array .byte), accessFlags := 18, slot := 0, constantValue := 0 }, { name := "coder", type := .byte, accessFlags := 18, slot := 1, constantValue := 0 }, { name := "hash", type := .int, accessFlags := 2, slot := 2, constantValue := 0 }, { name := "hashIsZero", type := .boolean, accessFlags := 2, slot := 3, constantValue := 0 }, { name := "serialVersionUID", type := .long, accessFlags := 26, slot := 0, constantValue := 0 }, { name := "COMPACT_STRINGS", type := .boolean, accessFlags := 24, slot := 1, constantValue := 0 }, { name := "serialPersistentFields", type := (.array (.object "java/io/ObjectStreamField")), accessFlags := 26, slot := 2, constantValue := 0 }, { name := "REPL", type := .char, accessFlags := 26, slot := 3, constantValue := 0 }, { name := "CASE_INSENSITIVE_ORDER", type := (.object "java/util/Comparator"), accessFlags := 25, slot := 4, constantValue := 0 }, { name := "LATIN1", type := .byte, accessFlags := 24, slot := 5, constantValue := 0 }, { name := "UTF16", type := .byte, accessFlags := 24, slot := 6, constantValue := 0 }]
  methods := #[k9m0]
  instanceTypes := #[(.array .byte), .byte, .int, .boolean]
  staticTypes := #[.long, .boolean, (.array (.object "java/io/ObjectStreamField")), .char, (.object "java/util/Comparator"), .byte, .byte]
  resolved := Array.replicate 1451 none
  statics := none }

def pool10 : Array CpInfo := pool [(2, .class_ 4), (1, u "java/lang/Object"), (0, u "<init>"), (0, u "()V"), (35, .class_ 44), (1, u "java/util/Objects"), (0, u "requireNonNull"), (48, u "(Ljava/lang/Object;Ljava/lang/String;)Ljava/lang/Object;")] 89

def k10m0 : Method := { name := "<init>", desc := "()V", sig := { parameters := [], returnType := none }, accessFlags := 2, code := none }
def k10c1 : Code := { maxStack := 3, maxLocals := 2, code := jdk_31_method_11_code, exceptionTable := #[], attributes := #[] }
def k10m1 : Method := { name := "requireNonNull", desc := "(Ljava/lang/Object;Ljava/lang/String;)Ljava/lang/Object;", sig := { parameters := [(.object "java/lang/Object"), (.object "java/lang/String")], returnType := some (.object "java/lang/Object") }, accessFlags := 9, code := some k10c1 }
/-- java/util/Objects -/
def k10 : Class := { plain "java/util/Objects" (some 0) with
  accessFlags := 49
  interfaces := #[]
  cf := some (fileOf pool10 42 #[] #[{ accessFlags := 2, nameIndex := 5, descriptorIndex := 6, attributes := #[] }, { accessFlags := 9, nameIndex := 45, descriptorIndex := 94, attributes := #[] }] 49 2 #[] #[])
  fields := #[]
  methods := #[k10m0, k10m1]
  instanceTypes := #[]
  staticTypes := #[]
  resolved := Array.replicate 184 none
  statics := none }

def pool11 : Array CpInfo := pool [(1, .class_ 2), (0, u "java/lang/Math"), (1, .class_ 6), (1, u "java/lang/Object"), (0, u "<init>"), (0, u "()V"), (89, .class_ 100), (1, u "java/lang/Math$RandomNumberGeneratorHolder"), (71, u "negativeZeroFloatBits"), (0, u "J"), (2, u "negativeZeroDoubleBits"), (21, u "max"), (46, u "$assertionsDisabled"), (0, u "Z"), (88, u "(II)I"), (2, u "twoToTheDoubleScaleDown"), (0, u "D"), (4, u "twoToTheDoubleScaleUp"), (9, u "E"), (3, u "PI"), (2, u "TAU"), (2, u "DEGREES_TO_RADIANS"), (0, u "RADIANS_TO_DEGREES")] 94

def k11m0 : Method := { name := "<init>", desc := "()V", sig := { parameters := [], returnType := none }, accessFlags := 2, code := none }
def k11c1 : Code := { maxStack := 2, maxLocals := 2, code := jdk_29_method_65_code, exceptionTable := #[], attributes := #[] }
def k11m1 : Method := { name := "max", desc := "(II)I", sig := { parameters := [.int, .int], returnType := some .int }, accessFlags := 9, code := some k11c1 }
/-- java/lang/Math -/
def k11 : Class := { plain "java/lang/Math" (some 0) with
  accessFlags := 49
  interfaces := #[]
  cf := some (fileOf pool11 1 #[.nestMembers #[98]] #[{ accessFlags := 2, nameIndex := 7, descriptorIndex := 8, attributes := #[] }, { accessFlags := 9, nameIndex := 198, descriptorIndex := 335, attributes := #[] }] 49 4 #[] #[{ accessFlags := 25, nameIndex := 354, descriptorIndex := 339, attributes := #[] }, { accessFlags := 25, nameIndex := 358, descriptorIndex := 339, attributes := #[] }, { accessFlags := 25, nameIndex := 361, descriptorIndex := 339, attributes := #[] }, { accessFlags := 26, nameIndex := 364, descriptorIndex := 339, attributes := #[] }, { accessFlags := 26, nameIndex := 365, descriptorIndex := 339, attributes := #[] }, { accessFlags := 26, nameIndex := 172, descriptorIndex := 173, attributes := #[] }, { accessFlags := 26, nameIndex := 176, descriptorIndex := 173, attributes := #[] }, { accessFlags := 8, nameIndex := 344, descriptorIndex := 339, attributes := #[] }, { accessFlags := 8, nameIndex := 338, descriptorIndex := 339, attributes := #[] }, { accessFlags := 4120, nameIndex := 245, descriptorIndex := 246, attributes := #[] }])
  fields := #[{ name := "E", type := .double, accessFlags := 25, slot := 0, constantValue := 0 }, { name := "PI", type := .double, accessFlags := 25, slot := 1, constantValue := 0 }, { name := "TAU", type := .double, accessFlags := 25, slot := 2, constantValue := 0 }, { name := "DEGREES_TO_RADIANS", type := .double, accessFlags := 26, slot := 3, constantValue := 0 }, { name := "RADIANS_TO_DEGREES", type := .double, accessFlags := 26, slot := 4, constantValue := 0 }, { name := "negativeZeroFloatBits", type := .long, accessFlags := 26, slot := 5, constantValue := 0 }, { name := "negativeZeroDoubleBits", type := .long, accessFlags := 26, slot := 6, constantValue := 0 }, { name := "twoToTheDoubleScaleUp", type := .double, accessFlags := 8, slot := 7, constantValue := 0 }, { name := "twoToTheDoubleScaleDown", type := .double, accessFlags := 8, slot := 8, constantValue := 0 }, { name := "$assertionsDisabled", type := .boolean, accessFlags := 4120, slot := 9, constantValue := 0 }]
  methods := #[k11m0, k11m1]
  instanceTypes := #[]
  staticTypes := #[.double, .double, .double, .double, .double, .long, .long, .double, .double, .boolean]
  resolved := Array.replicate 460 none
  statics := none }

def pool12 : Array CpInfo := pool [(1, u "java/lang/Cloneable"), (0, .class_ 1), (0, u "java/lang/Object"), (0, .class_ 3)] 3

/-- java/lang/Cloneable -/
def k12 : Class := { plain "java/lang/Cloneable" (some 0) with
  accessFlags := 1537
  interfaces := #[]
  cf := some (fileOf pool12 2 #[] #[] 1537 4 #[] #[])
  fields := #[]
  methods := #[]
  instanceTypes := #[]
  staticTypes := #[]
  resolved := Array.replicate 8 none
  statics := none }

/-- the primitive byte -/
def k13 : Class := { plain "byte" none with kind := .primitive 'B', accessFlags := 0x411 }
/-- [B -/
def k14 : Class := { plain "[B" (some 0) with kind := .array 13 .byte, interfaces := #[12, 4], accessFlags := 1041 }

/-- the primitive int -/
def k15 : Class := { plain "int" none with kind := .primitive 'I', accessFlags := 0x411 }
/-- [I -/
def k16 : Class := { plain "[I" (some 0) with kind := .array 15 .int, interfaces := #[12, 4], accessFlags := 1041 }

def heap : Heap := #[]
def classes : Array Class := #[k0, k1, k2, k3, k4, k5, k6, k7, k8, k9, k10, k11, k12, k13, k14, k15, k16]
def interned : List (Array UInt16 × Addr) := []
def slotsUsed : Nat := 0
def theMethod : MethodId := ⟨1, 1⟩
def args0 : Array Value := #[.int 5, .int 7, .int 3]
def aboutOver (below : List Frame) : State where
  vm := { classes := classes, interned := interned.toArray }
  heap := heap
  slotsUsed := slotsUsed
  threads := #[{ frames := .invoking theMethod args0 :: below }]
def below0 : List Frame := [.native { method := ⟨0, 0⟩, args := #[] }]
def about1 : State := aboutOver below0
def p0 : Program := .bare "" "" ""
def e0 : Env := launch0.env 0 0 0
theorem w_frames : about1.frames = Frame.invoking theMethod args0 :: below0 := rfl
set_option maxRecDepth 65536 in
theorem w_args : argsFit about1.vm theMethod args0 = true := by decide +kernel
set_option maxRecDepth 65536 in
theorem w_heap : heapFits about1 = true := by decide +kernel
set_option maxRecDepth 65536 in
theorem w_runnable : about1.curStatus? = some .runnable := by decide +kernel
set_option maxRecDepth 65536 in
theorem w_alone : about1.alone = true := by decide +kernel
set_option maxRecDepth 65536 in
theorem w_named : about1.methodNamed? x = some theMethod := by decide +kernel
set_option maxRecDepth 65536 in
theorem w_hears : about1.hears theMethod below0 = true := by decide +kernel
set_option maxRecDepth 65536 in
theorem w_ripe : about1.ripe theMethod args0 below0 = true := by decide +kernel
theorem w_running : about1.status = .running := rfl
set_option maxRecDepth 65536 in
theorem w_room : about1.hasRoom e0.platform room_1 = true :=
  launch0.hasRoom_least _ room_1 (by decide +kernel) (by decide +kernel) (by decide +kernel) (by decide +kernel) (by decide +kernel) (by decide +kernel)
theorem allAtoms_all (ts : List Jvm.Cond) (a : Array Jvm.Value) (st : Jvm.State) : (allAtoms ts).before a st = ts.all (fun c => c.before a st) := by
  induction ts with
  | nil => rfl
  | cons c t ih =>
    show (Jvm.Cond.and c (allAtoms t)).before a st = _
    rw [Jvm.Cond.before_and, ih, List.all_cons]
def words1 : List Jvm.Cond := Jvm.Cond.code x code maxLocals ret :: tables_1
/-- a 'code' word, met by the world's own term for the bytes: nothing is compared byte by byte -/
theorem code_word {y : MethodName} {bytes : ByteArray} {mx : Nat} {rt : Option FieldType} {a : Array Value} {s : State} {m : MethodId} {meth : Method} {c : Code} (h1 : s.methodNamed? y = some m) (h2 : s.vm.method? m = some meth) (h3 : meth.code = some c) (h4 : c.code = bytes)
    (h5 : (c.maxLocals == mx && c.exceptionTable.isEmpty && decide (c.maxStack ≤ mostOperands) && decide (meth.sig.returnType = rt) && !meth.locks && decide (parseMethodDescriptor y.desc = some meth.sig)) = true) : (Jvm.Cond.code y bytes mx rt).before a s = true := by
  simp only [Bool.and_eq_true, beq_iff_eq, Bool.not_eq_true', decide_eq_true_eq] at h5
  obtain ⟨⟨⟨⟨⟨g1, g2⟩, g3⟩, g4⟩, g5⟩, g6⟩ := h5
  simp [Cond.before, Cond.holds, Cond.value, h1, h2, h3, h4, g1, g2, g3, g4, g5, g6]
def isCode : Jvm.Cond → Bool
  | .code _ _ _ _ => true
  | _ => false
theorem all_split {L : List Jvm.Cond} {P : Jvm.Cond → Bool} (h1 : L.all (fun c => isCode c || P c) = true) (h2 : ∀ c ∈ L.filter isCode, P c = true) : L.all P = true := by
  refine List.all_eq_true.mpr fun c hc => ?_
  have h := List.all_eq_true.mp h1 c hc
  rcases Bool.eq_false_or_eq_true (isCode c) with hi | hi
  · exact h2 c (List.mem_filter.mpr ⟨hc, hi⟩)
  · simpa [hi] using h
set_option maxRecDepth 65536 in
theorem w_c0 : (Jvm.Cond.code x code maxLocals ret).before args0 about1 = true := code_word (m := ⟨1, 1⟩) (meth := k1m1) (c := k1c1) (by decide +kernel) rfl rfl rfl (by decide +kernel)
set_option maxRecDepth 65536 in
theorem w_c1 : (Jvm.Cond.code ({ cls := "com/example/wenshai/wenshai/model/Overlap", name := "<init>", desc := "(III)V" } : Jvm.MethodName) prog_22_method_1_code (4 : Nat) (Option.none : Option Jvm.ClassFile.FieldType)).before args0 about1 = true := code_word (m := ⟨2, 0⟩) (meth := k2m0) (c := k2c0) (by decide +kernel) rfl rfl rfl (by decide +kernel)
set_option maxRecDepth 65536 in
theorem w_c2 : (Jvm.Cond.code ({ cls := "java/lang/Object", name := "<init>", desc := "()V" } : Jvm.MethodName) object_method_1_code (1 : Nat) (Option.none : Option Jvm.ClassFile.FieldType)).before args0 about1 = true := code_word (m := ⟨0, 0⟩) (meth := k0m0) (c := k0c0) (by decide +kernel) rfl rfl rfl (by decide +kernel)
set_option maxRecDepth 65536 in
theorem w_c3 : (Jvm.Cond.code ({ cls := "com/example/wenshai/wenshai/model/Similarity", name := "<init>", desc := "(Lcom/example/wenshai/wenshai/model/Overlap;Lcom/example/wenshai/wenshai/model/Overlap;Lcom/example/wenshai/wenshai/model/Overlap;DDD)V" } : Jvm.MethodName) prog_27_method_1_code (10 : Nat) (Option.none : Option Jvm.ClassFile.FieldType)).before args0 about1 = true := code_word (m := ⟨3, 0⟩) (meth := k3m0) (c := k3c0) (by decide +kernel) rfl rfl rfl (by decide +kernel)
set_option maxRecDepth 65536 in
theorem w_c4 : (Jvm.Cond.code ({ cls := "java/util/Objects", name := "requireNonNull", desc := "(Ljava/lang/Object;Ljava/lang/String;)Ljava/lang/Object;" } : Jvm.MethodName) jdk_31_method_11_code (2 : Nat) (Option.some (Jvm.ClassFile.FieldType.object "java/lang/Object"))).before args0 about1 = true := code_word (m := ⟨10, 1⟩) (meth := k10m1) (c := k10c1) (by decide +kernel) rfl rfl rfl (by decide +kernel)
set_option maxRecDepth 65536 in
theorem w_c5 : (Jvm.Cond.code ({ cls := "java/lang/Math", name := "max", desc := "(II)I" } : Jvm.MethodName) jdk_29_method_65_code (2 : Nat) (Option.some Jvm.ClassFile.FieldType.int)).before args0 about1 = true := code_word (m := ⟨11, 1⟩) (meth := k11m1) (c := k11c1) (by decide +kernel) rfl rfl rfl (by decide +kernel)
set_option maxRecDepth 65536 in
theorem w_c6 : (Jvm.Cond.code ({ cls := "com/example/wenshai/wenshai/model/Similarity", name := "isSimilar", desc := "()Z" } : Jvm.MethodName) prog_27_method_8_code (1 : Nat) (Option.some Jvm.ClassFile.FieldType.boolean)).before args0 about1 = true := code_word (m := ⟨3, 1⟩) (meth := k3m1) (c := k3c1) (by decide +kernel) rfl rfl rfl (by decide +kernel)
def codes1 : List Jvm.Cond := [Jvm.Cond.code x code maxLocals ret, Jvm.Cond.code ({ cls := "com/example/wenshai/wenshai/model/Overlap", name := "<init>", desc := "(III)V" } : Jvm.MethodName) prog_22_method_1_code (4 : Nat) (Option.none : Option Jvm.ClassFile.FieldType), Jvm.Cond.code ({ cls := "java/lang/Object", name := "<init>", desc := "()V" } : Jvm.MethodName) object_method_1_code (1 : Nat) (Option.none : Option Jvm.ClassFile.FieldType), Jvm.Cond.code ({ cls := "com/example/wenshai/wenshai/model/Similarity", name := "<init>", desc := "(Lcom/example/wenshai/wenshai/model/Overlap;Lcom/example/wenshai/wenshai/model/Overlap;Lcom/example/wenshai/wenshai/model/Overlap;DDD)V" } : Jvm.MethodName) prog_27_method_1_code (10 : Nat) (Option.none : Option Jvm.ClassFile.FieldType), Jvm.Cond.code ({ cls := "java/util/Objects", name := "requireNonNull", desc := "(Ljava/lang/Object;Ljava/lang/String;)Ljava/lang/Object;" } : Jvm.MethodName) jdk_31_method_11_code (2 : Nat) (Option.some (Jvm.ClassFile.FieldType.object "java/lang/Object")), Jvm.Cond.code ({ cls := "java/lang/Math", name := "max", desc := "(II)I" } : Jvm.MethodName) jdk_29_method_65_code (2 : Nat) (Option.some Jvm.ClassFile.FieldType.int), Jvm.Cond.code ({ cls := "com/example/wenshai/wenshai/model/Similarity", name := "isSimilar", desc := "()Z" } : Jvm.MethodName) prog_27_method_8_code (1 : Nat) (Option.some Jvm.ClassFile.FieldType.boolean)]
set_option maxRecDepth 65536 in
theorem codes_eq : words1.filter isCode = codes1 := rfl
theorem w_codes : ∀ c ∈ words1.filter isCode, c.before args0 about1 = true := by
  rw [codes_eq]
  intro c hc
  simp only [codes1, List.mem_cons, List.not_mem_nil, or_false] at hc
  rcases hc with rfl | rfl | rfl | rfl | rfl | rfl | rfl
  · exact w_c0
  · exact w_c1
  · exact w_c2
  · exact w_c3
  · exact w_c4
  · exact w_c5
  · exact w_c6
set_option maxRecDepth 65536 in
theorem w_t1 : (words1.take 24).all (fun c => isCode c || c.before args0 about1) = true := by decide +kernel
set_option maxRecDepth 65536 in
theorem w_t2 : ((words1.drop 24).take 24).all (fun c => isCode c || c.before args0 about1) = true := by decide +kernel
set_option maxRecDepth 65536 in
theorem w_t3 : ((words1.drop 24).drop 24).all (fun c => isCode c || c.before args0 about1) = true := by decide +kernel
theorem w_tables : (allAtoms (Jvm.Cond.code x code maxLocals ret :: tables_1)).before args0 about1 = true := by
  rw [allAtoms_all]
  show words1.all (fun c => c.before args0 about1) = true
  refine all_split ?_ w_codes
  rw [← List.take_append_drop 24 words1, List.all_append, w_t1, ← List.take_append_drop 24 (words1.drop 24), List.all_append, w_t2, w_t3]
  rfl
set_option maxRecDepth 65536 in
theorem w_case : (Jvm.Cond.and given_1 narrow_1).before args0 about1 = true := by decide +kernel
theorem w_applies : (headSpec (Jvm.Cond.code x code maxLocals ret :: tables_1) room_1).applies x e0.platform about1 = true :=
  (Spec.applies_iff w_frames).mpr ⟨w_running, w_runnable, w_alone, w_named, w_hears, w_ripe, w_room, w_tables⟩
theorem atStart : AtStart classFile x code maxLocals ret World_1 tables_1 room_1 Calls_1 rest_1 Pre_1 launch0 p0 e0 about1 theMethod args0 below0 :=
  ⟨lists_1, trivial, launch0.admits_env _ _ _, launch0.least_env, fairChoices_fair.cas, fairChoices_fair.clock, w_frames, w_args, w_heap, w_applies, trivial, trivial, w_case⟩
end start1
theorem witness_1 : WitnessClaimed_1 := ⟨start1.p0, start1.e0, start1.about1, start1.theMethod, start1.args0, start1.below0, start1.atStart⟩
end Jvm.Pilot.@@N@@
