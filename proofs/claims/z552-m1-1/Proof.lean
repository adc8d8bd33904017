import JvmDerived
import JvmDerived.Pilot.@@N@@Statement
import JvmDerived.Pilot.@@N@@Code
set_option linter.unusedVariables false
set_option linter.unusedSimpArgs false
namespace Jvm.Pilot.@@N@@
open Jvm Jvm.ClassFile Sem Op Lib Jvm.Free Jvm.Stand Jvm.LawKit Jvm.RoadKit Bundle Jvm.Pilot.@@N@@.Jvm.D
section OwnKit
variable {p : Program} {l : Launch} {e : Env} {R : Room} {s : State} {m : MethodId} {args : Array Value} {below : List Frame} {meth : Method} {c : Code} {T : State} {locs : List Loc} {cells slots : Nat} {Z : State} {a0 : Array Value} {h : Heap} {bs : ByteArray} {own mnm : String} {mx : Nat} {rt : Option FieldType} {G : Outcome → State → Prop} {pc pc' : Nat} {Ls Ls' : Array Slot} {st : List Value}
/-- from T the run comes to an end of which G holds -/
def Go (tb : Tables) (e : Env) (below : List Frame) (G : Outcome → State → Prop) (T : State) : Prop := ∃ s₂ o, Steps tb e below T s₂ ∧ s₂.status = .running ∧ Ended s₂ below o ∧ G o s₂
theorem Go.step {tb : Tables} {T T' : State} (g : Go tb e below G T') (h : ∀ t, Steps tb e below T' t → Steps tb e below T t) : Go tb e below G T := by
  obtain ⟨s₂, o, h1, h2⟩ := g
  exact ⟨s₂, o, h _ h1, h2⟩
/-- what a walk knows of its own body -/
def Cx (p : Program) (s : State) (m : MethodId) (meth : Method) (c : Code) (bs : ByteArray) (mx : Nat) (own mnm : String) (rt : Option FieldType) (Z : State) : Prop :=
  p.tables.exec = Jvm.exec ∧ c.code = bs ∧ c.maxLocals = mx ∧ s.vm.findClass own = some m.cls ∧ meth.name = mnm ∧ meth.sig.returnType = rt ∧ meth.locks = false ∧ Z.Warmed39 s.vm
theorem Cx.hown (C : Cx p s m meth c bs mx own mnm rt Z) : s.vm.findClass own = some m.cls := C.2.2.2.1
theorem Cx.nm (C : Cx p s m meth c bs mx own mnm rt Z) : meth.name = mnm := C.2.2.2.2.1
theorem Cx.ret (C : Cx p s m meth c bs mx own mnm rt Z) : meth.sig.returnType = rt := C.2.2.2.2.2.1
theorem Cx.locks (C : Cx p s m meth c bs mx own mnm rt Z) : meth.locks = false := C.2.2.2.2.2.2.1
theorem Cx.hZ (C : Cx p s m meth c bs mx own mnm rt Z) : Z.Warmed39 s.vm := C.2.2.2.2.2.2.2
/-- the end: returned, Q of the value, the heap and the places written; the frame -/
def End (s : State) (Q : Option Value → Heap → List Loc → Prop) (ce sl : Nat) (o : Outcome) (U' : State) : Prop := ∃ v L, o = .returned v ∧ Q v U'.heap L ∧ FrameEnd s o U' L ce sl
theorem met_of {y : MethodName} {ws : List Jvm.Cond} {rm : Room} {as' : Array Value} {Q : Option Value → Heap → List Loc → Prop} {ce sl : Nat} (hpn : plainFor y = true) (hef : ∀ m, entryFrame m as' mx = mkF m 0 Ls [])
    (hbody : ∀ (p : Program) (e : Env) (s : State) (m : MethodId) (below : List Frame) (meth : Method) (c : Code) (T : State), Cx p s m meth c bs mx y.cls y.name rt Z → Stand p l e rm s m as' below meth c T [] 0 0 → T.heap = h → Go p.tables e below (End s Q ce sl) (T.setTop (mkF m 0 Ls []))) :
    MetFree l y (head1 (Jvm.Cond.code y bs mx rt :: ws) rm) (fun a U => a = as' ∧ Z.Warmed39 U.vm ∧ U.heap = h) (fun _ _ _ _ _ => True) (fun _ U o U' => ∃ v L, o = .returned v ∧ Q v U'.heap L ∧ FrameEnd U o U' L ce sl) := by
  refine MetFree.of_bodySF hpn hisR ?_
  intro p e s m args below meth c s₁ Bd hml0 hP hK
  obtain ⟨rfl, hZ, hh⟩ := hP
  have X0 : Stand p l e rm s m _ below meth c s₁ [] 0 0 := Stand.of_body Bd
  have e0 : s₁.heap = h := by rw [← hh, Bd.state]; rfl
  obtain ⟨s₂, o, h1, h2, h3, h4⟩ := hbody p e s m below meth c s₁ ⟨Bd.exec, Bd.bytes, hml0, findClass_of_methodNamed Bd.named, (name_of_methodNamed Bd.named Bd.method).1, Bd.returns, Bd.notSynchronized, hZ⟩ X0 e0
  exact ⟨s₂, o, castTop (hef m) h1, h2, h3, h4⟩

theorem g_iloadN (C : Cx p s m meth c bs mx own mnm rt Z) (X : Stand p l e R s m args below meth c T locs cells slots) {k : Fin 4} {v : Int32} (hd : decode bs pc = .ok (.iload_n k, 1)) (hl : Ls[k.val]? = some (.val (.int v))) (hn : pc + 1 = pc')
    (hr : Go p.tables e below G (T.setTop (mkF m pc' Ls (.int v :: st)))) : Go p.tables e below G (T.setTop (mkF m pc Ls st)) := by
  subst hn; exact hr.step fun t k => XS.iloadN X.here C.1 rfl (hb C.2.1 hd) hl k
theorem g_iload (C : Cx p s m meth c bs mx own mnm rt Z) (X : Stand p l e R s m args below meth c T locs cells slots) {k : Nat} {v : Int32} (hd : decode bs pc = .ok (.iload k, 2)) (hl : Ls[k]? = some (.val (.int v))) (hn : pc + 2 = pc')
    (hr : Go p.tables e below G (T.setTop (mkF m pc' Ls (.int v :: st)))) : Go p.tables e below G (T.setTop (mkF m pc Ls st)) := by
  subst hn; exact hr.step fun t k => XS.iload X.here C.1 rfl (hb C.2.1 hd) hl k
theorem g_istore (C : Cx p s m meth c bs mx own mnm rt Z) (X : Stand p l e R s m args below meth c T locs cells slots) {k : Nat} {v : Int32} (hd : decode bs pc = .ok (.istore k, 2)) (hl : storeLocals Ls k (.int v) = some Ls') (hn : pc + 2 = pc')
    (hr : Go p.tables e below G (T.setTop (mkF m pc' Ls' st))) : Go p.tables e below G (T.setTop (mkF m pc Ls (.int v :: st))) := by
  subst hn; exact hr.step fun t k => XS.istore X.here C.1 rfl (hb C.2.1 hd) rfl hl k
theorem g_lloadN (C : Cx p s m meth c bs mx own mnm rt Z) (X : Stand p l e R s m args below meth c T locs cells slots) {k : Fin 4} {v : Int64} (hd : decode bs pc = .ok (.lload_n k, 1)) (hl : Ls[k.val]? = some (.val (.long v))) (hn : pc + 1 = pc')
    (hr : Go p.tables e below G (T.setTop (mkF m pc' Ls (.long v :: st)))) : Go p.tables e below G (T.setTop (mkF m pc Ls st)) := by
  subst hn; exact hr.step fun t k => XS.lloadN X.here C.1 rfl (hb C.2.1 hd) hl k
theorem g_aloadN (C : Cx p s m meth c bs mx own mnm rt Z) (X : Stand p l e R s m args below meth c T locs cells slots) {k : Fin 4} {v : Value} (hd : decode bs pc = .ok (.aload_n k, 1)) (hl : Ls[k.val]? = some (.val v)) (hv : v.isRef = true) (hn : pc + 1 = pc')
    (hr : Go p.tables e below G (T.setTop (mkF m pc' Ls (v :: st)))) : Go p.tables e below G (T.setTop (mkF m pc Ls st)) := by
  subst hn; exact hr.step fun t k => XS.aloadN X.here C.1 rfl (hb C.2.1 hd) hl hv k
theorem g_aload (C : Cx p s m meth c bs mx own mnm rt Z) (X : Stand p l e R s m args below meth c T locs cells slots) {k : Nat} {v : Value} (hd : decode bs pc = .ok (.aload k, 2)) (hl : Ls[k]? = some (.val v)) (hv : v.isRef = true) (hn : pc + 2 = pc')
    (hr : Go p.tables e below G (T.setTop (mkF m pc' Ls (v :: st)))) : Go p.tables e below G (T.setTop (mkF m pc Ls st)) := by
  subst hn; exact hr.step fun t k => XS.aload X.here C.1 rfl (hb C.2.1 hd) hl hv k
theorem g_astore (C : Cx p s m meth c bs mx own mnm rt Z) (X : Stand p l e R s m args below meth c T locs cells slots) {k : Nat} {v : Value} (hd : decode bs pc = .ok (.astore k, 2)) (hv : v.isRef = true) (hl : storeLocals Ls k v = some Ls') (hn : pc + 2 = pc')
    (hr : Go p.tables e below G (T.setTop (mkF m pc' Ls' st))) : Go p.tables e below G (T.setTop (mkF m pc Ls (v :: st))) := by
  subst hn; exact hr.step fun t k => XS.astore X.here C.1 rfl (hb C.2.1 hd) rfl hv hl k
theorem g_iconst (C : Cx p s m meth c bs mx own mnm rt Z) (X : Stand p l e R s m args below meth c T locs cells slots) {i : Int} {v : Int32} (hd : decode bs pc = .ok (.iconst i, 1)) (hv : Int32.ofInt i = v) (hn : pc + 1 = pc')
    (hr : Go p.tables e below G (T.setTop (mkF m pc' Ls (.int v :: st)))) : Go p.tables e below G (T.setTop (mkF m pc Ls st)) := by
  subst hn; exact hr.step fun t k => XS.iconst X.here C.1 rfl (hb C.2.1 hd) (by rw [hv]; exact k)
theorem g_bipush (C : Cx p s m meth c bs mx own mnm rt Z) (X : Stand p l e R s m args below meth c T locs cells slots) {i : Int} {v : Int32} (hd : decode bs pc = .ok (.bipush i, 2)) (hv : (Int8.ofInt i).toInt32 = v) (hn : pc + 2 = pc')
    (hr : Go p.tables e below G (T.setTop (mkF m pc' Ls (.int v :: st)))) : Go p.tables e below G (T.setTop (mkF m pc Ls st)) := by
  subst hn; exact hr.step fun t k => XS.bipush X.here C.1 rfl (hb C.2.1 hd) (by rw [hv]; exact k)
theorem g_sipush (C : Cx p s m meth c bs mx own mnm rt Z) (X : Stand p l e R s m args below meth c T locs cells slots) {i : Int} {v : Int32} (hd : decode bs pc = .ok (.sipush i, 3)) (hv : (Int16.ofInt i).toInt32 = v) (hn : pc + 3 = pc')
    (hr : Go p.tables e below G (T.setTop (mkF m pc' Ls (.int v :: st)))) : Go p.tables e below G (T.setTop (mkF m pc Ls st)) := by
  subst hn; exact hr.step fun t k => XS.sipush X.here C.1 rfl (hb C.2.1 hd) (by rw [hv]; exact k)
theorem g_iadd (C : Cx p s m meth c bs mx own mnm rt Z) (X : Stand p l e R s m args below meth c T locs cells slots) {x y : Int32} (hd : decode bs pc = .ok (.iadd, 1)) (hn : pc + 1 = pc')
    (hr : Go p.tables e below G (T.setTop (mkF m pc' Ls (.int (x + y) :: st)))) : Go p.tables e below G (T.setTop (mkF m pc Ls (.int y :: .int x :: st))) := by
  subst hn; exact hr.step fun t k => XS.iadd X.here C.1 rfl (hb C.2.1 hd) rfl k
theorem g_isub (C : Cx p s m meth c bs mx own mnm rt Z) (X : Stand p l e R s m args below meth c T locs cells slots) {x y : Int32} (hd : decode bs pc = .ok (.isub, 1)) (hn : pc + 1 = pc')
    (hr : Go p.tables e below G (T.setTop (mkF m pc' Ls (.int (x - y) :: st)))) : Go p.tables e below G (T.setTop (mkF m pc Ls (.int y :: .int x :: st))) := by
  subst hn; exact hr.step fun t k => XS.isub X.here C.1 rfl (hb C.2.1 hd) rfl k
theorem g_iand (C : Cx p s m meth c bs mx own mnm rt Z) (X : Stand p l e R s m args below meth c T locs cells slots) {x y : Int32} (hd : decode bs pc = .ok (.iand, 1)) (hn : pc + 1 = pc')
    (hr : Go p.tables e below G (T.setTop (mkF m pc' Ls (.int (x &&& y) :: st)))) : Go p.tables e below G (T.setTop (mkF m pc Ls (.int y :: .int x :: st))) := by
  subst hn; exact hr.step fun t k => XS.iand X.here C.1 rfl (hb C.2.1 hd) rfl k
theorem g_ior (C : Cx p s m meth c bs mx own mnm rt Z) (X : Stand p l e R s m args below meth c T locs cells slots) {x y : Int32} (hd : decode bs pc = .ok (.ior, 1)) (hn : pc + 1 = pc')
    (hr : Go p.tables e below G (T.setTop (mkF m pc' Ls (.int (x ||| y) :: st)))) : Go p.tables e below G (T.setTop (mkF m pc Ls (.int y :: .int x :: st))) := by
  subst hn; exact hr.step fun t k => XS.ior X.here C.1 rfl (hb C.2.1 hd) rfl k
theorem g_irem (C : Cx p s m meth c bs mx own mnm rt Z) (X : Stand p l e R s m args below meth c T locs cells slots) {x y : Int32} (hd : decode bs pc = .ok (.irem, 1)) (hy : ¬ y = 0) (hn : pc + 1 = pc')
    (hr : Go p.tables e below G (T.setTop (mkF m pc' Ls (.int (x % y) :: st)))) : Go p.tables e below G (T.setTop (mkF m pc Ls (.int y :: .int x :: st))) := by
  subst hn; exact hr.step fun t k => Jvm.RoadKit.iremM X C.1 rfl (hb C.2.1 hd) rfl hy k
theorem g_ishl (C : Cx p s m meth c bs mx own mnm rt Z) (X : Stand p l e R s m args below meth c T locs cells slots) {x y : Int32} (hd : decode bs pc = .ok (.ishl, 1)) (hn : pc + 1 = pc')
    (hr : Go p.tables e below G (T.setTop (mkF m pc' Ls (.int (x <<< (y &&& 31)) :: st)))) : Go p.tables e below G (T.setTop (mkF m pc Ls (.int y :: .int x :: st))) := by
  subst hn; exact hr.step fun t k => XS.ishl X.here C.1 rfl (hb C.2.1 hd) rfl k
theorem g_iushr (C : Cx p s m meth c bs mx own mnm rt Z) (X : Stand p l e R s m args below meth c T locs cells slots) {x y : Int32} (hd : decode bs pc = .ok (.iushr, 1)) (hn : pc + 1 = pc')
    (hr : Go p.tables e below G (T.setTop (mkF m pc' Ls (.int ((x.toUInt32 >>> (y &&& 31).toUInt32).toInt32) :: st)))) : Go p.tables e below G (T.setTop (mkF m pc Ls (.int y :: .int x :: st))) := by
  subst hn; exact hr.step fun t k => XS.iushr X.here C.1 rfl (hb C.2.1 hd) rfl k
theorem g_lushr (C : Cx p s m meth c bs mx own mnm rt Z) (X : Stand p l e R s m args below meth c T locs cells slots) {x : Int64} {y : Int32} (hd : decode bs pc = .ok (.lushr, 1)) (hn : pc + 1 = pc')
    (hr : Go p.tables e below G (T.setTop (mkF m pc' Ls (.long ((x.toUInt64 >>> (y &&& 0x3f).toInt64.toUInt64).toInt64) :: st)))) : Go p.tables e below G (T.setTop (mkF m pc Ls (.int y :: .long x :: st))) := by
  subst hn; exact hr.step fun t k => XS.lushr X.here C.1 rfl (hb C.2.1 hd) rfl k
theorem g_l2i (C : Cx p s m meth c bs mx own mnm rt Z) (X : Stand p l e R s m args below meth c T locs cells slots) {x : Int64} (hd : decode bs pc = .ok (.l2i, 1)) (hn : pc + 1 = pc')
    (hr : Go p.tables e below G (T.setTop (mkF m pc' Ls (.int x.toInt32 :: st)))) : Go p.tables e below G (T.setTop (mkF m pc Ls (.long x :: st))) := by
  subst hn; exact hr.step fun t k => XS.l2i X.here C.1 rfl (hb C.2.1 hd) rfl k
theorem g_i2b (C : Cx p s m meth c bs mx own mnm rt Z) (X : Stand p l e R s m args below meth c T locs cells slots) {x : Int32} (hd : decode bs pc = .ok (.i2b, 1)) (hn : pc + 1 = pc')
    (hr : Go p.tables e below G (T.setTop (mkF m pc' Ls (.int x.toInt8.toInt32 :: st)))) : Go p.tables e below G (T.setTop (mkF m pc Ls (.int x :: st))) := by
  subst hn; exact hr.step fun t k => XS.i2b X.here C.1 rfl (hb C.2.1 hd) rfl k
theorem g_dup (C : Cx p s m meth c bs mx own mnm rt Z) (X : Stand p l e R s m args below meth c T locs cells slots) {x : Value} (hd : decode bs pc = .ok (.dup, 1)) (hc : x.category = 1) (hn : pc + 1 = pc')
    (hr : Go p.tables e below G (T.setTop (mkF m pc' Ls (x :: x :: st)))) : Go p.tables e below G (T.setTop (mkF m pc Ls (x :: st))) := by
  subst hn; exact hr.step fun t k => XS.dup X.here C.1 rfl (hb C.2.1 hd) rfl hc k
theorem g_pop (C : Cx p s m meth c bs mx own mnm rt Z) (X : Stand p l e R s m args below meth c T locs cells slots) {x : Value} (hd : decode bs pc = .ok (.pop, 1)) (hc : x.category = 1) (hn : pc + 1 = pc')
    (hr : Go p.tables e below G (T.setTop (mkF m pc' Ls st))) : Go p.tables e below G (T.setTop (mkF m pc Ls (x :: st))) := by
  subst hn; exact hr.step fun t k => XS.pop X.here C.1 rfl (hb C.2.1 hd) rfl hc k
theorem g_goto (C : Cx p s m meth c bs mx own mnm rt Z) (X : Stand p l e R s m args below meth c T locs cells slots) {o : Int} (hd : decode bs pc = .ok (.goto o, 3)) (ho : 0 ≤ (pc : Int) + o) (hp : ((pc : Int) + o).toNat = pc')
    (hr : Go p.tables e below G (T.setTop (mkF m pc' Ls st))) : Go p.tables e below G (T.setTop (mkF m pc Ls st)) :=
  hr.step fun t k => XS.goto X.here C.1 rfl rfl (hb C.2.1 hd) ho hp k
theorem g_icmpY (C : Cx p s m meth c bs mx own mnm rt Z) (X : Stand p l e R s m args below meth c T locs cells slots) {cd : ClassFile.Cond} {x y : Int32} {o : Int} (hd : decode bs pc = .ok (.if_icmp cd o, 3)) (hc : if_icmp.holds cd x y = true) (ho : 0 ≤ (pc : Int) + o) (hp : ((pc : Int) + o).toNat = pc')
    (hr : Go p.tables e below G (T.setTop (mkF m pc' Ls st))) : Go p.tables e below G (T.setTop (mkF m pc Ls (.int y :: .int x :: st))) :=
  hr.step fun t k => XS.icmpYes X.here C.1 rfl rfl (hb C.2.1 hd) rfl hc ho hp k
theorem g_icmpN (C : Cx p s m meth c bs mx own mnm rt Z) (X : Stand p l e R s m args below meth c T locs cells slots) {cd : ClassFile.Cond} {x y : Int32} {o : Int} (hd : decode bs pc = .ok (.if_icmp cd o, 3)) (hc : if_icmp.holds cd x y = false) (hn : pc + 3 = pc')
    (hr : Go p.tables e below G (T.setTop (mkF m pc' Ls st))) : Go p.tables e below G (T.setTop (mkF m pc Ls (.int y :: .int x :: st))) := by
  subst hn; exact hr.step fun t k => XS.icmpNo X.here C.1 rfl (hb C.2.1 hd) rfl hc k
theorem g_ifN (C : Cx p s m meth c bs mx own mnm rt Z) (X : Stand p l e R s m args below meth c T locs cells slots) {cd : ClassFile.Cond} {x : Int32} {o : Int} (hd : decode bs pc = .ok (.ifCond cd o, 3)) (hc : if_icmp.holds cd x 0 = false) (hn : pc + 3 = pc')
    (hr : Go p.tables e below G (T.setTop (mkF m pc' Ls st))) : Go p.tables e below G (T.setTop (mkF m pc Ls (.int x :: st))) := by
  subst hn; exact hr.step fun t k => XS.ifNo X.here C.1 rfl (hb C.2.1 hd) rfl ((if0 _ _).trans hc) k
theorem g_ldc (C : Cx p s m meth c bs mx own mnm rt Z) (X : Stand p l e R s m args below meth c T locs cells slots) {i : Nat} {v : Int32} (hd : decode bs pc = .ok (.ldc i, 2)) (w : (Jvm.Cond.constant own i v).before a0 Z = true) (hn : pc + 2 = pc')
    (hr : Go p.tables e below G (T.setTop (mkF m pc' Ls (.int v :: st)))) : Go p.tables e below G (T.setTop (mkF m pc Ls st)) := by
  subst hn; exact hr.step fun t k => X.ldcInt C.1 C.hown (mvT C.hZ w) (g := mkF m pc Ls st) rfl (hb C.2.1 hd) _ k
theorem g_getF (C : Cx p s m meth c bs mx own mnm rt Z) (X : Stand p l e R s m args below meth c T locs cells slots) {O n d R0 host : String} {i : Nat} {a : Addr} {v : Value} (hd : decode bs pc = .ok (.getfield i, 3)) (w : (Jvm.Cond.fieldLink own i R0 n d).before a0 Z = true ∨ (Jvm.Cond.fieldLinkNest own i R0 n d host).before a0 Z = true) (via : Via Z R0 O n d) (eT : T.heap = h) (F : Fld Z h a O n d v) (hn : pc + 3 = pc')
    (hr : ∀ T', Stand p l e R s m args below meth c T' locs cells slots → T'.heap = h → Go p.tables e below G (T'.setTop (mkF m pc' Ls (v :: st)))) : Go p.tables e below G (T.setTop (mkF m pc Ls (.ref a :: st))) := by
  subst hn
  obtain ⟨T', X', e', st'⟩ := getF X C.1 C.hZ C.hown w via eT F (g := mkF m pc Ls (.ref a :: st)) rfl rfl (hb C.2.1 hd)
  exact (hr T' X' e').step st'
theorem g_callS (C : Cx p s m meth c bs mx own mnm rt Z) (X : Stand p l e R s m args below meth c T locs cells slots) {rm : Room} {as' : Array Value} {Q : Option Value → Heap → List Loc → Prop} {ml : Nat} {yb : ByteArray} {yr : Option FieldType} {ce sl W : Nat} {argsL : List Value} {ps : List FieldType} {pr : Option FieldType} {y : MethodName} {i : Nat} (hd : decode bs pc = .ok (.invokestatic i, 3)) (w1 : (Jvm.Cond.methodLink own i y).before a0 Z = true) (w2 : (Jvm.Cond.static y).before a0 Z = true) (w3 : (Jvm.Cond.initialized y.cls).before a0 Z = true) (w4 : (Jvm.Cond.code y yb ml yr).before a0 Z = true) (hy : y.cls ≠ "java/lang/invoke/MethodHandle" ∧ y.cls ≠ "java/lang/invoke/VarHandle")
    (hM : MetFree l y (head1 [Jvm.Cond.code y yb ml yr] rm) (fun a U => a = as' ∧ Z.Warmed39 U.vm ∧ U.heap = h) (fun _ _ _ _ _ => True) (fun _ U o U' => ∃ v L, o = .returned v ∧ Q v U'.heap L ∧ FrameEnd U o U' L rm.cells rm.slots)) (hf : rm.frames + 1 ≤ R.frames) (hlo : W + (ml + 11) + rm.locals ≤ R.locals) (hce : cells + rm.cells = ce) (hsl : slots + rm.slots = sl) (hce' : ce ≤ R.cells) (hsl' : sl ≤ R.slots) (has : argsL.toArray = as') (eT : T.heap = h) (hsz : Ls.size = mx) (hpd : parseMethodDescriptor y.desc = some ⟨ps, pr⟩) (hln : argsL.length = ps.length) (hW : (st.map fun v => v.category).sum ≤ W) (hn : pc + 3 = pc')
    (hr : ∀ v T' L, Stand p l e R s m args below meth c T' (locs ++ L) ce sl → Q v T'.heap L → Go p.tables e below G (T'.setTop (mkF m pc' Ls (v.toList ++ st)))) : Go p.tables e below G (T.setTop (mkF m pc Ls (argsL.reverse ++ st))) := by
  subst hn hce hsl has
  obtain ⟨v, vm1, ⟨T', L', k', n'⟩, -, X', ⟨Lc, hQ, l', y', z'⟩, st'⟩ := Jvm.LawKit.callS X C.1 (y := y) C.hown (mvT C.hZ w1) (mvT C.hZ w2) (mvT C.hZ w3) (mvT C.hZ w4) hy (backOf (W := W) hM C.hZ w4 w3 hf hlo) (g := mkF m pc Ls (argsL.reverse ++ st)) rfl (hsz.trans C.2.2.1.symm) (argsL := argsL) (rest := st) (lenOf hpd hln) rfl (by show 2 * 0 + _ ≤ _; omega) (hb C.2.1 hd) (fun _ _ => ⟨rfl, eT, hce', hsl'⟩)
  dsimp only [Pt.U, Pt.locs, Pt.cells, Pt.slots] at X' l' y' z' st' hQ
  subst l' y' z'
  exact (hr v T' Lc X' hQ).step st'
theorem g_callV (C : Cx p s m meth c bs mx own mnm rt Z) (X : Stand p l e R s m args below meth c T locs cells slots) {rm : Room} {as' : Array Value} {Q : Option Value → Heap → List Loc → Prop} {ml : Nat} {yb : ByteArray} {yr : Option FieldType} {ce sl W : Nat} {argsL : List Value} {ps : List FieldType} {pr : Option FieldType} {K : String} {y z : MethodName} {i : Nat} {b : Addr} (hd : decode bs pc = .ok (.invokevirtual i, 3)) (w1 : (Jvm.Cond.methodLink own i y).before a0 Z = true) (w2 : (Jvm.Cond.declares y).before a0 Z = true) (hnf : NotFace s y) (w3 : (Jvm.Cond.selects K y z).before a0 Z = true) (w4 : (Jvm.Cond.instanceMethod z).before a0 Z = true) (w5 : (Jvm.Cond.initialized z.cls).before a0 Z = true) (w6 : (Jvm.Cond.code z yb ml yr).before a0 Z = true) (hy : y.cls ≠ "java/lang/invoke/MethodHandle" ∧ y.cls ≠ "java/lang/invoke/VarHandle")
    (hM : MetFree l z (head1 [Jvm.Cond.code z yb ml yr] rm) (fun a U => a = as' ∧ Z.Warmed39 U.vm ∧ U.heap = h) (fun _ _ _ _ _ => True) (fun _ U o U' => ∃ v L, o = .returned v ∧ Q v U'.heap L ∧ FrameEnd U o U' L rm.cells rm.slots)) (hf : rm.frames + 1 ≤ R.frames) (hlo : W + (ml + 11) + rm.locals ≤ R.locals) (hce : cells + rm.cells = ce) (hsl : slots + rm.slots = sl) (hce' : ce ≤ R.cells) (hsl' : sl ≤ R.slots) (has : (.ref b :: argsL).toArray = as') (E : Exa Z h b K) (eT : T.heap = h) (hsz : Ls.size = mx) (hpd : parseMethodDescriptor y.desc = some ⟨ps, pr⟩) (hln : argsL.length = ps.length) (hW : (st.map fun v => v.category).sum ≤ W) (hn : pc + 3 = pc')
    (hr : ∀ v T' L, Stand p l e R s m args below meth c T' (locs ++ L) ce sl → Q v T'.heap L → Go p.tables e below G (T'.setTop (mkF m pc' Ls (v.toList ++ st)))) : Go p.tables e below G (T.setTop (mkF m pc Ls (argsL.reverse ++ .ref b :: st))) := by
  subst hn hce hsl has
  obtain ⟨cq, kq, qa, qb, qc⟩ := isOf C.hZ eT E
  obtain ⟨v, vm1, ⟨T', L', k', n'⟩, -, X', ⟨Lc, hQ, l', y', z'⟩, st'⟩ := X.virtualBack C.1 (y := y) (z := z) C.hown (mvT C.hZ w1) (mvT C.hZ w2) hnf (mvT C.hZ w3) (mvT C.hZ w4) hy (backOf (W := W) hM C.hZ w6 w5 hf hlo) qa qc (g := mkF m pc Ls (argsL.reverse ++ .ref b :: st)) rfl (hsz.trans C.2.2.1.symm) (Steps.refl _) (argsL := argsL) (rest := st) (lenOf hpd hln) rfl (by show 2 * 0 + _ ≤ _; omega) (hb C.2.1 hd) (fun _ _ => ⟨rfl, eT, hce', hsl'⟩)
  dsimp only [Pt.U, Pt.locs, Pt.cells, Pt.slots] at X' l' y' z' st' hQ
  subst l' y' z'
  exact (hr v T' Lc X' hQ).step fun t k => st'.trans k
theorem g_callI (C : Cx p s m meth c bs mx own mnm rt Z) (X : Stand p l e R s m args below meth c T locs cells slots) {rm : Room} {as' : Array Value} {Q : Option Value → Heap → List Loc → Prop} {ml : Nat} {yb : ByteArray} {ce sl W : Nat} {argsL : List Value} {ps : List FieldType} {pr : Option FieldType} {y : MethodName} {i : Nat} {b : Addr} (hy1 : y.name = "<init>") (hd : decode bs pc = .ok (.invokespecial i, 3)) (w1 : (Jvm.Cond.methodLink own i y).before a0 Z = true) (w2 : (Jvm.Cond.instanceMethod y).before a0 Z = true) (w3 : (Jvm.Cond.initialized y.cls).before a0 Z = true) (w4 : (Jvm.Cond.code y yb ml none).before a0 Z = true) (hy : y.cls ≠ "java/lang/invoke/MethodHandle" ∧ y.cls ≠ "java/lang/invoke/VarHandle")
    (hM : MetFree l y (head1 [Jvm.Cond.code y yb ml none] rm) (fun a U => a = as' ∧ Z.Warmed39 U.vm ∧ U.heap = h) (fun _ _ _ _ _ => True) (fun _ U o U' => ∃ v L, o = .returned v ∧ Q v U'.heap L ∧ FrameEnd U o U' L rm.cells rm.slots)) (hf : rm.frames + 1 ≤ R.frames) (hlo : W + (ml + 11) + rm.locals ≤ R.locals) (hce : cells + rm.cells = ce) (hsl : slots + rm.slots = sl) (hce' : ce ≤ R.cells) (hsl' : sl ≤ R.slots) (has : (.ref b :: argsL).toArray = as') (eT : T.heap = h) (hsz : Ls.size = mx) (hpd : parseMethodDescriptor y.desc = some ⟨ps, pr⟩) (hln : argsL.length = ps.length) (hW : (st.map fun v => v.category).sum ≤ W) (hn : pc + 3 = pc')
    (hr : ∀ v T' L, Stand p l e R s m args below meth c T' (locs ++ L) ce sl → Q v T'.heap L → Go p.tables e below G (T'.setTop (mkF m pc' Ls (v.toList ++ st)))) : Go p.tables e below G (T.setTop (mkF m pc Ls (argsL.reverse ++ .ref b :: st))) := by
  subst hn hce hsl has
  obtain ⟨v, vm1, ⟨T', L', k', n'⟩, -, X', ⟨Lc, hQ, l', y', z'⟩, st'⟩ := X.specialBack C.1 (y := y) hy1 C.hown (mvT C.hZ w1) (mvT C.hZ w2) (mvT C.hZ w4) hy (backOf (W := W) hM C.hZ w4 w3 hf hlo) (g := mkF m pc Ls (argsL.reverse ++ .ref b :: st)) rfl (hsz.trans C.2.2.1.symm) (Steps.refl _) (a := b) (argsL := argsL) (rest := st) (lenOf hpd hln) rfl (by show 2 * 0 + _ ≤ _; omega) (hb C.2.1 hd) (fun _ _ => ⟨rfl, eT, hce', hsl'⟩)
  dsimp only [Pt.U, Pt.locs, Pt.cells, Pt.slots] at X' l' y' z' st' hQ
  subst l' y' z'
  exact (hr v T' Lc X' hQ).step fun t k => st'.trans k
theorem g_retI (C : Cx p s m meth c bs mx own mnm (some .int) Z) (X : Stand p l e R s m args below meth c T locs cells slots) {Q : Option Value → Heap → List Loc → Prop} {ce sl : Nat} {z : Int32} (hd : decode bs pc = .ok (.ireturn, 1)) (hc : cells ≤ ce) (hs : slots ≤ sl) (hQ : Q (some (.int z)) T.heap locs) : Go p.tables e below (End s Q ce sl) (T.setTop (mkF m pc Ls (.int z :: st))) := by
  obtain ⟨fs, hr, hrun, hended, hW, hsame⟩ := X.leave (v := (some (.int z))) (fun h => by rw [C.ret] at h; cases h) C.locks
  exact ⟨_, _, retOut X C.1 C.ret rfl (Or.inl ⟨rfl, Or.inl rfl, _, rfl⟩) (hb C.2.1 hd) hr, hrun, hended, _, _, rfl, hQ, ⟨_, rfl⟩, hW, hsame.mono hc hs⟩
theorem g_retA {t : FieldType} (C : Cx p s m meth c bs mx own mnm (some t) Z) (X : Stand p l e R s m args below meth c T locs cells slots) {Q : Option Value → Heap → List Loc → Prop} {ce sl : Nat} {v : Value} (ht : t.isReference = true) (hnw : narrow t v = v) (hv : v.isRef = true) (hd : decode bs pc = .ok (.areturn, 1)) (hc : cells ≤ ce) (hs : slots ≤ sl) (hQ : Q (some v) T.heap locs) : Go p.tables e below (End s Q ce sl) (T.setTop (mkF m pc Ls (v :: st))) := by
  obtain ⟨fs, hr, hrun, hended, hW, hsame⟩ := X.leave (v := (some v)) (fun h => by rw [C.ret] at h; cases h) C.locks
  exact ⟨_, _, retOut X C.1 C.ret hnw (Or.inr (Or.inr (Or.inr (Or.inr ⟨rfl, ht, hv⟩)))) (hb C.2.1 hd) hr, hrun, hended, _, _, rfl, hQ, ⟨_, rfl⟩, hW, hsame.mono hc hs⟩
theorem g_retN {t : FieldType} (C : Cx p s m meth c bs mx own mnm (some t) Z) (X : Stand p l e R s m args below meth c T locs cells slots) {Q : Option Value → Heap → List Loc → Prop} {ce sl : Nat} {z : Int32} (ht : t = .boolean ∨ t = .byte ∨ t = .char ∨ t = .short) (hd : decode bs pc = .ok (.ireturn, 1)) (hc : cells ≤ ce) (hs : slots ≤ sl) (hQ : Q (some (.int (nar t z))) T.heap locs) : Go p.tables e below (End s Q ce sl) (T.setTop (mkF m pc Ls (.int z :: st))) := by
  obtain ⟨fs, hr, hrun, hended, hW, hsame⟩ := X.leave (v := (some (.int (nar t z)))) (fun h => by rw [C.ret] at h; cases h) C.locks
  exact ⟨_, _, retN X C.1 C.ret ht (hb C.2.1 hd) hr, hrun, hended, _, _, rfl, hQ, ⟨_, rfl⟩, hW, hsame.mono hc hs⟩
theorem g_retV (C : Cx p s m meth c bs mx own mnm none Z) (X : Stand p l e R s m args below meth c T locs cells slots) {Q : Option Value → Heap → List Loc → Prop} {ce sl : Nat}  (hd : decode bs pc = .ok (.return_, 1)) (hc : cells ≤ ce) (hs : slots ≤ sl) (hQ : Q none T.heap locs) : Go p.tables e below (End s Q ce sl) (T.setTop (mkF m pc Ls [])) := by
  obtain ⟨fs, hr, hrun, hended, hW, hsame⟩ := X.leave (v := none) (fun _ => rfl) C.locks
  exact ⟨_, _, X.returnOut C.1 C.ret (hb C.2.1 hd) hr, hrun, hended, _, _, rfl, hQ, ⟨_, rfl⟩, hW, hsame.mono hc hs⟩
theorem g_new (C : Cx p s m meth c bs mx own mnm rt Z) (X : Stand p l e R s m args below meth c T locs cells slots) {K : String} {i n ce sl : Nat} (hd : decode bs pc = .ok (.new i, 3)) (w : (Jvm.Cond.classLink own i K).before a0 Z = true) (wi : (Jvm.Cond.instantiable K n).before a0 Z = true) (wz : (Jvm.Cond.initialized K).before a0 Z = true) (eT : T.heap = h) (hce : cells + 1 = ce) (hsl : slots + n = sl) (hce' : ce ≤ R.cells) (hsl' : sl ≤ R.slots) (hn : pc + 3 = pc')
    (hr : ∀ T' h' b, b = h.size → Stand p l e R s m args below meth c T' locs ce sl → T'.heap = h' → Ext h h' → Exa Z h' b K → (∀ {O nm d : String} {ty : FieldType}, Laid Z a0 K O nm d → parseFieldDescriptor d = some ty → Fld Z h' b O nm d (defaultValue ty)) → Go p.tables e below G (T'.setTop (mkF m pc' Ls (.ref b :: st)))) : Go p.tables e below G (T.setTop (mkF m pc Ls st)) := by
  subst hn hce hsl
  obtain ⟨T', h', X', e', E', A', D', -, st'⟩ := newO X C.1 C.hZ C.hown w wi wz eT (g := mkF m pc Ls st) rfl (hb C.2.1 hd) hce' hsl'
  exact (hr T' h' _ rfl X' e' E' A' D').step st'
theorem g_initO (C : Cx p s m meth c bs mx own mnm rt Z) (X : Stand p l e R s m args below meth c T locs cells slots) {i W : Nat} {a : Addr} (hd : decode bs pc = .ok (.invokespecial i, 3)) (w1 : (Jvm.Cond.methodLink own i Lib.objectInit).before a0 Z = true) (w2 : (Jvm.Cond.instanceMethod Lib.objectInit).before a0 Z = true) (w3 : (Jvm.Cond.code Lib.objectInit object_method_1_code 1 none).before a0 Z = true) (eT : T.heap = h) (hsz : Ls.size = mx) (hf : 1 ≤ R.frames) (hW : (st.map fun v => v.category).sum ≤ W) (hl : W + 12 ≤ R.locals) (hn : pc + 3 = pc')
    (hr : ∀ T', Stand p l e R s m args below meth c T' locs cells slots → T'.heap = h → Go p.tables e below G (T'.setTop (mkF m pc' Ls st))) : Go p.tables e below G (T.setTop (mkF m pc Ls (.ref a :: st))) := by
  subst hn
  obtain ⟨T', X', e', st'⟩ := initO X C.1 C.hZ C.hown w1 w2 w3 eT (g := mkF m pc Ls (.ref a :: st)) rfl (hsz.trans C.2.2.1.symm) rfl (hb C.2.1 hd) hf (W := W) (by show 2 * 0 + _ ≤ _; omega) hl
  exact (hr T' X' e').step st'
theorem g_putF (C : Cx p s m meth c bs mx own mnm rt Z) (X : Stand p l e R s m args below meth c T locs cells slots) {O n d R0 host K : String} {i kk : Nat} {ty : FieldType} {a : Addr} {v old : Value} (hd : decode bs pc = .ok (.putfield i, 3)) (w : (Jvm.Cond.fieldLink own i R0 n d).before a0 Z = true ∨ (Jvm.Cond.fieldLinkNest own i R0 n d host).before a0 Z = true) (via : Via Z R0 O n d) (eT : T.heap = h) (F : Fld Z h a O n d old) (E : Exa Z h a K) (L : (Jvm.Cond.lays K O n d).before a0 Z = true ∨ ((Jvm.Cond.laysFinal K O n d).before a0 Z = true ∧ own = O ∧ mnm = "<init>")) (wi : (Jvm.Cond.instantiable K kk).before a0 Z = true) (hty : parseFieldDescriptor d = some ty) (hnw : narrow ty v = v) (hf : fits ty v = true) (hn : pc + 3 = pc')
    (hr : ∀ T' h', Stand p l e R s m args below meth c T' (locs ++ [⟨a, Jvm.RoadKit.slotOf Z O n d⟩]) cells slots → T'.heap = h' → Wr h h' a (Jvm.RoadKit.slotOf Z O n d) v → Go p.tables e below G (T'.setTop (mkF m pc' Ls st))) : Go p.tables e below G (T.setTop (mkF m pc Ls (v :: .ref a :: st))) := by
  subst hn
  obtain ⟨T', h', X', e', W', st'⟩ := putF X C.1 C.hZ C.hown w via eT F E (L.imp id fun q => ⟨q.1, q.2.1, C.nm.trans q.2.2⟩) wi hty hnw hf (g := mkF m pc Ls (v :: .ref a :: st)) rfl rfl (hb C.2.1 hd)
  exact (hr T' h' X' e' W').step st'
theorem g_newP (C : Cx p s m meth c bs mx own mnm rt Z) (X : Stand p l e R s m args below meth c T locs cells slots) {aty : ArrayType} {n : Int32} {cap ce sl : Nat} (hd : decode bs pc = .ok (.newarray aty, 2)) (w : (Jvm.Cond.arrayClass (newarray.typeOf aty)).before a0 Z = true) (eT : T.heap = h) (hn0 : ¬ n < 0) (hcap : n.toNatClampNeg ≤ cap) (hb8 : cap * 8 ≤ 536870912) (hce : cells + 1 = ce) (hsl : slots + cap = sl) (hce' : ce ≤ R.cells) (hsl' : sl ≤ R.slots) (hn : pc + 2 = pc')
    (hr : ∀ T' h' b k, b = h.size → Stand p l e R s m args below meth c T' locs ce sl → T'.heap = h' → Ext h h' → Arv Z h' b k (newarray.typeOf aty) n [] (defaultValue (newarray.typeOf aty)) → Go p.tables e below G (T'.setTop (mkF m pc' Ls (.ref b :: st)))) : Go p.tables e below G (T.setTop (mkF m pc Ls (.int n :: st))) := by
  subst hn hce hsl
  obtain ⟨T', h', k', X', e', E', A', st'⟩ := newP X C.1 C.hZ w eT (g := mkF m pc Ls (.int n :: st)) rfl (hb C.2.1 hd) rfl hn0 hcap hb8 hce' hsl'
  exact (hr T' h' _ k' rfl X' e' E' (Arv.new A' hn0)).step st'
theorem g_stB (C : Cx p s m meth c bs mx own mnm rt Z) (X : Stand p l e R s m args below meth c T locs cells slots) {a : Addr} {k : ClassId} {n j : Int32} {x : Int32} {vs : List Value} {dv : Value} {i : Nat} (hd : decode bs pc = .ok (.bastore, 1)) (eT : T.heap = h) (F : Arv Z h a k .byte n vs dv) (hj : ¬ j < 0 ∧ j < n) (hji : j.toNatClampNeg = i) (hi : i < vs.length) (hn : pc + 1 = pc')
    (hr : ∀ T' h', Stand p l e R s m args below meth c T' (locs ++ [⟨a, j.toNatClampNeg⟩]) cells slots → T'.heap = h' → Wr h h' a j.toNatClampNeg (.int (nar .byte x)) → Arv Z h' a k .byte n (vs.set i (.int (nar .byte x))) dv → Go p.tables e below G (T'.setTop (mkF m pc' Ls st))) : Go p.tables e below G (T.setTop (mkF m pc Ls (.int x :: .int j :: .ref a :: st))) := by
  subst hn
  obtain ⟨cl, A, q, Sz, N, H, Gf⟩ := F
  obtain ⟨T', h', X', e', W', st'⟩ := stB X C.1 C.hZ eT A (j := j) (inb_of Sz hj) (g := mkF m pc Ls (.int x :: .int j :: .ref a :: st)) rfl rfl (hb C.2.1 hd)
  exact (hr T' h' X' e' W' (Arv.set A q Sz N H Gf (fits_nar_byte _) W' i hji hi)).step st'
theorem g_ldB (C : Cx p s m meth c bs mx own mnm rt Z) (X : Stand p l e R s m args below meth c T locs cells slots) {a : Addr} {k : ClassId} {n j : Int32} {vs : List Value} {dv v : Value} (hd : decode bs pc = .ok (.baload, 1)) (eT : T.heap = h) (F : Arv Z h a k .byte n vs dv) (hj : ¬ j < 0 ∧ j < n) (hv : vs.getD j.toNatClampNeg dv = v) (hn : pc + 1 = pc')
    (hr : Go p.tables e below G (T.setTop (mkF m pc' Ls (v :: st)))) : Go p.tables e below G (T.setTop (mkF m pc Ls (.int j :: .ref a :: st))) := by
  subst hn
  obtain ⟨cl, A, q, Sz, N, H, Gf⟩ := F
  have hin := inb_of Sz hj
  exact hr.step fun t k => X.baloadBytes C.1 (j := j) (by rw [eT]; exact A.1) (State.isArrayOf_alike C.hZ.alike A.2.1) A.2.2 hin ((H _ (Nat.lt_of_not_le fun q => hin (Or.inr q))).trans (congrArg some hv)) (g := mkF m pc Ls (.int j :: .ref a :: st)) rfl rfl (hb C.2.1 hd) _ k
theorem g_len (C : Cx p s m meth c bs mx own mnm rt Z) (X : Stand p l e R s m args below meth c T locs cells slots) {a : Addr} {k : ClassId} {n : Int32} {ty : FieldType} {vs : List Value} {dv : Value} (hd : decode bs pc = .ok (.arraylength, 1)) (eT : T.heap = h) (F : Arv Z h a k ty n vs dv) (hn : pc + 1 = pc')
    (hr : Go p.tables e below G (T.setTop (mkF m pc' Ls (.int n :: st)))) : Go p.tables e below G (T.setTop (mkF m pc Ls (.ref a :: st))) := by
  subst hn
  obtain ⟨cl, A, q, Sz, N, H, Gf⟩ := F
  exact hr.step fun t k => X.arraylength C.1 (by rw [eT]; exact A.1) (State.isArrayOf_alike C.hZ.alike A.2.1) (g := mkF m pc Ls (.ref a :: st)) rfl rfl (hb C.2.1 hd) _ (by rw [len_of Sz N]; exact k)
theorem own_fin (n : Nat) (x : Int32) (h0 : 0 ≤ x.toInt) (h1 : x.toInt < n) : ∃ i : Fin n, x = Int32.ofNat i.val :=
  ⟨⟨x.toNatClampNeg, by show x.toInt.toNat < n; omega⟩, (back32 (by rw [Int32.lt_iff_toInt_lt]; show ¬ x.toInt < 0; omega)).1.symm⟩
theorem g_callP (C : Cx p s m meth c bs mx own mnm rt Z) (X : Stand p l e R s m args below meth c T locs cells slots) {rm : Room} {as' : Array Value} {Q : Option Value → Heap → List Loc → Prop} {ml : Nat} {yb : ByteArray} {yr : Option FieldType} {ce sl W : Nat} {argsL : List Value} {ps : List FieldType} {pr : Option FieldType} {y : MethodName} {i nk : Nat} {b : Addr} {K : String} (hd : decode bs pc = .ok (.invokevirtual i, 3)) (w1 : (Jvm.Cond.methodLink own i y).before a0 Z = true) (w2 : (Jvm.Cond.instanceMethod y).before a0 Z = true) (w3 : (Jvm.Cond.privateMethod y).before a0 Z = true) (w5 : (Jvm.Cond.initialized y.cls).before a0 Z = true) (w6 : (Jvm.Cond.instantiable y.cls nk).before a0 Z = true) (w4 : (Jvm.Cond.code y yb ml yr).before a0 Z = true) (hy : y.cls ≠ "java/lang/invoke/MethodHandle" ∧ y.cls ≠ "java/lang/invoke/VarHandle")
    (hM : MetFree l y (head1 [Jvm.Cond.code y yb ml yr] rm) (fun a U => a = as' ∧ Z.Warmed39 U.vm ∧ U.heap = h) (fun _ _ _ _ _ => True) (fun _ U o U' => ∃ v L, o = .returned v ∧ Q v U'.heap L ∧ FrameEnd U o U' L rm.cells rm.slots)) (hf : rm.frames + 1 ≤ R.frames) (hlo : W + (ml + 11) + rm.locals ≤ R.locals) (hce : cells + rm.cells = ce) (hsl : slots + rm.slots = sl) (hce' : ce ≤ R.cells) (hsl' : sl ≤ R.slots) (has : (.ref b :: argsL).toArray = as') (E : Exa Z h b K) (eT : T.heap = h) (hsz : Ls.size = mx) (hpd : parseMethodDescriptor y.desc = some ⟨ps, pr⟩) (hln : argsL.length = ps.length) (hW : (st.map fun v => v.category).sum ≤ W) (hn : pc + 3 = pc')
    (hr : ∀ v T' L, Stand p l e R s m args below meth c T' (locs ++ L) ce sl → Q v T'.heap L → Go p.tables e below G (T'.setTop (mkF m pc' Ls (v.toList ++ st)))) : Go p.tables e below G (T.setTop (mkF m pc Ls (argsL.reverse ++ .ref b :: st))) := by
  subst hn hce hsl has
  obtain ⟨cq, q1, q2⟩ := E.cell
  have hpr : s.PrivateAt y := Cond.privateMethod_at (mvP C.hZ w3 (args := #[]))
  have hsel : (Jvm.Cond.selects y.cls y y).before args s = true := by
    obtain ⟨c2, k2, hc2, hk2, -, hni, -, -⟩ := Cond.instantiable_spec (mvT C.hZ w6 (args := args))
    exact selects_self_of_private hc2 hk2 (Bool.or_eq_false_iff.mp hni).1 hpr (mvT C.hZ w2) hy
  obtain ⟨v, vm1, ⟨T', L', k', n'⟩, -, X', ⟨Lc, hQ, l', y', z'⟩, st'⟩ := X.privateBack C.1 (y := y) C.hown (mvT C.hZ w1) (mvT C.hZ w2) hsel hpr (mvT C.hZ w4) hy (backOf (W := W) hM C.hZ w4 w5 hf hlo) (g := mkF m pc Ls (argsL.reverse ++ .ref b :: st)) rfl (hsz.trans C.2.2.1.symm) (Steps.refl _) (a := b) (by rw [eT]; exact q1) q2 (argsL := argsL) (rest := st) (lenOf hpd hln) rfl (by show 2 * 0 + _ ≤ _; omega) (hb C.2.1 hd) (fun _ _ => ⟨rfl, eT, hce', hsl'⟩)
  dsimp only [Pt.U, Pt.locs, Pt.cells, Pt.slots] at X' l' y' z' st' hQ
  subst l' y' z'
  exact (hr v T' Lc X' hQ).step fun t k => st'.trans k
theorem g_cp (C : Cx p s m meth c bs mx own mnm rt Z) (X : Stand p l e R s m args below meth c T locs cells slots) {i W n0 : Nat} {a b : Addr} {k k' : ClassId} {ty : FieldType} {z z' sp dp nn : Int32} {vs vd us : List Value} {dv dd : Value} (hd : decode bs pc = .ok (.invokestatic i, 3)) (w1 : (Jvm.Cond.methodLink own i Jvm.Stand.acN).before a0 Z = true) (w2 : (Jvm.Cond.native Jvm.Stand.acN).before a0 Z = true) (w3 : (Jvm.Cond.static Jvm.Stand.acN).before a0 Z = true) (w4 : (Jvm.Cond.initialized "java/lang/System").before a0 Z = true) (eT : T.heap = h) (A : Arv Z h a k ty z vs dv) (B : Arv Z h b k' ty z' vd dd) (hty : refKind ty = false)
    (h1 : ¬ sp < 0) (h2 : ¬ dp < 0) (h3 : ¬ nn < 0) (h4 : sp.toNatClampNeg + nn.toNatClampNeg ≤ z.toNatClampNeg) (h5 : dp.toNatClampNeg + nn.toNatClampNeg ≤ z'.toNatClampNeg) (hus : us = (List.range nn.toNatClampNeg).map fun i => vs.getD (sp.toNatClampNeg + i) dv) (hl : dp.toNatClampNeg + nn.toNatClampNeg ≤ vd.length) (N : Fr n0 locs) (ge : n0 ≤ b) (hsz : Ls.size = mx) (hf : 1 ≤ R.frames) (hW : (st.map fun v => v.category).sum ≤ W) (hlo : W + (nativeFrameWords "java/lang/System" "arraycopy" 5 + 11) ≤ R.locals) (hn : pc + 3 = pc')
    (hr : ∀ T' h' L, Stand p l e R s m args below meth c T' L cells slots → T'.heap = h' → Fr n0 L → Keep h h' [b] → Arv Z h' b k' ty z' (vd.take dp.toNatClampNeg ++ us ++ vd.drop (dp.toNatClampNeg + nn.toNatClampNeg)) dd → Go p.tables e below G (T'.setTop (mkF m pc' Ls st))) : Go p.tables e below G (T.setTop (mkF m pc Ls (.int nn :: .int dp :: .ref b :: .int sp :: .ref a :: st))) := by
  subst hn
  obtain ⟨T', h', L', X', e', N', K', A', st'⟩ := cpA X C.1 C.hZ C.hown w1 w2 w3 w4 eT A B (Or.inl ⟨rfl, hty⟩) h1 h2 h3 h4 h5 hus hl N ge (g := mkF m pc Ls (.int nn :: .int dp :: .ref b :: .int sp :: .ref a :: st)) rfl (hsz.trans C.2.2.1.symm) rfl (hb C.2.1 hd) hf (W := W) (by show 2 * 0 + _ ≤ _; omega) hlo
  exact (hr T' h' L' X' e' N' K' A').step st'
theorem own_cast {tb : Tables} {S S' : State} (q : S = S') (g : Go tb e below G S') : Go tb e below G S := q ▸ g
end OwnKit
theorem d1_0 : decode prog_45_method_1_code 0 = .ok (.aload_n 0, 1) := by decide +kernel
theorem d1_1 : decode prog_45_method_1_code 1 = .ok (.invokespecial 1, 3) := by decide +kernel
theorem d1_4 : decode prog_45_method_1_code 4 = .ok (.aload_n 0, 1) := by decide +kernel
theorem d1_5 : decode prog_45_method_1_code 5 = .ok (.iconst 0, 1) := by decide +kernel
theorem d1_6 : decode prog_45_method_1_code 6 = .ok (.newarray .char, 2) := by decide +kernel
theorem d1_8 : decode prog_45_method_1_code 8 = .ok (.putfield 7, 3) := by decide +kernel
theorem d1_11 : decode prog_45_method_1_code 11 = .ok (.aload_n 0, 1) := by decide +kernel
theorem d1_12 : decode prog_45_method_1_code 12 = .ok (.iload_n 1, 1) := by decide +kernel
theorem d1_13 : decode prog_45_method_1_code 13 = .ok (.newarray .byte, 2) := by decide +kernel
theorem d1_15 : decode prog_45_method_1_code 15 = .ok (.putfield 13, 3) := by decide +kernel
theorem d1_18 : decode prog_45_method_1_code 18 = .ok (.return_, 1) := by decide +kernel
theorem ef_1 (m : MethodId) (a1 : Addr) : entryFrame m #[(.ref a1), (.int (8 : Int32))] 2 = mkF m 0 #[.val (.ref a1), .val (.int (8 : Int32))] [] := by first | (simp [entryFrame, mkF, argsToLocals, Value.category]; done) | rfl
def Q_1 (Z : State) (a1 : Addr) (h0 : Heap) (n0 : Nat) (v : Option Value) (h : Heap) (L : List Loc) : Prop := ∃ rb : Addr, ∃ kb : ClassId, (v = none) ∧ (Fr n0 L) ∧ (Keep h0 h [a1]) ∧ (h0.size ≤ rb) ∧ (n0 ≤ rb) ∧ (Exa Z h a1 "com/example/caseloom/caseloom/store/ByteWriter") ∧ (Fld Z h a1 "com/example/caseloom/caseloom/store/ByteWriter" "length" "I" (.int (0 : Int32))) ∧ (Fld Z h a1 "com/example/caseloom/caseloom/store/ByteWriter" "bytes" "[B" (.ref rb)) ∧ (Arv Z h rb kb .byte (8 : Int32) [(.int (0 : Int32)), (.int (0 : Int32)), (.int (0 : Int32)), (.int (0 : Int32)), (.int (0 : Int32)), (.int (0 : Int32)), (.int (0 : Int32)), (.int (0 : Int32))] (.int (0 : Int32)))
set_option maxRecDepth 65536 in
set_option maxHeartbeats 40000000 in
theorem rm1 (l : Launch) (Z : State) (a0 : Array Value) (hw : ∀ d ∈ tables_1, d.before a0 Z = true) (ws : List Jvm.Cond) (a1 : Addr) (h0 : Heap) (n0 : Nat) (Z0 : n0 ≤ h0.size) (E_a1 : Exa Z h0 a1 "com/example/caseloom/caseloom/store/ByteWriter") (F_chars : Fld Z h0 a1 "com/example/caseloom/caseloom/store/ByteWriter" "chars" "[C" .null) (F_bytes : Fld Z h0 a1 "com/example/caseloom/caseloom/store/ByteWriter" "bytes" "[B" .null) (F_length : Fld Z h0 a1 "com/example/caseloom/caseloom/store/ByteWriter" "length" "I" (.int (0 : Int32))) (gn_a1 : n0 ≤ a1) :
    MetFree l (⟨"com/example/caseloom/caseloom/store/ByteWriter", "<init>", "(I)V"⟩ : MethodName) (head1 (Jvm.Cond.code (⟨"com/example/caseloom/caseloom/store/ByteWriter", "<init>", "(I)V"⟩ : MethodName) prog_45_method_1_code 2 none :: ws) ({ frames := 1, cells := 2, slots := 8, locals := 12 } : Room)) (fun a U => a = #[(.ref a1), (.int (8 : Int32))] ∧ Z.Warmed39 U.vm ∧ U.heap = h0) (fun _ _ _ _ _ => True) (fun _ U o U' => ∃ v L, o = .returned v ∧ Q_1 Z a1 h0 n0 v U'.heap L ∧ FrameEnd U o U' L ({ frames := 1, cells := 2, slots := 8, locals := 12 } : Room).cells ({ frames := 1, cells := 2, slots := 8, locals := 12 } : Room).slots) := by
  refine met_of (Ls := #[.val (.ref a1), .val (.int (8 : Int32))]) (plainFor_of_name (by first | (simp [plainName, overriddenIn]; done) | decide +kernel)) (fun m => ef_1 m a1) ?_
  intro p e s m below meth c T0 C X0 e0
  have N0 := Fr.nil n0
  have K0 : Keep h0 h0 [a1] := Keep.refl h0 _
  refine g_aloadN (pc' := 1) C X0 d1_0 rfl rfl rfl ?_
  refine g_initO (W := 0) (pc' := 4) C X0 d1_1 (hw _ (List.mem_of_getElem? (i := 8) rfl)) (hw _ (List.mem_of_getElem? (i := 9) rfl)) (hw _ (List.mem_of_getElem? (i := 10) rfl)) e0 rfl (by decide) (Nat.le_refl _) (by decide) rfl (fun T1 X1 e1 => ?_)
  refine g_aloadN (pc' := 5) C X1 d1_4 rfl rfl rfl ?_
  refine g_iconst (pc' := 6) (v := (0 : Int32)) C X1 d1_5 rfl rfl ?_
  refine g_newP (pc' := 8) (cap := 0) C X1 d1_6 (hw _ (List.mem_of_getElem? (i := 11) rfl)) e1 (by decide) (by decide) (by decide) (ce := 1) (sl := 0) rfl rfl (by decide) (by decide) rfl (fun T2 h2 b2 k2 g2 X2 e2 E2 A2 => ?_)
  have ne2_3 : ¬ (a1 = b2) := Nat.ne_of_lt (Nat.lt_of_lt_of_le E_a1.lt (Nat.le_of_eq g2.symm))
  have E_a1_2 := E_a1.ext E2
  have F_chars_2 := F_chars.ext E2
  have F_bytes_2 := F_bytes.ext E2
  have F_length_2 := F_length.ext E2
  have gn_b2 : n0 ≤ b2 := Nat.le_trans Z0 (Nat.le_of_eq g2.symm)
  have Z2 := Nat.le_trans Z0 E2.1
  have sz_b2 : h0.size ≤ b2 := Nat.le_trans K0.1 (Nat.le_of_eq g2.symm)
  have K2 := K0.ext E2
  have V2 : Arv Z h2 b2 k2 .char (0 : Int32) [] (.int (0 : Int32)) := A2.pad (pad_rep [] (.int (0 : Int32)) 0)
  refine g_putF (pc' := 11) C X2 d1_8 (host := "") (Or.inl (hw _ (List.mem_of_getElem? (i := 12) rfl))) Via.refl e2 F_chars_2 E_a1_2 (Or.inl (hw _ (List.mem_of_getElem? (i := 13) rfl))) (hw _ (List.mem_of_getElem? (i := 3) rfl)) (ty := (.array .char)) (by decide) rfl rfl rfl (fun T4 h4 X4 e4 W4 => ?_)
  have F4 := F_chars_2.same W4
  have E_a1_4 := E_a1_2.wr W4
  have F_bytes_4 := F_bytes_2.other W4 (Or.inr (slot_ne (Or.inl (hw _ (List.mem_of_getElem? (i := 15) rfl))) (Or.inl (hw _ (List.mem_of_getElem? (i := 13) rfl))) (by decide) (t := (.array .byte)) (t' := (.array .char)) (by decide) (by decide)))
  have F_length_4 := F_length_2.other W4 (Or.inr (slot_ne (Or.inl (hw _ (List.mem_of_getElem? (i := 26) rfl))) (Or.inl (hw _ (List.mem_of_getElem? (i := 13) rfl))) (by decide) (t := .int) (t' := (.array .char)) (by decide) (by decide)))
  have V2_4 := V2.other W4 (Ne.symm ne2_3)
  have Z4 := Nat.le_trans Z2 (Nat.le_of_eq W4.size.symm)
  have N4 := Fr.snoc X4 N0 gn_a1
  have K4 := K2.wr W4 (Or.inl (List.mem_of_getElem? (i := 0) rfl))
  refine g_aloadN (pc' := 12) C X4 d1_11 rfl rfl rfl ?_
  refine g_iloadN (pc' := 13) C X4 d1_12 rfl rfl ?_
  refine g_newP (pc' := 15) (cap := 8) C X4 d1_13 (hw _ (List.mem_of_getElem? (i := 1) rfl)) e4 (by decide) (by decide) (by decide) (ce := 2) (sl := 8) rfl rfl (by decide) (by decide) rfl (fun T5 h5 b5 k5 g5 X5 e5 E5 A5 => ?_)
  have ne5_6 : ¬ (a1 = b5) := Nat.ne_of_lt (Nat.lt_of_lt_of_le E_a1_4.lt (Nat.le_of_eq g5.symm))
  have ne5_7 : ¬ (b2 = b5) := Nat.ne_of_lt (Nat.lt_of_lt_of_le V2_4.lt (Nat.le_of_eq g5.symm))
  have E_a1_5 := E_a1_4.ext E5
  have F_bytes_5 := F_bytes_4.ext E5
  have F_length_5 := F_length_4.ext E5
  have V2_5 := V2_4.ext E5
  have F4_5 := F4.ext E5
  have gn_b5 : n0 ≤ b5 := Nat.le_trans Z4 (Nat.le_of_eq g5.symm)
  have Z5 := Nat.le_trans Z4 E5.1
  have sz_b5 : h0.size ≤ b5 := Nat.le_trans K4.1 (Nat.le_of_eq g5.symm)
  have K5 := K4.ext E5
  have V5 : Arv Z h5 b5 k5 .byte (8 : Int32) [(.int (0 : Int32)), (.int (0 : Int32)), (.int (0 : Int32)), (.int (0 : Int32)), (.int (0 : Int32)), (.int (0 : Int32)), (.int (0 : Int32)), (.int (0 : Int32))] (.int (0 : Int32)) := A5.pad (pad_rep [] (.int (0 : Int32)) 8)
  refine g_putF (pc' := 18) C X5 d1_15 (host := "") (Or.inl (hw _ (List.mem_of_getElem? (i := 14) rfl))) Via.refl e5 F_bytes_5 E_a1_5 (Or.inl (hw _ (List.mem_of_getElem? (i := 15) rfl))) (hw _ (List.mem_of_getElem? (i := 3) rfl)) (ty := (.array .byte)) (by decide) rfl rfl rfl (fun T8 h8 X8 e8 W8 => ?_)
  have F8 := F_bytes_5.same W8
  have E_a1_8 := E_a1_5.wr W8
  have F_length_8 := F_length_5.other W8 (Or.inr (slot_ne (Or.inl (hw _ (List.mem_of_getElem? (i := 26) rfl))) (Or.inl (hw _ (List.mem_of_getElem? (i := 15) rfl))) (by decide) (t := .int) (t' := (.array .byte)) (by decide) (by decide)))
  have V2_8 := V2_5.other W8 (Ne.symm ne2_3)
  have F4_8 := F4_5.other W8 (Or.inr (slot_ne (Or.inl (hw _ (List.mem_of_getElem? (i := 13) rfl))) (Or.inl (hw _ (List.mem_of_getElem? (i := 15) rfl))) (by decide) (t := (.array .char)) (t' := (.array .byte)) (by decide) (by decide)))
  have V5_8 := V5.other W8 (Ne.symm ne5_6)
  have Z8 := Nat.le_trans Z5 (Nat.le_of_eq W8.size.symm)
  have N8 := Fr.snoc X8 N4 gn_a1
  have K8 := K5.wr W8 (Or.inl (List.mem_of_getElem? (i := 0) rfl))
  exact g_retV C X8 d1_18 (by decide) (by decide) ⟨b5, k5, rfl, N8, (by rw [e8]; exact K8), sz_b5, gn_b5, (by rw [e8]; exact E_a1_8), (by rw [e8]; exact F_length_8), (by rw [e8]; exact F8), (by rw [e8]; exact V5_8)⟩
theorem d4_0 : decode prog_45_method_12_code 0 = .ok (.aload_n 0, 1) := by decide +kernel
theorem d4_1 : decode prog_45_method_12_code 1 = .ok (.getfield 13, 3) := by decide +kernel
theorem d4_4 : decode prog_45_method_12_code 4 = .ok (.arraylength, 1) := by decide +kernel
theorem d4_5 : decode prog_45_method_12_code 5 = .ok (.aload_n 0, 1) := by decide +kernel
theorem d4_6 : decode prog_45_method_12_code 6 = .ok (.getfield 21, 3) := by decide +kernel
theorem d4_9 : decode prog_45_method_12_code 9 = .ok (.isub, 1) := by decide +kernel
theorem d4_10 : decode prog_45_method_12_code 10 = .ok (.iload_n 1, 1) := by decide +kernel
theorem d4_11 : decode prog_45_method_12_code 11 = .ok (.if_icmp .ge 30, 3) := by decide +kernel
theorem d4_41 : decode prog_45_method_12_code 41 = .ok (.return_, 1) := by decide +kernel
theorem ef_4 (m : MethodId) (a1 : Addr) : entryFrame m #[(.ref a1), (.int (8 : Int32))] 2 = mkF m 0 #[.val (.ref a1), .val (.int (8 : Int32))] [] := by first | (simp [entryFrame, mkF, argsToLocals, Value.category]; done) | rfl
def Q_4 (Z : State) (a1 : Addr) (rb : Addr) (kb : ClassId) (h0 : Heap) (n0 : Nat) (v : Option Value) (h : Heap) (L : List Loc) : Prop := v = none ∧ Fr n0 L ∧ h = h0
set_option maxRecDepth 65536 in
set_option maxHeartbeats 40000000 in
theorem rm4 (l : Launch) (Z : State) (a0 : Array Value) (hw : ∀ d ∈ tables_1, d.before a0 Z = true) (ws : List Jvm.Cond) (a1 : Addr) (rb : Addr) (kb : ClassId) (h0 : Heap) (n0 : Nat) (F_length : Fld Z h0 a1 "com/example/caseloom/caseloom/store/ByteWriter" "length" "I" (.int (0 : Int32))) (F_bytes : Fld Z h0 a1 "com/example/caseloom/caseloom/store/ByteWriter" "bytes" "[B" (.ref rb)) (V_b : Arv Z h0 rb kb .byte (8 : Int32) [(.int (0 : Int32)), (.int (0 : Int32)), (.int (0 : Int32)), (.int (0 : Int32)), (.int (0 : Int32)), (.int (0 : Int32)), (.int (0 : Int32)), (.int (0 : Int32))] (.int (0 : Int32))) :
    MetFree l (⟨"com/example/caseloom/caseloom/store/ByteWriter", "room", "(I)V"⟩ : MethodName) (head1 (Jvm.Cond.code (⟨"com/example/caseloom/caseloom/store/ByteWriter", "room", "(I)V"⟩ : MethodName) prog_45_method_12_code 2 none :: ws) ({ frames := 0, cells := 0, slots := 0, locals := 0 } : Room)) (fun a U => a = #[(.ref a1), (.int (8 : Int32))] ∧ Z.Warmed39 U.vm ∧ U.heap = h0) (fun _ _ _ _ _ => True) (fun _ U o U' => ∃ v L, o = .returned v ∧ Q_4 Z a1 rb kb h0 n0 v U'.heap L ∧ FrameEnd U o U' L ({ frames := 0, cells := 0, slots := 0, locals := 0 } : Room).cells ({ frames := 0, cells := 0, slots := 0, locals := 0 } : Room).slots) := by
  refine met_of (Ls := #[.val (.ref a1), .val (.int (8 : Int32))]) (plainFor_of_name (by first | (simp [plainName, overriddenIn]; done) | decide +kernel)) (fun m => ef_4 m a1) ?_
  intro p e s m below meth c T0 C X0 e0
  have N0 := Fr.nil n0
  refine g_aloadN (pc' := 1) C X0 d4_0 rfl rfl rfl ?_
  refine g_getF (pc' := 4) C X0 d4_1 (host := "") (Or.inl (hw _ (List.mem_of_getElem? (i := 14) rfl))) Via.refl e0 F_bytes rfl (fun T1 X1 e1 => ?_)
  refine g_len (pc' := 5) C X1 d4_4 e1 V_b rfl ?_
  refine g_aloadN (pc' := 6) C X1 d4_5 rfl rfl rfl ?_
  refine g_getF (pc' := 9) C X1 d4_6 (host := "") (Or.inl (hw _ (List.mem_of_getElem? (i := 25) rfl))) Via.refl e1 F_length rfl (fun T2 X2 e2 => ?_)
  refine g_isub (pc' := 10) C X2 d4_9 rfl ?_
  refine own_cast (congrArg (fun z => T2.setTop (mkF m 10 #[.val (.ref a1), .val (.int (8 : Int32))] (.int z :: []))) (show ((8 : Int32) - (0 : Int32)) = (8 : Int32) from by decide)) ?_
  refine g_iloadN (pc' := 11) C X2 d4_10 rfl rfl ?_
  refine g_icmpY (pc' := 41) C X2 d4_11 (flt (show ¬ ((8 : Int32) < (8 : Int32)) from (by decide))).2.1 (by decide) (by decide) ?_
  exact g_retV C X2 d4_41 (by decide) (by decide) ⟨rfl, N0, e2⟩
theorem d3_0 : decode prog_45_method_3_code 0 = .ok (.aload_n 0, 1) := by decide +kernel
theorem d3_1 : decode prog_45_method_3_code 1 = .ok (.aload_n 1, 1) := by decide +kernel
theorem d3_2 : decode prog_45_method_3_code 2 = .ok (.arraylength, 1) := by decide +kernel
theorem d3_3 : decode prog_45_method_3_code 3 = .ok (.invokevirtual 17, 3) := by decide +kernel
theorem pd_0 : parseMethodDescriptor "(I)V" = some ⟨[.int], none⟩ := by decide +kernel
theorem d3_6 : decode prog_45_method_3_code 6 = .ok (.aload_n 1, 1) := by decide +kernel
theorem d3_7 : decode prog_45_method_3_code 7 = .ok (.iconst 0, 1) := by decide +kernel
theorem d3_8 : decode prog_45_method_3_code 8 = .ok (.aload_n 0, 1) := by decide +kernel
theorem d3_9 : decode prog_45_method_3_code 9 = .ok (.getfield 13, 3) := by decide +kernel
theorem d3_12 : decode prog_45_method_3_code 12 = .ok (.aload_n 0, 1) := by decide +kernel
theorem d3_13 : decode prog_45_method_3_code 13 = .ok (.getfield 21, 3) := by decide +kernel
theorem d3_16 : decode prog_45_method_3_code 16 = .ok (.aload_n 1, 1) := by decide +kernel
theorem d3_17 : decode prog_45_method_3_code 17 = .ok (.arraylength, 1) := by decide +kernel
theorem d3_18 : decode prog_45_method_3_code 18 = .ok (.invokestatic 25, 3) := by decide +kernel
theorem d3_21 : decode prog_45_method_3_code 21 = .ok (.aload_n 0, 1) := by decide +kernel
theorem d3_22 : decode prog_45_method_3_code 22 = .ok (.dup, 1) := by decide +kernel
theorem d3_23 : decode prog_45_method_3_code 23 = .ok (.getfield 21, 3) := by decide +kernel
theorem d3_26 : decode prog_45_method_3_code 26 = .ok (.aload_n 1, 1) := by decide +kernel
theorem d3_27 : decode prog_45_method_3_code 27 = .ok (.arraylength, 1) := by decide +kernel
theorem d3_28 : decode prog_45_method_3_code 28 = .ok (.iadd, 1) := by decide +kernel
theorem d3_29 : decode prog_45_method_3_code 29 = .ok (.putfield 21, 3) := by decide +kernel
theorem d3_32 : decode prog_45_method_3_code 32 = .ok (.aload_n 0, 1) := by decide +kernel
theorem d3_33 : decode prog_45_method_3_code 33 = .ok (.areturn, 1) := by decide +kernel
def F3 (a1 : Addr) : Addr := a1
theorem F3_l0 (a1 : Addr)  : F3 a1 = a1 := rfl
theorem ef_3 (m : MethodId) (a1 : Addr) (a2 : Addr) : entryFrame m #[(.ref a1), (.ref a2)] 2 = mkF m 0 #[.val (.ref a1), .val (.ref a2)] [] := by first | (simp [entryFrame, mkF, argsToLocals, Value.category]; done) | rfl
def Q_3 (Z : State) (a1 : Addr) (a2 : Addr) (rb : Addr) (kb : ClassId) (ka : ClassId) (x0 : Int32) (x1 : Int32) (x2 : Int32) (x3 : Int32) (x4 : Int32) (x5 : Int32) (x6 : Int32) (x7 : Int32) (h0 : Heap) (n0 : Nat) (v : Option Value) (h : Heap) (L : List Loc) : Prop := (v = some (.ref (F3 a1))) ∧ (Fr n0 L) ∧ (Keep h0 h [a1, rb]) ∧ (Exa Z h a1 "com/example/caseloom/caseloom/store/ByteWriter") ∧ (Fld Z h a1 "com/example/caseloom/caseloom/store/ByteWriter" "length" "I" (.int (8 : Int32))) ∧ (Fld Z h a1 "com/example/caseloom/caseloom/store/ByteWriter" "bytes" "[B" (.ref rb)) ∧ (Arv Z h rb kb .byte (8 : Int32) [(.int x0), (.int x1), (.int x2), (.int x3), (.int x4), (.int x5), (.int x6), (.int x7)] (.int (0 : Int32)))
set_option maxRecDepth 65536 in
set_option maxHeartbeats 40000000 in
theorem rm3 (l : Launch) (Z : State) (a0 : Array Value) (hw : ∀ d ∈ tables_1, d.before a0 Z = true) (ws : List Jvm.Cond) (a1 : Addr) (a2 : Addr) (rb : Addr) (kb : ClassId) (ka : ClassId) (x0 : Int32) (x1 : Int32) (x2 : Int32) (x3 : Int32) (x4 : Int32) (x5 : Int32) (x6 : Int32) (x7 : Int32) (h0 : Heap) (n0 : Nat) (Z0 : n0 ≤ h0.size) (E_a1 : Exa Z h0 a1 "com/example/caseloom/caseloom/store/ByteWriter") (F_length : Fld Z h0 a1 "com/example/caseloom/caseloom/store/ByteWriter" "length" "I" (.int (0 : Int32))) (F_bytes : Fld Z h0 a1 "com/example/caseloom/caseloom/store/ByteWriter" "bytes" "[B" (.ref rb)) (V_b : Arv Z h0 rb kb .byte (8 : Int32) [(.int (0 : Int32)), (.int (0 : Int32)), (.int (0 : Int32)), (.int (0 : Int32)), (.int (0 : Int32)), (.int (0 : Int32)), (.int (0 : Int32)), (.int (0 : Int32))] (.int (0 : Int32))) (V_a : Arv Z h0 a2 ka .byte (8 : Int32) [(.int x0), (.int x1), (.int x2), (.int x3), (.int x4), (.int x5), (.int x6), (.int x7)] (.int (0 : Int32))) (gn_a1 : n0 ≤ a1) (gn_rb : n0 ≤ rb) (ne_ar : ¬ (a1 = rb)) (ne_a2r : ¬ (a2 = rb)) (ne_a2a : ¬ (a2 = a1)) :
    MetFree l (⟨"com/example/caseloom/caseloom/store/ByteWriter", "put", "([B)Lcom/example/caseloom/caseloom/store/ByteWriter;"⟩ : MethodName) (head1 (Jvm.Cond.code (⟨"com/example/caseloom/caseloom/store/ByteWriter", "put", "([B)Lcom/example/caseloom/caseloom/store/ByteWriter;"⟩ : MethodName) prog_45_method_3_code 2 (some (.object "com/example/caseloom/caseloom/store/ByteWriter")) :: ws) ({ frames := 1, cells := 0, slots := 0, locals := 40 } : Room)) (fun a U => a = #[(.ref a1), (.ref a2)] ∧ Z.Warmed39 U.vm ∧ U.heap = h0) (fun _ _ _ _ _ => True) (fun _ U o U' => ∃ v L, o = .returned v ∧ Q_3 Z a1 a2 rb kb ka x0 x1 x2 x3 x4 x5 x6 x7 h0 n0 v U'.heap L ∧ FrameEnd U o U' L ({ frames := 1, cells := 0, slots := 0, locals := 40 } : Room).cells ({ frames := 1, cells := 0, slots := 0, locals := 40 } : Room).slots) := by
  refine met_of (Ls := #[.val (.ref a1), .val (.ref a2)]) (plainFor_of_name (by first | (simp [plainName, overriddenIn]; done) | decide +kernel)) (fun m => ef_3 m a1 a2) ?_
  intro p e s m below meth c T0 C X0 e0
  have N0 := Fr.nil n0
  have K0 : Keep h0 h0 [a1, rb] := Keep.refl h0 _
  refine g_aloadN (pc' := 1) C X0 d3_0 rfl rfl rfl ?_
  refine g_aloadN (pc' := 2) C X0 d3_1 rfl rfl rfl ?_
  refine g_len (pc' := 3) C X0 d3_2 e0 V_a rfl ?_
  refine g_callP (b := a1) (y := (⟨"com/example/caseloom/caseloom/store/ByteWriter", "room", "(I)V"⟩ : MethodName)) (argsL := [(.int (8 : Int32))]) (st := []) (pc' := 6) C X0 d3_3 (hw _ (List.mem_of_getElem? (i := 21) rfl)) (hw _ (List.mem_of_getElem? (i := 22) rfl)) (hw _ (List.mem_of_getElem? (i := 23) rfl)) (hw _ (List.mem_of_getElem? (i := 4) rfl)) (hw _ (List.mem_of_getElem? (i := 3) rfl)) (hw _ (List.mem_of_getElem? (i := 24) rfl)) (by decide) (rm4 l Z a0 hw [] a1 rb kb h0 n0 F_length F_bytes V_b) (W := 0) (by decide) (by decide) (ce := 0) (sl := 0) rfl rfl (by decide) (by decide) rfl E_a1 e0 rfl pd_0 rfl (Nat.le_refl _) rfl (fun v1 T1 L1 X1 Q1 => ?_)
  obtain ⟨q1, Nq1, e1⟩ := Q1
  have N1 := Fr.app N0 Nq1
  subst q1
  show Go p.tables e below _ (T1.setTop (mkF m 6 #[.val (.ref a1), .val (.ref a2)] []))
  refine g_aloadN (pc' := 7) C X1 d3_6 rfl rfl rfl ?_
  refine g_iconst (pc' := 8) (v := (0 : Int32)) C X1 d3_7 rfl rfl ?_
  refine g_aloadN (pc' := 9) C X1 d3_8 rfl rfl rfl ?_
  refine g_getF (pc' := 12) C X1 d3_9 (host := "") (Or.inl (hw _ (List.mem_of_getElem? (i := 14) rfl))) Via.refl e1 F_bytes rfl (fun T2 X2 e2 => ?_)
  refine g_aloadN (pc' := 13) C X2 d3_12 rfl rfl rfl ?_
  refine g_getF (pc' := 16) C X2 d3_13 (host := "") (Or.inl (hw _ (List.mem_of_getElem? (i := 25) rfl))) Via.refl e2 F_length rfl (fun T3 X3 e3 => ?_)
  refine g_aloadN (pc' := 17) C X3 d3_16 rfl rfl rfl ?_
  refine g_len (pc' := 18) C X3 d3_17 e3 V_a rfl ?_
  refine g_cp (us := [(.int x0), (.int x1), (.int x2), (.int x3), (.int x4), (.int x5), (.int x6), (.int x7)]) (W := 0) (pc' := 21) C X3 d3_18 (hw _ (List.mem_of_getElem? (i := 27) rfl)) (hw _ (List.mem_of_getElem? (i := 30) rfl)) (hw _ (List.mem_of_getElem? (i := 28) rfl)) (hw _ (List.mem_of_getElem? (i := 29) rfl)) e3 V_a V_b rfl (by decide) (by decide) (by decide) (by decide) (by decide) rfl (Nat.le_trans (show ((0 : Int32)).toNatClampNeg + ((8 : Int32)).toNatClampNeg ≤ 8 from by decide) (Nat.le_refl 8)) N1 gn_rb rfl (by decide) (Nat.le_refl _) (by decide) rfl (fun T4 h4 L4 X4 e4 N4 Kq4 A4 => ?_)
  have V4 : Arv Z h4 rb kb .byte (8 : Int32) [(.int x0), (.int x1), (.int x2), (.int x3), (.int x4), (.int x5), (.int x6), (.int x7)] (.int (0 : Int32)) := A4
  have E_a1_4 := E_a1.keep Kq4
  have F_length_4 := F_length.keep Kq4 (ninS ne_ar nin0)
  have F_bytes_4 := F_bytes.keep Kq4 (ninS ne_ar nin0)
  have V_a_4 := V_a.keep Kq4 (ninS ne_a2r nin0)
  have Z4 := Nat.le_trans Z0 Kq4.1
  have K4 := K0.trans Kq4 (allS (Or.inl (List.mem_of_getElem? (i := 1) rfl)) all0)
  refine g_aloadN (pc' := 22) C X4 d3_21 rfl rfl rfl ?_
  refine g_dup (pc' := 23) C X4 d3_22 rfl rfl ?_
  refine g_getF (pc' := 26) C X4 d3_23 (host := "") (Or.inl (hw _ (List.mem_of_getElem? (i := 25) rfl))) Via.refl e4 F_length_4 rfl (fun T5 X5 e5 => ?_)
  refine g_aloadN (pc' := 27) C X5 d3_26 rfl rfl rfl ?_
  refine g_len (pc' := 28) C X5 d3_27 e5 V_a_4 rfl ?_
  refine g_iadd (pc' := 29) C X5 d3_28 rfl ?_
  refine own_cast (congrArg (fun z => T5.setTop (mkF m 29 #[.val (.ref a1), .val (.ref a2)] (.int z :: [(.ref a1)]))) (show ((0 : Int32) + (8 : Int32)) = (8 : Int32) from by decide)) ?_
  refine g_putF (pc' := 32) C X5 d3_29 (host := "") (Or.inl (hw _ (List.mem_of_getElem? (i := 25) rfl))) Via.refl e5 F_length_4 E_a1_4 (Or.inl (hw _ (List.mem_of_getElem? (i := 26) rfl))) (hw _ (List.mem_of_getElem? (i := 3) rfl)) (ty := .int) (by decide) rfl rfl rfl (fun T6 h6 X6 e6 W6 => ?_)
  have F6 := F_length_4.same W6
  have E_a1_6 := E_a1_4.wr W6
  have F_bytes_6 := F_bytes_4.other W6 (Or.inr (slot_ne (Or.inl (hw _ (List.mem_of_getElem? (i := 15) rfl))) (Or.inl (hw _ (List.mem_of_getElem? (i := 26) rfl))) (by decide) (t := (.array .byte)) (t' := .int) (by decide) (by decide)))
  have V_a_6 := V_a_4.other W6 ne_a2a
  have V4_6 := V4.other W6 (Ne.symm ne_ar)
  have Z6 := Nat.le_trans Z4 (Nat.le_of_eq W6.size.symm)
  have N6 := Fr.snoc X6 N4 gn_a1
  have K6 := K4.wr W6 (Or.inl (List.mem_of_getElem? (i := 0) rfl))
  refine g_aloadN (pc' := 33) C X6 d3_32 rfl rfl rfl ?_
  exact g_retA C X6 rfl rfl rfl d3_33 (by decide) (by decide) ⟨congrArg (fun z => some (Value.ref z)) (F3_l0 a1 ).symm, N6, (by rw [e6]; exact K6), (by rw [e6]; exact E_a1_6), (by rw [e6]; exact F6), (by rw [e6]; exact F_bytes_6), (by rw [e6]; exact V4_6)⟩
theorem d5_0 : decode prog_45_method_7_code 0 = .ok (.aload_n 0, 1) := by decide +kernel
theorem d5_1 : decode prog_45_method_7_code 1 = .ok (.getfield 13, 3) := by decide +kernel
theorem d5_4 : decode prog_45_method_7_code 4 = .ok (.iload_n 1, 1) := by decide +kernel
theorem d5_5 : decode prog_45_method_7_code 5 = .ok (.iload_n 2, 1) := by decide +kernel
theorem d5_6 : decode prog_45_method_7_code 6 = .ok (.bipush 24, 2) := by decide +kernel
theorem d5_8 : decode prog_45_method_7_code 8 = .ok (.iushr, 1) := by decide +kernel
theorem d5_9 : decode prog_45_method_7_code 9 = .ok (.i2b, 1) := by decide +kernel
theorem d5_10 : decode prog_45_method_7_code 10 = .ok (.bastore, 1) := by decide +kernel
theorem d5_11 : decode prog_45_method_7_code 11 = .ok (.aload_n 0, 1) := by decide +kernel
theorem d5_12 : decode prog_45_method_7_code 12 = .ok (.getfield 13, 3) := by decide +kernel
theorem d5_15 : decode prog_45_method_7_code 15 = .ok (.iload_n 1, 1) := by decide +kernel
theorem d5_16 : decode prog_45_method_7_code 16 = .ok (.iconst 1, 1) := by decide +kernel
theorem d5_17 : decode prog_45_method_7_code 17 = .ok (.iadd, 1) := by decide +kernel
theorem d5_18 : decode prog_45_method_7_code 18 = .ok (.iload_n 2, 1) := by decide +kernel
theorem d5_19 : decode prog_45_method_7_code 19 = .ok (.bipush 16, 2) := by decide +kernel
theorem d5_21 : decode prog_45_method_7_code 21 = .ok (.iushr, 1) := by decide +kernel
theorem d5_22 : decode prog_45_method_7_code 22 = .ok (.i2b, 1) := by decide +kernel
theorem d5_23 : decode prog_45_method_7_code 23 = .ok (.bastore, 1) := by decide +kernel
theorem d5_24 : decode prog_45_method_7_code 24 = .ok (.aload_n 0, 1) := by decide +kernel
theorem d5_25 : decode prog_45_method_7_code 25 = .ok (.getfield 13, 3) := by decide +kernel
theorem d5_28 : decode prog_45_method_7_code 28 = .ok (.iload_n 1, 1) := by decide +kernel
theorem d5_29 : decode prog_45_method_7_code 29 = .ok (.iconst 2, 1) := by decide +kernel
theorem d5_30 : decode prog_45_method_7_code 30 = .ok (.iadd, 1) := by decide +kernel
theorem d5_31 : decode prog_45_method_7_code 31 = .ok (.iload_n 2, 1) := by decide +kernel
theorem d5_32 : decode prog_45_method_7_code 32 = .ok (.bipush 8, 2) := by decide +kernel
theorem d5_34 : decode prog_45_method_7_code 34 = .ok (.iushr, 1) := by decide +kernel
theorem d5_35 : decode prog_45_method_7_code 35 = .ok (.i2b, 1) := by decide +kernel
theorem d5_36 : decode prog_45_method_7_code 36 = .ok (.bastore, 1) := by decide +kernel
theorem d5_37 : decode prog_45_method_7_code 37 = .ok (.aload_n 0, 1) := by decide +kernel
theorem d5_38 : decode prog_45_method_7_code 38 = .ok (.getfield 13, 3) := by decide +kernel
theorem d5_41 : decode prog_45_method_7_code 41 = .ok (.iload_n 1, 1) := by decide +kernel
theorem d5_42 : decode prog_45_method_7_code 42 = .ok (.iconst 3, 1) := by decide +kernel
theorem d5_43 : decode prog_45_method_7_code 43 = .ok (.iadd, 1) := by decide +kernel
theorem d5_44 : decode prog_45_method_7_code 44 = .ok (.iload_n 2, 1) := by decide +kernel
theorem d5_45 : decode prog_45_method_7_code 45 = .ok (.i2b, 1) := by decide +kernel
theorem d5_46 : decode prog_45_method_7_code 46 = .ok (.bastore, 1) := by decide +kernel
theorem d5_47 : decode prog_45_method_7_code 47 = .ok (.return_, 1) := by decide +kernel
theorem ef_s0 (m : MethodId) (a1 : Addr) (p3 : Int32) : entryFrame m #[(.ref a1), (.int (0 : Int32)), (.int p3)] 3 = mkF m 0 #[.val (.ref a1), .val (.int (0 : Int32)), .val (.int p3)] [] := by first | (simp [entryFrame, mkF, argsToLocals, Value.category]; done) | rfl
def Q_s0 (Z : State) (a1 : Addr) (p3 : Int32) (rb : Addr) (kb : ClassId) (x0 : Int32) (x1 : Int32) (x2 : Int32) (x3 : Int32) (x4 : Int32) (x5 : Int32) (x6 : Int32) (x7 : Int32) (h0 : Heap) (n0 : Nat) (v : Option Value) (h : Heap) (L : List Loc) : Prop := (v = none) ∧ (Fr n0 L) ∧ (Keep h0 h [rb]) ∧ (Arv Z h rb kb .byte (8 : Int32) [(.int (nar .byte ((p3.toUInt32 >>> ((24 : Int32) &&& 31).toUInt32).toInt32).toInt8.toInt32)), (.int (nar .byte ((p3.toUInt32 >>> ((16 : Int32) &&& 31).toUInt32).toInt32).toInt8.toInt32)), (.int (nar .byte ((p3.toUInt32 >>> ((8 : Int32) &&& 31).toUInt32).toInt32).toInt8.toInt32)), (.int (nar .byte p3.toInt8.toInt32)), (.int x4), (.int x5), (.int x6), (.int x7)] (.int (0 : Int32)))
set_option maxRecDepth 65536 in
set_option maxHeartbeats 40000000 in
theorem rms0 (l : Launch) (Z : State) (a0 : Array Value) (hw : ∀ d ∈ tables_1, d.before a0 Z = true) (ws : List Jvm.Cond) (a1 : Addr) (p3 : Int32) (rb : Addr) (kb : ClassId) (x0 : Int32) (x1 : Int32) (x2 : Int32) (x3 : Int32) (x4 : Int32) (x5 : Int32) (x6 : Int32) (x7 : Int32) (h0 : Heap) (n0 : Nat) (Z0 : n0 ≤ h0.size) (F_bytes : Fld Z h0 a1 "com/example/caseloom/caseloom/store/ByteWriter" "bytes" "[B" (.ref rb)) (V_b : Arv Z h0 rb kb .byte (8 : Int32) [(.int x0), (.int x1), (.int x2), (.int x3), (.int x4), (.int x5), (.int x6), (.int x7)] (.int (0 : Int32))) (gn_rb : n0 ≤ rb) (ne_ar : ¬ (a1 = rb)) :
    MetFree l (⟨"com/example/caseloom/caseloom/store/ByteWriter", "setInt", "(II)V"⟩ : MethodName) (head1 (Jvm.Cond.code (⟨"com/example/caseloom/caseloom/store/ByteWriter", "setInt", "(II)V"⟩ : MethodName) prog_45_method_7_code 3 none :: ws) ({ frames := 0, cells := 0, slots := 0, locals := 0 } : Room)) (fun a U => a = #[(.ref a1), (.int (0 : Int32)), (.int p3)] ∧ Z.Warmed39 U.vm ∧ U.heap = h0) (fun _ _ _ _ _ => True) (fun _ U o U' => ∃ v L, o = .returned v ∧ Q_s0 Z a1 p3 rb kb x0 x1 x2 x3 x4 x5 x6 x7 h0 n0 v U'.heap L ∧ FrameEnd U o U' L ({ frames := 0, cells := 0, slots := 0, locals := 0 } : Room).cells ({ frames := 0, cells := 0, slots := 0, locals := 0 } : Room).slots) := by
  refine met_of (Ls := #[.val (.ref a1), .val (.int (0 : Int32)), .val (.int p3)]) (plainFor_of_name (by first | (simp [plainName, overriddenIn]; done) | decide +kernel)) (fun m => ef_s0 m a1 p3) ?_
  intro p e s m below meth c T0 C X0 e0
  have N0 := Fr.nil n0
  have K0 : Keep h0 h0 [rb] := Keep.refl h0 _
  refine g_aloadN (pc' := 1) C X0 d5_0 rfl rfl rfl ?_
  refine g_getF (pc' := 4) C X0 d5_1 (host := "") (Or.inl (hw _ (List.mem_of_getElem? (i := 14) rfl))) Via.refl e0 F_bytes rfl (fun T1 X1 e1 => ?_)
  refine g_iloadN (pc' := 5) C X1 d5_4 rfl rfl ?_
  refine g_iloadN (pc' := 6) C X1 d5_5 rfl rfl ?_
  refine g_bipush (pc' := 8) (v := (24 : Int32)) C X1 d5_6 rfl rfl ?_
  refine g_iushr (pc' := 9) C X1 d5_8 rfl ?_
  refine g_i2b (pc' := 10) C X1 d5_9 rfl ?_
  refine g_stB (pc' := 11) (i := 0) C X1 d5_10 e1 V_b ⟨by decide, by decide⟩ rfl (show (0 : Nat) < 8 from by decide) rfl (fun T2 h2 X2 e2 W2 V2q => ?_)
  have V2 : Arv Z h2 rb kb .byte (8 : Int32) [(.int (nar .byte ((p3.toUInt32 >>> ((24 : Int32) &&& 31).toUInt32).toInt32).toInt8.toInt32)), (.int x1), (.int x2), (.int x3), (.int x4), (.int x5), (.int x6), (.int x7)] (.int (0 : Int32)) := V2q
  have F_bytes_2 := F_bytes.other W2 (Or.inl ne_ar)
  have Z2 := Nat.le_trans Z0 (Nat.le_of_eq W2.size.symm)
  have N2 := Fr.snoc X2 N0 gn_rb
  have K2 := K0.wr W2 (Or.inl (List.mem_of_getElem? (i := 0) rfl))
  refine g_aloadN (pc' := 12) C X2 d5_11 rfl rfl rfl ?_
  refine g_getF (pc' := 15) C X2 d5_12 (host := "") (Or.inl (hw _ (List.mem_of_getElem? (i := 14) rfl))) Via.refl e2 F_bytes_2 rfl (fun T3 X3 e3 => ?_)
  refine g_iloadN (pc' := 16) C X3 d5_15 rfl rfl ?_
  refine g_iconst (pc' := 17) (v := (1 : Int32)) C X3 d5_16 rfl rfl ?_
  refine g_iadd (pc' := 18) C X3 d5_17 rfl ?_
  refine own_cast (congrArg (fun z => T3.setTop (mkF m 18 #[.val (.ref a1), .val (.int (0 : Int32)), .val (.int p3)] (.int z :: [(.ref rb)]))) (show ((0 : Int32) + (1 : Int32)) = (1 : Int32) from by decide)) ?_
  refine g_iloadN (pc' := 19) C X3 d5_18 rfl rfl ?_
  refine g_bipush (pc' := 21) (v := (16 : Int32)) C X3 d5_19 rfl rfl ?_
  refine g_iushr (pc' := 22) C X3 d5_21 rfl ?_
  refine g_i2b (pc' := 23) C X3 d5_22 rfl ?_
  refine g_stB (pc' := 24) (i := 1) C X3 d5_23 e3 V2 ⟨by decide, by decide⟩ rfl (show (1 : Nat) < 8 from by decide) rfl (fun T4 h4 X4 e4 W4 V4q => ?_)
  have V4 : Arv Z h4 rb kb .byte (8 : Int32) [(.int (nar .byte ((p3.toUInt32 >>> ((24 : Int32) &&& 31).toUInt32).toInt32).toInt8.toInt32)), (.int (nar .byte ((p3.toUInt32 >>> ((16 : Int32) &&& 31).toUInt32).toInt32).toInt8.toInt32)), (.int x2), (.int x3), (.int x4), (.int x5), (.int x6), (.int x7)] (.int (0 : Int32)) := V4q
  have F_bytes_4 := F_bytes_2.other W4 (Or.inl ne_ar)
  have Z4 := Nat.le_trans Z2 (Nat.le_of_eq W4.size.symm)
  have N4 := Fr.snoc X4 N2 gn_rb
  have K4 := K2.wr W4 (Or.inl (List.mem_of_getElem? (i := 0) rfl))
  refine g_aloadN (pc' := 25) C X4 d5_24 rfl rfl rfl ?_
  refine g_getF (pc' := 28) C X4 d5_25 (host := "") (Or.inl (hw _ (List.mem_of_getElem? (i := 14) rfl))) Via.refl e4 F_bytes_4 rfl (fun T5 X5 e5 => ?_)
  refine g_iloadN (pc' := 29) C X5 d5_28 rfl rfl ?_
  refine g_iconst (pc' := 30) (v := (2 : Int32)) C X5 d5_29 rfl rfl ?_
  refine g_iadd (pc' := 31) C X5 d5_30 rfl ?_
  refine own_cast (congrArg (fun z => T5.setTop (mkF m 31 #[.val (.ref a1), .val (.int (0 : Int32)), .val (.int p3)] (.int z :: [(.ref rb)]))) (show ((0 : Int32) + (2 : Int32)) = (2 : Int32) from by decide)) ?_
  refine g_iloadN (pc' := 32) C X5 d5_31 rfl rfl ?_
  refine g_bipush (pc' := 34) (v := (8 : Int32)) C X5 d5_32 rfl rfl ?_
  refine g_iushr (pc' := 35) C X5 d5_34 rfl ?_
  refine g_i2b (pc' := 36) C X5 d5_35 rfl ?_
  refine g_stB (pc' := 37) (i := 2) C X5 d5_36 e5 V4 ⟨by decide, by decide⟩ rfl (show (2 : Nat) < 8 from by decide) rfl (fun T6 h6 X6 e6 W6 V6q => ?_)
  have V6 : Arv Z h6 rb kb .byte (8 : Int32) [(.int (nar .byte ((p3.toUInt32 >>> ((24 : Int32) &&& 31).toUInt32).toInt32).toInt8.toInt32)), (.int (nar .byte ((p3.toUInt32 >>> ((16 : Int32) &&& 31).toUInt32).toInt32).toInt8.toInt32)), (.int (nar .byte ((p3.toUInt32 >>> ((8 : Int32) &&& 31).toUInt32).toInt32).toInt8.toInt32)), (.int x3), (.int x4), (.int x5), (.int x6), (.int x7)] (.int (0 : Int32)) := V6q
  have F_bytes_6 := F_bytes_4.other W6 (Or.inl ne_ar)
  have Z6 := Nat.le_trans Z4 (Nat.le_of_eq W6.size.symm)
  have N6 := Fr.snoc X6 N4 gn_rb
  have K6 := K4.wr W6 (Or.inl (List.mem_of_getElem? (i := 0) rfl))
  refine g_aloadN (pc' := 38) C X6 d5_37 rfl rfl rfl ?_
  refine g_getF (pc' := 41) C X6 d5_38 (host := "") (Or.inl (hw _ (List.mem_of_getElem? (i := 14) rfl))) Via.refl e6 F_bytes_6 rfl (fun T7 X7 e7 => ?_)
  refine g_iloadN (pc' := 42) C X7 d5_41 rfl rfl ?_
  refine g_iconst (pc' := 43) (v := (3 : Int32)) C X7 d5_42 rfl rfl ?_
  refine g_iadd (pc' := 44) C X7 d5_43 rfl ?_
  refine own_cast (congrArg (fun z => T7.setTop (mkF m 44 #[.val (.ref a1), .val (.int (0 : Int32)), .val (.int p3)] (.int z :: [(.ref rb)]))) (show ((0 : Int32) + (3 : Int32)) = (3 : Int32) from by decide)) ?_
  refine g_iloadN (pc' := 45) C X7 d5_44 rfl rfl ?_
  refine g_i2b (pc' := 46) C X7 d5_45 rfl ?_
  refine g_stB (pc' := 47) (i := 3) C X7 d5_46 e7 V6 ⟨by decide, by decide⟩ rfl (show (3 : Nat) < 8 from by decide) rfl (fun T8 h8 X8 e8 W8 V8q => ?_)
  have V8 : Arv Z h8 rb kb .byte (8 : Int32) [(.int (nar .byte ((p3.toUInt32 >>> ((24 : Int32) &&& 31).toUInt32).toInt32).toInt8.toInt32)), (.int (nar .byte ((p3.toUInt32 >>> ((16 : Int32) &&& 31).toUInt32).toInt32).toInt8.toInt32)), (.int (nar .byte ((p3.toUInt32 >>> ((8 : Int32) &&& 31).toUInt32).toInt32).toInt8.toInt32)), (.int (nar .byte p3.toInt8.toInt32)), (.int x4), (.int x5), (.int x6), (.int x7)] (.int (0 : Int32)) := V8q
  have F_bytes_8 := F_bytes_6.other W8 (Or.inl ne_ar)
  have Z8 := Nat.le_trans Z6 (Nat.le_of_eq W8.size.symm)
  have N8 := Fr.snoc X8 N6 gn_rb
  have K8 := K6.wr W8 (Or.inl (List.mem_of_getElem? (i := 0) rfl))
  exact g_retV C X8 d5_47 (by decide) (by decide) ⟨rfl, N8, (by rw [e8]; exact K8), (by rw [e8]; exact V8)⟩
theorem ef_s1 (m : MethodId) (a1 : Addr) (p3 : Int32) : entryFrame m #[(.ref a1), (.int (1 : Int32)), (.int p3)] 3 = mkF m 0 #[.val (.ref a1), .val (.int (1 : Int32)), .val (.int p3)] [] := by first | (simp [entryFrame, mkF, argsToLocals, Value.category]; done) | rfl
def Q_s1 (Z : State) (a1 : Addr) (p3 : Int32) (rb : Addr) (kb : ClassId) (x0 : Int32) (x1 : Int32) (x2 : Int32) (x3 : Int32) (x4 : Int32) (x5 : Int32) (x6 : Int32) (x7 : Int32) (h0 : Heap) (n0 : Nat) (v : Option Value) (h : Heap) (L : List Loc) : Prop := (v = none) ∧ (Fr n0 L) ∧ (Keep h0 h [rb]) ∧ (Arv Z h rb kb .byte (8 : Int32) [(.int x0), (.int (nar .byte ((p3.toUInt32 >>> ((24 : Int32) &&& 31).toUInt32).toInt32).toInt8.toInt32)), (.int (nar .byte ((p3.toUInt32 >>> ((16 : Int32) &&& 31).toUInt32).toInt32).toInt8.toInt32)), (.int (nar .byte ((p3.toUInt32 >>> ((8 : Int32) &&& 31).toUInt32).toInt32).toInt8.toInt32)), (.int (nar .byte p3.toInt8.toInt32)), (.int x5), (.int x6), (.int x7)] (.int (0 : Int32)))
set_option maxRecDepth 65536 in
set_option maxHeartbeats 40000000 in
theorem rms1 (l : Launch) (Z : State) (a0 : Array Value) (hw : ∀ d ∈ tables_1, d.before a0 Z = true) (ws : List Jvm.Cond) (a1 : Addr) (p3 : Int32) (rb : Addr) (kb : ClassId) (x0 : Int32) (x1 : Int32) (x2 : Int32) (x3 : Int32) (x4 : Int32) (x5 : Int32) (x6 : Int32) (x7 : Int32) (h0 : Heap) (n0 : Nat) (Z0 : n0 ≤ h0.size) (F_bytes : Fld Z h0 a1 "com/example/caseloom/caseloom/store/ByteWriter" "bytes" "[B" (.ref rb)) (V_b : Arv Z h0 rb kb .byte (8 : Int32) [(.int x0), (.int x1), (.int x2), (.int x3), (.int x4), (.int x5), (.int x6), (.int x7)] (.int (0 : Int32))) (gn_rb : n0 ≤ rb) (ne_ar : ¬ (a1 = rb)) :
    MetFree l (⟨"com/example/caseloom/caseloom/store/ByteWriter", "setInt", "(II)V"⟩ : MethodName) (head1 (Jvm.Cond.code (⟨"com/example/caseloom/caseloom/store/ByteWriter", "setInt", "(II)V"⟩ : MethodName) prog_45_method_7_code 3 none :: ws) ({ frames := 0, cells := 0, slots := 0, locals := 0 } : Room)) (fun a U => a = #[(.ref a1), (.int (1 : Int32)), (.int p3)] ∧ Z.Warmed39 U.vm ∧ U.heap = h0) (fun _ _ _ _ _ => True) (fun _ U o U' => ∃ v L, o = .returned v ∧ Q_s1 Z a1 p3 rb kb x0 x1 x2 x3 x4 x5 x6 x7 h0 n0 v U'.heap L ∧ FrameEnd U o U' L ({ frames := 0, cells := 0, slots := 0, locals := 0 } : Room).cells ({ frames := 0, cells := 0, slots := 0, locals := 0 } : Room).slots) := by
  refine met_of (Ls := #[.val (.ref a1), .val (.int (1 : Int32)), .val (.int p3)]) (plainFor_of_name (by first | (simp [plainName, overriddenIn]; done) | decide +kernel)) (fun m => ef_s1 m a1 p3) ?_
  intro p e s m below meth c T0 C X0 e0
  have N0 := Fr.nil n0
  have K0 : Keep h0 h0 [rb] := Keep.refl h0 _
  refine g_aloadN (pc' := 1) C X0 d5_0 rfl rfl rfl ?_
  refine g_getF (pc' := 4) C X0 d5_1 (host := "") (Or.inl (hw _ (List.mem_of_getElem? (i := 14) rfl))) Via.refl e0 F_bytes rfl (fun T1 X1 e1 => ?_)
  refine g_iloadN (pc' := 5) C X1 d5_4 rfl rfl ?_
  refine g_iloadN (pc' := 6) C X1 d5_5 rfl rfl ?_
  refine g_bipush (pc' := 8) (v := (24 : Int32)) C X1 d5_6 rfl rfl ?_
  refine g_iushr (pc' := 9) C X1 d5_8 rfl ?_
  refine g_i2b (pc' := 10) C X1 d5_9 rfl ?_
  refine g_stB (pc' := 11) (i := 1) C X1 d5_10 e1 V_b ⟨by decide, by decide⟩ rfl (show (1 : Nat) < 8 from by decide) rfl (fun T2 h2 X2 e2 W2 V2q => ?_)
  have V2 : Arv Z h2 rb kb .byte (8 : Int32) [(.int x0), (.int (nar .byte ((p3.toUInt32 >>> ((24 : Int32) &&& 31).toUInt32).toInt32).toInt8.toInt32)), (.int x2), (.int x3), (.int x4), (.int x5), (.int x6), (.int x7)] (.int (0 : Int32)) := V2q
  have F_bytes_2 := F_bytes.other W2 (Or.inl ne_ar)
  have Z2 := Nat.le_trans Z0 (Nat.le_of_eq W2.size.symm)
  have N2 := Fr.snoc X2 N0 gn_rb
  have K2 := K0.wr W2 (Or.inl (List.mem_of_getElem? (i := 0) rfl))
  refine g_aloadN (pc' := 12) C X2 d5_11 rfl rfl rfl ?_
  refine g_getF (pc' := 15) C X2 d5_12 (host := "") (Or.inl (hw _ (List.mem_of_getElem? (i := 14) rfl))) Via.refl e2 F_bytes_2 rfl (fun T3 X3 e3 => ?_)
  refine g_iloadN (pc' := 16) C X3 d5_15 rfl rfl ?_
  refine g_iconst (pc' := 17) (v := (1 : Int32)) C X3 d5_16 rfl rfl ?_
  refine g_iadd (pc' := 18) C X3 d5_17 rfl ?_
  refine own_cast (congrArg (fun z => T3.setTop (mkF m 18 #[.val (.ref a1), .val (.int (1 : Int32)), .val (.int p3)] (.int z :: [(.ref rb)]))) (show ((1 : Int32) + (1 : Int32)) = (2 : Int32) from by decide)) ?_
  refine g_iloadN (pc' := 19) C X3 d5_18 rfl rfl ?_
  refine g_bipush (pc' := 21) (v := (16 : Int32)) C X3 d5_19 rfl rfl ?_
  refine g_iushr (pc' := 22) C X3 d5_21 rfl ?_
  refine g_i2b (pc' := 23) C X3 d5_22 rfl ?_
  refine g_stB (pc' := 24) (i := 2) C X3 d5_23 e3 V2 ⟨by decide, by decide⟩ rfl (show (2 : Nat) < 8 from by decide) rfl (fun T4 h4 X4 e4 W4 V4q => ?_)
  have V4 : Arv Z h4 rb kb .byte (8 : Int32) [(.int x0), (.int (nar .byte ((p3.toUInt32 >>> ((24 : Int32) &&& 31).toUInt32).toInt32).toInt8.toInt32)), (.int (nar .byte ((p3.toUInt32 >>> ((16 : Int32) &&& 31).toUInt32).toInt32).toInt8.toInt32)), (.int x3), (.int x4), (.int x5), (.int x6), (.int x7)] (.int (0 : Int32)) := V4q
  have F_bytes_4 := F_bytes_2.other W4 (Or.inl ne_ar)
  have Z4 := Nat.le_trans Z2 (Nat.le_of_eq W4.size.symm)
  have N4 := Fr.snoc X4 N2 gn_rb
  have K4 := K2.wr W4 (Or.inl (List.mem_of_getElem? (i := 0) rfl))
  refine g_aloadN (pc' := 25) C X4 d5_24 rfl rfl rfl ?_
  refine g_getF (pc' := 28) C X4 d5_25 (host := "") (Or.inl (hw _ (List.mem_of_getElem? (i := 14) rfl))) Via.refl e4 F_bytes_4 rfl (fun T5 X5 e5 => ?_)
  refine g_iloadN (pc' := 29) C X5 d5_28 rfl rfl ?_
  refine g_iconst (pc' := 30) (v := (2 : Int32)) C X5 d5_29 rfl rfl ?_
  refine g_iadd (pc' := 31) C X5 d5_30 rfl ?_
  refine own_cast (congrArg (fun z => T5.setTop (mkF m 31 #[.val (.ref a1), .val (.int (1 : Int32)), .val (.int p3)] (.int z :: [(.ref rb)]))) (show ((1 : Int32) + (2 : Int32)) = (3 : Int32) from by decide)) ?_
  refine g_iloadN (pc' := 32) C X5 d5_31 rfl rfl ?_
  refine g_bipush (pc' := 34) (v := (8 : Int32)) C X5 d5_32 rfl rfl ?_
  refine g_iushr (pc' := 35) C X5 d5_34 rfl ?_
  refine g_i2b (pc' := 36) C X5 d5_35 rfl ?_
  refine g_stB (pc' := 37) (i := 3) C X5 d5_36 e5 V4 ⟨by decide, by decide⟩ rfl (show (3 : Nat) < 8 from by decide) rfl (fun T6 h6 X6 e6 W6 V6q => ?_)
  have V6 : Arv Z h6 rb kb .byte (8 : Int32) [(.int x0), (.int (nar .byte ((p3.toUInt32 >>> ((24 : Int32) &&& 31).toUInt32).toInt32).toInt8.toInt32)), (.int (nar .byte ((p3.toUInt32 >>> ((16 : Int32) &&& 31).toUInt32).toInt32).toInt8.toInt32)), (.int (nar .byte ((p3.toUInt32 >>> ((8 : Int32) &&& 31).toUInt32).toInt32).toInt8.toInt32)), (.int x4), (.int x5), (.int x6), (.int x7)] (.int (0 : Int32)) := V6q
  have F_bytes_6 := F_bytes_4.other W6 (Or.inl ne_ar)
  have Z6 := Nat.le_trans Z4 (Nat.le_of_eq W6.size.symm)
  have N6 := Fr.snoc X6 N4 gn_rb
  have K6 := K4.wr W6 (Or.inl (List.mem_of_getElem? (i := 0) rfl))
  refine g_aloadN (pc' := 38) C X6 d5_37 rfl rfl rfl ?_
  refine g_getF (pc' := 41) C X6 d5_38 (host := "") (Or.inl (hw _ (List.mem_of_getElem? (i := 14) rfl))) Via.refl e6 F_bytes_6 rfl (fun T7 X7 e7 => ?_)
  refine g_iloadN (pc' := 42) C X7 d5_41 rfl rfl ?_
  refine g_iconst (pc' := 43) (v := (3 : Int32)) C X7 d5_42 rfl rfl ?_
  refine g_iadd (pc' := 44) C X7 d5_43 rfl ?_
  refine own_cast (congrArg (fun z => T7.setTop (mkF m 44 #[.val (.ref a1), .val (.int (1 : Int32)), .val (.int p3)] (.int z :: [(.ref rb)]))) (show ((1 : Int32) + (3 : Int32)) = (4 : Int32) from by decide)) ?_
  refine g_iloadN (pc' := 45) C X7 d5_44 rfl rfl ?_
  refine g_i2b (pc' := 46) C X7 d5_45 rfl ?_
  refine g_stB (pc' := 47) (i := 4) C X7 d5_46 e7 V6 ⟨by decide, by decide⟩ rfl (show (4 : Nat) < 8 from by decide) rfl (fun T8 h8 X8 e8 W8 V8q => ?_)
  have V8 : Arv Z h8 rb kb .byte (8 : Int32) [(.int x0), (.int (nar .byte ((p3.toUInt32 >>> ((24 : Int32) &&& 31).toUInt32).toInt32).toInt8.toInt32)), (.int (nar .byte ((p3.toUInt32 >>> ((16 : Int32) &&& 31).toUInt32).toInt32).toInt8.toInt32)), (.int (nar .byte ((p3.toUInt32 >>> ((8 : Int32) &&& 31).toUInt32).toInt32).toInt8.toInt32)), (.int (nar .byte p3.toInt8.toInt32)), (.int x5), (.int x6), (.int x7)] (.int (0 : Int32)) := V8q
  have F_bytes_8 := F_bytes_6.other W8 (Or.inl ne_ar)
  have Z8 := Nat.le_trans Z6 (Nat.le_of_eq W8.size.symm)
  have N8 := Fr.snoc X8 N6 gn_rb
  have K8 := K6.wr W8 (Or.inl (List.mem_of_getElem? (i := 0) rfl))
  exact g_retV C X8 d5_47 (by decide) (by decide) ⟨rfl, N8, (by rw [e8]; exact K8), (by rw [e8]; exact V8)⟩
theorem ef_s2 (m : MethodId) (a1 : Addr) (p3 : Int32) : entryFrame m #[(.ref a1), (.int (2 : Int32)), (.int p3)] 3 = mkF m 0 #[.val (.ref a1), .val (.int (2 : Int32)), .val (.int p3)] [] := by first | (simp [entryFrame, mkF, argsToLocals, Value.category]; done) | rfl
def Q_s2 (Z : State) (a1 : Addr) (p3 : Int32) (rb : Addr) (kb : ClassId) (x0 : Int32) (x1 : Int32) (x2 : Int32) (x3 : Int32) (x4 : Int32) (x5 : Int32) (x6 : Int32) (x7 : Int32) (h0 : Heap) (n0 : Nat) (v : Option Value) (h : Heap) (L : List Loc) : Prop := (v = none) ∧ (Fr n0 L) ∧ (Keep h0 h [rb]) ∧ (Arv Z h rb kb .byte (8 : Int32) [(.int x0), (.int x1), (.int (nar .byte ((p3.toUInt32 >>> ((24 : Int32) &&& 31).toUInt32).toInt32).toInt8.toInt32)), (.int (nar .byte ((p3.toUInt32 >>> ((16 : Int32) &&& 31).toUInt32).toInt32).toInt8.toInt32)), (.int (nar .byte ((p3.toUInt32 >>> ((8 : Int32) &&& 31).toUInt32).toInt32).toInt8.toInt32)), (.int (nar .byte p3.toInt8.toInt32)), (.int x6), (.int x7)] (.int (0 : Int32)))
set_option maxRecDepth 65536 in
set_option maxHeartbeats 40000000 in
theorem rms2 (l : Launch) (Z : State) (a0 : Array Value) (hw : ∀ d ∈ tables_1, d.before a0 Z = true) (ws : List Jvm.Cond) (a1 : Addr) (p3 : Int32) (rb : Addr) (kb : ClassId) (x0 : Int32) (x1 : Int32) (x2 : Int32) (x3 : Int32) (x4 : Int32) (x5 : Int32) (x6 : Int32) (x7 : Int32) (h0 : Heap) (n0 : Nat) (Z0 : n0 ≤ h0.size) (F_bytes : Fld Z h0 a1 "com/example/caseloom/caseloom/store/ByteWriter" "bytes" "[B" (.ref rb)) (V_b : Arv Z h0 rb kb .byte (8 : Int32) [(.int x0), (.int x1), (.int x2), (.int x3), (.int x4), (.int x5), (.int x6), (.int x7)] (.int (0 : Int32))) (gn_rb : n0 ≤ rb) (ne_ar : ¬ (a1 = rb)) :
    MetFree l (⟨"com/example/caseloom/caseloom/store/ByteWriter", "setInt", "(II)V"⟩ : MethodName) (head1 (Jvm.Cond.code (⟨"com/example/caseloom/caseloom/store/ByteWriter", "setInt", "(II)V"⟩ : MethodName) prog_45_method_7_code 3 none :: ws) ({ frames := 0, cells := 0, slots := 0, locals := 0 } : Room)) (fun a U => a = #[(.ref a1), (.int (2 : Int32)), (.int p3)] ∧ Z.Warmed39 U.vm ∧ U.heap = h0) (fun _ _ _ _ _ => True) (fun _ U o U' => ∃ v L, o = .returned v ∧ Q_s2 Z a1 p3 rb kb x0 x1 x2 x3 x4 x5 x6 x7 h0 n0 v U'.heap L ∧ FrameEnd U o U' L ({ frames := 0, cells := 0, slots := 0, locals := 0 } : Room).cells ({ frames := 0, cells := 0, slots := 0, locals := 0 } : Room).slots) := by
  refine met_of (Ls := #[.val (.ref a1), .val (.int (2 : Int32)), .val (.int p3)]) (plainFor_of_name (by first | (simp [plainName, overriddenIn]; done) | decide +kernel)) (fun m => ef_s2 m a1 p3) ?_
  intro p e s m below meth c T0 C X0 e0
  have N0 := Fr.nil n0
  have K0 : Keep h0 h0 [rb] := Keep.refl h0 _
  refine g_aloadN (pc' := 1) C X0 d5_0 rfl rfl rfl ?_
  refine g_getF (pc' := 4) C X0 d5_1 (host := "") (Or.inl (hw _ (List.mem_of_getElem? (i := 14) rfl))) Via.refl e0 F_bytes rfl (fun T1 X1 e1 => ?_)
  refine g_iloadN (pc' := 5) C X1 d5_4 rfl rfl ?_
  refine g_iloadN (pc' := 6) C X1 d5_5 rfl rfl ?_
  refine g_bipush (pc' := 8) (v := (24 : Int32)) C X1 d5_6 rfl rfl ?_
  refine g_iushr (pc' := 9) C X1 d5_8 rfl ?_
  refine g_i2b (pc' := 10) C X1 d5_9 rfl ?_
  refine g_stB (pc' := 11) (i := 2) C X1 d5_10 e1 V_b ⟨by decide, by decide⟩ rfl (show (2 : Nat) < 8 from by decide) rfl (fun T2 h2 X2 e2 W2 V2q => ?_)
  have V2 : Arv Z h2 rb kb .byte (8 : Int32) [(.int x0), (.int x1), (.int (nar .byte ((p3.toUInt32 >>> ((24 : Int32) &&& 31).toUInt32).toInt32).toInt8.toInt32)), (.int x3), (.int x4), (.int x5), (.int x6), (.int x7)] (.int (0 : Int32)) := V2q
  have F_bytes_2 := F_bytes.other W2 (Or.inl ne_ar)
  have Z2 := Nat.le_trans Z0 (Nat.le_of_eq W2.size.symm)
  have N2 := Fr.snoc X2 N0 gn_rb
  have K2 := K0.wr W2 (Or.inl (List.mem_of_getElem? (i := 0) rfl))
  refine g_aloadN (pc' := 12) C X2 d5_11 rfl rfl rfl ?_
  refine g_getF (pc' := 15) C X2 d5_12 (host := "") (Or.inl (hw _ (List.mem_of_getElem? (i := 14) rfl))) Via.refl e2 F_bytes_2 rfl (fun T3 X3 e3 => ?_)
  refine g_iloadN (pc' := 16) C X3 d5_15 rfl rfl ?_
  refine g_iconst (pc' := 17) (v := (1 : Int32)) C X3 d5_16 rfl rfl ?_
  refine g_iadd (pc' := 18) C X3 d5_17 rfl ?_
  refine own_cast (congrArg (fun z => T3.setTop (mkF m 18 #[.val (.ref a1), .val (.int (2 : Int32)), .val (.int p3)] (.int z :: [(.ref rb)]))) (show ((2 : Int32) + (1 : Int32)) = (3 : Int32) from by decide)) ?_
  refine g_iloadN (pc' := 19) C X3 d5_18 rfl rfl ?_
  refine g_bipush (pc' := 21) (v := (16 : Int32)) C X3 d5_19 rfl rfl ?_
  refine g_iushr (pc' := 22) C X3 d5_21 rfl ?_
  refine g_i2b (pc' := 23) C X3 d5_22 rfl ?_
  refine g_stB (pc' := 24) (i := 3) C X3 d5_23 e3 V2 ⟨by decide, by decide⟩ rfl (show (3 : Nat) < 8 from by decide) rfl (fun T4 h4 X4 e4 W4 V4q => ?_)
  have V4 : Arv Z h4 rb kb .byte (8 : Int32) [(.int x0), (.int x1), (.int (nar .byte ((p3.toUInt32 >>> ((24 : Int32) &&& 31).toUInt32).toInt32).toInt8.toInt32)), (.int (nar .byte ((p3.toUInt32 >>> ((16 : Int32) &&& 31).toUInt32).toInt32).toInt8.toInt32)), (.int x4), (.int x5), (.int x6), (.int x7)] (.int (0 : Int32)) := V4q
  have F_bytes_4 := F_bytes_2.other W4 (Or.inl ne_ar)
  have Z4 := Nat.le_trans Z2 (Nat.le_of_eq W4.size.symm)
  have N4 := Fr.snoc X4 N2 gn_rb
  have K4 := K2.wr W4 (Or.inl (List.mem_of_getElem? (i := 0) rfl))
  refine g_aloadN (pc' := 25) C X4 d5_24 rfl rfl rfl ?_
  refine g_getF (pc' := 28) C X4 d5_25 (host := "") (Or.inl (hw _ (List.mem_of_getElem? (i := 14) rfl))) Via.refl e4 F_bytes_4 rfl (fun T5 X5 e5 => ?_)
  refine g_iloadN (pc' := 29) C X5 d5_28 rfl rfl ?_
  refine g_iconst (pc' := 30) (v := (2 : Int32)) C X5 d5_29 rfl rfl ?_
  refine g_iadd (pc' := 31) C X5 d5_30 rfl ?_
  refine own_cast (congrArg (fun z => T5.setTop (mkF m 31 #[.val (.ref a1), .val (.int (2 : Int32)), .val (.int p3)] (.int z :: [(.ref rb)]))) (show ((2 : Int32) + (2 : Int32)) = (4 : Int32) from by decide)) ?_
  refine g_iloadN (pc' := 32) C X5 d5_31 rfl rfl ?_
  refine g_bipush (pc' := 34) (v := (8 : Int32)) C X5 d5_32 rfl rfl ?_
  refine g_iushr (pc' := 35) C X5 d5_34 rfl ?_
  refine g_i2b (pc' := 36) C X5 d5_35 rfl ?_
  refine g_stB (pc' := 37) (i := 4) C X5 d5_36 e5 V4 ⟨by decide, by decide⟩ rfl (show (4 : Nat) < 8 from by decide) rfl (fun T6 h6 X6 e6 W6 V6q => ?_)
  have V6 : Arv Z h6 rb kb .byte (8 : Int32) [(.int x0), (.int x1), (.int (nar .byte ((p3.toUInt32 >>> ((24 : Int32) &&& 31).toUInt32).toInt32).toInt8.toInt32)), (.int (nar .byte ((p3.toUInt32 >>> ((16 : Int32) &&& 31).toUInt32).toInt32).toInt8.toInt32)), (.int (nar .byte ((p3.toUInt32 >>> ((8 : Int32) &&& 31).toUInt32).toInt32).toInt8.toInt32)), (.int x5), (.int x6), (.int x7)] (.int (0 : Int32)) := V6q
  have F_bytes_6 := F_bytes_4.other W6 (Or.inl ne_ar)
  have Z6 := Nat.le_trans Z4 (Nat.le_of_eq W6.size.symm)
  have N6 := Fr.snoc X6 N4 gn_rb
  have K6 := K4.wr W6 (Or.inl (List.mem_of_getElem? (i := 0) rfl))
  refine g_aloadN (pc' := 38) C X6 d5_37 rfl rfl rfl ?_
  refine g_getF (pc' := 41) C X6 d5_38 (host := "") (Or.inl (hw _ (List.mem_of_getElem? (i := 14) rfl))) Via.refl e6 F_bytes_6 rfl (fun T7 X7 e7 => ?_)
  refine g_iloadN (pc' := 42) C X7 d5_41 rfl rfl ?_
  refine g_iconst (pc' := 43) (v := (3 : Int32)) C X7 d5_42 rfl rfl ?_
  refine g_iadd (pc' := 44) C X7 d5_43 rfl ?_
  refine own_cast (congrArg (fun z => T7.setTop (mkF m 44 #[.val (.ref a1), .val (.int (2 : Int32)), .val (.int p3)] (.int z :: [(.ref rb)]))) (show ((2 : Int32) + (3 : Int32)) = (5 : Int32) from by decide)) ?_
  refine g_iloadN (pc' := 45) C X7 d5_44 rfl rfl ?_
  refine g_i2b (pc' := 46) C X7 d5_45 rfl ?_
  refine g_stB (pc' := 47) (i := 5) C X7 d5_46 e7 V6 ⟨by decide, by decide⟩ rfl (show (5 : Nat) < 8 from by decide) rfl (fun T8 h8 X8 e8 W8 V8q => ?_)
  have V8 : Arv Z h8 rb kb .byte (8 : Int32) [(.int x0), (.int x1), (.int (nar .byte ((p3.toUInt32 >>> ((24 : Int32) &&& 31).toUInt32).toInt32).toInt8.toInt32)), (.int (nar .byte ((p3.toUInt32 >>> ((16 : Int32) &&& 31).toUInt32).toInt32).toInt8.toInt32)), (.int (nar .byte ((p3.toUInt32 >>> ((8 : Int32) &&& 31).toUInt32).toInt32).toInt8.toInt32)), (.int (nar .byte p3.toInt8.toInt32)), (.int x6), (.int x7)] (.int (0 : Int32)) := V8q
  have F_bytes_8 := F_bytes_6.other W8 (Or.inl ne_ar)
  have Z8 := Nat.le_trans Z6 (Nat.le_of_eq W8.size.symm)
  have N8 := Fr.snoc X8 N6 gn_rb
  have K8 := K6.wr W8 (Or.inl (List.mem_of_getElem? (i := 0) rfl))
  exact g_retV C X8 d5_47 (by decide) (by decide) ⟨rfl, N8, (by rw [e8]; exact K8), (by rw [e8]; exact V8)⟩
theorem ef_s3 (m : MethodId) (a1 : Addr) (p3 : Int32) : entryFrame m #[(.ref a1), (.int (3 : Int32)), (.int p3)] 3 = mkF m 0 #[.val (.ref a1), .val (.int (3 : Int32)), .val (.int p3)] [] := by first | (simp [entryFrame, mkF, argsToLocals, Value.category]; done) | rfl
def Q_s3 (Z : State) (a1 : Addr) (p3 : Int32) (rb : Addr) (kb : ClassId) (x0 : Int32) (x1 : Int32) (x2 : Int32) (x3 : Int32) (x4 : Int32) (x5 : Int32) (x6 : Int32) (x7 : Int32) (h0 : Heap) (n0 : Nat) (v : Option Value) (h : Heap) (L : List Loc) : Prop := (v = none) ∧ (Fr n0 L) ∧ (Keep h0 h [rb]) ∧ (Arv Z h rb kb .byte (8 : Int32) [(.int x0), (.int x1), (.int x2), (.int (nar .byte ((p3.toUInt32 >>> ((24 : Int32) &&& 31).toUInt32).toInt32).toInt8.toInt32)), (.int (nar .byte ((p3.toUInt32 >>> ((16 : Int32) &&& 31).toUInt32).toInt32).toInt8.toInt32)), (.int (nar .byte ((p3.toUInt32 >>> ((8 : Int32) &&& 31).toUInt32).toInt32).toInt8.toInt32)), (.int (nar .byte p3.toInt8.toInt32)), (.int x7)] (.int (0 : Int32)))
set_option maxRecDepth 65536 in
set_option maxHeartbeats 40000000 in
theorem rms3 (l : Launch) (Z : State) (a0 : Array Value) (hw : ∀ d ∈ tables_1, d.before a0 Z = true) (ws : List Jvm.Cond) (a1 : Addr) (p3 : Int32) (rb : Addr) (kb : ClassId) (x0 : Int32) (x1 : Int32) (x2 : Int32) (x3 : Int32) (x4 : Int32) (x5 : Int32) (x6 : Int32) (x7 : Int32) (h0 : Heap) (n0 : Nat) (Z0 : n0 ≤ h0.size) (F_bytes : Fld Z h0 a1 "com/example/caseloom/caseloom/store/ByteWriter" "bytes" "[B" (.ref rb)) (V_b : Arv Z h0 rb kb .byte (8 : Int32) [(.int x0), (.int x1), (.int x2), (.int x3), (.int x4), (.int x5), (.int x6), (.int x7)] (.int (0 : Int32))) (gn_rb : n0 ≤ rb) (ne_ar : ¬ (a1 = rb)) :
    MetFree l (⟨"com/example/caseloom/caseloom/store/ByteWriter", "setInt", "(II)V"⟩ : MethodName) (head1 (Jvm.Cond.code (⟨"com/example/caseloom/caseloom/store/ByteWriter", "setInt", "(II)V"⟩ : MethodName) prog_45_method_7_code 3 none :: ws) ({ frames := 0, cells := 0, slots := 0, locals := 0 } : Room)) (fun a U => a = #[(.ref a1), (.int (3 : Int32)), (.int p3)] ∧ Z.Warmed39 U.vm ∧ U.heap = h0) (fun _ _ _ _ _ => True) (fun _ U o U' => ∃ v L, o = .returned v ∧ Q_s3 Z a1 p3 rb kb x0 x1 x2 x3 x4 x5 x6 x7 h0 n0 v U'.heap L ∧ FrameEnd U o U' L ({ frames := 0, cells := 0, slots := 0, locals := 0 } : Room).cells ({ frames := 0, cells := 0, slots := 0, locals := 0 } : Room).slots) := by
  refine met_of (Ls := #[.val (.ref a1), .val (.int (3 : Int32)), .val (.int p3)]) (plainFor_of_name (by first | (simp [plainName, overriddenIn]; done) | decide +kernel)) (fun m => ef_s3 m a1 p3) ?_
  intro p e s m below meth c T0 C X0 e0
  have N0 := Fr.nil n0
  have K0 : Keep h0 h0 [rb] := Keep.refl h0 _
  refine g_aloadN (pc' := 1) C X0 d5_0 rfl rfl rfl ?_
  refine g_getF (pc' := 4) C X0 d5_1 (host := "") (Or.inl (hw _ (List.mem_of_getElem? (i := 14) rfl))) Via.refl e0 F_bytes rfl (fun T1 X1 e1 => ?_)
  refine g_iloadN (pc' := 5) C X1 d5_4 rfl rfl ?_
  refine g_iloadN (pc' := 6) C X1 d5_5 rfl rfl ?_
  refine g_bipush (pc' := 8) (v := (24 : Int32)) C X1 d5_6 rfl rfl ?_
  refine g_iushr (pc' := 9) C X1 d5_8 rfl ?_
  refine g_i2b (pc' := 10) C X1 d5_9 rfl ?_
  refine g_stB (pc' := 11) (i := 3) C X1 d5_10 e1 V_b ⟨by decide, by decide⟩ rfl (show (3 : Nat) < 8 from by decide) rfl (fun T2 h2 X2 e2 W2 V2q => ?_)
  have V2 : Arv Z h2 rb kb .byte (8 : Int32) [(.int x0), (.int x1), (.int x2), (.int (nar .byte ((p3.toUInt32 >>> ((24 : Int32) &&& 31).toUInt32).toInt32).toInt8.toInt32)), (.int x4), (.int x5), (.int x6), (.int x7)] (.int (0 : Int32)) := V2q
  have F_bytes_2 := F_bytes.other W2 (Or.inl ne_ar)
  have Z2 := Nat.le_trans Z0 (Nat.le_of_eq W2.size.symm)
  have N2 := Fr.snoc X2 N0 gn_rb
  have K2 := K0.wr W2 (Or.inl (List.mem_of_getElem? (i := 0) rfl))
  refine g_aloadN (pc' := 12) C X2 d5_11 rfl rfl rfl ?_
  refine g_getF (pc' := 15) C X2 d5_12 (host := "") (Or.inl (hw _ (List.mem_of_getElem? (i := 14) rfl))) Via.refl e2 F_bytes_2 rfl (fun T3 X3 e3 => ?_)
  refine g_iloadN (pc' := 16) C X3 d5_15 rfl rfl ?_
  refine g_iconst (pc' := 17) (v := (1 : Int32)) C X3 d5_16 rfl rfl ?_
  refine g_iadd (pc' := 18) C X3 d5_17 rfl ?_
  refine own_cast (congrArg (fun z => T3.setTop (mkF m 18 #[.val (.ref a1), .val (.int (3 : Int32)), .val (.int p3)] (.int z :: [(.ref rb)]))) (show ((3 : Int32) + (1 : Int32)) = (4 : Int32) from by decide)) ?_
  refine g_iloadN (pc' := 19) C X3 d5_18 rfl rfl ?_
  refine g_bipush (pc' := 21) (v := (16 : Int32)) C X3 d5_19 rfl rfl ?_
  refine g_iushr (pc' := 22) C X3 d5_21 rfl ?_
  refine g_i2b (pc' := 23) C X3 d5_22 rfl ?_
  refine g_stB (pc' := 24) (i := 4) C X3 d5_23 e3 V2 ⟨by decide, by decide⟩ rfl (show (4 : Nat) < 8 from by decide) rfl (fun T4 h4 X4 e4 W4 V4q => ?_)
  have V4 : Arv Z h4 rb kb .byte (8 : Int32) [(.int x0), (.int x1), (.int x2), (.int (nar .byte ((p3.toUInt32 >>> ((24 : Int32) &&& 31).toUInt32).toInt32).toInt8.toInt32)), (.int (nar .byte ((p3.toUInt32 >>> ((16 : Int32) &&& 31).toUInt32).toInt32).toInt8.toInt32)), (.int x5), (.int x6), (.int x7)] (.int (0 : Int32)) := V4q
  have F_bytes_4 := F_bytes_2.other W4 (Or.inl ne_ar)
  have Z4 := Nat.le_trans Z2 (Nat.le_of_eq W4.size.symm)
  have N4 := Fr.snoc X4 N2 gn_rb
  have K4 := K2.wr W4 (Or.inl (List.mem_of_getElem? (i := 0) rfl))
  refine g_aloadN (pc' := 25) C X4 d5_24 rfl rfl rfl ?_
  refine g_getF (pc' := 28) C X4 d5_25 (host := "") (Or.inl (hw _ (List.mem_of_getElem? (i := 14) rfl))) Via.refl e4 F_bytes_4 rfl (fun T5 X5 e5 => ?_)
  refine g_iloadN (pc' := 29) C X5 d5_28 rfl rfl ?_
  refine g_iconst (pc' := 30) (v := (2 : Int32)) C X5 d5_29 rfl rfl ?_
  refine g_iadd (pc' := 31) C X5 d5_30 rfl ?_
  refine own_cast (congrArg (fun z => T5.setTop (mkF m 31 #[.val (.ref a1), .val (.int (3 : Int32)), .val (.int p3)] (.int z :: [(.ref rb)]))) (show ((3 : Int32) + (2 : Int32)) = (5 : Int32) from by decide)) ?_
  refine g_iloadN (pc' := 32) C X5 d5_31 rfl rfl ?_
  refine g_bipush (pc' := 34) (v := (8 : Int32)) C X5 d5_32 rfl rfl ?_
  refine g_iushr (pc' := 35) C X5 d5_34 rfl ?_
  refine g_i2b (pc' := 36) C X5 d5_35 rfl ?_
  refine g_stB (pc' := 37) (i := 5) C X5 d5_36 e5 V4 ⟨by decide, by decide⟩ rfl (show (5 : Nat) < 8 from by decide) rfl (fun T6 h6 X6 e6 W6 V6q => ?_)
  have V6 : Arv Z h6 rb kb .byte (8 : Int32) [(.int x0), (.int x1), (.int x2), (.int (nar .byte ((p3.toUInt32 >>> ((24 : Int32) &&& 31).toUInt32).toInt32).toInt8.toInt32)), (.int (nar .byte ((p3.toUInt32 >>> ((16 : Int32) &&& 31).toUInt32).toInt32).toInt8.toInt32)), (.int (nar .byte ((p3.toUInt32 >>> ((8 : Int32) &&& 31).toUInt32).toInt32).toInt8.toInt32)), (.int x6), (.int x7)] (.int (0 : Int32)) := V6q
  have F_bytes_6 := F_bytes_4.other W6 (Or.inl ne_ar)
  have Z6 := Nat.le_trans Z4 (Nat.le_of_eq W6.size.symm)
  have N6 := Fr.snoc X6 N4 gn_rb
  have K6 := K4.wr W6 (Or.inl (List.mem_of_getElem? (i := 0) rfl))
  refine g_aloadN (pc' := 38) C X6 d5_37 rfl rfl rfl ?_
  refine g_getF (pc' := 41) C X6 d5_38 (host := "") (Or.inl (hw _ (List.mem_of_getElem? (i := 14) rfl))) Via.refl e6 F_bytes_6 rfl (fun T7 X7 e7 => ?_)
  refine g_iloadN (pc' := 42) C X7 d5_41 rfl rfl ?_
  refine g_iconst (pc' := 43) (v := (3 : Int32)) C X7 d5_42 rfl rfl ?_
  refine g_iadd (pc' := 44) C X7 d5_43 rfl ?_
  refine own_cast (congrArg (fun z => T7.setTop (mkF m 44 #[.val (.ref a1), .val (.int (3 : Int32)), .val (.int p3)] (.int z :: [(.ref rb)]))) (show ((3 : Int32) + (3 : Int32)) = (6 : Int32) from by decide)) ?_
  refine g_iloadN (pc' := 45) C X7 d5_44 rfl rfl ?_
  refine g_i2b (pc' := 46) C X7 d5_45 rfl ?_
  refine g_stB (pc' := 47) (i := 6) C X7 d5_46 e7 V6 ⟨by decide, by decide⟩ rfl (show (6 : Nat) < 8 from by decide) rfl (fun T8 h8 X8 e8 W8 V8q => ?_)
  have V8 : Arv Z h8 rb kb .byte (8 : Int32) [(.int x0), (.int x1), (.int x2), (.int (nar .byte ((p3.toUInt32 >>> ((24 : Int32) &&& 31).toUInt32).toInt32).toInt8.toInt32)), (.int (nar .byte ((p3.toUInt32 >>> ((16 : Int32) &&& 31).toUInt32).toInt32).toInt8.toInt32)), (.int (nar .byte ((p3.toUInt32 >>> ((8 : Int32) &&& 31).toUInt32).toInt32).toInt8.toInt32)), (.int (nar .byte p3.toInt8.toInt32)), (.int x7)] (.int (0 : Int32)) := V8q
  have F_bytes_8 := F_bytes_6.other W8 (Or.inl ne_ar)
  have Z8 := Nat.le_trans Z6 (Nat.le_of_eq W8.size.symm)
  have N8 := Fr.snoc X8 N6 gn_rb
  have K8 := K6.wr W8 (Or.inl (List.mem_of_getElem? (i := 0) rfl))
  exact g_retV C X8 d5_47 (by decide) (by decide) ⟨rfl, N8, (by rw [e8]; exact K8), (by rw [e8]; exact V8)⟩
theorem ef_s4 (m : MethodId) (a1 : Addr) (p3 : Int32) : entryFrame m #[(.ref a1), (.int (4 : Int32)), (.int p3)] 3 = mkF m 0 #[.val (.ref a1), .val (.int (4 : Int32)), .val (.int p3)] [] := by first | (simp [entryFrame, mkF, argsToLocals, Value.category]; done) | rfl
def Q_s4 (Z : State) (a1 : Addr) (p3 : Int32) (rb : Addr) (kb : ClassId) (x0 : Int32) (x1 : Int32) (x2 : Int32) (x3 : Int32) (x4 : Int32) (x5 : Int32) (x6 : Int32) (x7 : Int32) (h0 : Heap) (n0 : Nat) (v : Option Value) (h : Heap) (L : List Loc) : Prop := (v = none) ∧ (Fr n0 L) ∧ (Keep h0 h [rb]) ∧ (Arv Z h rb kb .byte (8 : Int32) [(.int x0), (.int x1), (.int x2), (.int x3), (.int (nar .byte ((p3.toUInt32 >>> ((24 : Int32) &&& 31).toUInt32).toInt32).toInt8.toInt32)), (.int (nar .byte ((p3.toUInt32 >>> ((16 : Int32) &&& 31).toUInt32).toInt32).toInt8.toInt32)), (.int (nar .byte ((p3.toUInt32 >>> ((8 : Int32) &&& 31).toUInt32).toInt32).toInt8.toInt32)), (.int (nar .byte p3.toInt8.toInt32))] (.int (0 : Int32)))
set_option maxRecDepth 65536 in
set_option maxHeartbeats 40000000 in
theorem rms4 (l : Launch) (Z : State) (a0 : Array Value) (hw : ∀ d ∈ tables_1, d.before a0 Z = true) (ws : List Jvm.Cond) (a1 : Addr) (p3 : Int32) (rb : Addr) (kb : ClassId) (x0 : Int32) (x1 : Int32) (x2 : Int32) (x3 : Int32) (x4 : Int32) (x5 : Int32) (x6 : Int32) (x7 : Int32) (h0 : Heap) (n0 : Nat) (Z0 : n0 ≤ h0.size) (F_bytes : Fld Z h0 a1 "com/example/caseloom/caseloom/store/ByteWriter" "bytes" "[B" (.ref rb)) (V_b : Arv Z h0 rb kb .byte (8 : Int32) [(.int x0), (.int x1), (.int x2), (.int x3), (.int x4), (.int x5), (.int x6), (.int x7)] (.int (0 : Int32))) (gn_rb : n0 ≤ rb) (ne_ar : ¬ (a1 = rb)) :
    MetFree l (⟨"com/example/caseloom/caseloom/store/ByteWriter", "setInt", "(II)V"⟩ : MethodName) (head1 (Jvm.Cond.code (⟨"com/example/caseloom/caseloom/store/ByteWriter", "setInt", "(II)V"⟩ : MethodName) prog_45_method_7_code 3 none :: ws) ({ frames := 0, cells := 0, slots := 0, locals := 0 } : Room)) (fun a U => a = #[(.ref a1), (.int (4 : Int32)), (.int p3)] ∧ Z.Warmed39 U.vm ∧ U.heap = h0) (fun _ _ _ _ _ => True) (fun _ U o U' => ∃ v L, o = .returned v ∧ Q_s4 Z a1 p3 rb kb x0 x1 x2 x3 x4 x5 x6 x7 h0 n0 v U'.heap L ∧ FrameEnd U o U' L ({ frames := 0, cells := 0, slots := 0, locals := 0 } : Room).cells ({ frames := 0, cells := 0, slots := 0, locals := 0 } : Room).slots) := by
  refine met_of (Ls := #[.val (.ref a1), .val (.int (4 : Int32)), .val (.int p3)]) (plainFor_of_name (by first | (simp [plainName, overriddenIn]; done) | decide +kernel)) (fun m => ef_s4 m a1 p3) ?_
  intro p e s m below meth c T0 C X0 e0
  have N0 := Fr.nil n0
  have K0 : Keep h0 h0 [rb] := Keep.refl h0 _
  refine g_aloadN (pc' := 1) C X0 d5_0 rfl rfl rfl ?_
  refine g_getF (pc' := 4) C X0 d5_1 (host := "") (Or.inl (hw _ (List.mem_of_getElem? (i := 14) rfl))) Via.refl e0 F_bytes rfl (fun T1 X1 e1 => ?_)
  refine g_iloadN (pc' := 5) C X1 d5_4 rfl rfl ?_
  refine g_iloadN (pc' := 6) C X1 d5_5 rfl rfl ?_
  refine g_bipush (pc' := 8) (v := (24 : Int32)) C X1 d5_6 rfl rfl ?_
  refine g_iushr (pc' := 9) C X1 d5_8 rfl ?_
  refine g_i2b (pc' := 10) C X1 d5_9 rfl ?_
  refine g_stB (pc' := 11) (i := 4) C X1 d5_10 e1 V_b ⟨by decide, by decide⟩ rfl (show (4 : Nat) < 8 from by decide) rfl (fun T2 h2 X2 e2 W2 V2q => ?_)
  have V2 : Arv Z h2 rb kb .byte (8 : Int32) [(.int x0), (.int x1), (.int x2), (.int x3), (.int (nar .byte ((p3.toUInt32 >>> ((24 : Int32) &&& 31).toUInt32).toInt32).toInt8.toInt32)), (.int x5), (.int x6), (.int x7)] (.int (0 : Int32)) := V2q
  have F_bytes_2 := F_bytes.other W2 (Or.inl ne_ar)
  have Z2 := Nat.le_trans Z0 (Nat.le_of_eq W2.size.symm)
  have N2 := Fr.snoc X2 N0 gn_rb
  have K2 := K0.wr W2 (Or.inl (List.mem_of_getElem? (i := 0) rfl))
  refine g_aloadN (pc' := 12) C X2 d5_11 rfl rfl rfl ?_
  refine g_getF (pc' := 15) C X2 d5_12 (host := "") (Or.inl (hw _ (List.mem_of_getElem? (i := 14) rfl))) Via.refl e2 F_bytes_2 rfl (fun T3 X3 e3 => ?_)
  refine g_iloadN (pc' := 16) C X3 d5_15 rfl rfl ?_
  refine g_iconst (pc' := 17) (v := (1 : Int32)) C X3 d5_16 rfl rfl ?_
  refine g_iadd (pc' := 18) C X3 d5_17 rfl ?_
  refine own_cast (congrArg (fun z => T3.setTop (mkF m 18 #[.val (.ref a1), .val (.int (4 : Int32)), .val (.int p3)] (.int z :: [(.ref rb)]))) (show ((4 : Int32) + (1 : Int32)) = (5 : Int32) from by decide)) ?_
  refine g_iloadN (pc' := 19) C X3 d5_18 rfl rfl ?_
  refine g_bipush (pc' := 21) (v := (16 : Int32)) C X3 d5_19 rfl rfl ?_
  refine g_iushr (pc' := 22) C X3 d5_21 rfl ?_
  refine g_i2b (pc' := 23) C X3 d5_22 rfl ?_
  refine g_stB (pc' := 24) (i := 5) C X3 d5_23 e3 V2 ⟨by decide, by decide⟩ rfl (show (5 : Nat) < 8 from by decide) rfl (fun T4 h4 X4 e4 W4 V4q => ?_)
  have V4 : Arv Z h4 rb kb .byte (8 : Int32) [(.int x0), (.int x1), (.int x2), (.int x3), (.int (nar .byte ((p3.toUInt32 >>> ((24 : Int32) &&& 31).toUInt32).toInt32).toInt8.toInt32)), (.int (nar .byte ((p3.toUInt32 >>> ((16 : Int32) &&& 31).toUInt32).toInt32).toInt8.toInt32)), (.int x6), (.int x7)] (.int (0 : Int32)) := V4q
  have F_bytes_4 := F_bytes_2.other W4 (Or.inl ne_ar)
  have Z4 := Nat.le_trans Z2 (Nat.le_of_eq W4.size.symm)
  have N4 := Fr.snoc X4 N2 gn_rb
  have K4 := K2.wr W4 (Or.inl (List.mem_of_getElem? (i := 0) rfl))
  refine g_aloadN (pc' := 25) C X4 d5_24 rfl rfl rfl ?_
  refine g_getF (pc' := 28) C X4 d5_25 (host := "") (Or.inl (hw _ (List.mem_of_getElem? (i := 14) rfl))) Via.refl e4 F_bytes_4 rfl (fun T5 X5 e5 => ?_)
  refine g_iloadN (pc' := 29) C X5 d5_28 rfl rfl ?_
  refine g_iconst (pc' := 30) (v := (2 : Int32)) C X5 d5_29 rfl rfl ?_
  refine g_iadd (pc' := 31) C X5 d5_30 rfl ?_
  refine own_cast (congrArg (fun z => T5.setTop (mkF m 31 #[.val (.ref a1), .val (.int (4 : Int32)), .val (.int p3)] (.int z :: [(.ref rb)]))) (show ((4 : Int32) + (2 : Int32)) = (6 : Int32) from by decide)) ?_
  refine g_iloadN (pc' := 32) C X5 d5_31 rfl rfl ?_
  refine g_bipush (pc' := 34) (v := (8 : Int32)) C X5 d5_32 rfl rfl ?_
  refine g_iushr (pc' := 35) C X5 d5_34 rfl ?_
  refine g_i2b (pc' := 36) C X5 d5_35 rfl ?_
  refine g_stB (pc' := 37) (i := 6) C X5 d5_36 e5 V4 ⟨by decide, by decide⟩ rfl (show (6 : Nat) < 8 from by decide) rfl (fun T6 h6 X6 e6 W6 V6q => ?_)
  have V6 : Arv Z h6 rb kb .byte (8 : Int32) [(.int x0), (.int x1), (.int x2), (.int x3), (.int (nar .byte ((p3.toUInt32 >>> ((24 : Int32) &&& 31).toUInt32).toInt32).toInt8.toInt32)), (.int (nar .byte ((p3.toUInt32 >>> ((16 : Int32) &&& 31).toUInt32).toInt32).toInt8.toInt32)), (.int (nar .byte ((p3.toUInt32 >>> ((8 : Int32) &&& 31).toUInt32).toInt32).toInt8.toInt32)), (.int x7)] (.int (0 : Int32)) := V6q
  have F_bytes_6 := F_bytes_4.other W6 (Or.inl ne_ar)
  have Z6 := Nat.le_trans Z4 (Nat.le_of_eq W6.size.symm)
  have N6 := Fr.snoc X6 N4 gn_rb
  have K6 := K4.wr W6 (Or.inl (List.mem_of_getElem? (i := 0) rfl))
  refine g_aloadN (pc' := 38) C X6 d5_37 rfl rfl rfl ?_
  refine g_getF (pc' := 41) C X6 d5_38 (host := "") (Or.inl (hw _ (List.mem_of_getElem? (i := 14) rfl))) Via.refl e6 F_bytes_6 rfl (fun T7 X7 e7 => ?_)
  refine g_iloadN (pc' := 42) C X7 d5_41 rfl rfl ?_
  refine g_iconst (pc' := 43) (v := (3 : Int32)) C X7 d5_42 rfl rfl ?_
  refine g_iadd (pc' := 44) C X7 d5_43 rfl ?_
  refine own_cast (congrArg (fun z => T7.setTop (mkF m 44 #[.val (.ref a1), .val (.int (4 : Int32)), .val (.int p3)] (.int z :: [(.ref rb)]))) (show ((4 : Int32) + (3 : Int32)) = (7 : Int32) from by decide)) ?_
  refine g_iloadN (pc' := 45) C X7 d5_44 rfl rfl ?_
  refine g_i2b (pc' := 46) C X7 d5_45 rfl ?_
  refine g_stB (pc' := 47) (i := 7) C X7 d5_46 e7 V6 ⟨by decide, by decide⟩ rfl (show (7 : Nat) < 8 from by decide) rfl (fun T8 h8 X8 e8 W8 V8q => ?_)
  have V8 : Arv Z h8 rb kb .byte (8 : Int32) [(.int x0), (.int x1), (.int x2), (.int x3), (.int (nar .byte ((p3.toUInt32 >>> ((24 : Int32) &&& 31).toUInt32).toInt32).toInt8.toInt32)), (.int (nar .byte ((p3.toUInt32 >>> ((16 : Int32) &&& 31).toUInt32).toInt32).toInt8.toInt32)), (.int (nar .byte ((p3.toUInt32 >>> ((8 : Int32) &&& 31).toUInt32).toInt32).toInt8.toInt32)), (.int (nar .byte p3.toInt8.toInt32))] (.int (0 : Int32)) := V8q
  have F_bytes_8 := F_bytes_6.other W8 (Or.inl ne_ar)
  have Z8 := Nat.le_trans Z6 (Nat.le_of_eq W8.size.symm)
  have N8 := Fr.snoc X8 N6 gn_rb
  have K8 := K6.wr W8 (Or.inl (List.mem_of_getElem? (i := 0) rfl))
  exact g_retV C X8 d5_47 (by decide) (by decide) ⟨rfl, N8, (by rw [e8]; exact K8), (by rw [e8]; exact V8)⟩
theorem d6_0 : decode prog_45_method_10_code 0 = .ok (.aload_n 0, 1) := by decide +kernel
theorem d6_1 : decode prog_45_method_10_code 1 = .ok (.getfield 13, 3) := by decide +kernel
theorem d6_4 : decode prog_45_method_10_code 4 = .ok (.areturn, 1) := by decide +kernel
def F6 (rb : Addr) : Addr := rb
theorem F6_l0 (rb : Addr)  : F6 rb = rb := rfl
theorem ef_6 (m : MethodId) (a1 : Addr) : entryFrame m #[(.ref a1)] 1 = mkF m 0 #[.val (.ref a1)] [] := by first | (simp [entryFrame, mkF, argsToLocals, Value.category]; done) | rfl
def Q_6 (Z : State) (a1 : Addr) (rb : Addr) (h0 : Heap) (n0 : Nat) (v : Option Value) (h : Heap) (L : List Loc) : Prop := v = some (.ref (F6 rb)) ∧ Fr n0 L ∧ h = h0
set_option maxRecDepth 65536 in
set_option maxHeartbeats 40000000 in
theorem rm6 (l : Launch) (Z : State) (a0 : Array Value) (hw : ∀ d ∈ tables_1, d.before a0 Z = true) (ws : List Jvm.Cond) (a1 : Addr) (rb : Addr) (h0 : Heap) (n0 : Nat) (F_bytes : Fld Z h0 a1 "com/example/caseloom/caseloom/store/ByteWriter" "bytes" "[B" (.ref rb)) :
    MetFree l (⟨"com/example/caseloom/caseloom/store/ByteWriter", "array", "()[B"⟩ : MethodName) (head1 (Jvm.Cond.code (⟨"com/example/caseloom/caseloom/store/ByteWriter", "array", "()[B"⟩ : MethodName) prog_45_method_10_code 1 (some (.array .byte)) :: ws) ({ frames := 0, cells := 0, slots := 0, locals := 0 } : Room)) (fun a U => a = #[(.ref a1)] ∧ Z.Warmed39 U.vm ∧ U.heap = h0) (fun _ _ _ _ _ => True) (fun _ U o U' => ∃ v L, o = .returned v ∧ Q_6 Z a1 rb h0 n0 v U'.heap L ∧ FrameEnd U o U' L ({ frames := 0, cells := 0, slots := 0, locals := 0 } : Room).cells ({ frames := 0, cells := 0, slots := 0, locals := 0 } : Room).slots) := by
  refine met_of (Ls := #[.val (.ref a1)]) (plainFor_of_name (by first | (simp [plainName, overriddenIn]; done) | decide +kernel)) (fun m => ef_6 m a1) ?_
  intro p e s m below meth c T0 C X0 e0
  have N0 := Fr.nil n0
  refine g_aloadN (pc' := 1) C X0 d6_0 rfl rfl rfl ?_
  refine g_getF (pc' := 4) C X0 d6_1 (host := "") (Or.inl (hw _ (List.mem_of_getElem? (i := 14) rfl))) Via.refl e0 F_bytes rfl (fun T1 X1 e1 => ?_)
  exact g_retA C X1 rfl rfl rfl d6_4 (by decide) (by decide) ⟨congrArg (fun z => some (Value.ref z)) (F6_l0 rb ).symm, N0, e1⟩
theorem d7_0 : decode prog_45_method_8_code 0 = .ok (.aload_n 0, 1) := by decide +kernel
theorem d7_1 : decode prog_45_method_8_code 1 = .ok (.getfield 21, 3) := by decide +kernel
theorem d7_4 : decode prog_45_method_8_code 4 = .ok (.ireturn, 1) := by decide +kernel
def F7 (n : Int32) : Int32 := n
theorem F7_l0 (n : Int32)  : F7 n = n := rfl
theorem ef_7 (m : MethodId) (a1 : Addr) : entryFrame m #[(.ref a1)] 1 = mkF m 0 #[.val (.ref a1)] [] := by first | (simp [entryFrame, mkF, argsToLocals, Value.category]; done) | rfl
def Q_7 (Z : State) (a1 : Addr) (n : Int32) (h0 : Heap) (n0 : Nat) (v : Option Value) (h : Heap) (L : List Loc) : Prop := v = some (.int (F7 n)) ∧ Fr n0 L ∧ h = h0
set_option maxRecDepth 65536 in
set_option maxHeartbeats 40000000 in
theorem rm7 (l : Launch) (Z : State) (a0 : Array Value) (hw : ∀ d ∈ tables_1, d.before a0 Z = true) (ws : List Jvm.Cond) (a1 : Addr) (n : Int32) (h0 : Heap) (n0 : Nat) (F_length : Fld Z h0 a1 "com/example/caseloom/caseloom/store/ByteWriter" "length" "I" (.int n)) :
    MetFree l (⟨"com/example/caseloom/caseloom/store/ByteWriter", "length", "()I"⟩ : MethodName) (head1 (Jvm.Cond.code (⟨"com/example/caseloom/caseloom/store/ByteWriter", "length", "()I"⟩ : MethodName) prog_45_method_8_code 1 (some .int) :: ws) ({ frames := 0, cells := 0, slots := 0, locals := 0 } : Room)) (fun a U => a = #[(.ref a1)] ∧ Z.Warmed39 U.vm ∧ U.heap = h0) (fun _ _ _ _ _ => True) (fun _ U o U' => ∃ v L, o = .returned v ∧ Q_7 Z a1 n h0 n0 v U'.heap L ∧ FrameEnd U o U' L ({ frames := 0, cells := 0, slots := 0, locals := 0 } : Room).cells ({ frames := 0, cells := 0, slots := 0, locals := 0 } : Room).slots) := by
  refine met_of (Ls := #[.val (.ref a1)]) (plainFor_of_name (by first | (simp [plainName, overriddenIn]; done) | decide +kernel)) (fun m => ef_7 m a1) ?_
  intro p e s m below meth c T0 C X0 e0
  have N0 := Fr.nil n0
  refine g_aloadN (pc' := 1) C X0 d7_0 rfl rfl rfl ?_
  refine g_getF (pc' := 4) C X0 d7_1 (host := "") (Or.inl (hw _ (List.mem_of_getElem? (i := 25) rfl))) Via.refl e0 F_length rfl (fun T1 X1 e1 => ?_)
  exact g_retI C X1 d7_4 (by decide) (by decide) ⟨congrArg (fun z => some (Value.int z)) (F7_l0 n ).symm, N0, e1⟩
theorem d8_0 : decode method_3_code 0 = .ok (.iload_n 2, 1) := by decide +kernel
theorem d8_1 : decode method_3_code 1 = .ok (.iload_n 3, 1) := by decide +kernel
theorem d8_2 : decode method_3_code 2 = .ok (.if_icmp .lt 10, 3) := by decide +kernel
theorem d8_12 : decode method_3_code 12 = .ok (.aload_n 0, 1) := by decide +kernel
theorem d8_13 : decode method_3_code 13 = .ok (.iload_n 2, 1) := by decide +kernel
theorem d8_14 : decode method_3_code 14 = .ok (.baload, 1) := by decide +kernel
theorem d8_15 : decode method_3_code 15 = .ok (.aload_n 1, 1) := by decide +kernel
theorem d8_16 : decode method_3_code 16 = .ok (.iload_n 2, 1) := by decide +kernel
theorem d8_17 : decode method_3_code 17 = .ok (.baload, 1) := by decide +kernel
theorem d8_18 : decode method_3_code 18 = .ok (.if_icmp .ne 7, 3) := by decide +kernel
theorem d8_21 : decode method_3_code 21 = .ok (.iconst 1, 1) := by decide +kernel
theorem d8_22 : decode method_3_code 22 = .ok (.goto 4, 3) := by decide +kernel
theorem d8_26 : decode method_3_code 26 = .ok (.ireturn, 1) := by decide +kernel
theorem d8_25 : decode method_3_code 25 = .ok (.iconst 0, 1) := by decide +kernel
theorem d8_5 : decode method_3_code 5 = .ok (.iload_n 2, 1) := by decide +kernel
theorem d8_6 : decode method_3_code 6 = .ok (.iload_n 3, 1) := by decide +kernel
theorem d8_7 : decode method_3_code 7 = .ok (.iconst 4, 1) := by decide +kernel
theorem d8_8 : decode method_3_code 8 = .ok (.iadd, 1) := by decide +kernel
theorem d8_9 : decode method_3_code 9 = .ok (.if_icmp .lt 12, 3) := by decide +kernel
def Fk0 (p4 : Int32) (x0 : Int32) (y0 : Int32) : Int32 := (if (0 : Int32) < p4 then (if x0 = y0 then (1 : Int32) else (0 : Int32)) else (if (0 : Int32) < (p4 + (4 : Int32)) then (1 : Int32) else (if x0 = y0 then (1 : Int32) else (0 : Int32))))
theorem Fk0_l0 (p4 : Int32) (x0 : Int32) (y0 : Int32) (h0 : (0 : Int32) < p4) (h1 : x0 = y0) : Fk0 p4 x0 y0 = (1 : Int32) := by
  unfold Fk0; rw [if_pos h0, if_pos h1]
theorem Fk0_l1 (p4 : Int32) (x0 : Int32) (y0 : Int32) (h0 : (0 : Int32) < p4) (h1 : ¬ (x0 = y0)) : Fk0 p4 x0 y0 = (0 : Int32) := by
  unfold Fk0; rw [if_pos h0, if_neg h1]
theorem Fk0_l2 (p4 : Int32) (x0 : Int32) (y0 : Int32) (h0 : ¬ ((0 : Int32) < p4)) (h1 : (0 : Int32) < (p4 + (4 : Int32))) : Fk0 p4 x0 y0 = (1 : Int32) := by
  unfold Fk0; rw [if_neg h0, if_pos h1]
theorem Fk0_l3 (p4 : Int32) (x0 : Int32) (y0 : Int32) (h0 : ¬ ((0 : Int32) < p4)) (h1 : ¬ ((0 : Int32) < (p4 + (4 : Int32)))) (h2 : x0 = y0) : Fk0 p4 x0 y0 = (1 : Int32) := by
  unfold Fk0; rw [if_neg h0, if_neg h1, if_pos h2]
theorem Fk0_l4 (p4 : Int32) (x0 : Int32) (y0 : Int32) (h0 : ¬ ((0 : Int32) < p4)) (h1 : ¬ ((0 : Int32) < (p4 + (4 : Int32)))) (h2 : ¬ (x0 = y0)) : Fk0 p4 x0 y0 = (0 : Int32) := by
  unfold Fk0; rw [if_neg h0, if_neg h1, if_neg h2]
theorem ef_k0 (m : MethodId) (a1 : Addr) (a2 : Addr) (p4 : Int32) : entryFrame m #[(.ref a1), (.ref a2), (.int (0 : Int32)), (.int p4)] 4 = mkF m 0 #[.val (.ref a1), .val (.ref a2), .val (.int (0 : Int32)), .val (.int p4)] [] := by first | (simp [entryFrame, mkF, argsToLocals, Value.category]; done) | rfl
def Q_k0 (Z : State) (a1 : Addr) (a2 : Addr) (p4 : Int32) (ka : ClassId) (kb : ClassId) (x0 : Int32) (x1 : Int32) (x2 : Int32) (x3 : Int32) (x4 : Int32) (x5 : Int32) (x6 : Int32) (x7 : Int32) (y0 : Int32) (y1 : Int32) (y2 : Int32) (y3 : Int32) (y4 : Int32) (y5 : Int32) (y6 : Int32) (y7 : Int32) (h0 : Heap) (n0 : Nat) (v : Option Value) (h : Heap) (L : List Loc) : Prop := v = some (.int (Fk0 p4 x0 y0)) ∧ Fr n0 L ∧ h = h0
set_option maxRecDepth 65536 in
set_option maxHeartbeats 40000000 in
theorem rmk0 (l : Launch) (Z : State) (a0 : Array Value) (hw : ∀ d ∈ tables_1, d.before a0 Z = true) (ws : List Jvm.Cond) (a1 : Addr) (a2 : Addr) (p4 : Int32) (ka : ClassId) (kb : ClassId) (x0 : Int32) (x1 : Int32) (x2 : Int32) (x3 : Int32) (x4 : Int32) (x5 : Int32) (x6 : Int32) (x7 : Int32) (y0 : Int32) (y1 : Int32) (y2 : Int32) (y3 : Int32) (y4 : Int32) (y5 : Int32) (y6 : Int32) (y7 : Int32) (h0 : Heap) (n0 : Nat) (V_a : Arv Z h0 a1 ka .byte (8 : Int32) [(.int x0), (.int x1), (.int x2), (.int x3), (.int x4), (.int x5), (.int x6), (.int x7)] (.int (0 : Int32))) (V_b : Arv Z h0 a2 kb .byte (8 : Int32) [(.int y0), (.int y1), (.int y2), (.int y3), (.int y4), (.int y5), (.int y6), (.int y7)] (.int (0 : Int32))) :
    MetFree l (⟨"com/example/caseloom/caseloom/store/ByteWriterSetIntPinLaw", "keep", "([B[BII)Z"⟩ : MethodName) (head1 (Jvm.Cond.code (⟨"com/example/caseloom/caseloom/store/ByteWriterSetIntPinLaw", "keep", "([B[BII)Z"⟩ : MethodName) method_3_code 4 (some .boolean) :: ws) ({ frames := 0, cells := 0, slots := 0, locals := 0 } : Room)) (fun a U => a = #[(.ref a1), (.ref a2), (.int (0 : Int32)), (.int p4)] ∧ Z.Warmed39 U.vm ∧ U.heap = h0) (fun _ _ _ _ _ => True) (fun _ U o U' => ∃ v L, o = .returned v ∧ Q_k0 Z a1 a2 p4 ka kb x0 x1 x2 x3 x4 x5 x6 x7 y0 y1 y2 y3 y4 y5 y6 y7 h0 n0 v U'.heap L ∧ FrameEnd U o U' L ({ frames := 0, cells := 0, slots := 0, locals := 0 } : Room).cells ({ frames := 0, cells := 0, slots := 0, locals := 0 } : Room).slots) := by
  refine met_of (Ls := #[.val (.ref a1), .val (.ref a2), .val (.int (0 : Int32)), .val (.int p4)]) (plainFor_of_name (by first | (simp [plainName, overriddenIn]; done) | decide +kernel)) (fun m => ef_k0 m a1 a2 p4) ?_
  intro p e s m below meth c T0 C X0 e0
  have N0 := Fr.nil n0
  refine g_iloadN (pc' := 1) C X0 d8_0 rfl rfl ?_
  refine g_iloadN (pc' := 2) C X0 d8_1 rfl rfl ?_
  by_cases c1 : (0 : Int32) < p4
  · refine g_icmpY (pc' := 12) C X0 d8_2 (tlt c1).1 (by decide) (by decide) ?_
    refine g_aloadN (pc' := 13) C X0 d8_12 rfl rfl rfl ?_
    refine g_iloadN (pc' := 14) C X0 d8_13 rfl rfl ?_
    refine g_ldB (pc' := 15) (v := (.int x0)) C X0 d8_14 e0 V_a ⟨by decide, by decide⟩ rfl rfl ?_
    refine g_aloadN (pc' := 16) C X0 d8_15 rfl rfl rfl ?_
    refine g_iloadN (pc' := 17) C X0 d8_16 rfl rfl ?_
    refine g_ldB (pc' := 18) (v := (.int y0)) C X0 d8_17 e0 V_b ⟨by decide, by decide⟩ rfl rfl ?_
    by_cases c2 : x0 = y0
    · refine g_icmpN (pc' := 21) C X0 d8_18 (teq c2).2 rfl ?_
      refine g_iconst (pc' := 22) (v := (1 : Int32)) C X0 d8_21 rfl rfl ?_
      refine g_goto (pc' := 26) C X0 d8_22 (by decide) (by decide) ?_
      exact g_retN C X0 (by simp) d8_26 (by decide) (by decide) ⟨congrArg (fun z => some (Value.int z)) (Fk0_l0 p4 x0 y0 c1 c2).symm, N0, e0⟩
    · refine g_icmpY (pc' := 25) C X0 d8_18 (feq c2).2 (by decide) (by decide) ?_
      refine g_iconst (pc' := 26) (v := (0 : Int32)) C X0 d8_25 rfl rfl ?_
      exact g_retN C X0 (by simp) d8_26 (by decide) (by decide) ⟨congrArg (fun z => some (Value.int z)) (Fk0_l1 p4 x0 y0 c1 c2).symm, N0, e0⟩
  · refine g_icmpN (pc' := 5) C X0 d8_2 (flt c1).1 rfl ?_
    refine g_iloadN (pc' := 6) C X0 d8_5 rfl rfl ?_
    refine g_iloadN (pc' := 7) C X0 d8_6 rfl rfl ?_
    refine g_iconst (pc' := 8) (v := (4 : Int32)) C X0 d8_7 rfl rfl ?_
    refine g_iadd (pc' := 9) C X0 d8_8 rfl ?_
    by_cases c3 : (0 : Int32) < (p4 + (4 : Int32))
    · refine g_icmpY (pc' := 21) C X0 d8_9 (tlt c3).1 (by decide) (by decide) ?_
      refine g_iconst (pc' := 22) (v := (1 : Int32)) C X0 d8_21 rfl rfl ?_
      refine g_goto (pc' := 26) C X0 d8_22 (by decide) (by decide) ?_
      exact g_retN C X0 (by simp) d8_26 (by decide) (by decide) ⟨congrArg (fun z => some (Value.int z)) (Fk0_l2 p4 x0 y0 c1 c3).symm, N0, e0⟩
    · refine g_icmpN (pc' := 12) C X0 d8_9 (flt c3).1 rfl ?_
      refine g_aloadN (pc' := 13) C X0 d8_12 rfl rfl rfl ?_
      refine g_iloadN (pc' := 14) C X0 d8_13 rfl rfl ?_
      refine g_ldB (pc' := 15) (v := (.int x0)) C X0 d8_14 e0 V_a ⟨by decide, by decide⟩ rfl rfl ?_
      refine g_aloadN (pc' := 16) C X0 d8_15 rfl rfl rfl ?_
      refine g_iloadN (pc' := 17) C X0 d8_16 rfl rfl ?_
      refine g_ldB (pc' := 18) (v := (.int y0)) C X0 d8_17 e0 V_b ⟨by decide, by decide⟩ rfl rfl ?_
      by_cases c4 : x0 = y0
      · refine g_icmpN (pc' := 21) C X0 d8_18 (teq c4).2 rfl ?_
        refine g_iconst (pc' := 22) (v := (1 : Int32)) C X0 d8_21 rfl rfl ?_
        refine g_goto (pc' := 26) C X0 d8_22 (by decide) (by decide) ?_
        exact g_retN C X0 (by simp) d8_26 (by decide) (by decide) ⟨congrArg (fun z => some (Value.int z)) (Fk0_l3 p4 x0 y0 c1 c3 c4).symm, N0, e0⟩
      · refine g_icmpY (pc' := 25) C X0 d8_18 (feq c4).2 (by decide) (by decide) ?_
        refine g_iconst (pc' := 26) (v := (0 : Int32)) C X0 d8_25 rfl rfl ?_
        exact g_retN C X0 (by simp) d8_26 (by decide) (by decide) ⟨congrArg (fun z => some (Value.int z)) (Fk0_l4 p4 x0 y0 c1 c3 c4).symm, N0, e0⟩
def Fk1 (p4 : Int32) (x1 : Int32) (y1 : Int32) : Int32 := (if (1 : Int32) < p4 then (if x1 = y1 then (1 : Int32) else (0 : Int32)) else (if (1 : Int32) < (p4 + (4 : Int32)) then (1 : Int32) else (if x1 = y1 then (1 : Int32) else (0 : Int32))))
theorem Fk1_l0 (p4 : Int32) (x1 : Int32) (y1 : Int32) (h0 : (1 : Int32) < p4) (h1 : x1 = y1) : Fk1 p4 x1 y1 = (1 : Int32) := by
  unfold Fk1; rw [if_pos h0, if_pos h1]
theorem Fk1_l1 (p4 : Int32) (x1 : Int32) (y1 : Int32) (h0 : (1 : Int32) < p4) (h1 : ¬ (x1 = y1)) : Fk1 p4 x1 y1 = (0 : Int32) := by
  unfold Fk1; rw [if_pos h0, if_neg h1]
theorem Fk1_l2 (p4 : Int32) (x1 : Int32) (y1 : Int32) (h0 : ¬ ((1 : Int32) < p4)) (h1 : (1 : Int32) < (p4 + (4 : Int32))) : Fk1 p4 x1 y1 = (1 : Int32) := by
  unfold Fk1; rw [if_neg h0, if_pos h1]
theorem Fk1_l3 (p4 : Int32) (x1 : Int32) (y1 : Int32) (h0 : ¬ ((1 : Int32) < p4)) (h1 : ¬ ((1 : Int32) < (p4 + (4 : Int32)))) (h2 : x1 = y1) : Fk1 p4 x1 y1 = (1 : Int32) := by
  unfold Fk1; rw [if_neg h0, if_neg h1, if_pos h2]
theorem Fk1_l4 (p4 : Int32) (x1 : Int32) (y1 : Int32) (h0 : ¬ ((1 : Int32) < p4)) (h1 : ¬ ((1 : Int32) < (p4 + (4 : Int32)))) (h2 : ¬ (x1 = y1)) : Fk1 p4 x1 y1 = (0 : Int32) := by
  unfold Fk1; rw [if_neg h0, if_neg h1, if_neg h2]
theorem ef_k1 (m : MethodId) (a1 : Addr) (a2 : Addr) (p4 : Int32) : entryFrame m #[(.ref a1), (.ref a2), (.int (1 : Int32)), (.int p4)] 4 = mkF m 0 #[.val (.ref a1), .val (.ref a2), .val (.int (1 : Int32)), .val (.int p4)] [] := by first | (simp [entryFrame, mkF, argsToLocals, Value.category]; done) | rfl
def Q_k1 (Z : State) (a1 : Addr) (a2 : Addr) (p4 : Int32) (ka : ClassId) (kb : ClassId) (x0 : Int32) (x1 : Int32) (x2 : Int32) (x3 : Int32) (x4 : Int32) (x5 : Int32) (x6 : Int32) (x7 : Int32) (y0 : Int32) (y1 : Int32) (y2 : Int32) (y3 : Int32) (y4 : Int32) (y5 : Int32) (y6 : Int32) (y7 : Int32) (h0 : Heap) (n0 : Nat) (v : Option Value) (h : Heap) (L : List Loc) : Prop := v = some (.int (Fk1 p4 x1 y1)) ∧ Fr n0 L ∧ h = h0
set_option maxRecDepth 65536 in
set_option maxHeartbeats 40000000 in
theorem rmk1 (l : Launch) (Z : State) (a0 : Array Value) (hw : ∀ d ∈ tables_1, d.before a0 Z = true) (ws : List Jvm.Cond) (a1 : Addr) (a2 : Addr) (p4 : Int32) (ka : ClassId) (kb : ClassId) (x0 : Int32) (x1 : Int32) (x2 : Int32) (x3 : Int32) (x4 : Int32) (x5 : Int32) (x6 : Int32) (x7 : Int32) (y0 : Int32) (y1 : Int32) (y2 : Int32) (y3 : Int32) (y4 : Int32) (y5 : Int32) (y6 : Int32) (y7 : Int32) (h0 : Heap) (n0 : Nat) (V_a : Arv Z h0 a1 ka .byte (8 : Int32) [(.int x0), (.int x1), (.int x2), (.int x3), (.int x4), (.int x5), (.int x6), (.int x7)] (.int (0 : Int32))) (V_b : Arv Z h0 a2 kb .byte (8 : Int32) [(.int y0), (.int y1), (.int y2), (.int y3), (.int y4), (.int y5), (.int y6), (.int y7)] (.int (0 : Int32))) :
    MetFree l (⟨"com/example/caseloom/caseloom/store/ByteWriterSetIntPinLaw", "keep", "([B[BII)Z"⟩ : MethodName) (head1 (Jvm.Cond.code (⟨"com/example/caseloom/caseloom/store/ByteWriterSetIntPinLaw", "keep", "([B[BII)Z"⟩ : MethodName) method_3_code 4 (some .boolean) :: ws) ({ frames := 0, cells := 0, slots := 0, locals := 0 } : Room)) (fun a U => a = #[(.ref a1), (.ref a2), (.int (1 : Int32)), (.int p4)] ∧ Z.Warmed39 U.vm ∧ U.heap = h0) (fun _ _ _ _ _ => True) (fun _ U o U' => ∃ v L, o = .returned v ∧ Q_k1 Z a1 a2 p4 ka kb x0 x1 x2 x3 x4 x5 x6 x7 y0 y1 y2 y3 y4 y5 y6 y7 h0 n0 v U'.heap L ∧ FrameEnd U o U' L ({ frames := 0, cells := 0, slots := 0, locals := 0 } : Room).cells ({ frames := 0, cells := 0, slots := 0, locals := 0 } : Room).slots) := by
  refine met_of (Ls := #[.val (.ref a1), .val (.ref a2), .val (.int (1 : Int32)), .val (.int p4)]) (plainFor_of_name (by first | (simp [plainName, overriddenIn]; done) | decide +kernel)) (fun m => ef_k1 m a1 a2 p4) ?_
  intro p e s m below meth c T0 C X0 e0
  have N0 := Fr.nil n0
  refine g_iloadN (pc' := 1) C X0 d8_0 rfl rfl ?_
  refine g_iloadN (pc' := 2) C X0 d8_1 rfl rfl ?_
  by_cases c1 : (1 : Int32) < p4
  · refine g_icmpY (pc' := 12) C X0 d8_2 (tlt c1).1 (by decide) (by decide) ?_
    refine g_aloadN (pc' := 13) C X0 d8_12 rfl rfl rfl ?_
    refine g_iloadN (pc' := 14) C X0 d8_13 rfl rfl ?_
    refine g_ldB (pc' := 15) (v := (.int x1)) C X0 d8_14 e0 V_a ⟨by decide, by decide⟩ rfl rfl ?_
    refine g_aloadN (pc' := 16) C X0 d8_15 rfl rfl rfl ?_
    refine g_iloadN (pc' := 17) C X0 d8_16 rfl rfl ?_
    refine g_ldB (pc' := 18) (v := (.int y1)) C X0 d8_17 e0 V_b ⟨by decide, by decide⟩ rfl rfl ?_
    by_cases c2 : x1 = y1
    · refine g_icmpN (pc' := 21) C X0 d8_18 (teq c2).2 rfl ?_
      refine g_iconst (pc' := 22) (v := (1 : Int32)) C X0 d8_21 rfl rfl ?_
      refine g_goto (pc' := 26) C X0 d8_22 (by decide) (by decide) ?_
      exact g_retN C X0 (by simp) d8_26 (by decide) (by decide) ⟨congrArg (fun z => some (Value.int z)) (Fk1_l0 p4 x1 y1 c1 c2).symm, N0, e0⟩
    · refine g_icmpY (pc' := 25) C X0 d8_18 (feq c2).2 (by decide) (by decide) ?_
      refine g_iconst (pc' := 26) (v := (0 : Int32)) C X0 d8_25 rfl rfl ?_
      exact g_retN C X0 (by simp) d8_26 (by decide) (by decide) ⟨congrArg (fun z => some (Value.int z)) (Fk1_l1 p4 x1 y1 c1 c2).symm, N0, e0⟩
  · refine g_icmpN (pc' := 5) C X0 d8_2 (flt c1).1 rfl ?_
    refine g_iloadN (pc' := 6) C X0 d8_5 rfl rfl ?_
    refine g_iloadN (pc' := 7) C X0 d8_6 rfl rfl ?_
    refine g_iconst (pc' := 8) (v := (4 : Int32)) C X0 d8_7 rfl rfl ?_
    refine g_iadd (pc' := 9) C X0 d8_8 rfl ?_
    by_cases c3 : (1 : Int32) < (p4 + (4 : Int32))
    · refine g_icmpY (pc' := 21) C X0 d8_9 (tlt c3).1 (by decide) (by decide) ?_
      refine g_iconst (pc' := 22) (v := (1 : Int32)) C X0 d8_21 rfl rfl ?_
      refine g_goto (pc' := 26) C X0 d8_22 (by decide) (by decide) ?_
      exact g_retN C X0 (by simp) d8_26 (by decide) (by decide) ⟨congrArg (fun z => some (Value.int z)) (Fk1_l2 p4 x1 y1 c1 c3).symm, N0, e0⟩
    · refine g_icmpN (pc' := 12) C X0 d8_9 (flt c3).1 rfl ?_
      refine g_aloadN (pc' := 13) C X0 d8_12 rfl rfl rfl ?_
      refine g_iloadN (pc' := 14) C X0 d8_13 rfl rfl ?_
      refine g_ldB (pc' := 15) (v := (.int x1)) C X0 d8_14 e0 V_a ⟨by decide, by decide⟩ rfl rfl ?_
      refine g_aloadN (pc' := 16) C X0 d8_15 rfl rfl rfl ?_
      refine g_iloadN (pc' := 17) C X0 d8_16 rfl rfl ?_
      refine g_ldB (pc' := 18) (v := (.int y1)) C X0 d8_17 e0 V_b ⟨by decide, by decide⟩ rfl rfl ?_
      by_cases c4 : x1 = y1
      · refine g_icmpN (pc' := 21) C X0 d8_18 (teq c4).2 rfl ?_
        refine g_iconst (pc' := 22) (v := (1 : Int32)) C X0 d8_21 rfl rfl ?_
        refine g_goto (pc' := 26) C X0 d8_22 (by decide) (by decide) ?_
        exact g_retN C X0 (by simp) d8_26 (by decide) (by decide) ⟨congrArg (fun z => some (Value.int z)) (Fk1_l3 p4 x1 y1 c1 c3 c4).symm, N0, e0⟩
      · refine g_icmpY (pc' := 25) C X0 d8_18 (feq c4).2 (by decide) (by decide) ?_
        refine g_iconst (pc' := 26) (v := (0 : Int32)) C X0 d8_25 rfl rfl ?_
        exact g_retN C X0 (by simp) d8_26 (by decide) (by decide) ⟨congrArg (fun z => some (Value.int z)) (Fk1_l4 p4 x1 y1 c1 c3 c4).symm, N0, e0⟩
def Fk2 (p4 : Int32) (x2 : Int32) (y2 : Int32) : Int32 := (if (2 : Int32) < p4 then (if x2 = y2 then (1 : Int32) else (0 : Int32)) else (if (2 : Int32) < (p4 + (4 : Int32)) then (1 : Int32) else (if x2 = y2 then (1 : Int32) else (0 : Int32))))
theorem Fk2_l0 (p4 : Int32) (x2 : Int32) (y2 : Int32) (h0 : (2 : Int32) < p4) (h1 : x2 = y2) : Fk2 p4 x2 y2 = (1 : Int32) := by
  unfold Fk2; rw [if_pos h0, if_pos h1]
theorem Fk2_l1 (p4 : Int32) (x2 : Int32) (y2 : Int32) (h0 : (2 : Int32) < p4) (h1 : ¬ (x2 = y2)) : Fk2 p4 x2 y2 = (0 : Int32) := by
  unfold Fk2; rw [if_pos h0, if_neg h1]
theorem Fk2_l2 (p4 : Int32) (x2 : Int32) (y2 : Int32) (h0 : ¬ ((2 : Int32) < p4)) (h1 : (2 : Int32) < (p4 + (4 : Int32))) : Fk2 p4 x2 y2 = (1 : Int32) := by
  unfold Fk2; rw [if_neg h0, if_pos h1]
theorem Fk2_l3 (p4 : Int32) (x2 : Int32) (y2 : Int32) (h0 : ¬ ((2 : Int32) < p4)) (h1 : ¬ ((2 : Int32) < (p4 + (4 : Int32)))) (h2 : x2 = y2) : Fk2 p4 x2 y2 = (1 : Int32) := by
  unfold Fk2; rw [if_neg h0, if_neg h1, if_pos h2]
theorem Fk2_l4 (p4 : Int32) (x2 : Int32) (y2 : Int32) (h0 : ¬ ((2 : Int32) < p4)) (h1 : ¬ ((2 : Int32) < (p4 + (4 : Int32)))) (h2 : ¬ (x2 = y2)) : Fk2 p4 x2 y2 = (0 : Int32) := by
  unfold Fk2; rw [if_neg h0, if_neg h1, if_neg h2]
theorem ef_k2 (m : MethodId) (a1 : Addr) (a2 : Addr) (p4 : Int32) : entryFrame m #[(.ref a1), (.ref a2), (.int (2 : Int32)), (.int p4)] 4 = mkF m 0 #[.val (.ref a1), .val (.ref a2), .val (.int (2 : Int32)), .val (.int p4)] [] := by first | (simp [entryFrame, mkF, argsToLocals, Value.category]; done) | rfl
def Q_k2 (Z : State) (a1 : Addr) (a2 : Addr) (p4 : Int32) (ka : ClassId) (kb : ClassId) (x0 : Int32) (x1 : Int32) (x2 : Int32) (x3 : Int32) (x4 : Int32) (x5 : Int32) (x6 : Int32) (x7 : Int32) (y0 : Int32) (y1 : Int32) (y2 : Int32) (y3 : Int32) (y4 : Int32) (y5 : Int32) (y6 : Int32) (y7 : Int32) (h0 : Heap) (n0 : Nat) (v : Option Value) (h : Heap) (L : List Loc) : Prop := v = some (.int (Fk2 p4 x2 y2)) ∧ Fr n0 L ∧ h = h0
set_option maxRecDepth 65536 in
set_option maxHeartbeats 40000000 in
theorem rmk2 (l : Launch) (Z : State) (a0 : Array Value) (hw : ∀ d ∈ tables_1, d.before a0 Z = true) (ws : List Jvm.Cond) (a1 : Addr) (a2 : Addr) (p4 : Int32) (ka : ClassId) (kb : ClassId) (x0 : Int32) (x1 : Int32) (x2 : Int32) (x3 : Int32) (x4 : Int32) (x5 : Int32) (x6 : Int32) (x7 : Int32) (y0 : Int32) (y1 : Int32) (y2 : Int32) (y3 : Int32) (y4 : Int32) (y5 : Int32) (y6 : Int32) (y7 : Int32) (h0 : Heap) (n0 : Nat) (V_a : Arv Z h0 a1 ka .byte (8 : Int32) [(.int x0), (.int x1), (.int x2), (.int x3), (.int x4), (.int x5), (.int x6), (.int x7)] (.int (0 : Int32))) (V_b : Arv Z h0 a2 kb .byte (8 : Int32) [(.int y0), (.int y1), (.int y2), (.int y3), (.int y4), (.int y5), (.int y6), (.int y7)] (.int (0 : Int32))) :
    MetFree l (⟨"com/example/caseloom/caseloom/store/ByteWriterSetIntPinLaw", "keep", "([B[BII)Z"⟩ : MethodName) (head1 (Jvm.Cond.code (⟨"com/example/caseloom/caseloom/store/ByteWriterSetIntPinLaw", "keep", "([B[BII)Z"⟩ : MethodName) method_3_code 4 (some .boolean) :: ws) ({ frames := 0, cells := 0, slots := 0, locals := 0 } : Room)) (fun a U => a = #[(.ref a1), (.ref a2), (.int (2 : Int32)), (.int p4)] ∧ Z.Warmed39 U.vm ∧ U.heap = h0) (fun _ _ _ _ _ => True) (fun _ U o U' => ∃ v L, o = .returned v ∧ Q_k2 Z a1 a2 p4 ka kb x0 x1 x2 x3 x4 x5 x6 x7 y0 y1 y2 y3 y4 y5 y6 y7 h0 n0 v U'.heap L ∧ FrameEnd U o U' L ({ frames := 0, cells := 0, slots := 0, locals := 0 } : Room).cells ({ frames := 0, cells := 0, slots := 0, locals := 0 } : Room).slots) := by
  refine met_of (Ls := #[.val (.ref a1), .val (.ref a2), .val (.int (2 : Int32)), .val (.int p4)]) (plainFor_of_name (by first | (simp [plainName, overriddenIn]; done) | decide +kernel)) (fun m => ef_k2 m a1 a2 p4) ?_
  intro p e s m below meth c T0 C X0 e0
  have N0 := Fr.nil n0
  refine g_iloadN (pc' := 1) C X0 d8_0 rfl rfl ?_
  refine g_iloadN (pc' := 2) C X0 d8_1 rfl rfl ?_
  by_cases c1 : (2 : Int32) < p4
  · refine g_icmpY (pc' := 12) C X0 d8_2 (tlt c1).1 (by decide) (by decide) ?_
    refine g_aloadN (pc' := 13) C X0 d8_12 rfl rfl rfl ?_
    refine g_iloadN (pc' := 14) C X0 d8_13 rfl rfl ?_
    refine g_ldB (pc' := 15) (v := (.int x2)) C X0 d8_14 e0 V_a ⟨by decide, by decide⟩ rfl rfl ?_
    refine g_aloadN (pc' := 16) C X0 d8_15 rfl rfl rfl ?_
    refine g_iloadN (pc' := 17) C X0 d8_16 rfl rfl ?_
    refine g_ldB (pc' := 18) (v := (.int y2)) C X0 d8_17 e0 V_b ⟨by decide, by decide⟩ rfl rfl ?_
    by_cases c2 : x2 = y2
    · refine g_icmpN (pc' := 21) C X0 d8_18 (teq c2).2 rfl ?_
      refine g_iconst (pc' := 22) (v := (1 : Int32)) C X0 d8_21 rfl rfl ?_
      refine g_goto (pc' := 26) C X0 d8_22 (by decide) (by decide) ?_
      exact g_retN C X0 (by simp) d8_26 (by decide) (by decide) ⟨congrArg (fun z => some (Value.int z)) (Fk2_l0 p4 x2 y2 c1 c2).symm, N0, e0⟩
    · refine g_icmpY (pc' := 25) C X0 d8_18 (feq c2).2 (by decide) (by decide) ?_
      refine g_iconst (pc' := 26) (v := (0 : Int32)) C X0 d8_25 rfl rfl ?_
      exact g_retN C X0 (by simp) d8_26 (by decide) (by decide) ⟨congrArg (fun z => some (Value.int z)) (Fk2_l1 p4 x2 y2 c1 c2).symm, N0, e0⟩
  · refine g_icmpN (pc' := 5) C X0 d8_2 (flt c1).1 rfl ?_
    refine g_iloadN (pc' := 6) C X0 d8_5 rfl rfl ?_
    refine g_iloadN (pc' := 7) C X0 d8_6 rfl rfl ?_
    refine g_iconst (pc' := 8) (v := (4 : Int32)) C X0 d8_7 rfl rfl ?_
    refine g_iadd (pc' := 9) C X0 d8_8 rfl ?_
    by_cases c3 : (2 : Int32) < (p4 + (4 : Int32))
    · refine g_icmpY (pc' := 21) C X0 d8_9 (tlt c3).1 (by decide) (by decide) ?_
      refine g_iconst (pc' := 22) (v := (1 : Int32)) C X0 d8_21 rfl rfl ?_
      refine g_goto (pc' := 26) C X0 d8_22 (by decide) (by decide) ?_
      exact g_retN C X0 (by simp) d8_26 (by decide) (by decide) ⟨congrArg (fun z => some (Value.int z)) (Fk2_l2 p4 x2 y2 c1 c3).symm, N0, e0⟩
    · refine g_icmpN (pc' := 12) C X0 d8_9 (flt c3).1 rfl ?_
      refine g_aloadN (pc' := 13) C X0 d8_12 rfl rfl rfl ?_
      refine g_iloadN (pc' := 14) C X0 d8_13 rfl rfl ?_
      refine g_ldB (pc' := 15) (v := (.int x2)) C X0 d8_14 e0 V_a ⟨by decide, by decide⟩ rfl rfl ?_
      refine g_aloadN (pc' := 16) C X0 d8_15 rfl rfl rfl ?_
      refine g_iloadN (pc' := 17) C X0 d8_16 rfl rfl ?_
      refine g_ldB (pc' := 18) (v := (.int y2)) C X0 d8_17 e0 V_b ⟨by decide, by decide⟩ rfl rfl ?_
      by_cases c4 : x2 = y2
      · refine g_icmpN (pc' := 21) C X0 d8_18 (teq c4).2 rfl ?_
        refine g_iconst (pc' := 22) (v := (1 : Int32)) C X0 d8_21 rfl rfl ?_
        refine g_goto (pc' := 26) C X0 d8_22 (by decide) (by decide) ?_
        exact g_retN C X0 (by simp) d8_26 (by decide) (by decide) ⟨congrArg (fun z => some (Value.int z)) (Fk2_l3 p4 x2 y2 c1 c3 c4).symm, N0, e0⟩
      · refine g_icmpY (pc' := 25) C X0 d8_18 (feq c4).2 (by decide) (by decide) ?_
        refine g_iconst (pc' := 26) (v := (0 : Int32)) C X0 d8_25 rfl rfl ?_
        exact g_retN C X0 (by simp) d8_26 (by decide) (by decide) ⟨congrArg (fun z => some (Value.int z)) (Fk2_l4 p4 x2 y2 c1 c3 c4).symm, N0, e0⟩
def Fk3 (p4 : Int32) (x3 : Int32) (y3 : Int32) : Int32 := (if (3 : Int32) < p4 then (if x3 = y3 then (1 : Int32) else (0 : Int32)) else (if (3 : Int32) < (p4 + (4 : Int32)) then (1 : Int32) else (if x3 = y3 then (1 : Int32) else (0 : Int32))))
theorem Fk3_l0 (p4 : Int32) (x3 : Int32) (y3 : Int32) (h0 : (3 : Int32) < p4) (h1 : x3 = y3) : Fk3 p4 x3 y3 = (1 : Int32) := by
  unfold Fk3; rw [if_pos h0, if_pos h1]
theorem Fk3_l1 (p4 : Int32) (x3 : Int32) (y3 : Int32) (h0 : (3 : Int32) < p4) (h1 : ¬ (x3 = y3)) : Fk3 p4 x3 y3 = (0 : Int32) := by
  unfold Fk3; rw [if_pos h0, if_neg h1]
theorem Fk3_l2 (p4 : Int32) (x3 : Int32) (y3 : Int32) (h0 : ¬ ((3 : Int32) < p4)) (h1 : (3 : Int32) < (p4 + (4 : Int32))) : Fk3 p4 x3 y3 = (1 : Int32) := by
  unfold Fk3; rw [if_neg h0, if_pos h1]
theorem Fk3_l3 (p4 : Int32) (x3 : Int32) (y3 : Int32) (h0 : ¬ ((3 : Int32) < p4)) (h1 : ¬ ((3 : Int32) < (p4 + (4 : Int32)))) (h2 : x3 = y3) : Fk3 p4 x3 y3 = (1 : Int32) := by
  unfold Fk3; rw [if_neg h0, if_neg h1, if_pos h2]
theorem Fk3_l4 (p4 : Int32) (x3 : Int32) (y3 : Int32) (h0 : ¬ ((3 : Int32) < p4)) (h1 : ¬ ((3 : Int32) < (p4 + (4 : Int32)))) (h2 : ¬ (x3 = y3)) : Fk3 p4 x3 y3 = (0 : Int32) := by
  unfold Fk3; rw [if_neg h0, if_neg h1, if_neg h2]
theorem ef_k3 (m : MethodId) (a1 : Addr) (a2 : Addr) (p4 : Int32) : entryFrame m #[(.ref a1), (.ref a2), (.int (3 : Int32)), (.int p4)] 4 = mkF m 0 #[.val (.ref a1), .val (.ref a2), .val (.int (3 : Int32)), .val (.int p4)] [] := by first | (simp [entryFrame, mkF, argsToLocals, Value.category]; done) | rfl
def Q_k3 (Z : State) (a1 : Addr) (a2 : Addr) (p4 : Int32) (ka : ClassId) (kb : ClassId) (x0 : Int32) (x1 : Int32) (x2 : Int32) (x3 : Int32) (x4 : Int32) (x5 : Int32) (x6 : Int32) (x7 : Int32) (y0 : Int32) (y1 : Int32) (y2 : Int32) (y3 : Int32) (y4 : Int32) (y5 : Int32) (y6 : Int32) (y7 : Int32) (h0 : Heap) (n0 : Nat) (v : Option Value) (h : Heap) (L : List Loc) : Prop := v = some (.int (Fk3 p4 x3 y3)) ∧ Fr n0 L ∧ h = h0
set_option maxRecDepth 65536 in
set_option maxHeartbeats 40000000 in
theorem rmk3 (l : Launch) (Z : State) (a0 : Array Value) (hw : ∀ d ∈ tables_1, d.before a0 Z = true) (ws : List Jvm.Cond) (a1 : Addr) (a2 : Addr) (p4 : Int32) (ka : ClassId) (kb : ClassId) (x0 : Int32) (x1 : Int32) (x2 : Int32) (x3 : Int32) (x4 : Int32) (x5 : Int32) (x6 : Int32) (x7 : Int32) (y0 : Int32) (y1 : Int32) (y2 : Int32) (y3 : Int32) (y4 : Int32) (y5 : Int32) (y6 : Int32) (y7 : Int32) (h0 : Heap) (n0 : Nat) (V_a : Arv Z h0 a1 ka .byte (8 : Int32) [(.int x0), (.int x1), (.int x2), (.int x3), (.int x4), (.int x5), (.int x6), (.int x7)] (.int (0 : Int32))) (V_b : Arv Z h0 a2 kb .byte (8 : Int32) [(.int y0), (.int y1), (.int y2), (.int y3), (.int y4), (.int y5), (.int y6), (.int y7)] (.int (0 : Int32))) :
    MetFree l (⟨"com/example/caseloom/caseloom/store/ByteWriterSetIntPinLaw", "keep", "([B[BII)Z"⟩ : MethodName) (head1 (Jvm.Cond.code (⟨"com/example/caseloom/caseloom/store/ByteWriterSetIntPinLaw", "keep", "([B[BII)Z"⟩ : MethodName) method_3_code 4 (some .boolean) :: ws) ({ frames := 0, cells := 0, slots := 0, locals := 0 } : Room)) (fun a U => a = #[(.ref a1), (.ref a2), (.int (3 : Int32)), (.int p4)] ∧ Z.Warmed39 U.vm ∧ U.heap = h0) (fun _ _ _ _ _ => True) (fun _ U o U' => ∃ v L, o = .returned v ∧ Q_k3 Z a1 a2 p4 ka kb x0 x1 x2 x3 x4 x5 x6 x7 y0 y1 y2 y3 y4 y5 y6 y7 h0 n0 v U'.heap L ∧ FrameEnd U o U' L ({ frames := 0, cells := 0, slots := 0, locals := 0 } : Room).cells ({ frames := 0, cells := 0, slots := 0, locals := 0 } : Room).slots) := by
  refine met_of (Ls := #[.val (.ref a1), .val (.ref a2), .val (.int (3 : Int32)), .val (.int p4)]) (plainFor_of_name (by first | (simp [plainName, overriddenIn]; done) | decide +kernel)) (fun m => ef_k3 m a1 a2 p4) ?_
  intro p e s m below meth c T0 C X0 e0
  have N0 := Fr.nil n0
  refine g_iloadN (pc' := 1) C X0 d8_0 rfl rfl ?_
  refine g_iloadN (pc' := 2) C X0 d8_1 rfl rfl ?_
  by_cases c1 : (3 : Int32) < p4
  · refine g_icmpY (pc' := 12) C X0 d8_2 (tlt c1).1 (by decide) (by decide) ?_
    refine g_aloadN (pc' := 13) C X0 d8_12 rfl rfl rfl ?_
    refine g_iloadN (pc' := 14) C X0 d8_13 rfl rfl ?_
    refine g_ldB (pc' := 15) (v := (.int x3)) C X0 d8_14 e0 V_a ⟨by decide, by decide⟩ rfl rfl ?_
    refine g_aloadN (pc' := 16) C X0 d8_15 rfl rfl rfl ?_
    refine g_iloadN (pc' := 17) C X0 d8_16 rfl rfl ?_
    refine g_ldB (pc' := 18) (v := (.int y3)) C X0 d8_17 e0 V_b ⟨by decide, by decide⟩ rfl rfl ?_
    by_cases c2 : x3 = y3
    · refine g_icmpN (pc' := 21) C X0 d8_18 (teq c2).2 rfl ?_
      refine g_iconst (pc' := 22) (v := (1 : Int32)) C X0 d8_21 rfl rfl ?_
      refine g_goto (pc' := 26) C X0 d8_22 (by decide) (by decide) ?_
      exact g_retN C X0 (by simp) d8_26 (by decide) (by decide) ⟨congrArg (fun z => some (Value.int z)) (Fk3_l0 p4 x3 y3 c1 c2).symm, N0, e0⟩
    · refine g_icmpY (pc' := 25) C X0 d8_18 (feq c2).2 (by decide) (by decide) ?_
      refine g_iconst (pc' := 26) (v := (0 : Int32)) C X0 d8_25 rfl rfl ?_
      exact g_retN C X0 (by simp) d8_26 (by decide) (by decide) ⟨congrArg (fun z => some (Value.int z)) (Fk3_l1 p4 x3 y3 c1 c2).symm, N0, e0⟩
  · refine g_icmpN (pc' := 5) C X0 d8_2 (flt c1).1 rfl ?_
    refine g_iloadN (pc' := 6) C X0 d8_5 rfl rfl ?_
    refine g_iloadN (pc' := 7) C X0 d8_6 rfl rfl ?_
    refine g_iconst (pc' := 8) (v := (4 : Int32)) C X0 d8_7 rfl rfl ?_
    refine g_iadd (pc' := 9) C X0 d8_8 rfl ?_
    by_cases c3 : (3 : Int32) < (p4 + (4 : Int32))
    · refine g_icmpY (pc' := 21) C X0 d8_9 (tlt c3).1 (by decide) (by decide) ?_
      refine g_iconst (pc' := 22) (v := (1 : Int32)) C X0 d8_21 rfl rfl ?_
      refine g_goto (pc' := 26) C X0 d8_22 (by decide) (by decide) ?_
      exact g_retN C X0 (by simp) d8_26 (by decide) (by decide) ⟨congrArg (fun z => some (Value.int z)) (Fk3_l2 p4 x3 y3 c1 c3).symm, N0, e0⟩
    · refine g_icmpN (pc' := 12) C X0 d8_9 (flt c3).1 rfl ?_
      refine g_aloadN (pc' := 13) C X0 d8_12 rfl rfl rfl ?_
      refine g_iloadN (pc' := 14) C X0 d8_13 rfl rfl ?_
      refine g_ldB (pc' := 15) (v := (.int x3)) C X0 d8_14 e0 V_a ⟨by decide, by decide⟩ rfl rfl ?_
      refine g_aloadN (pc' := 16) C X0 d8_15 rfl rfl rfl ?_
      refine g_iloadN (pc' := 17) C X0 d8_16 rfl rfl ?_
      refine g_ldB (pc' := 18) (v := (.int y3)) C X0 d8_17 e0 V_b ⟨by decide, by decide⟩ rfl rfl ?_
      by_cases c4 : x3 = y3
      · refine g_icmpN (pc' := 21) C X0 d8_18 (teq c4).2 rfl ?_
        refine g_iconst (pc' := 22) (v := (1 : Int32)) C X0 d8_21 rfl rfl ?_
        refine g_goto (pc' := 26) C X0 d8_22 (by decide) (by decide) ?_
        exact g_retN C X0 (by simp) d8_26 (by decide) (by decide) ⟨congrArg (fun z => some (Value.int z)) (Fk3_l3 p4 x3 y3 c1 c3 c4).symm, N0, e0⟩
      · refine g_icmpY (pc' := 25) C X0 d8_18 (feq c4).2 (by decide) (by decide) ?_
        refine g_iconst (pc' := 26) (v := (0 : Int32)) C X0 d8_25 rfl rfl ?_
        exact g_retN C X0 (by simp) d8_26 (by decide) (by decide) ⟨congrArg (fun z => some (Value.int z)) (Fk3_l4 p4 x3 y3 c1 c3 c4).symm, N0, e0⟩
def Fk4 (p4 : Int32) (x4 : Int32) (y4 : Int32) : Int32 := (if (4 : Int32) < p4 then (if x4 = y4 then (1 : Int32) else (0 : Int32)) else (if (4 : Int32) < (p4 + (4 : Int32)) then (1 : Int32) else (if x4 = y4 then (1 : Int32) else (0 : Int32))))
theorem Fk4_l0 (p4 : Int32) (x4 : Int32) (y4 : Int32) (h0 : (4 : Int32) < p4) (h1 : x4 = y4) : Fk4 p4 x4 y4 = (1 : Int32) := by
  unfold Fk4; rw [if_pos h0, if_pos h1]
theorem Fk4_l1 (p4 : Int32) (x4 : Int32) (y4 : Int32) (h0 : (4 : Int32) < p4) (h1 : ¬ (x4 = y4)) : Fk4 p4 x4 y4 = (0 : Int32) := by
  unfold Fk4; rw [if_pos h0, if_neg h1]
theorem Fk4_l2 (p4 : Int32) (x4 : Int32) (y4 : Int32) (h0 : ¬ ((4 : Int32) < p4)) (h1 : (4 : Int32) < (p4 + (4 : Int32))) : Fk4 p4 x4 y4 = (1 : Int32) := by
  unfold Fk4; rw [if_neg h0, if_pos h1]
theorem Fk4_l3 (p4 : Int32) (x4 : Int32) (y4 : Int32) (h0 : ¬ ((4 : Int32) < p4)) (h1 : ¬ ((4 : Int32) < (p4 + (4 : Int32)))) (h2 : x4 = y4) : Fk4 p4 x4 y4 = (1 : Int32) := by
  unfold Fk4; rw [if_neg h0, if_neg h1, if_pos h2]
theorem Fk4_l4 (p4 : Int32) (x4 : Int32) (y4 : Int32) (h0 : ¬ ((4 : Int32) < p4)) (h1 : ¬ ((4 : Int32) < (p4 + (4 : Int32)))) (h2 : ¬ (x4 = y4)) : Fk4 p4 x4 y4 = (0 : Int32) := by
  unfold Fk4; rw [if_neg h0, if_neg h1, if_neg h2]
theorem ef_k4 (m : MethodId) (a1 : Addr) (a2 : Addr) (p4 : Int32) : entryFrame m #[(.ref a1), (.ref a2), (.int (4 : Int32)), (.int p4)] 4 = mkF m 0 #[.val (.ref a1), .val (.ref a2), .val (.int (4 : Int32)), .val (.int p4)] [] := by first | (simp [entryFrame, mkF, argsToLocals, Value.category]; done) | rfl
def Q_k4 (Z : State) (a1 : Addr) (a2 : Addr) (p4 : Int32) (ka : ClassId) (kb : ClassId) (x0 : Int32) (x1 : Int32) (x2 : Int32) (x3 : Int32) (x4 : Int32) (x5 : Int32) (x6 : Int32) (x7 : Int32) (y0 : Int32) (y1 : Int32) (y2 : Int32) (y3 : Int32) (y4 : Int32) (y5 : Int32) (y6 : Int32) (y7 : Int32) (h0 : Heap) (n0 : Nat) (v : Option Value) (h : Heap) (L : List Loc) : Prop := v = some (.int (Fk4 p4 x4 y4)) ∧ Fr n0 L ∧ h = h0
set_option maxRecDepth 65536 in
set_option maxHeartbeats 40000000 in
theorem rmk4 (l : Launch) (Z : State) (a0 : Array Value) (hw : ∀ d ∈ tables_1, d.before a0 Z = true) (ws : List Jvm.Cond) (a1 : Addr) (a2 : Addr) (p4 : Int32) (ka : ClassId) (kb : ClassId) (x0 : Int32) (x1 : Int32) (x2 : Int32) (x3 : Int32) (x4 : Int32) (x5 : Int32) (x6 : Int32) (x7 : Int32) (y0 : Int32) (y1 : Int32) (y2 : Int32) (y3 : Int32) (y4 : Int32) (y5 : Int32) (y6 : Int32) (y7 : Int32) (h0 : Heap) (n0 : Nat) (V_a : Arv Z h0 a1 ka .byte (8 : Int32) [(.int x0), (.int x1), (.int x2), (.int x3), (.int x4), (.int x5), (.int x6), (.int x7)] (.int (0 : Int32))) (V_b : Arv Z h0 a2 kb .byte (8 : Int32) [(.int y0), (.int y1), (.int y2), (.int y3), (.int y4), (.int y5), (.int y6), (.int y7)] (.int (0 : Int32))) :
    MetFree l (⟨"com/example/caseloom/caseloom/store/ByteWriterSetIntPinLaw", "keep", "([B[BII)Z"⟩ : MethodName) (head1 (Jvm.Cond.code (⟨"com/example/caseloom/caseloom/store/ByteWriterSetIntPinLaw", "keep", "([B[BII)Z"⟩ : MethodName) method_3_code 4 (some .boolean) :: ws) ({ frames := 0, cells := 0, slots := 0, locals := 0 } : Room)) (fun a U => a = #[(.ref a1), (.ref a2), (.int (4 : Int32)), (.int p4)] ∧ Z.Warmed39 U.vm ∧ U.heap = h0) (fun _ _ _ _ _ => True) (fun _ U o U' => ∃ v L, o = .returned v ∧ Q_k4 Z a1 a2 p4 ka kb x0 x1 x2 x3 x4 x5 x6 x7 y0 y1 y2 y3 y4 y5 y6 y7 h0 n0 v U'.heap L ∧ FrameEnd U o U' L ({ frames := 0, cells := 0, slots := 0, locals := 0 } : Room).cells ({ frames := 0, cells := 0, slots := 0, locals := 0 } : Room).slots) := by
  refine met_of (Ls := #[.val (.ref a1), .val (.ref a2), .val (.int (4 : Int32)), .val (.int p4)]) (plainFor_of_name (by first | (simp [plainName, overriddenIn]; done) | decide +kernel)) (fun m => ef_k4 m a1 a2 p4) ?_
  intro p e s m below meth c T0 C X0 e0
  have N0 := Fr.nil n0
  refine g_iloadN (pc' := 1) C X0 d8_0 rfl rfl ?_
  refine g_iloadN (pc' := 2) C X0 d8_1 rfl rfl ?_
  by_cases c1 : (4 : Int32) < p4
  · refine g_icmpY (pc' := 12) C X0 d8_2 (tlt c1).1 (by decide) (by decide) ?_
    refine g_aloadN (pc' := 13) C X0 d8_12 rfl rfl rfl ?_
    refine g_iloadN (pc' := 14) C X0 d8_13 rfl rfl ?_
    refine g_ldB (pc' := 15) (v := (.int x4)) C X0 d8_14 e0 V_a ⟨by decide, by decide⟩ rfl rfl ?_
    refine g_aloadN (pc' := 16) C X0 d8_15 rfl rfl rfl ?_
    refine g_iloadN (pc' := 17) C X0 d8_16 rfl rfl ?_
    refine g_ldB (pc' := 18) (v := (.int y4)) C X0 d8_17 e0 V_b ⟨by decide, by decide⟩ rfl rfl ?_
    by_cases c2 : x4 = y4
    · refine g_icmpN (pc' := 21) C X0 d8_18 (teq c2).2 rfl ?_
      refine g_iconst (pc' := 22) (v := (1 : Int32)) C X0 d8_21 rfl rfl ?_
      refine g_goto (pc' := 26) C X0 d8_22 (by decide) (by decide) ?_
      exact g_retN C X0 (by simp) d8_26 (by decide) (by decide) ⟨congrArg (fun z => some (Value.int z)) (Fk4_l0 p4 x4 y4 c1 c2).symm, N0, e0⟩
    · refine g_icmpY (pc' := 25) C X0 d8_18 (feq c2).2 (by decide) (by decide) ?_
      refine g_iconst (pc' := 26) (v := (0 : Int32)) C X0 d8_25 rfl rfl ?_
      exact g_retN C X0 (by simp) d8_26 (by decide) (by decide) ⟨congrArg (fun z => some (Value.int z)) (Fk4_l1 p4 x4 y4 c1 c2).symm, N0, e0⟩
  · refine g_icmpN (pc' := 5) C X0 d8_2 (flt c1).1 rfl ?_
    refine g_iloadN (pc' := 6) C X0 d8_5 rfl rfl ?_
    refine g_iloadN (pc' := 7) C X0 d8_6 rfl rfl ?_
    refine g_iconst (pc' := 8) (v := (4 : Int32)) C X0 d8_7 rfl rfl ?_
    refine g_iadd (pc' := 9) C X0 d8_8 rfl ?_
    by_cases c3 : (4 : Int32) < (p4 + (4 : Int32))
    · refine g_icmpY (pc' := 21) C X0 d8_9 (tlt c3).1 (by decide) (by decide) ?_
      refine g_iconst (pc' := 22) (v := (1 : Int32)) C X0 d8_21 rfl rfl ?_
      refine g_goto (pc' := 26) C X0 d8_22 (by decide) (by decide) ?_
      exact g_retN C X0 (by simp) d8_26 (by decide) (by decide) ⟨congrArg (fun z => some (Value.int z)) (Fk4_l2 p4 x4 y4 c1 c3).symm, N0, e0⟩
    · refine g_icmpN (pc' := 12) C X0 d8_9 (flt c3).1 rfl ?_
      refine g_aloadN (pc' := 13) C X0 d8_12 rfl rfl rfl ?_
      refine g_iloadN (pc' := 14) C X0 d8_13 rfl rfl ?_
      refine g_ldB (pc' := 15) (v := (.int x4)) C X0 d8_14 e0 V_a ⟨by decide, by decide⟩ rfl rfl ?_
      refine g_aloadN (pc' := 16) C X0 d8_15 rfl rfl rfl ?_
      refine g_iloadN (pc' := 17) C X0 d8_16 rfl rfl ?_
      refine g_ldB (pc' := 18) (v := (.int y4)) C X0 d8_17 e0 V_b ⟨by decide, by decide⟩ rfl rfl ?_
      by_cases c4 : x4 = y4
      · refine g_icmpN (pc' := 21) C X0 d8_18 (teq c4).2 rfl ?_
        refine g_iconst (pc' := 22) (v := (1 : Int32)) C X0 d8_21 rfl rfl ?_
        refine g_goto (pc' := 26) C X0 d8_22 (by decide) (by decide) ?_
        exact g_retN C X0 (by simp) d8_26 (by decide) (by decide) ⟨congrArg (fun z => some (Value.int z)) (Fk4_l3 p4 x4 y4 c1 c3 c4).symm, N0, e0⟩
      · refine g_icmpY (pc' := 25) C X0 d8_18 (feq c4).2 (by decide) (by decide) ?_
        refine g_iconst (pc' := 26) (v := (0 : Int32)) C X0 d8_25 rfl rfl ?_
        exact g_retN C X0 (by simp) d8_26 (by decide) (by decide) ⟨congrArg (fun z => some (Value.int z)) (Fk4_l4 p4 x4 y4 c1 c3 c4).symm, N0, e0⟩
def Fk5 (p4 : Int32) (x5 : Int32) (y5 : Int32) : Int32 := (if (5 : Int32) < p4 then (if x5 = y5 then (1 : Int32) else (0 : Int32)) else (if (5 : Int32) < (p4 + (4 : Int32)) then (1 : Int32) else (if x5 = y5 then (1 : Int32) else (0 : Int32))))
theorem Fk5_l0 (p4 : Int32) (x5 : Int32) (y5 : Int32) (h0 : (5 : Int32) < p4) (h1 : x5 = y5) : Fk5 p4 x5 y5 = (1 : Int32) := by
  unfold Fk5; rw [if_pos h0, if_pos h1]
theorem Fk5_l1 (p4 : Int32) (x5 : Int32) (y5 : Int32) (h0 : (5 : Int32) < p4) (h1 : ¬ (x5 = y5)) : Fk5 p4 x5 y5 = (0 : Int32) := by
  unfold Fk5; rw [if_pos h0, if_neg h1]
theorem Fk5_l2 (p4 : Int32) (x5 : Int32) (y5 : Int32) (h0 : ¬ ((5 : Int32) < p4)) (h1 : (5 : Int32) < (p4 + (4 : Int32))) : Fk5 p4 x5 y5 = (1 : Int32) := by
  unfold Fk5; rw [if_neg h0, if_pos h1]
theorem Fk5_l3 (p4 : Int32) (x5 : Int32) (y5 : Int32) (h0 : ¬ ((5 : Int32) < p4)) (h1 : ¬ ((5 : Int32) < (p4 + (4 : Int32)))) (h2 : x5 = y5) : Fk5 p4 x5 y5 = (1 : Int32) := by
  unfold Fk5; rw [if_neg h0, if_neg h1, if_pos h2]
theorem Fk5_l4 (p4 : Int32) (x5 : Int32) (y5 : Int32) (h0 : ¬ ((5 : Int32) < p4)) (h1 : ¬ ((5 : Int32) < (p4 + (4 : Int32)))) (h2 : ¬ (x5 = y5)) : Fk5 p4 x5 y5 = (0 : Int32) := by
  unfold Fk5; rw [if_neg h0, if_neg h1, if_neg h2]
theorem ef_k5 (m : MethodId) (a1 : Addr) (a2 : Addr) (p4 : Int32) : entryFrame m #[(.ref a1), (.ref a2), (.int (5 : Int32)), (.int p4)] 4 = mkF m 0 #[.val (.ref a1), .val (.ref a2), .val (.int (5 : Int32)), .val (.int p4)] [] := by first | (simp [entryFrame, mkF, argsToLocals, Value.category]; done) | rfl
def Q_k5 (Z : State) (a1 : Addr) (a2 : Addr) (p4 : Int32) (ka : ClassId) (kb : ClassId) (x0 : Int32) (x1 : Int32) (x2 : Int32) (x3 : Int32) (x4 : Int32) (x5 : Int32) (x6 : Int32) (x7 : Int32) (y0 : Int32) (y1 : Int32) (y2 : Int32) (y3 : Int32) (y4 : Int32) (y5 : Int32) (y6 : Int32) (y7 : Int32) (h0 : Heap) (n0 : Nat) (v : Option Value) (h : Heap) (L : List Loc) : Prop := v = some (.int (Fk5 p4 x5 y5)) ∧ Fr n0 L ∧ h = h0
set_option maxRecDepth 65536 in
set_option maxHeartbeats 40000000 in
theorem rmk5 (l : Launch) (Z : State) (a0 : Array Value) (hw : ∀ d ∈ tables_1, d.before a0 Z = true) (ws : List Jvm.Cond) (a1 : Addr) (a2 : Addr) (p4 : Int32) (ka : ClassId) (kb : ClassId) (x0 : Int32) (x1 : Int32) (x2 : Int32) (x3 : Int32) (x4 : Int32) (x5 : Int32) (x6 : Int32) (x7 : Int32) (y0 : Int32) (y1 : Int32) (y2 : Int32) (y3 : Int32) (y4 : Int32) (y5 : Int32) (y6 : Int32) (y7 : Int32) (h0 : Heap) (n0 : Nat) (V_a : Arv Z h0 a1 ka .byte (8 : Int32) [(.int x0), (.int x1), (.int x2), (.int x3), (.int x4), (.int x5), (.int x6), (.int x7)] (.int (0 : Int32))) (V_b : Arv Z h0 a2 kb .byte (8 : Int32) [(.int y0), (.int y1), (.int y2), (.int y3), (.int y4), (.int y5), (.int y6), (.int y7)] (.int (0 : Int32))) :
    MetFree l (⟨"com/example/caseloom/caseloom/store/ByteWriterSetIntPinLaw", "keep", "([B[BII)Z"⟩ : MethodName) (head1 (Jvm.Cond.code (⟨"com/example/caseloom/caseloom/store/ByteWriterSetIntPinLaw", "keep", "([B[BII)Z"⟩ : MethodName) method_3_code 4 (some .boolean) :: ws) ({ frames := 0, cells := 0, slots := 0, locals := 0 } : Room)) (fun a U => a = #[(.ref a1), (.ref a2), (.int (5 : Int32)), (.int p4)] ∧ Z.Warmed39 U.vm ∧ U.heap = h0) (fun _ _ _ _ _ => True) (fun _ U o U' => ∃ v L, o = .returned v ∧ Q_k5 Z a1 a2 p4 ka kb x0 x1 x2 x3 x4 x5 x6 x7 y0 y1 y2 y3 y4 y5 y6 y7 h0 n0 v U'.heap L ∧ FrameEnd U o U' L ({ frames := 0, cells := 0, slots := 0, locals := 0 } : Room).cells ({ frames := 0, cells := 0, slots := 0, locals := 0 } : Room).slots) := by
  refine met_of (Ls := #[.val (.ref a1), .val (.ref a2), .val (.int (5 : Int32)), .val (.int p4)]) (plainFor_of_name (by first | (simp [plainName, overriddenIn]; done) | decide +kernel)) (fun m => ef_k5 m a1 a2 p4) ?_
  intro p e s m below meth c T0 C X0 e0
  have N0 := Fr.nil n0
  refine g_iloadN (pc' := 1) C X0 d8_0 rfl rfl ?_
  refine g_iloadN (pc' := 2) C X0 d8_1 rfl rfl ?_
  by_cases c1 : (5 : Int32) < p4
  · refine g_icmpY (pc' := 12) C X0 d8_2 (tlt c1).1 (by decide) (by decide) ?_
    refine g_aloadN (pc' := 13) C X0 d8_12 rfl rfl rfl ?_
    refine g_iloadN (pc' := 14) C X0 d8_13 rfl rfl ?_
    refine g_ldB (pc' := 15) (v := (.int x5)) C X0 d8_14 e0 V_a ⟨by decide, by decide⟩ rfl rfl ?_
    refine g_aloadN (pc' := 16) C X0 d8_15 rfl rfl rfl ?_
    refine g_iloadN (pc' := 17) C X0 d8_16 rfl rfl ?_
    refine g_ldB (pc' := 18) (v := (.int y5)) C X0 d8_17 e0 V_b ⟨by decide, by decide⟩ rfl rfl ?_
    by_cases c2 : x5 = y5
    · refine g_icmpN (pc' := 21) C X0 d8_18 (teq c2).2 rfl ?_
      refine g_iconst (pc' := 22) (v := (1 : Int32)) C X0 d8_21 rfl rfl ?_
      refine g_goto (pc' := 26) C X0 d8_22 (by decide) (by decide) ?_
      exact g_retN C X0 (by simp) d8_26 (by decide) (by decide) ⟨congrArg (fun z => some (Value.int z)) (Fk5_l0 p4 x5 y5 c1 c2).symm, N0, e0⟩
    · refine g_icmpY (pc' := 25) C X0 d8_18 (feq c2).2 (by decide) (by decide) ?_
      refine g_iconst (pc' := 26) (v := (0 : Int32)) C X0 d8_25 rfl rfl ?_
      exact g_retN C X0 (by simp) d8_26 (by decide) (by decide) ⟨congrArg (fun z => some (Value.int z)) (Fk5_l1 p4 x5 y5 c1 c2).symm, N0, e0⟩
  · refine g_icmpN (pc' := 5) C X0 d8_2 (flt c1).1 rfl ?_
    refine g_iloadN (pc' := 6) C X0 d8_5 rfl rfl ?_
    refine g_iloadN (pc' := 7) C X0 d8_6 rfl rfl ?_
    refine g_iconst (pc' := 8) (v := (4 : Int32)) C X0 d8_7 rfl rfl ?_
    refine g_iadd (pc' := 9) C X0 d8_8 rfl ?_
    by_cases c3 : (5 : Int32) < (p4 + (4 : Int32))
    · refine g_icmpY (pc' := 21) C X0 d8_9 (tlt c3).1 (by decide) (by decide) ?_
      refine g_iconst (pc' := 22) (v := (1 : Int32)) C X0 d8_21 rfl rfl ?_
      refine g_goto (pc' := 26) C X0 d8_22 (by decide) (by decide) ?_
      exact g_retN C X0 (by simp) d8_26 (by decide) (by decide) ⟨congrArg (fun z => some (Value.int z)) (Fk5_l2 p4 x5 y5 c1 c3).symm, N0, e0⟩
    · refine g_icmpN (pc' := 12) C X0 d8_9 (flt c3).1 rfl ?_
      refine g_aloadN (pc' := 13) C X0 d8_12 rfl rfl rfl ?_
      refine g_iloadN (pc' := 14) C X0 d8_13 rfl rfl ?_
      refine g_ldB (pc' := 15) (v := (.int x5)) C X0 d8_14 e0 V_a ⟨by decide, by decide⟩ rfl rfl ?_
      refine g_aloadN (pc' := 16) C X0 d8_15 rfl rfl rfl ?_
      refine g_iloadN (pc' := 17) C X0 d8_16 rfl rfl ?_
      refine g_ldB (pc' := 18) (v := (.int y5)) C X0 d8_17 e0 V_b ⟨by decide, by decide⟩ rfl rfl ?_
      by_cases c4 : x5 = y5
      · refine g_icmpN (pc' := 21) C X0 d8_18 (teq c4).2 rfl ?_
        refine g_iconst (pc' := 22) (v := (1 : Int32)) C X0 d8_21 rfl rfl ?_
        refine g_goto (pc' := 26) C X0 d8_22 (by decide) (by decide) ?_
        exact g_retN C X0 (by simp) d8_26 (by decide) (by decide) ⟨congrArg (fun z => some (Value.int z)) (Fk5_l3 p4 x5 y5 c1 c3 c4).symm, N0, e0⟩
      · refine g_icmpY (pc' := 25) C X0 d8_18 (feq c4).2 (by decide) (by decide) ?_
        refine g_iconst (pc' := 26) (v := (0 : Int32)) C X0 d8_25 rfl rfl ?_
        exact g_retN C X0 (by simp) d8_26 (by decide) (by decide) ⟨congrArg (fun z => some (Value.int z)) (Fk5_l4 p4 x5 y5 c1 c3 c4).symm, N0, e0⟩
def Fk6 (p4 : Int32) (x6 : Int32) (y6 : Int32) : Int32 := (if (6 : Int32) < p4 then (if x6 = y6 then (1 : Int32) else (0 : Int32)) else (if (6 : Int32) < (p4 + (4 : Int32)) then (1 : Int32) else (if x6 = y6 then (1 : Int32) else (0 : Int32))))
theorem Fk6_l0 (p4 : Int32) (x6 : Int32) (y6 : Int32) (h0 : (6 : Int32) < p4) (h1 : x6 = y6) : Fk6 p4 x6 y6 = (1 : Int32) := by
  unfold Fk6; rw [if_pos h0, if_pos h1]
theorem Fk6_l1 (p4 : Int32) (x6 : Int32) (y6 : Int32) (h0 : (6 : Int32) < p4) (h1 : ¬ (x6 = y6)) : Fk6 p4 x6 y6 = (0 : Int32) := by
  unfold Fk6; rw [if_pos h0, if_neg h1]
theorem Fk6_l2 (p4 : Int32) (x6 : Int32) (y6 : Int32) (h0 : ¬ ((6 : Int32) < p4)) (h1 : (6 : Int32) < (p4 + (4 : Int32))) : Fk6 p4 x6 y6 = (1 : Int32) := by
  unfold Fk6; rw [if_neg h0, if_pos h1]
theorem Fk6_l3 (p4 : Int32) (x6 : Int32) (y6 : Int32) (h0 : ¬ ((6 : Int32) < p4)) (h1 : ¬ ((6 : Int32) < (p4 + (4 : Int32)))) (h2 : x6 = y6) : Fk6 p4 x6 y6 = (1 : Int32) := by
  unfold Fk6; rw [if_neg h0, if_neg h1, if_pos h2]
theorem Fk6_l4 (p4 : Int32) (x6 : Int32) (y6 : Int32) (h0 : ¬ ((6 : Int32) < p4)) (h1 : ¬ ((6 : Int32) < (p4 + (4 : Int32)))) (h2 : ¬ (x6 = y6)) : Fk6 p4 x6 y6 = (0 : Int32) := by
  unfold Fk6; rw [if_neg h0, if_neg h1, if_neg h2]
theorem ef_k6 (m : MethodId) (a1 : Addr) (a2 : Addr) (p4 : Int32) : entryFrame m #[(.ref a1), (.ref a2), (.int (6 : Int32)), (.int p4)] 4 = mkF m 0 #[.val (.ref a1), .val (.ref a2), .val (.int (6 : Int32)), .val (.int p4)] [] := by first | (simp [entryFrame, mkF, argsToLocals, Value.category]; done) | rfl
def Q_k6 (Z : State) (a1 : Addr) (a2 : Addr) (p4 : Int32) (ka : ClassId) (kb : ClassId) (x0 : Int32) (x1 : Int32) (x2 : Int32) (x3 : Int32) (x4 : Int32) (x5 : Int32) (x6 : Int32) (x7 : Int32) (y0 : Int32) (y1 : Int32) (y2 : Int32) (y3 : Int32) (y4 : Int32) (y5 : Int32) (y6 : Int32) (y7 : Int32) (h0 : Heap) (n0 : Nat) (v : Option Value) (h : Heap) (L : List Loc) : Prop := v = some (.int (Fk6 p4 x6 y6)) ∧ Fr n0 L ∧ h = h0
set_option maxRecDepth 65536 in
set_option maxHeartbeats 40000000 in
theorem rmk6 (l : Launch) (Z : State) (a0 : Array Value) (hw : ∀ d ∈ tables_1, d.before a0 Z = true) (ws : List Jvm.Cond) (a1 : Addr) (a2 : Addr) (p4 : Int32) (ka : ClassId) (kb : ClassId) (x0 : Int32) (x1 : Int32) (x2 : Int32) (x3 : Int32) (x4 : Int32) (x5 : Int32) (x6 : Int32) (x7 : Int32) (y0 : Int32) (y1 : Int32) (y2 : Int32) (y3 : Int32) (y4 : Int32) (y5 : Int32) (y6 : Int32) (y7 : Int32) (h0 : Heap) (n0 : Nat) (V_a : Arv Z h0 a1 ka .byte (8 : Int32) [(.int x0), (.int x1), (.int x2), (.int x3), (.int x4), (.int x5), (.int x6), (.int x7)] (.int (0 : Int32))) (V_b : Arv Z h0 a2 kb .byte (8 : Int32) [(.int y0), (.int y1), (.int y2), (.int y3), (.int y4), (.int y5), (.int y6), (.int y7)] (.int (0 : Int32))) :
    MetFree l (⟨"com/example/caseloom/caseloom/store/ByteWriterSetIntPinLaw", "keep", "([B[BII)Z"⟩ : MethodName) (head1 (Jvm.Cond.code (⟨"com/example/caseloom/caseloom/store/ByteWriterSetIntPinLaw", "keep", "([B[BII)Z"⟩ : MethodName) method_3_code 4 (some .boolean) :: ws) ({ frames := 0, cells := 0, slots := 0, locals := 0 } : Room)) (fun a U => a = #[(.ref a1), (.ref a2), (.int (6 : Int32)), (.int p4)] ∧ Z.Warmed39 U.vm ∧ U.heap = h0) (fun _ _ _ _ _ => True) (fun _ U o U' => ∃ v L, o = .returned v ∧ Q_k6 Z a1 a2 p4 ka kb x0 x1 x2 x3 x4 x5 x6 x7 y0 y1 y2 y3 y4 y5 y6 y7 h0 n0 v U'.heap L ∧ FrameEnd U o U' L ({ frames := 0, cells := 0, slots := 0, locals := 0 } : Room).cells ({ frames := 0, cells := 0, slots := 0, locals := 0 } : Room).slots) := by
  refine met_of (Ls := #[.val (.ref a1), .val (.ref a2), .val (.int (6 : Int32)), .val (.int p4)]) (plainFor_of_name (by first | (simp [plainName, overriddenIn]; done) | decide +kernel)) (fun m => ef_k6 m a1 a2 p4) ?_
  intro p e s m below meth c T0 C X0 e0
  have N0 := Fr.nil n0
  refine g_iloadN (pc' := 1) C X0 d8_0 rfl rfl ?_
  refine g_iloadN (pc' := 2) C X0 d8_1 rfl rfl ?_
  by_cases c1 : (6 : Int32) < p4
  · refine g_icmpY (pc' := 12) C X0 d8_2 (tlt c1).1 (by decide) (by decide) ?_
    refine g_aloadN (pc' := 13) C X0 d8_12 rfl rfl rfl ?_
    refine g_iloadN (pc' := 14) C X0 d8_13 rfl rfl ?_
    refine g_ldB (pc' := 15) (v := (.int x6)) C X0 d8_14 e0 V_a ⟨by decide, by decide⟩ rfl rfl ?_
    refine g_aloadN (pc' := 16) C X0 d8_15 rfl rfl rfl ?_
    refine g_iloadN (pc' := 17) C X0 d8_16 rfl rfl ?_
    refine g_ldB (pc' := 18) (v := (.int y6)) C X0 d8_17 e0 V_b ⟨by decide, by decide⟩ rfl rfl ?_
    by_cases c2 : x6 = y6
    · refine g_icmpN (pc' := 21) C X0 d8_18 (teq c2).2 rfl ?_
      refine g_iconst (pc' := 22) (v := (1 : Int32)) C X0 d8_21 rfl rfl ?_
      refine g_goto (pc' := 26) C X0 d8_22 (by decide) (by decide) ?_
      exact g_retN C X0 (by simp) d8_26 (by decide) (by decide) ⟨congrArg (fun z => some (Value.int z)) (Fk6_l0 p4 x6 y6 c1 c2).symm, N0, e0⟩
    · refine g_icmpY (pc' := 25) C X0 d8_18 (feq c2).2 (by decide) (by decide) ?_
      refine g_iconst (pc' := 26) (v := (0 : Int32)) C X0 d8_25 rfl rfl ?_
      exact g_retN C X0 (by simp) d8_26 (by decide) (by decide) ⟨congrArg (fun z => some (Value.int z)) (Fk6_l1 p4 x6 y6 c1 c2).symm, N0, e0⟩
  · refine g_icmpN (pc' := 5) C X0 d8_2 (flt c1).1 rfl ?_
    refine g_iloadN (pc' := 6) C X0 d8_5 rfl rfl ?_
    refine g_iloadN (pc' := 7) C X0 d8_6 rfl rfl ?_
    refine g_iconst (pc' := 8) (v := (4 : Int32)) C X0 d8_7 rfl rfl ?_
    refine g_iadd (pc' := 9) C X0 d8_8 rfl ?_
    by_cases c3 : (6 : Int32) < (p4 + (4 : Int32))
    · refine g_icmpY (pc' := 21) C X0 d8_9 (tlt c3).1 (by decide) (by decide) ?_
      refine g_iconst (pc' := 22) (v := (1 : Int32)) C X0 d8_21 rfl rfl ?_
      refine g_goto (pc' := 26) C X0 d8_22 (by decide) (by decide) ?_
      exact g_retN C X0 (by simp) d8_26 (by decide) (by decide) ⟨congrArg (fun z => some (Value.int z)) (Fk6_l2 p4 x6 y6 c1 c3).symm, N0, e0⟩
    · refine g_icmpN (pc' := 12) C X0 d8_9 (flt c3).1 rfl ?_
      refine g_aloadN (pc' := 13) C X0 d8_12 rfl rfl rfl ?_
      refine g_iloadN (pc' := 14) C X0 d8_13 rfl rfl ?_
      refine g_ldB (pc' := 15) (v := (.int x6)) C X0 d8_14 e0 V_a ⟨by decide, by decide⟩ rfl rfl ?_
      refine g_aloadN (pc' := 16) C X0 d8_15 rfl rfl rfl ?_
      refine g_iloadN (pc' := 17) C X0 d8_16 rfl rfl ?_
      refine g_ldB (pc' := 18) (v := (.int y6)) C X0 d8_17 e0 V_b ⟨by decide, by decide⟩ rfl rfl ?_
      by_cases c4 : x6 = y6
      · refine g_icmpN (pc' := 21) C X0 d8_18 (teq c4).2 rfl ?_
        refine g_iconst (pc' := 22) (v := (1 : Int32)) C X0 d8_21 rfl rfl ?_
        refine g_goto (pc' := 26) C X0 d8_22 (by decide) (by decide) ?_
        exact g_retN C X0 (by simp) d8_26 (by decide) (by decide) ⟨congrArg (fun z => some (Value.int z)) (Fk6_l3 p4 x6 y6 c1 c3 c4).symm, N0, e0⟩
      · refine g_icmpY (pc' := 25) C X0 d8_18 (feq c4).2 (by decide) (by decide) ?_
        refine g_iconst (pc' := 26) (v := (0 : Int32)) C X0 d8_25 rfl rfl ?_
        exact g_retN C X0 (by simp) d8_26 (by decide) (by decide) ⟨congrArg (fun z => some (Value.int z)) (Fk6_l4 p4 x6 y6 c1 c3 c4).symm, N0, e0⟩
def Fk7 (p4 : Int32) (x7 : Int32) (y7 : Int32) : Int32 := (if (7 : Int32) < p4 then (if x7 = y7 then (1 : Int32) else (0 : Int32)) else (if (7 : Int32) < (p4 + (4 : Int32)) then (1 : Int32) else (if x7 = y7 then (1 : Int32) else (0 : Int32))))
theorem Fk7_l0 (p4 : Int32) (x7 : Int32) (y7 : Int32) (h0 : (7 : Int32) < p4) (h1 : x7 = y7) : Fk7 p4 x7 y7 = (1 : Int32) := by
  unfold Fk7; rw [if_pos h0, if_pos h1]
theorem Fk7_l1 (p4 : Int32) (x7 : Int32) (y7 : Int32) (h0 : (7 : Int32) < p4) (h1 : ¬ (x7 = y7)) : Fk7 p4 x7 y7 = (0 : Int32) := by
  unfold Fk7; rw [if_pos h0, if_neg h1]
theorem Fk7_l2 (p4 : Int32) (x7 : Int32) (y7 : Int32) (h0 : ¬ ((7 : Int32) < p4)) (h1 : (7 : Int32) < (p4 + (4 : Int32))) : Fk7 p4 x7 y7 = (1 : Int32) := by
  unfold Fk7; rw [if_neg h0, if_pos h1]
theorem Fk7_l3 (p4 : Int32) (x7 : Int32) (y7 : Int32) (h0 : ¬ ((7 : Int32) < p4)) (h1 : ¬ ((7 : Int32) < (p4 + (4 : Int32)))) (h2 : x7 = y7) : Fk7 p4 x7 y7 = (1 : Int32) := by
  unfold Fk7; rw [if_neg h0, if_neg h1, if_pos h2]
theorem Fk7_l4 (p4 : Int32) (x7 : Int32) (y7 : Int32) (h0 : ¬ ((7 : Int32) < p4)) (h1 : ¬ ((7 : Int32) < (p4 + (4 : Int32)))) (h2 : ¬ (x7 = y7)) : Fk7 p4 x7 y7 = (0 : Int32) := by
  unfold Fk7; rw [if_neg h0, if_neg h1, if_neg h2]
theorem ef_k7 (m : MethodId) (a1 : Addr) (a2 : Addr) (p4 : Int32) : entryFrame m #[(.ref a1), (.ref a2), (.int (7 : Int32)), (.int p4)] 4 = mkF m 0 #[.val (.ref a1), .val (.ref a2), .val (.int (7 : Int32)), .val (.int p4)] [] := by first | (simp [entryFrame, mkF, argsToLocals, Value.category]; done) | rfl
def Q_k7 (Z : State) (a1 : Addr) (a2 : Addr) (p4 : Int32) (ka : ClassId) (kb : ClassId) (x0 : Int32) (x1 : Int32) (x2 : Int32) (x3 : Int32) (x4 : Int32) (x5 : Int32) (x6 : Int32) (x7 : Int32) (y0 : Int32) (y1 : Int32) (y2 : Int32) (y3 : Int32) (y4 : Int32) (y5 : Int32) (y6 : Int32) (y7 : Int32) (h0 : Heap) (n0 : Nat) (v : Option Value) (h : Heap) (L : List Loc) : Prop := v = some (.int (Fk7 p4 x7 y7)) ∧ Fr n0 L ∧ h = h0
set_option maxRecDepth 65536 in
set_option maxHeartbeats 40000000 in
theorem rmk7 (l : Launch) (Z : State) (a0 : Array Value) (hw : ∀ d ∈ tables_1, d.before a0 Z = true) (ws : List Jvm.Cond) (a1 : Addr) (a2 : Addr) (p4 : Int32) (ka : ClassId) (kb : ClassId) (x0 : Int32) (x1 : Int32) (x2 : Int32) (x3 : Int32) (x4 : Int32) (x5 : Int32) (x6 : Int32) (x7 : Int32) (y0 : Int32) (y1 : Int32) (y2 : Int32) (y3 : Int32) (y4 : Int32) (y5 : Int32) (y6 : Int32) (y7 : Int32) (h0 : Heap) (n0 : Nat) (V_a : Arv Z h0 a1 ka .byte (8 : Int32) [(.int x0), (.int x1), (.int x2), (.int x3), (.int x4), (.int x5), (.int x6), (.int x7)] (.int (0 : Int32))) (V_b : Arv Z h0 a2 kb .byte (8 : Int32) [(.int y0), (.int y1), (.int y2), (.int y3), (.int y4), (.int y5), (.int y6), (.int y7)] (.int (0 : Int32))) :
    MetFree l (⟨"com/example/caseloom/caseloom/store/ByteWriterSetIntPinLaw", "keep", "([B[BII)Z"⟩ : MethodName) (head1 (Jvm.Cond.code (⟨"com/example/caseloom/caseloom/store/ByteWriterSetIntPinLaw", "keep", "([B[BII)Z"⟩ : MethodName) method_3_code 4 (some .boolean) :: ws) ({ frames := 0, cells := 0, slots := 0, locals := 0 } : Room)) (fun a U => a = #[(.ref a1), (.ref a2), (.int (7 : Int32)), (.int p4)] ∧ Z.Warmed39 U.vm ∧ U.heap = h0) (fun _ _ _ _ _ => True) (fun _ U o U' => ∃ v L, o = .returned v ∧ Q_k7 Z a1 a2 p4 ka kb x0 x1 x2 x3 x4 x5 x6 x7 y0 y1 y2 y3 y4 y5 y6 y7 h0 n0 v U'.heap L ∧ FrameEnd U o U' L ({ frames := 0, cells := 0, slots := 0, locals := 0 } : Room).cells ({ frames := 0, cells := 0, slots := 0, locals := 0 } : Room).slots) := by
  refine met_of (Ls := #[.val (.ref a1), .val (.ref a2), .val (.int (7 : Int32)), .val (.int p4)]) (plainFor_of_name (by first | (simp [plainName, overriddenIn]; done) | decide +kernel)) (fun m => ef_k7 m a1 a2 p4) ?_
  intro p e s m below meth c T0 C X0 e0
  have N0 := Fr.nil n0
  refine g_iloadN (pc' := 1) C X0 d8_0 rfl rfl ?_
  refine g_iloadN (pc' := 2) C X0 d8_1 rfl rfl ?_
  by_cases c1 : (7 : Int32) < p4
  · refine g_icmpY (pc' := 12) C X0 d8_2 (tlt c1).1 (by decide) (by decide) ?_
    refine g_aloadN (pc' := 13) C X0 d8_12 rfl rfl rfl ?_
    refine g_iloadN (pc' := 14) C X0 d8_13 rfl rfl ?_
    refine g_ldB (pc' := 15) (v := (.int x7)) C X0 d8_14 e0 V_a ⟨by decide, by decide⟩ rfl rfl ?_
    refine g_aloadN (pc' := 16) C X0 d8_15 rfl rfl rfl ?_
    refine g_iloadN (pc' := 17) C X0 d8_16 rfl rfl ?_
    refine g_ldB (pc' := 18) (v := (.int y7)) C X0 d8_17 e0 V_b ⟨by decide, by decide⟩ rfl rfl ?_
    by_cases c2 : x7 = y7
    · refine g_icmpN (pc' := 21) C X0 d8_18 (teq c2).2 rfl ?_
      refine g_iconst (pc' := 22) (v := (1 : Int32)) C X0 d8_21 rfl rfl ?_
      refine g_goto (pc' := 26) C X0 d8_22 (by decide) (by decide) ?_
      exact g_retN C X0 (by simp) d8_26 (by decide) (by decide) ⟨congrArg (fun z => some (Value.int z)) (Fk7_l0 p4 x7 y7 c1 c2).symm, N0, e0⟩
    · refine g_icmpY (pc' := 25) C X0 d8_18 (feq c2).2 (by decide) (by decide) ?_
      refine g_iconst (pc' := 26) (v := (0 : Int32)) C X0 d8_25 rfl rfl ?_
      exact g_retN C X0 (by simp) d8_26 (by decide) (by decide) ⟨congrArg (fun z => some (Value.int z)) (Fk7_l1 p4 x7 y7 c1 c2).symm, N0, e0⟩
  · refine g_icmpN (pc' := 5) C X0 d8_2 (flt c1).1 rfl ?_
    refine g_iloadN (pc' := 6) C X0 d8_5 rfl rfl ?_
    refine g_iloadN (pc' := 7) C X0 d8_6 rfl rfl ?_
    refine g_iconst (pc' := 8) (v := (4 : Int32)) C X0 d8_7 rfl rfl ?_
    refine g_iadd (pc' := 9) C X0 d8_8 rfl ?_
    by_cases c3 : (7 : Int32) < (p4 + (4 : Int32))
    · refine g_icmpY (pc' := 21) C X0 d8_9 (tlt c3).1 (by decide) (by decide) ?_
      refine g_iconst (pc' := 22) (v := (1 : Int32)) C X0 d8_21 rfl rfl ?_
      refine g_goto (pc' := 26) C X0 d8_22 (by decide) (by decide) ?_
      exact g_retN C X0 (by simp) d8_26 (by decide) (by decide) ⟨congrArg (fun z => some (Value.int z)) (Fk7_l2 p4 x7 y7 c1 c3).symm, N0, e0⟩
    · refine g_icmpN (pc' := 12) C X0 d8_9 (flt c3).1 rfl ?_
      refine g_aloadN (pc' := 13) C X0 d8_12 rfl rfl rfl ?_
      refine g_iloadN (pc' := 14) C X0 d8_13 rfl rfl ?_
      refine g_ldB (pc' := 15) (v := (.int x7)) C X0 d8_14 e0 V_a ⟨by decide, by decide⟩ rfl rfl ?_
      refine g_aloadN (pc' := 16) C X0 d8_15 rfl rfl rfl ?_
      refine g_iloadN (pc' := 17) C X0 d8_16 rfl rfl ?_
      refine g_ldB (pc' := 18) (v := (.int y7)) C X0 d8_17 e0 V_b ⟨by decide, by decide⟩ rfl rfl ?_
      by_cases c4 : x7 = y7
      · refine g_icmpN (pc' := 21) C X0 d8_18 (teq c4).2 rfl ?_
        refine g_iconst (pc' := 22) (v := (1 : Int32)) C X0 d8_21 rfl rfl ?_
        refine g_goto (pc' := 26) C X0 d8_22 (by decide) (by decide) ?_
        exact g_retN C X0 (by simp) d8_26 (by decide) (by decide) ⟨congrArg (fun z => some (Value.int z)) (Fk7_l3 p4 x7 y7 c1 c3 c4).symm, N0, e0⟩
      · refine g_icmpY (pc' := 25) C X0 d8_18 (feq c4).2 (by decide) (by decide) ?_
        refine g_iconst (pc' := 26) (v := (0 : Int32)) C X0 d8_25 rfl rfl ?_
        exact g_retN C X0 (by simp) d8_26 (by decide) (by decide) ⟨congrArg (fun z => some (Value.int z)) (Fk7_l4 p4 x7 y7 c1 c3 c4).symm, N0, e0⟩
theorem own_five (p : Int32) : ((p &&& (2147483647 : Int32)) % (5 : Int32)) = (0 : Int32) ∨ ((p &&& (2147483647 : Int32)) % (5 : Int32)) = (1 : Int32) ∨ ((p &&& (2147483647 : Int32)) % (5 : Int32)) = (2 : Int32) ∨ ((p &&& (2147483647 : Int32)) % (5 : Int32)) = (3 : Int32) ∨ ((p &&& (2147483647 : Int32)) % (5 : Int32)) = (4 : Int32) := by
  have e : (p &&& (2147483647 : Int32)).toInt = p.toInt % (2 ^ 31 : Nat) := c_mask p _ 31 (by decide) (by decide)
  have r := (c_irem (p &&& (2147483647 : Int32)) (5 : Int32) 5 (by decide)).1 (by omega)
  obtain ⟨i, hi⟩ := own_fin 5 ((p &&& (2147483647 : Int32)) % (5 : Int32)) (by omega) (by omega)
  rw [hi]; clear hi; revert i; decide
theorem own_byte (x : Int32) : ((nar .byte x.toInt8.toInt32) &&& (255 : Int32)).toInt = x.toInt % 256 := by
  have e : ((nar .byte x.toInt8.toInt32) &&& (255 : Int32)).toInt = (nar .byte x.toInt8.toInt32).toInt % (2 ^ 8 : Nat) := c_mask _ _ 8 (by decide) (by decide)
  have a := c_i2b x
  have b := c_i2b x.toInt8.toInt32
  have c : (nar .byte x.toInt8.toInt32).toInt = x.toInt8.toInt32.toInt8.toInt32.toInt := rfl
  omega
theorem own_got (p3 : Int32) : ((((((nar .byte ((p3.toUInt32 >>> ((24 : Int32) &&& 31).toUInt32).toInt32).toInt8.toInt32) &&& (255 : Int32)) <<< ((24 : Int32) &&& 31)) ||| (((nar .byte ((p3.toUInt32 >>> ((16 : Int32) &&& 31).toUInt32).toInt32).toInt8.toInt32) &&& (255 : Int32)) <<< ((16 : Int32) &&& 31))) ||| (((nar .byte ((p3.toUInt32 >>> ((8 : Int32) &&& 31).toUInt32).toInt32).toInt8.toInt32) &&& (255 : Int32)) <<< ((8 : Int32) &&& 31))) ||| ((nar .byte p3.toInt8.toInt32) &&& (255 : Int32))) = p3 := by
  have b3 := own_byte ((p3.toUInt32 >>> ((24 : Int32) &&& 31).toUInt32).toInt32)
  have b2 := own_byte ((p3.toUInt32 >>> ((16 : Int32) &&& 31).toUInt32).toInt32)
  have b1 := own_byte ((p3.toUInt32 >>> ((8 : Int32) &&& 31).toUInt32).toInt32)
  have b0 := own_byte p3
  have s3 := c_iushr p3 (24 : Int32) 24 (by decide) (by decide)
  have s2 := c_iushr p3 (16 : Int32) 16 (by decide) (by decide)
  have s1 := c_iushr p3 (8 : Int32) 8 (by decide) (by decide)
  generalize ((nar .byte ((p3.toUInt32 >>> ((24 : Int32) &&& 31).toUInt32).toInt32).toInt8.toInt32) &&& (255 : Int32)) = B3 at *
  generalize ((nar .byte ((p3.toUInt32 >>> ((16 : Int32) &&& 31).toUInt32).toInt32).toInt8.toInt32) &&& (255 : Int32)) = B2 at *
  generalize ((nar .byte ((p3.toUInt32 >>> ((8 : Int32) &&& 31).toUInt32).toInt32).toInt8.toInt32) &&& (255 : Int32)) = B1 at *
  generalize ((nar .byte p3.toInt8.toInt32) &&& (255 : Int32)) = B0 at *
  have l3 := c_ishl B3 (24 : Int32) 24 (by decide)
  have l2 := c_ishl B2 (16 : Int32) 16 (by decide)
  have l1 := c_ishl B1 (8 : Int32) 8 (by decide)
  have r3 := rng32 (B3 <<< ((24 : Int32) &&& 31))
  have r2 := rng32 (B2 <<< ((16 : Int32) &&& 31))
  have r1 := rng32 (B1 <<< ((8 : Int32) &&& 31))
  have rp := rng32 p3
  generalize B3 <<< ((24 : Int32) &&& 31) = C3 at *
  generalize B2 <<< ((16 : Int32) &&& 31) = C2 at *
  generalize B1 <<< ((8 : Int32) &&& 31) = C1 at *
  have o1 := c_or C3 C2 24 (by decide) 16777216 (by decide) (by omega) (by omega) (by omega)
  have q1 := rng32 (C3 ||| C2)
  generalize C3 ||| C2 = D1 at *
  have o2 := c_or D1 C1 16 (by decide) 65536 (by decide) (by omega) (by omega) (by omega)
  have q2 := rng32 (D1 ||| C1)
  generalize D1 ||| C1 = D2 at *
  have o3 := c_or D2 B0 8 (by decide) 256 (by decide) (by omega) (by omega) (by omega)
  have q3 := rng32 (D2 ||| B0)
  apply Int32.toInt_inj.mp
  omega
theorem pd_1 : parseMethodDescriptor "([B)Lcom/example/caseloom/caseloom/store/ByteWriter;" = some ⟨[(.array .byte)], some (.object "com/example/caseloom/caseloom/store/ByteWriter")⟩ := by decide +kernel
theorem pd_2 : parseMethodDescriptor "(II)V" = some ⟨[.int, .int], none⟩ := by decide +kernel
theorem pd_3 : parseMethodDescriptor "()[B" = some ⟨[], some (.array .byte)⟩ := by decide +kernel
theorem pd_4 : parseMethodDescriptor "()I" = some ⟨[], some .int⟩ := by decide +kernel
theorem pd_5 : parseMethodDescriptor "([B[BII)Z" = some ⟨[(.array .byte), (.array .byte), .int, .int], some .boolean⟩ := by decide +kernel
theorem ef_0 (m : MethodId) (q1 : Int64) (p2 : Int32) (p3 : Int32) : entryFrame m #[(.long q1), (.int p2), (.int p3)] maxLocals = mkF m 0 #[.val (.long q1), .second, .val (.int p2), .val (.int p3), .unset, .unset, .unset, .unset, .unset] [] := by first | (simp [entryFrame, mkF, argsToLocals, Value.category, maxLocals]; done) | rfl
def Q_0 (Z : State) (q1 : Int64) (p2 : Int32) (p3 : Int32) (h0 : Heap) (n0 : Nat) (v : Option Value) (h : Heap) (L : List Loc) : Prop := v = some (.int 1) ∧ Fr n0 L
set_option maxRecDepth 65536 in
set_option maxHeartbeats 40000000 in
theorem rm0 (l : Launch) (Z : State) (a0 : Array Value) (hw : ∀ d ∈ tables_1, d.before a0 Z = true) (ws : List Jvm.Cond) (q1 : Int64) (p2 : Int32) (p3 : Int32) (h0 : Heap) (n0 : Nat) (Z0 : n0 ≤ h0.size) :
    MetFree l x (head1 (Jvm.Cond.code x code maxLocals ret :: ws) room_1) (fun a U => a = #[(.long q1), (.int p2), (.int p3)] ∧ Z.Warmed39 U.vm ∧ U.heap = h0) (fun _ _ _ _ _ => True) (fun _ U o U' => ∃ v L, o = .returned v ∧ Q_0 Z q1 p2 p3 h0 n0 v U'.heap L ∧ FrameEnd U o U' L 4 19) := by
  refine met_of (Ls := #[.val (.long q1), .second, .val (.int p2), .val (.int p3), .unset, .unset, .unset, .unset, .unset]) (plainFor_of_name (by first | (simp [plainName, overriddenIn]; done) | decide +kernel)) (fun m => ef_0 m q1 p2 p3) ?_
  intro p e s m below meth c T0 C X0 e0
  have N0 := Fr.nil n0
  refine g_iloadN (pc' := 1) C X0 at_0 rfl rfl ?_
  refine g_ldc (pc' := 3) (v := (2147483647 : Int32)) C X0 at_1 (hw _ (List.mem_of_getElem? (i := 0) rfl)) rfl ?_
  refine g_iand (pc' := 4) C X0 at_3 rfl ?_
  refine g_iconst (pc' := 5) (v := (5 : Int32)) C X0 at_4 rfl rfl ?_
  refine g_irem (pc' := 6) C X0 at_5 (by decide) rfl ?_
  refine g_istore (pc' := 8) (Ls' := #[.val (.long q1), .second, .val (.int p2), .val (.int p3), .val (.int ((p2 &&& (2147483647 : Int32)) % (5 : Int32))), .unset, .unset, .unset, .unset]) C X0 at_6 rfl rfl ?_
  refine g_bipush (pc' := 10) (v := (8 : Int32)) C X0 at_8 rfl rfl ?_
  refine g_newP (pc' := 12) (cap := 8) C X0 at_10 (hw _ (List.mem_of_getElem? (i := 1) rfl)) e0 (by decide) (by decide) (by decide) (ce := 1) (sl := 8) rfl rfl (by decide) (by decide) rfl (fun T1 h1 b1 k1 g1 X1 e1 E1 A1 => ?_)
  have gn_b1 : n0 ≤ b1 := Nat.le_trans Z0 (Nat.le_of_eq g1.symm)
  have Z1 := Nat.le_trans Z0 E1.1
  have V1 : Arv Z h1 b1 k1 .byte (8 : Int32) [(.int (0 : Int32)), (.int (0 : Int32)), (.int (0 : Int32)), (.int (0 : Int32)), (.int (0 : Int32)), (.int (0 : Int32)), (.int (0 : Int32)), (.int (0 : Int32))] (.int (0 : Int32)) := A1.pad (pad_rep [] (.int (0 : Int32)) 8)
  refine g_astore (pc' := 14) (Ls' := #[.val (.long q1), .second, .val (.int p2), .val (.int p3), .val (.int ((p2 &&& (2147483647 : Int32)) % (5 : Int32))), .val (.ref b1), .unset, .unset, .unset]) C X1 at_12 rfl rfl rfl ?_
  refine g_aload (pc' := 16) C X1 at_14 rfl rfl rfl ?_
  refine g_iconst (pc' := 17) (v := (0 : Int32)) C X1 at_16 rfl rfl ?_
  refine g_lloadN (pc' := 18) C X1 at_17 rfl rfl ?_
  refine g_bipush (pc' := 20) (v := (56 : Int32)) C X1 at_18 rfl rfl ?_
  refine g_lushr (pc' := 21) C X1 at_20 rfl ?_
  refine g_l2i (pc' := 22) C X1 at_21 rfl ?_
  refine g_i2b (pc' := 23) C X1 at_22 rfl ?_
  refine g_stB (pc' := 24) (i := 0) C X1 at_23 e1 V1 ⟨by decide, by decide⟩ rfl (show (0 : Nat) < 8 from by decide) rfl (fun T2 h2 X2 e2 W2 V2q => ?_)
  have V2 : Arv Z h2 b1 k1 .byte (8 : Int32) [(.int (nar .byte ((q1.toUInt64 >>> ((56 : Int32) &&& 0x3f).toInt64.toUInt64).toInt64).toInt32.toInt8.toInt32)), (.int (0 : Int32)), (.int (0 : Int32)), (.int (0 : Int32)), (.int (0 : Int32)), (.int (0 : Int32)), (.int (0 : Int32)), (.int (0 : Int32))] (.int (0 : Int32)) := V2q
  have Z2 := Nat.le_trans Z1 (Nat.le_of_eq W2.size.symm)
  have N2 := Fr.snoc X2 N0 gn_b1
  refine g_aload (pc' := 26) C X2 at_24 rfl rfl rfl ?_
  refine g_iconst (pc' := 27) (v := (1 : Int32)) C X2 at_26 rfl rfl ?_
  refine g_lloadN (pc' := 28) C X2 at_27 rfl rfl ?_
  refine g_bipush (pc' := 30) (v := (48 : Int32)) C X2 at_28 rfl rfl ?_
  refine g_lushr (pc' := 31) C X2 at_30 rfl ?_
  refine g_l2i (pc' := 32) C X2 at_31 rfl ?_
  refine g_i2b (pc' := 33) C X2 at_32 rfl ?_
  refine g_stB (pc' := 34) (i := 1) C X2 at_33 e2 V2 ⟨by decide, by decide⟩ rfl (show (1 : Nat) < 8 from by decide) rfl (fun T3 h3 X3 e3 W3 V3q => ?_)
  have V3 : Arv Z h3 b1 k1 .byte (8 : Int32) [(.int (nar .byte ((q1.toUInt64 >>> ((56 : Int32) &&& 0x3f).toInt64.toUInt64).toInt64).toInt32.toInt8.toInt32)), (.int (nar .byte ((q1.toUInt64 >>> ((48 : Int32) &&& 0x3f).toInt64.toUInt64).toInt64).toInt32.toInt8.toInt32)), (.int (0 : Int32)), (.int (0 : Int32)), (.int (0 : Int32)), (.int (0 : Int32)), (.int (0 : Int32)), (.int (0 : Int32))] (.int (0 : Int32)) := V3q
  have Z3 := Nat.le_trans Z2 (Nat.le_of_eq W3.size.symm)
  have N3 := Fr.snoc X3 N2 gn_b1
  refine g_aload (pc' := 36) C X3 at_34 rfl rfl rfl ?_
  refine g_iconst (pc' := 37) (v := (2 : Int32)) C X3 at_36 rfl rfl ?_
  refine g_lloadN (pc' := 38) C X3 at_37 rfl rfl ?_
  refine g_bipush (pc' := 40) (v := (40 : Int32)) C X3 at_38 rfl rfl ?_
  refine g_lushr (pc' := 41) C X3 at_40 rfl ?_
  refine g_l2i (pc' := 42) C X3 at_41 rfl ?_
  refine g_i2b (pc' := 43) C X3 at_42 rfl ?_
  refine g_stB (pc' := 44) (i := 2) C X3 at_43 e3 V3 ⟨by decide, by decide⟩ rfl (show (2 : Nat) < 8 from by decide) rfl (fun T4 h4 X4 e4 W4 V4q => ?_)
  have V4 : Arv Z h4 b1 k1 .byte (8 : Int32) [(.int (nar .byte ((q1.toUInt64 >>> ((56 : Int32) &&& 0x3f).toInt64.toUInt64).toInt64).toInt32.toInt8.toInt32)), (.int (nar .byte ((q1.toUInt64 >>> ((48 : Int32) &&& 0x3f).toInt64.toUInt64).toInt64).toInt32.toInt8.toInt32)), (.int (nar .byte ((q1.toUInt64 >>> ((40 : Int32) &&& 0x3f).toInt64.toUInt64).toInt64).toInt32.toInt8.toInt32)), (.int (0 : Int32)), (.int (0 : Int32)), (.int (0 : Int32)), (.int (0 : Int32)), (.int (0 : Int32))] (.int (0 : Int32)) := V4q
  have Z4 := Nat.le_trans Z3 (Nat.le_of_eq W4.size.symm)
  have N4 := Fr.snoc X4 N3 gn_b1
  refine g_aload (pc' := 46) C X4 at_44 rfl rfl rfl ?_
  refine g_iconst (pc' := 47) (v := (3 : Int32)) C X4 at_46 rfl rfl ?_
  refine g_lloadN (pc' := 48) C X4 at_47 rfl rfl ?_
  refine g_bipush (pc' := 50) (v := (32 : Int32)) C X4 at_48 rfl rfl ?_
  refine g_lushr (pc' := 51) C X4 at_50 rfl ?_
  refine g_l2i (pc' := 52) C X4 at_51 rfl ?_
  refine g_i2b (pc' := 53) C X4 at_52 rfl ?_
  refine g_stB (pc' := 54) (i := 3) C X4 at_53 e4 V4 ⟨by decide, by decide⟩ rfl (show (3 : Nat) < 8 from by decide) rfl (fun T5 h5 X5 e5 W5 V5q => ?_)
  have V5 : Arv Z h5 b1 k1 .byte (8 : Int32) [(.int (nar .byte ((q1.toUInt64 >>> ((56 : Int32) &&& 0x3f).toInt64.toUInt64).toInt64).toInt32.toInt8.toInt32)), (.int (nar .byte ((q1.toUInt64 >>> ((48 : Int32) &&& 0x3f).toInt64.toUInt64).toInt64).toInt32.toInt8.toInt32)), (.int (nar .byte ((q1.toUInt64 >>> ((40 : Int32) &&& 0x3f).toInt64.toUInt64).toInt64).toInt32.toInt8.toInt32)), (.int (nar .byte ((q1.toUInt64 >>> ((32 : Int32) &&& 0x3f).toInt64.toUInt64).toInt64).toInt32.toInt8.toInt32)), (.int (0 : Int32)), (.int (0 : Int32)), (.int (0 : Int32)), (.int (0 : Int32))] (.int (0 : Int32)) := V5q
  have Z5 := Nat.le_trans Z4 (Nat.le_of_eq W5.size.symm)
  have N5 := Fr.snoc X5 N4 gn_b1
  refine g_aload (pc' := 56) C X5 at_54 rfl rfl rfl ?_
  refine g_iconst (pc' := 57) (v := (4 : Int32)) C X5 at_56 rfl rfl ?_
  refine g_lloadN (pc' := 58) C X5 at_57 rfl rfl ?_
  refine g_bipush (pc' := 60) (v := (24 : Int32)) C X5 at_58 rfl rfl ?_
  refine g_lushr (pc' := 61) C X5 at_60 rfl ?_
  refine g_l2i (pc' := 62) C X5 at_61 rfl ?_
  refine g_i2b (pc' := 63) C X5 at_62 rfl ?_
  refine g_stB (pc' := 64) (i := 4) C X5 at_63 e5 V5 ⟨by decide, by decide⟩ rfl (show (4 : Nat) < 8 from by decide) rfl (fun T6 h6 X6 e6 W6 V6q => ?_)
  have V6 : Arv Z h6 b1 k1 .byte (8 : Int32) [(.int (nar .byte ((q1.toUInt64 >>> ((56 : Int32) &&& 0x3f).toInt64.toUInt64).toInt64).toInt32.toInt8.toInt32)), (.int (nar .byte ((q1.toUInt64 >>> ((48 : Int32) &&& 0x3f).toInt64.toUInt64).toInt64).toInt32.toInt8.toInt32)), (.int (nar .byte ((q1.toUInt64 >>> ((40 : Int32) &&& 0x3f).toInt64.toUInt64).toInt64).toInt32.toInt8.toInt32)), (.int (nar .byte ((q1.toUInt64 >>> ((32 : Int32) &&& 0x3f).toInt64.toUInt64).toInt64).toInt32.toInt8.toInt32)), (.int (nar .byte ((q1.toUInt64 >>> ((24 : Int32) &&& 0x3f).toInt64.toUInt64).toInt64).toInt32.toInt8.toInt32)), (.int (0 : Int32)), (.int (0 : Int32)), (.int (0 : Int32))] (.int (0 : Int32)) := V6q
  have Z6 := Nat.le_trans Z5 (Nat.le_of_eq W6.size.symm)
  have N6 := Fr.snoc X6 N5 gn_b1
  refine g_aload (pc' := 66) C X6 at_64 rfl rfl rfl ?_
  refine g_iconst (pc' := 67) (v := (5 : Int32)) C X6 at_66 rfl rfl ?_
  refine g_lloadN (pc' := 68) C X6 at_67 rfl rfl ?_
  refine g_bipush (pc' := 70) (v := (16 : Int32)) C X6 at_68 rfl rfl ?_
  refine g_lushr (pc' := 71) C X6 at_70 rfl ?_
  refine g_l2i (pc' := 72) C X6 at_71 rfl ?_
  refine g_i2b (pc' := 73) C X6 at_72 rfl ?_
  refine g_stB (pc' := 74) (i := 5) C X6 at_73 e6 V6 ⟨by decide, by decide⟩ rfl (show (5 : Nat) < 8 from by decide) rfl (fun T7 h7 X7 e7 W7 V7q => ?_)
  have V7 : Arv Z h7 b1 k1 .byte (8 : Int32) [(.int (nar .byte ((q1.toUInt64 >>> ((56 : Int32) &&& 0x3f).toInt64.toUInt64).toInt64).toInt32.toInt8.toInt32)), (.int (nar .byte ((q1.toUInt64 >>> ((48 : Int32) &&& 0x3f).toInt64.toUInt64).toInt64).toInt32.toInt8.toInt32)), (.int (nar .byte ((q1.toUInt64 >>> ((40 : Int32) &&& 0x3f).toInt64.toUInt64).toInt64).toInt32.toInt8.toInt32)), (.int (nar .byte ((q1.toUInt64 >>> ((32 : Int32) &&& 0x3f).toInt64.toUInt64).toInt64).toInt32.toInt8.toInt32)), (.int (nar .byte ((q1.toUInt64 >>> ((24 : Int32) &&& 0x3f).toInt64.toUInt64).toInt64).toInt32.toInt8.toInt32)), (.int (nar .byte ((q1.toUInt64 >>> ((16 : Int32) &&& 0x3f).toInt64.toUInt64).toInt64).toInt32.toInt8.toInt32)), (.int (0 : Int32)), (.int (0 : Int32))] (.int (0 : Int32)) := V7q
  have Z7 := Nat.le_trans Z6 (Nat.le_of_eq W7.size.symm)
  have N7 := Fr.snoc X7 N6 gn_b1
  refine g_aload (pc' := 76) C X7 at_74 rfl rfl rfl ?_
  refine g_bipush (pc' := 78) (v := (6 : Int32)) C X7 at_76 rfl rfl ?_
  refine g_lloadN (pc' := 79) C X7 at_78 rfl rfl ?_
  refine g_bipush (pc' := 81) (v := (8 : Int32)) C X7 at_79 rfl rfl ?_
  refine g_lushr (pc' := 82) C X7 at_81 rfl ?_
  refine g_l2i (pc' := 83) C X7 at_82 rfl ?_
  refine g_i2b (pc' := 84) C X7 at_83 rfl ?_
  refine g_stB (pc' := 85) (i := 6) C X7 at_84 e7 V7 ⟨by decide, by decide⟩ rfl (show (6 : Nat) < 8 from by decide) rfl (fun T8 h8 X8 e8 W8 V8q => ?_)
  have V8 : Arv Z h8 b1 k1 .byte (8 : Int32) [(.int (nar .byte ((q1.toUInt64 >>> ((56 : Int32) &&& 0x3f).toInt64.toUInt64).toInt64).toInt32.toInt8.toInt32)), (.int (nar .byte ((q1.toUInt64 >>> ((48 : Int32) &&& 0x3f).toInt64.toUInt64).toInt64).toInt32.toInt8.toInt32)), (.int (nar .byte ((q1.toUInt64 >>> ((40 : Int32) &&& 0x3f).toInt64.toUInt64).toInt64).toInt32.toInt8.toInt32)), (.int (nar .byte ((q1.toUInt64 >>> ((32 : Int32) &&& 0x3f).toInt64.toUInt64).toInt64).toInt32.toInt8.toInt32)), (.int (nar .byte ((q1.toUInt64 >>> ((24 : Int32) &&& 0x3f).toInt64.toUInt64).toInt64).toInt32.toInt8.toInt32)), (.int (nar .byte ((q1.toUInt64 >>> ((16 : Int32) &&& 0x3f).toInt64.toUInt64).toInt64).toInt32.toInt8.toInt32)), (.int (nar .byte ((q1.toUInt64 >>> ((8 : Int32) &&& 0x3f).toInt64.toUInt64).toInt64).toInt32.toInt8.toInt32)), (.int (0 : Int32))] (.int (0 : Int32)) := V8q
  have Z8 := Nat.le_trans Z7 (Nat.le_of_eq W8.size.symm)
  have N8 := Fr.snoc X8 N7 gn_b1
  refine g_aload (pc' := 87) C X8 at_85 rfl rfl rfl ?_
  refine g_bipush (pc' := 89) (v := (7 : Int32)) C X8 at_87 rfl rfl ?_
  refine g_lloadN (pc' := 90) C X8 at_89 rfl rfl ?_
  refine g_l2i (pc' := 91) C X8 at_90 rfl ?_
  refine g_i2b (pc' := 92) C X8 at_91 rfl ?_
  refine g_stB (pc' := 93) (i := 7) C X8 at_92 e8 V8 ⟨by decide, by decide⟩ rfl (show (7 : Nat) < 8 from by decide) rfl (fun T9 h9 X9 e9 W9 V9q => ?_)
  have V9 : Arv Z h9 b1 k1 .byte (8 : Int32) [(.int (nar .byte ((q1.toUInt64 >>> ((56 : Int32) &&& 0x3f).toInt64.toUInt64).toInt64).toInt32.toInt8.toInt32)), (.int (nar .byte ((q1.toUInt64 >>> ((48 : Int32) &&& 0x3f).toInt64.toUInt64).toInt64).toInt32.toInt8.toInt32)), (.int (nar .byte ((q1.toUInt64 >>> ((40 : Int32) &&& 0x3f).toInt64.toUInt64).toInt64).toInt32.toInt8.toInt32)), (.int (nar .byte ((q1.toUInt64 >>> ((32 : Int32) &&& 0x3f).toInt64.toUInt64).toInt64).toInt32.toInt8.toInt32)), (.int (nar .byte ((q1.toUInt64 >>> ((24 : Int32) &&& 0x3f).toInt64.toUInt64).toInt64).toInt32.toInt8.toInt32)), (.int (nar .byte ((q1.toUInt64 >>> ((16 : Int32) &&& 0x3f).toInt64.toUInt64).toInt64).toInt32.toInt8.toInt32)), (.int (nar .byte ((q1.toUInt64 >>> ((8 : Int32) &&& 0x3f).toInt64.toUInt64).toInt64).toInt32.toInt8.toInt32)), (.int (nar .byte q1.toInt32.toInt8.toInt32))] (.int (0 : Int32)) := V9q
  have Z9 := Nat.le_trans Z8 (Nat.le_of_eq W9.size.symm)
  have N9 := Fr.snoc X9 N8 gn_b1
  refine g_new (pc' := 96) C X9 at_93 (hw _ (List.mem_of_getElem? (i := 2) rfl)) (hw _ (List.mem_of_getElem? (i := 3) rfl)) (hw _ (List.mem_of_getElem? (i := 4) rfl)) e9 (ce := 2) (sl := 11) rfl rfl (by decide) (by decide) rfl (fun T10 h10 b10 g10 X10 e10 E10 A10 D10 => ?_)
  have ne10_11 : ¬ (b1 = b10) := Nat.ne_of_lt (Nat.lt_of_lt_of_le V9.lt (Nat.le_of_eq g10.symm))
  have V9_10 := V9.ext E10
  have gn_b10 : n0 ≤ b10 := Nat.le_trans Z9 (Nat.le_of_eq g10.symm)
  have Z10 := Nat.le_trans Z9 E10.1
  have F10_chars : Fld Z h10 b10 "com/example/caseloom/caseloom/store/ByteWriter" "chars" "[C" .null := D10 (Or.inl (hw _ (List.mem_of_getElem? (i := 13) rfl))) (ty := (.array .char)) (by decide)
  have F10_bytes : Fld Z h10 b10 "com/example/caseloom/caseloom/store/ByteWriter" "bytes" "[B" .null := D10 (Or.inl (hw _ (List.mem_of_getElem? (i := 15) rfl))) (ty := (.array .byte)) (by decide)
  have F10_length : Fld Z h10 b10 "com/example/caseloom/caseloom/store/ByteWriter" "length" "I" (.int (0 : Int32)) := D10 (Or.inl (hw _ (List.mem_of_getElem? (i := 26) rfl))) (ty := .int) (by decide)
  refine g_dup (pc' := 97) C X10 at_96 rfl rfl ?_
  refine g_bipush (pc' := 99) (v := (8 : Int32)) C X10 at_97 rfl rfl ?_
  refine g_callI (b := b10) (y := (⟨"com/example/caseloom/caseloom/store/ByteWriter", "<init>", "(I)V"⟩ : MethodName)) (argsL := [(.int (8 : Int32))]) (st := [(.ref b10)]) (pc' := 102) C X10 rfl at_99 (hw _ (List.mem_of_getElem? (i := 5) rfl)) (hw _ (List.mem_of_getElem? (i := 6) rfl)) (hw _ (List.mem_of_getElem? (i := 4) rfl)) (hw _ (List.mem_of_getElem? (i := 7) rfl)) (by decide) (rm1 l Z a0 hw [] b10 h10 n0 Z10 A10 F10_chars F10_bytes F10_length gn_b10) (W := 1) (by decide) (by decide) (ce := 4) (sl := 19) rfl rfl (by decide) (by decide) rfl e10 rfl pd_0 rfl (Nat.le_refl _) rfl (fun v12 T12 L12 X12 Q12 => ?_)
  obtain ⟨rb12, kb12, q12, Nq12, Kq12, sz12_rb, gn_rb12, P12_0, P12_1, P12_2, P12_3⟩ := Q12
  have N12 := Fr.app N9 Nq12
  have ne12_13 : ¬ (b1 = rb12) := Nat.ne_of_lt (Nat.lt_of_lt_of_le V9_10.lt sz12_rb)
  have ne12_14 : ¬ (b10 = rb12) := Nat.ne_of_lt (Nat.lt_of_lt_of_le A10.lt sz12_rb)
  have V9_12 := V9_10.keep Kq12 (ninS ne10_11 nin0)
  have Z12 := Nat.le_trans Z10 Kq12.1
  subst q12
  show Go p.tables e below _ (T12.setTop (mkF m 102 #[.val (.long q1), .second, .val (.int p2), .val (.int p3), .val (.int ((p2 &&& (2147483647 : Int32)) % (5 : Int32))), .val (.ref b1), .unset, .unset, .unset] [(.ref b10)]))
  refine g_astore (pc' := 104) (Ls' := #[.val (.long q1), .second, .val (.int p2), .val (.int p3), .val (.int ((p2 &&& (2147483647 : Int32)) % (5 : Int32))), .val (.ref b1), .val (.ref b10), .unset, .unset]) C X12 at_102 rfl rfl rfl ?_
  refine g_aload (pc' := 106) C X12 at_104 rfl rfl rfl ?_
  refine g_aload (pc' := 108) C X12 at_106 rfl rfl rfl ?_
  refine g_callV (b := b10) (z := (⟨"com/example/caseloom/caseloom/store/ByteWriter", "put", "([B)Lcom/example/caseloom/caseloom/store/ByteWriter;"⟩ : MethodName)) (y := (⟨"com/example/caseloom/caseloom/store/ByteWriter", "put", "([B)Lcom/example/caseloom/caseloom/store/ByteWriter;"⟩ : MethodName)) (argsL := [(.ref b1)]) (st := []) (pc' := 111) C X12 at_108 (hw _ (List.mem_of_getElem? (i := 16) rfl)) (hw _ (List.mem_of_getElem? (i := 17) rfl)) (notFace_of_selects (args := #[]) (mvT C.hZ (hw _ (List.mem_of_getElem? (i := 19) rfl)))) (hw _ (List.mem_of_getElem? (i := 19) rfl)) (hw _ (List.mem_of_getElem? (i := 18) rfl)) (hw _ (List.mem_of_getElem? (i := 4) rfl)) (hw _ (List.mem_of_getElem? (i := 20) rfl)) (by decide) (rm3 l Z a0 hw [] b10 b1 rb12 kb12 k1 (nar .byte ((q1.toUInt64 >>> ((56 : Int32) &&& 0x3f).toInt64.toUInt64).toInt64).toInt32.toInt8.toInt32) (nar .byte ((q1.toUInt64 >>> ((48 : Int32) &&& 0x3f).toInt64.toUInt64).toInt64).toInt32.toInt8.toInt32) (nar .byte ((q1.toUInt64 >>> ((40 : Int32) &&& 0x3f).toInt64.toUInt64).toInt64).toInt32.toInt8.toInt32) (nar .byte ((q1.toUInt64 >>> ((32 : Int32) &&& 0x3f).toInt64.toUInt64).toInt64).toInt32.toInt8.toInt32) (nar .byte ((q1.toUInt64 >>> ((24 : Int32) &&& 0x3f).toInt64.toUInt64).toInt64).toInt32.toInt8.toInt32) (nar .byte ((q1.toUInt64 >>> ((16 : Int32) &&& 0x3f).toInt64.toUInt64).toInt64).toInt32.toInt8.toInt32) (nar .byte ((q1.toUInt64 >>> ((8 : Int32) &&& 0x3f).toInt64.toUInt64).toInt64).toInt32.toInt8.toInt32) (nar .byte q1.toInt32.toInt8.toInt32) T12.heap n0 Z12 P12_0 P12_1 P12_2 P12_3 V9_12 gn_b10 gn_rb12 ne12_14 ne12_13 ne10_11) (W := 0) (by decide) (by decide) (ce := 4) (sl := 19) rfl rfl (by decide) (by decide) rfl P12_0 rfl rfl pd_1 rfl (Nat.le_refl _) rfl (fun v15 T15 L15 X15 Q15 => ?_)
  obtain ⟨q15, Nq15, Kq15, P15_0, P15_1, P15_2, P15_3⟩ := Q15
  have N15 := Fr.app N12 Nq15
  have V9_15 := V9_12.keep Kq15 (ninS ne10_11 (ninS ne12_13 nin0))
  have Z15 := Nat.le_trans Z12 Kq15.1
  rw [F3_l0 b10] at q15
  subst q15
  show Go p.tables e below _ (T15.setTop (mkF m 111 #[.val (.long q1), .second, .val (.int p2), .val (.int p3), .val (.int ((p2 &&& (2147483647 : Int32)) % (5 : Int32))), .val (.ref b1), .val (.ref b10), .unset, .unset] [(.ref b10)]))
  refine g_pop (pc' := 112) C X15 at_111 rfl rfl ?_
  rcases own_five p2 with s16 | s16 | s16 | s16 | s16
  · refine own_cast (show T15.setTop (mkF m 112 #[.val (.long q1), .second, .val (.int p2), .val (.int p3), .val (.int ((p2 &&& (2147483647 : Int32)) % (5 : Int32))), .val (.ref b1), .val (.ref b10), .unset, .unset] []) = T15.setTop (mkF m 112 #[.val (.long q1), .second, .val (.int p2), .val (.int p3), .val (.int (0 : Int32)), .val (.ref b1), .val (.ref b10), .unset, .unset] []) from by rw [s16]) ?_
    refine g_aload (pc' := 114) C X15 at_112 rfl rfl rfl ?_
    refine g_iload (pc' := 116) C X15 at_114 rfl rfl ?_
    refine g_iloadN (pc' := 117) C X15 at_116 rfl rfl ?_
    refine g_callV (b := b10) (z := (⟨"com/example/caseloom/caseloom/store/ByteWriter", "setInt", "(II)V"⟩ : MethodName)) (y := (⟨"com/example/caseloom/caseloom/store/ByteWriter", "setInt", "(II)V"⟩ : MethodName)) (argsL := [(.int (0 : Int32)), (.int p3)]) (st := []) (pc' := 120) C X15 at_117 (hw _ (List.mem_of_getElem? (i := 31) rfl)) (hw _ (List.mem_of_getElem? (i := 32) rfl)) (notFace_of_selects (args := #[]) (mvT C.hZ (hw _ (List.mem_of_getElem? (i := 34) rfl)))) (hw _ (List.mem_of_getElem? (i := 34) rfl)) (hw _ (List.mem_of_getElem? (i := 33) rfl)) (hw _ (List.mem_of_getElem? (i := 4) rfl)) (hw _ (List.mem_of_getElem? (i := 35) rfl)) (by decide) (rms0 l Z a0 hw [] b10 p3 rb12 kb12 (nar .byte ((q1.toUInt64 >>> ((56 : Int32) &&& 0x3f).toInt64.toUInt64).toInt64).toInt32.toInt8.toInt32) (nar .byte ((q1.toUInt64 >>> ((48 : Int32) &&& 0x3f).toInt64.toUInt64).toInt64).toInt32.toInt8.toInt32) (nar .byte ((q1.toUInt64 >>> ((40 : Int32) &&& 0x3f).toInt64.toUInt64).toInt64).toInt32.toInt8.toInt32) (nar .byte ((q1.toUInt64 >>> ((32 : Int32) &&& 0x3f).toInt64.toUInt64).toInt64).toInt32.toInt8.toInt32) (nar .byte ((q1.toUInt64 >>> ((24 : Int32) &&& 0x3f).toInt64.toUInt64).toInt64).toInt32.toInt8.toInt32) (nar .byte ((q1.toUInt64 >>> ((16 : Int32) &&& 0x3f).toInt64.toUInt64).toInt64).toInt32.toInt8.toInt32) (nar .byte ((q1.toUInt64 >>> ((8 : Int32) &&& 0x3f).toInt64.toUInt64).toInt64).toInt32.toInt8.toInt32) (nar .byte q1.toInt32.toInt8.toInt32) T15.heap n0 Z15 P15_2 P15_3 gn_rb12 ne12_14) (W := 0) (by decide) (by decide) (ce := 4) (sl := 19) rfl rfl (by decide) (by decide) rfl P15_0 rfl rfl pd_2 rfl (Nat.le_refl _) rfl (fun v17 T17 L17 X17 Q17 => ?_)
    obtain ⟨q17, Nq17, Kq17, P17_0⟩ := Q17
    have N17 := Fr.app N15 Nq17
    have V9_17 := V9_15.keep Kq17 (ninS ne12_13 nin0)
    have P15_0_17 := P15_0.keep Kq17
    have P15_1_17 := P15_1.keep Kq17 (ninS ne12_14 nin0)
    have P15_2_17 := P15_2.keep Kq17 (ninS ne12_14 nin0)
    have Z17 := Nat.le_trans Z15 Kq17.1
    subst q17
    show Go p.tables e below _ (T17.setTop (mkF m 120 #[.val (.long q1), .second, .val (.int p2), .val (.int p3), .val (.int (0 : Int32)), .val (.ref b1), .val (.ref b10), .unset, .unset] []))
    refine g_aload (pc' := 122) C X17 at_120 rfl rfl rfl ?_
    refine g_callV (b := b10) (z := (⟨"com/example/caseloom/caseloom/store/ByteWriter", "array", "()[B"⟩ : MethodName)) (y := (⟨"com/example/caseloom/caseloom/store/ByteWriter", "array", "()[B"⟩ : MethodName)) (argsL := []) (st := []) (pc' := 125) C X17 at_122 (hw _ (List.mem_of_getElem? (i := 36) rfl)) (hw _ (List.mem_of_getElem? (i := 37) rfl)) (notFace_of_selects (args := #[]) (mvT C.hZ (hw _ (List.mem_of_getElem? (i := 39) rfl)))) (hw _ (List.mem_of_getElem? (i := 39) rfl)) (hw _ (List.mem_of_getElem? (i := 38) rfl)) (hw _ (List.mem_of_getElem? (i := 4) rfl)) (hw _ (List.mem_of_getElem? (i := 40) rfl)) (by decide) (rm6 l Z a0 hw [] b10 rb12 T17.heap n0 P15_2_17) (W := 0) (by decide) (by decide) (ce := 4) (sl := 19) rfl rfl (by decide) (by decide) rfl P15_0_17 rfl rfl pd_3 rfl (Nat.le_refl _) rfl (fun v18 T18 L18 X18 Q18 => ?_)
    obtain ⟨q18, Nq18, e18⟩ := Q18
    have N18 := Fr.app N17 Nq18
    rw [F6_l0 rb12] at q18
    subst q18
    show Go p.tables e below _ (T18.setTop (mkF m 125 #[.val (.long q1), .second, .val (.int p2), .val (.int p3), .val (.int (0 : Int32)), .val (.ref b1), .val (.ref b10), .unset, .unset] [(.ref rb12)]))
    refine g_astore (pc' := 127) (Ls' := #[.val (.long q1), .second, .val (.int p2), .val (.int p3), .val (.int (0 : Int32)), .val (.ref b1), .val (.ref b10), .val (.ref rb12), .unset]) C X18 at_125 rfl rfl rfl ?_
    refine g_aload (pc' := 129) C X18 at_127 rfl rfl rfl ?_
    refine g_len (pc' := 130) C X18 at_129 e18 P17_0 rfl ?_
    refine g_bipush (pc' := 132) (v := (8 : Int32)) C X18 at_130 rfl rfl ?_
    refine g_icmpY (pc' := 137) C X18 at_132 (teq (show (8 : Int32) = (8 : Int32) from (by decide))).1 (by decide) (by decide) ?_
    refine g_aload (pc' := 139) C X18 at_137 rfl rfl rfl ?_
    refine g_callV (b := b10) (z := (⟨"com/example/caseloom/caseloom/store/ByteWriter", "length", "()I"⟩ : MethodName)) (y := (⟨"com/example/caseloom/caseloom/store/ByteWriter", "length", "()I"⟩ : MethodName)) (argsL := []) (st := []) (pc' := 142) C X18 at_139 (hw _ (List.mem_of_getElem? (i := 41) rfl)) (hw _ (List.mem_of_getElem? (i := 42) rfl)) (notFace_of_selects (args := #[]) (mvT C.hZ (hw _ (List.mem_of_getElem? (i := 44) rfl)))) (hw _ (List.mem_of_getElem? (i := 44) rfl)) (hw _ (List.mem_of_getElem? (i := 43) rfl)) (hw _ (List.mem_of_getElem? (i := 4) rfl)) (hw _ (List.mem_of_getElem? (i := 45) rfl)) (by decide) (rm7 l Z a0 hw [] b10 (8 : Int32) T17.heap n0 P15_1_17) (W := 0) (by decide) (by decide) (ce := 4) (sl := 19) rfl rfl (by decide) (by decide) rfl P15_0_17 e18 rfl pd_4 rfl (Nat.le_refl _) rfl (fun v19 T19 L19 X19 Q19 => ?_)
    obtain ⟨q19, Nq19, e19⟩ := Q19
    have N19 := Fr.app N18 Nq19
    rw [F7_l0 (8 : Int32)] at q19
    subst q19
    show Go p.tables e below _ (T19.setTop (mkF m 142 #[.val (.long q1), .second, .val (.int p2), .val (.int p3), .val (.int (0 : Int32)), .val (.ref b1), .val (.ref b10), .val (.ref rb12), .unset] [(.int (8 : Int32))]))
    refine g_bipush (pc' := 144) (v := (8 : Int32)) C X19 at_142 rfl rfl ?_
    refine g_icmpY (pc' := 149) C X19 at_144 (teq (show (8 : Int32) = (8 : Int32) from (by decide))).1 (by decide) (by decide) ?_
    refine g_aload (pc' := 151) C X19 at_149 rfl rfl rfl ?_
    refine g_iload (pc' := 153) C X19 at_151 rfl rfl ?_
    refine g_ldB (pc' := 154) (v := (.int (nar .byte ((p3.toUInt32 >>> ((24 : Int32) &&& 31).toUInt32).toInt32).toInt8.toInt32))) C X19 at_153 e19 P17_0 ⟨by decide, by decide⟩ rfl rfl ?_
    refine g_sipush (pc' := 157) (v := (255 : Int32)) C X19 at_154 rfl rfl ?_
    refine g_iand (pc' := 158) C X19 at_157 rfl ?_
    refine g_bipush (pc' := 160) (v := (24 : Int32)) C X19 at_158 rfl rfl ?_
    refine g_ishl (pc' := 161) C X19 at_160 rfl ?_
    refine g_aload (pc' := 163) C X19 at_161 rfl rfl rfl ?_
    refine g_iload (pc' := 165) C X19 at_163 rfl rfl ?_
    refine g_iconst (pc' := 166) (v := (1 : Int32)) C X19 at_165 rfl rfl ?_
    refine g_iadd (pc' := 167) C X19 at_166 rfl ?_
    refine own_cast (congrArg (fun z => T19.setTop (mkF m 167 #[.val (.long q1), .second, .val (.int p2), .val (.int p3), .val (.int (0 : Int32)), .val (.ref b1), .val (.ref b10), .val (.ref rb12), .unset] (.int z :: [(.ref rb12), (.int (((nar .byte ((p3.toUInt32 >>> ((24 : Int32) &&& 31).toUInt32).toInt32).toInt8.toInt32) &&& (255 : Int32)) <<< ((24 : Int32) &&& 31)))]))) (show ((0 : Int32) + (1 : Int32)) = (1 : Int32) from by decide)) ?_
    refine g_ldB (pc' := 168) (v := (.int (nar .byte ((p3.toUInt32 >>> ((16 : Int32) &&& 31).toUInt32).toInt32).toInt8.toInt32))) C X19 at_167 e19 P17_0 ⟨by decide, by decide⟩ rfl rfl ?_
    refine g_sipush (pc' := 171) (v := (255 : Int32)) C X19 at_168 rfl rfl ?_
    refine g_iand (pc' := 172) C X19 at_171 rfl ?_
    refine g_bipush (pc' := 174) (v := (16 : Int32)) C X19 at_172 rfl rfl ?_
    refine g_ishl (pc' := 175) C X19 at_174 rfl ?_
    refine g_ior (pc' := 176) C X19 at_175 rfl ?_
    refine g_aload (pc' := 178) C X19 at_176 rfl rfl rfl ?_
    refine g_iload (pc' := 180) C X19 at_178 rfl rfl ?_
    refine g_iconst (pc' := 181) (v := (2 : Int32)) C X19 at_180 rfl rfl ?_
    refine g_iadd (pc' := 182) C X19 at_181 rfl ?_
    refine own_cast (congrArg (fun z => T19.setTop (mkF m 182 #[.val (.long q1), .second, .val (.int p2), .val (.int p3), .val (.int (0 : Int32)), .val (.ref b1), .val (.ref b10), .val (.ref rb12), .unset] (.int z :: [(.ref rb12), (.int ((((nar .byte ((p3.toUInt32 >>> ((24 : Int32) &&& 31).toUInt32).toInt32).toInt8.toInt32) &&& (255 : Int32)) <<< ((24 : Int32) &&& 31)) ||| (((nar .byte ((p3.toUInt32 >>> ((16 : Int32) &&& 31).toUInt32).toInt32).toInt8.toInt32) &&& (255 : Int32)) <<< ((16 : Int32) &&& 31))))]))) (show ((0 : Int32) + (2 : Int32)) = (2 : Int32) from by decide)) ?_
    refine g_ldB (pc' := 183) (v := (.int (nar .byte ((p3.toUInt32 >>> ((8 : Int32) &&& 31).toUInt32).toInt32).toInt8.toInt32))) C X19 at_182 e19 P17_0 ⟨by decide, by decide⟩ rfl rfl ?_
    refine g_sipush (pc' := 186) (v := (255 : Int32)) C X19 at_183 rfl rfl ?_
    refine g_iand (pc' := 187) C X19 at_186 rfl ?_
    refine g_bipush (pc' := 189) (v := (8 : Int32)) C X19 at_187 rfl rfl ?_
    refine g_ishl (pc' := 190) C X19 at_189 rfl ?_
    refine g_ior (pc' := 191) C X19 at_190 rfl ?_
    refine g_aload (pc' := 193) C X19 at_191 rfl rfl rfl ?_
    refine g_iload (pc' := 195) C X19 at_193 rfl rfl ?_
    refine g_iconst (pc' := 196) (v := (3 : Int32)) C X19 at_195 rfl rfl ?_
    refine g_iadd (pc' := 197) C X19 at_196 rfl ?_
    refine own_cast (congrArg (fun z => T19.setTop (mkF m 197 #[.val (.long q1), .second, .val (.int p2), .val (.int p3), .val (.int (0 : Int32)), .val (.ref b1), .val (.ref b10), .val (.ref rb12), .unset] (.int z :: [(.ref rb12), (.int (((((nar .byte ((p3.toUInt32 >>> ((24 : Int32) &&& 31).toUInt32).toInt32).toInt8.toInt32) &&& (255 : Int32)) <<< ((24 : Int32) &&& 31)) ||| (((nar .byte ((p3.toUInt32 >>> ((16 : Int32) &&& 31).toUInt32).toInt32).toInt8.toInt32) &&& (255 : Int32)) <<< ((16 : Int32) &&& 31))) ||| (((nar .byte ((p3.toUInt32 >>> ((8 : Int32) &&& 31).toUInt32).toInt32).toInt8.toInt32) &&& (255 : Int32)) <<< ((8 : Int32) &&& 31))))]))) (show ((0 : Int32) + (3 : Int32)) = (3 : Int32) from by decide)) ?_
    refine g_ldB (pc' := 198) (v := (.int (nar .byte p3.toInt8.toInt32))) C X19 at_197 e19 P17_0 ⟨by decide, by decide⟩ rfl rfl ?_
    refine g_sipush (pc' := 201) (v := (255 : Int32)) C X19 at_198 rfl rfl ?_
    refine g_iand (pc' := 202) C X19 at_201 rfl ?_
    refine g_ior (pc' := 203) C X19 at_202 rfl ?_
    refine g_istore (pc' := 205) (Ls' := #[.val (.long q1), .second, .val (.int p2), .val (.int p3), .val (.int (0 : Int32)), .val (.ref b1), .val (.ref b10), .val (.ref rb12), .val (.int ((((((nar .byte ((p3.toUInt32 >>> ((24 : Int32) &&& 31).toUInt32).toInt32).toInt8.toInt32) &&& (255 : Int32)) <<< ((24 : Int32) &&& 31)) ||| (((nar .byte ((p3.toUInt32 >>> ((16 : Int32) &&& 31).toUInt32).toInt32).toInt8.toInt32) &&& (255 : Int32)) <<< ((16 : Int32) &&& 31))) ||| (((nar .byte ((p3.toUInt32 >>> ((8 : Int32) &&& 31).toUInt32).toInt32).toInt8.toInt32) &&& (255 : Int32)) <<< ((8 : Int32) &&& 31))) ||| ((nar .byte p3.toInt8.toInt32) &&& (255 : Int32))))]) C X19 at_203 rfl rfl ?_
    refine g_iload (pc' := 207) C X19 at_205 rfl rfl ?_
    refine g_iloadN (pc' := 208) C X19 at_207 rfl rfl ?_
    refine g_icmpN (pc' := 211) C X19 at_208 (teq (show ((((((nar .byte ((p3.toUInt32 >>> ((24 : Int32) &&& 31).toUInt32).toInt32).toInt8.toInt32) &&& (255 : Int32)) <<< ((24 : Int32) &&& 31)) ||| (((nar .byte ((p3.toUInt32 >>> ((16 : Int32) &&& 31).toUInt32).toInt32).toInt8.toInt32) &&& (255 : Int32)) <<< ((16 : Int32) &&& 31))) ||| (((nar .byte ((p3.toUInt32 >>> ((8 : Int32) &&& 31).toUInt32).toInt32).toInt8.toInt32) &&& (255 : Int32)) <<< ((8 : Int32) &&& 31))) ||| ((nar .byte p3.toInt8.toInt32) &&& (255 : Int32))) = p3 from (own_got p3))).2 rfl ?_
    refine g_aload (pc' := 213) C X19 at_211 rfl rfl rfl ?_
    refine g_aload (pc' := 215) C X19 at_213 rfl rfl rfl ?_
    refine g_iconst (pc' := 216) (v := (0 : Int32)) C X19 at_215 rfl rfl ?_
    refine g_iload (pc' := 218) C X19 at_216 rfl rfl ?_
    refine g_callS (y := (⟨"com/example/caseloom/caseloom/store/ByteWriterSetIntPinLaw", "keep", "([B[BII)Z"⟩ : MethodName)) (argsL := [(.ref rb12), (.ref b1), (.int (0 : Int32)), (.int (0 : Int32))]) (st := []) (pc' := 221) C X19 at_218 (hw _ (List.mem_of_getElem? (i := 46) rfl)) (hw _ (List.mem_of_getElem? (i := 47) rfl)) (hw _ (List.mem_of_getElem? (i := 48) rfl)) (hw _ (List.mem_of_getElem? (i := 49) rfl)) (by decide) (rmk0 l Z a0 hw [] rb12 b1 (0 : Int32) kb12 k1 (nar .byte ((p3.toUInt32 >>> ((24 : Int32) &&& 31).toUInt32).toInt32).toInt8.toInt32) (nar .byte ((p3.toUInt32 >>> ((16 : Int32) &&& 31).toUInt32).toInt32).toInt8.toInt32) (nar .byte ((p3.toUInt32 >>> ((8 : Int32) &&& 31).toUInt32).toInt32).toInt8.toInt32) (nar .byte p3.toInt8.toInt32) (nar .byte ((q1.toUInt64 >>> ((24 : Int32) &&& 0x3f).toInt64.toUInt64).toInt64).toInt32.toInt8.toInt32) (nar .byte ((q1.toUInt64 >>> ((16 : Int32) &&& 0x3f).toInt64.toUInt64).toInt64).toInt32.toInt8.toInt32) (nar .byte ((q1.toUInt64 >>> ((8 : Int32) &&& 0x3f).toInt64.toUInt64).toInt64).toInt32.toInt8.toInt32) (nar .byte q1.toInt32.toInt8.toInt32) (nar .byte ((q1.toUInt64 >>> ((56 : Int32) &&& 0x3f).toInt64.toUInt64).toInt64).toInt32.toInt8.toInt32) (nar .byte ((q1.toUInt64 >>> ((48 : Int32) &&& 0x3f).toInt64.toUInt64).toInt64).toInt32.toInt8.toInt32) (nar .byte ((q1.toUInt64 >>> ((40 : Int32) &&& 0x3f).toInt64.toUInt64).toInt64).toInt32.toInt8.toInt32) (nar .byte ((q1.toUInt64 >>> ((32 : Int32) &&& 0x3f).toInt64.toUInt64).toInt64).toInt32.toInt8.toInt32) (nar .byte ((q1.toUInt64 >>> ((24 : Int32) &&& 0x3f).toInt64.toUInt64).toInt64).toInt32.toInt8.toInt32) (nar .byte ((q1.toUInt64 >>> ((16 : Int32) &&& 0x3f).toInt64.toUInt64).toInt64).toInt32.toInt8.toInt32) (nar .byte ((q1.toUInt64 >>> ((8 : Int32) &&& 0x3f).toInt64.toUInt64).toInt64).toInt32.toInt8.toInt32) (nar .byte q1.toInt32.toInt8.toInt32) T17.heap n0 P17_0 V9_17) (W := 0) (by decide) (by decide) (ce := 4) (sl := 19) rfl rfl (by decide) (by decide) rfl e19 rfl pd_5 rfl (Nat.le_refl _) rfl (fun v20 T20 L20 X20 Q20 => ?_)
    obtain ⟨q20, Nq20, e20⟩ := Q20
    have N20 := Fr.app N19 Nq20
    rw [Fk0_l2 (0 : Int32) (nar .byte ((p3.toUInt32 >>> ((24 : Int32) &&& 31).toUInt32).toInt32).toInt8.toInt32) (nar .byte ((q1.toUInt64 >>> ((56 : Int32) &&& 0x3f).toInt64.toUInt64).toInt64).toInt32.toInt8.toInt32) (show ¬ ((0 : Int32) < (0 : Int32)) from (by decide)) (show (0 : Int32) < ((0 : Int32) + (4 : Int32)) from (by decide))] at q20
    subst q20
    show Go p.tables e below _ (T20.setTop (mkF m 221 #[.val (.long q1), .second, .val (.int p2), .val (.int p3), .val (.int (0 : Int32)), .val (.ref b1), .val (.ref b10), .val (.ref rb12), .val (.int ((((((nar .byte ((p3.toUInt32 >>> ((24 : Int32) &&& 31).toUInt32).toInt32).toInt8.toInt32) &&& (255 : Int32)) <<< ((24 : Int32) &&& 31)) ||| (((nar .byte ((p3.toUInt32 >>> ((16 : Int32) &&& 31).toUInt32).toInt32).toInt8.toInt32) &&& (255 : Int32)) <<< ((16 : Int32) &&& 31))) ||| (((nar .byte ((p3.toUInt32 >>> ((8 : Int32) &&& 31).toUInt32).toInt32).toInt8.toInt32) &&& (255 : Int32)) <<< ((8 : Int32) &&& 31))) ||| ((nar .byte p3.toInt8.toInt32) &&& (255 : Int32))))] [(.int (1 : Int32))]))
    refine g_ifN (pc' := 224) C X20 at_221 (feq (show ¬ ((1 : Int32) = (0 : Int32)) from (by decide))).1 rfl ?_
    refine g_aload (pc' := 226) C X20 at_224 rfl rfl rfl ?_
    refine g_aload (pc' := 228) C X20 at_226 rfl rfl rfl ?_
    refine g_iconst (pc' := 229) (v := (1 : Int32)) C X20 at_228 rfl rfl ?_
    refine g_iload (pc' := 231) C X20 at_229 rfl rfl ?_
    refine g_callS (y := (⟨"com/example/caseloom/caseloom/store/ByteWriterSetIntPinLaw", "keep", "([B[BII)Z"⟩ : MethodName)) (argsL := [(.ref rb12), (.ref b1), (.int (1 : Int32)), (.int (0 : Int32))]) (st := []) (pc' := 234) C X20 at_231 (hw _ (List.mem_of_getElem? (i := 46) rfl)) (hw _ (List.mem_of_getElem? (i := 47) rfl)) (hw _ (List.mem_of_getElem? (i := 48) rfl)) (hw _ (List.mem_of_getElem? (i := 49) rfl)) (by decide) (rmk1 l Z a0 hw [] rb12 b1 (0 : Int32) kb12 k1 (nar .byte ((p3.toUInt32 >>> ((24 : Int32) &&& 31).toUInt32).toInt32).toInt8.toInt32) (nar .byte ((p3.toUInt32 >>> ((16 : Int32) &&& 31).toUInt32).toInt32).toInt8.toInt32) (nar .byte ((p3.toUInt32 >>> ((8 : Int32) &&& 31).toUInt32).toInt32).toInt8.toInt32) (nar .byte p3.toInt8.toInt32) (nar .byte ((q1.toUInt64 >>> ((24 : Int32) &&& 0x3f).toInt64.toUInt64).toInt64).toInt32.toInt8.toInt32) (nar .byte ((q1.toUInt64 >>> ((16 : Int32) &&& 0x3f).toInt64.toUInt64).toInt64).toInt32.toInt8.toInt32) (nar .byte ((q1.toUInt64 >>> ((8 : Int32) &&& 0x3f).toInt64.toUInt64).toInt64).toInt32.toInt8.toInt32) (nar .byte q1.toInt32.toInt8.toInt32) (nar .byte ((q1.toUInt64 >>> ((56 : Int32) &&& 0x3f).toInt64.toUInt64).toInt64).toInt32.toInt8.toInt32) (nar .byte ((q1.toUInt64 >>> ((48 : Int32) &&& 0x3f).toInt64.toUInt64).toInt64).toInt32.toInt8.toInt32) (nar .byte ((q1.toUInt64 >>> ((40 : Int32) &&& 0x3f).toInt64.toUInt64).toInt64).toInt32.toInt8.toInt32) (nar .byte ((q1.toUInt64 >>> ((32 : Int32) &&& 0x3f).toInt64.toUInt64).toInt64).toInt32.toInt8.toInt32) (nar .byte ((q1.toUInt64 >>> ((24 : Int32) &&& 0x3f).toInt64.toUInt64).toInt64).toInt32.toInt8.toInt32) (nar .byte ((q1.toUInt64 >>> ((16 : Int32) &&& 0x3f).toInt64.toUInt64).toInt64).toInt32.toInt8.toInt32) (nar .byte ((q1.toUInt64 >>> ((8 : Int32) &&& 0x3f).toInt64.toUInt64).toInt64).toInt32.toInt8.toInt32) (nar .byte q1.toInt32.toInt8.toInt32) T17.heap n0 P17_0 V9_17) (W := 0) (by decide) (by decide) (ce := 4) (sl := 19) rfl rfl (by decide) (by decide) rfl e20 rfl pd_5 rfl (Nat.le_refl _) rfl (fun v21 T21 L21 X21 Q21 => ?_)
    obtain ⟨q21, Nq21, e21⟩ := Q21
    have N21 := Fr.app N20 Nq21
    rw [Fk1_l2 (0 : Int32) (nar .byte ((p3.toUInt32 >>> ((16 : Int32) &&& 31).toUInt32).toInt32).toInt8.toInt32) (nar .byte ((q1.toUInt64 >>> ((48 : Int32) &&& 0x3f).toInt64.toUInt64).toInt64).toInt32.toInt8.toInt32) (show ¬ ((1 : Int32) < (0 : Int32)) from (by decide)) (show (1 : Int32) < ((0 : Int32) + (4 : Int32)) from (by decide))] at q21
    subst q21
    show Go p.tables e below _ (T21.setTop (mkF m 234 #[.val (.long q1), .second, .val (.int p2), .val (.int p3), .val (.int (0 : Int32)), .val (.ref b1), .val (.ref b10), .val (.ref rb12), .val (.int ((((((nar .byte ((p3.toUInt32 >>> ((24 : Int32) &&& 31).toUInt32).toInt32).toInt8.toInt32) &&& (255 : Int32)) <<< ((24 : Int32) &&& 31)) ||| (((nar .byte ((p3.toUInt32 >>> ((16 : Int32) &&& 31).toUInt32).toInt32).toInt8.toInt32) &&& (255 : Int32)) <<< ((16 : Int32) &&& 31))) ||| (((nar .byte ((p3.toUInt32 >>> ((8 : Int32) &&& 31).toUInt32).toInt32).toInt8.toInt32) &&& (255 : Int32)) <<< ((8 : Int32) &&& 31))) ||| ((nar .byte p3.toInt8.toInt32) &&& (255 : Int32))))] [(.int (1 : Int32))]))
    refine g_ifN (pc' := 237) C X21 at_234 (feq (show ¬ ((1 : Int32) = (0 : Int32)) from (by decide))).1 rfl ?_
    refine g_aload (pc' := 239) C X21 at_237 rfl rfl rfl ?_
    refine g_aload (pc' := 241) C X21 at_239 rfl rfl rfl ?_
    refine g_iconst (pc' := 242) (v := (2 : Int32)) C X21 at_241 rfl rfl ?_
    refine g_iload (pc' := 244) C X21 at_242 rfl rfl ?_
    refine g_callS (y := (⟨"com/example/caseloom/caseloom/store/ByteWriterSetIntPinLaw", "keep", "([B[BII)Z"⟩ : MethodName)) (argsL := [(.ref rb12), (.ref b1), (.int (2 : Int32)), (.int (0 : Int32))]) (st := []) (pc' := 247) C X21 at_244 (hw _ (List.mem_of_getElem? (i := 46) rfl)) (hw _ (List.mem_of_getElem? (i := 47) rfl)) (hw _ (List.mem_of_getElem? (i := 48) rfl)) (hw _ (List.mem_of_getElem? (i := 49) rfl)) (by decide) (rmk2 l Z a0 hw [] rb12 b1 (0 : Int32) kb12 k1 (nar .byte ((p3.toUInt32 >>> ((24 : Int32) &&& 31).toUInt32).toInt32).toInt8.toInt32) (nar .byte ((p3.toUInt32 >>> ((16 : Int32) &&& 31).toUInt32).toInt32).toInt8.toInt32) (nar .byte ((p3.toUInt32 >>> ((8 : Int32) &&& 31).toUInt32).toInt32).toInt8.toInt32) (nar .byte p3.toInt8.toInt32) (nar .byte ((q1.toUInt64 >>> ((24 : Int32) &&& 0x3f).toInt64.toUInt64).toInt64).toInt32.toInt8.toInt32) (nar .byte ((q1.toUInt64 >>> ((16 : Int32) &&& 0x3f).toInt64.toUInt64).toInt64).toInt32.toInt8.toInt32) (nar .byte ((q1.toUInt64 >>> ((8 : Int32) &&& 0x3f).toInt64.toUInt64).toInt64).toInt32.toInt8.toInt32) (nar .byte q1.toInt32.toInt8.toInt32) (nar .byte ((q1.toUInt64 >>> ((56 : Int32) &&& 0x3f).toInt64.toUInt64).toInt64).toInt32.toInt8.toInt32) (nar .byte ((q1.toUInt64 >>> ((48 : Int32) &&& 0x3f).toInt64.toUInt64).toInt64).toInt32.toInt8.toInt32) (nar .byte ((q1.toUInt64 >>> ((40 : Int32) &&& 0x3f).toInt64.toUInt64).toInt64).toInt32.toInt8.toInt32) (nar .byte ((q1.toUInt64 >>> ((32 : Int32) &&& 0x3f).toInt64.toUInt64).toInt64).toInt32.toInt8.toInt32) (nar .byte ((q1.toUInt64 >>> ((24 : Int32) &&& 0x3f).toInt64.toUInt64).toInt64).toInt32.toInt8.toInt32) (nar .byte ((q1.toUInt64 >>> ((16 : Int32) &&& 0x3f).toInt64.toUInt64).toInt64).toInt32.toInt8.toInt32) (nar .byte ((q1.toUInt64 >>> ((8 : Int32) &&& 0x3f).toInt64.toUInt64).toInt64).toInt32.toInt8.toInt32) (nar .byte q1.toInt32.toInt8.toInt32) T17.heap n0 P17_0 V9_17) (W := 0) (by decide) (by decide) (ce := 4) (sl := 19) rfl rfl (by decide) (by decide) rfl e21 rfl pd_5 rfl (Nat.le_refl _) rfl (fun v22 T22 L22 X22 Q22 => ?_)
    obtain ⟨q22, Nq22, e22⟩ := Q22
    have N22 := Fr.app N21 Nq22
    rw [Fk2_l2 (0 : Int32) (nar .byte ((p3.toUInt32 >>> ((8 : Int32) &&& 31).toUInt32).toInt32).toInt8.toInt32) (nar .byte ((q1.toUInt64 >>> ((40 : Int32) &&& 0x3f).toInt64.toUInt64).toInt64).toInt32.toInt8.toInt32) (show ¬ ((2 : Int32) < (0 : Int32)) from (by decide)) (show (2 : Int32) < ((0 : Int32) + (4 : Int32)) from (by decide))] at q22
    subst q22
    show Go p.tables e below _ (T22.setTop (mkF m 247 #[.val (.long q1), .second, .val (.int p2), .val (.int p3), .val (.int (0 : Int32)), .val (.ref b1), .val (.ref b10), .val (.ref rb12), .val (.int ((((((nar .byte ((p3.toUInt32 >>> ((24 : Int32) &&& 31).toUInt32).toInt32).toInt8.toInt32) &&& (255 : Int32)) <<< ((24 : Int32) &&& 31)) ||| (((nar .byte ((p3.toUInt32 >>> ((16 : Int32) &&& 31).toUInt32).toInt32).toInt8.toInt32) &&& (255 : Int32)) <<< ((16 : Int32) &&& 31))) ||| (((nar .byte ((p3.toUInt32 >>> ((8 : Int32) &&& 31).toUInt32).toInt32).toInt8.toInt32) &&& (255 : Int32)) <<< ((8 : Int32) &&& 31))) ||| ((nar .byte p3.toInt8.toInt32) &&& (255 : Int32))))] [(.int (1 : Int32))]))
    refine g_ifN (pc' := 250) C X22 at_247 (feq (show ¬ ((1 : Int32) = (0 : Int32)) from (by decide))).1 rfl ?_
    refine g_aload (pc' := 252) C X22 at_250 rfl rfl rfl ?_
    refine g_aload (pc' := 254) C X22 at_252 rfl rfl rfl ?_
    refine g_iconst (pc' := 255) (v := (3 : Int32)) C X22 at_254 rfl rfl ?_
    refine g_iload (pc' := 257) C X22 at_255 rfl rfl ?_
    refine g_callS (y := (⟨"com/example/caseloom/caseloom/store/ByteWriterSetIntPinLaw", "keep", "([B[BII)Z"⟩ : MethodName)) (argsL := [(.ref rb12), (.ref b1), (.int (3 : Int32)), (.int (0 : Int32))]) (st := []) (pc' := 260) C X22 at_257 (hw _ (List.mem_of_getElem? (i := 46) rfl)) (hw _ (List.mem_of_getElem? (i := 47) rfl)) (hw _ (List.mem_of_getElem? (i := 48) rfl)) (hw _ (List.mem_of_getElem? (i := 49) rfl)) (by decide) (rmk3 l Z a0 hw [] rb12 b1 (0 : Int32) kb12 k1 (nar .byte ((p3.toUInt32 >>> ((24 : Int32) &&& 31).toUInt32).toInt32).toInt8.toInt32) (nar .byte ((p3.toUInt32 >>> ((16 : Int32) &&& 31).toUInt32).toInt32).toInt8.toInt32) (nar .byte ((p3.toUInt32 >>> ((8 : Int32) &&& 31).toUInt32).toInt32).toInt8.toInt32) (nar .byte p3.toInt8.toInt32) (nar .byte ((q1.toUInt64 >>> ((24 : Int32) &&& 0x3f).toInt64.toUInt64).toInt64).toInt32.toInt8.toInt32) (nar .byte ((q1.toUInt64 >>> ((16 : Int32) &&& 0x3f).toInt64.toUInt64).toInt64).toInt32.toInt8.toInt32) (nar .byte ((q1.toUInt64 >>> ((8 : Int32) &&& 0x3f).toInt64.toUInt64).toInt64).toInt32.toInt8.toInt32) (nar .byte q1.toInt32.toInt8.toInt32) (nar .byte ((q1.toUInt64 >>> ((56 : Int32) &&& 0x3f).toInt64.toUInt64).toInt64).toInt32.toInt8.toInt32) (nar .byte ((q1.toUInt64 >>> ((48 : Int32) &&& 0x3f).toInt64.toUInt64).toInt64).toInt32.toInt8.toInt32) (nar .byte ((q1.toUInt64 >>> ((40 : Int32) &&& 0x3f).toInt64.toUInt64).toInt64).toInt32.toInt8.toInt32) (nar .byte ((q1.toUInt64 >>> ((32 : Int32) &&& 0x3f).toInt64.toUInt64).toInt64).toInt32.toInt8.toInt32) (nar .byte ((q1.toUInt64 >>> ((24 : Int32) &&& 0x3f).toInt64.toUInt64).toInt64).toInt32.toInt8.toInt32) (nar .byte ((q1.toUInt64 >>> ((16 : Int32) &&& 0x3f).toInt64.toUInt64).toInt64).toInt32.toInt8.toInt32) (nar .byte ((q1.toUInt64 >>> ((8 : Int32) &&& 0x3f).toInt64.toUInt64).toInt64).toInt32.toInt8.toInt32) (nar .byte q1.toInt32.toInt8.toInt32) T17.heap n0 P17_0 V9_17) (W := 0) (by decide) (by decide) (ce := 4) (sl := 19) rfl rfl (by decide) (by decide) rfl e22 rfl pd_5 rfl (Nat.le_refl _) rfl (fun v23 T23 L23 X23 Q23 => ?_)
    obtain ⟨q23, Nq23, e23⟩ := Q23
    have N23 := Fr.app N22 Nq23
    rw [Fk3_l2 (0 : Int32) (nar .byte p3.toInt8.toInt32) (nar .byte ((q1.toUInt64 >>> ((32 : Int32) &&& 0x3f).toInt64.toUInt64).toInt64).toInt32.toInt8.toInt32) (show ¬ ((3 : Int32) < (0 : Int32)) from (by decide)) (show (3 : Int32) < ((0 : Int32) + (4 : Int32)) from (by decide))] at q23
    subst q23
    show Go p.tables e below _ (T23.setTop (mkF m 260 #[.val (.long q1), .second, .val (.int p2), .val (.int p3), .val (.int (0 : Int32)), .val (.ref b1), .val (.ref b10), .val (.ref rb12), .val (.int ((((((nar .byte ((p3.toUInt32 >>> ((24 : Int32) &&& 31).toUInt32).toInt32).toInt8.toInt32) &&& (255 : Int32)) <<< ((24 : Int32) &&& 31)) ||| (((nar .byte ((p3.toUInt32 >>> ((16 : Int32) &&& 31).toUInt32).toInt32).toInt8.toInt32) &&& (255 : Int32)) <<< ((16 : Int32) &&& 31))) ||| (((nar .byte ((p3.toUInt32 >>> ((8 : Int32) &&& 31).toUInt32).toInt32).toInt8.toInt32) &&& (255 : Int32)) <<< ((8 : Int32) &&& 31))) ||| ((nar .byte p3.toInt8.toInt32) &&& (255 : Int32))))] [(.int (1 : Int32))]))
    refine g_ifN (pc' := 263) C X23 at_260 (feq (show ¬ ((1 : Int32) = (0 : Int32)) from (by decide))).1 rfl ?_
    refine g_aload (pc' := 265) C X23 at_263 rfl rfl rfl ?_
    refine g_aload (pc' := 267) C X23 at_265 rfl rfl rfl ?_
    refine g_iconst (pc' := 268) (v := (4 : Int32)) C X23 at_267 rfl rfl ?_
    refine g_iload (pc' := 270) C X23 at_268 rfl rfl ?_
    refine g_callS (y := (⟨"com/example/caseloom/caseloom/store/ByteWriterSetIntPinLaw", "keep", "([B[BII)Z"⟩ : MethodName)) (argsL := [(.ref rb12), (.ref b1), (.int (4 : Int32)), (.int (0 : Int32))]) (st := []) (pc' := 273) C X23 at_270 (hw _ (List.mem_of_getElem? (i := 46) rfl)) (hw _ (List.mem_of_getElem? (i := 47) rfl)) (hw _ (List.mem_of_getElem? (i := 48) rfl)) (hw _ (List.mem_of_getElem? (i := 49) rfl)) (by decide) (rmk4 l Z a0 hw [] rb12 b1 (0 : Int32) kb12 k1 (nar .byte ((p3.toUInt32 >>> ((24 : Int32) &&& 31).toUInt32).toInt32).toInt8.toInt32) (nar .byte ((p3.toUInt32 >>> ((16 : Int32) &&& 31).toUInt32).toInt32).toInt8.toInt32) (nar .byte ((p3.toUInt32 >>> ((8 : Int32) &&& 31).toUInt32).toInt32).toInt8.toInt32) (nar .byte p3.toInt8.toInt32) (nar .byte ((q1.toUInt64 >>> ((24 : Int32) &&& 0x3f).toInt64.toUInt64).toInt64).toInt32.toInt8.toInt32) (nar .byte ((q1.toUInt64 >>> ((16 : Int32) &&& 0x3f).toInt64.toUInt64).toInt64).toInt32.toInt8.toInt32) (nar .byte ((q1.toUInt64 >>> ((8 : Int32) &&& 0x3f).toInt64.toUInt64).toInt64).toInt32.toInt8.toInt32) (nar .byte q1.toInt32.toInt8.toInt32) (nar .byte ((q1.toUInt64 >>> ((56 : Int32) &&& 0x3f).toInt64.toUInt64).toInt64).toInt32.toInt8.toInt32) (nar .byte ((q1.toUInt64 >>> ((48 : Int32) &&& 0x3f).toInt64.toUInt64).toInt64).toInt32.toInt8.toInt32) (nar .byte ((q1.toUInt64 >>> ((40 : Int32) &&& 0x3f).toInt64.toUInt64).toInt64).toInt32.toInt8.toInt32) (nar .byte ((q1.toUInt64 >>> ((32 : Int32) &&& 0x3f).toInt64.toUInt64).toInt64).toInt32.toInt8.toInt32) (nar .byte ((q1.toUInt64 >>> ((24 : Int32) &&& 0x3f).toInt64.toUInt64).toInt64).toInt32.toInt8.toInt32) (nar .byte ((q1.toUInt64 >>> ((16 : Int32) &&& 0x3f).toInt64.toUInt64).toInt64).toInt32.toInt8.toInt32) (nar .byte ((q1.toUInt64 >>> ((8 : Int32) &&& 0x3f).toInt64.toUInt64).toInt64).toInt32.toInt8.toInt32) (nar .byte q1.toInt32.toInt8.toInt32) T17.heap n0 P17_0 V9_17) (W := 0) (by decide) (by decide) (ce := 4) (sl := 19) rfl rfl (by decide) (by decide) rfl e23 rfl pd_5 rfl (Nat.le_refl _) rfl (fun v24 T24 L24 X24 Q24 => ?_)
    obtain ⟨q24, Nq24, e24⟩ := Q24
    have N24 := Fr.app N23 Nq24
    rw [Fk4_l3 (0 : Int32) (nar .byte ((q1.toUInt64 >>> ((24 : Int32) &&& 0x3f).toInt64.toUInt64).toInt64).toInt32.toInt8.toInt32) (nar .byte ((q1.toUInt64 >>> ((24 : Int32) &&& 0x3f).toInt64.toUInt64).toInt64).toInt32.toInt8.toInt32) (show ¬ ((4 : Int32) < (0 : Int32)) from (by decide)) (show ¬ ((4 : Int32) < ((0 : Int32) + (4 : Int32))) from (by decide)) (show (nar .byte ((q1.toUInt64 >>> ((24 : Int32) &&& 0x3f).toInt64.toUInt64).toInt64).toInt32.toInt8.toInt32) = (nar .byte ((q1.toUInt64 >>> ((24 : Int32) &&& 0x3f).toInt64.toUInt64).toInt64).toInt32.toInt8.toInt32) from (rfl : (nar .byte ((q1.toUInt64 >>> ((24 : Int32) &&& 0x3f).toInt64.toUInt64).toInt64).toInt32.toInt8.toInt32) = (nar .byte ((q1.toUInt64 >>> ((24 : Int32) &&& 0x3f).toInt64.toUInt64).toInt64).toInt32.toInt8.toInt32)))] at q24
    subst q24
    show Go p.tables e below _ (T24.setTop (mkF m 273 #[.val (.long q1), .second, .val (.int p2), .val (.int p3), .val (.int (0 : Int32)), .val (.ref b1), .val (.ref b10), .val (.ref rb12), .val (.int ((((((nar .byte ((p3.toUInt32 >>> ((24 : Int32) &&& 31).toUInt32).toInt32).toInt8.toInt32) &&& (255 : Int32)) <<< ((24 : Int32) &&& 31)) ||| (((nar .byte ((p3.toUInt32 >>> ((16 : Int32) &&& 31).toUInt32).toInt32).toInt8.toInt32) &&& (255 : Int32)) <<< ((16 : Int32) &&& 31))) ||| (((nar .byte ((p3.toUInt32 >>> ((8 : Int32) &&& 31).toUInt32).toInt32).toInt8.toInt32) &&& (255 : Int32)) <<< ((8 : Int32) &&& 31))) ||| ((nar .byte p3.toInt8.toInt32) &&& (255 : Int32))))] [(.int (1 : Int32))]))
    refine g_ifN (pc' := 276) C X24 at_273 (feq (show ¬ ((1 : Int32) = (0 : Int32)) from (by decide))).1 rfl ?_
    refine g_aload (pc' := 278) C X24 at_276 rfl rfl rfl ?_
    refine g_aload (pc' := 280) C X24 at_278 rfl rfl rfl ?_
    refine g_iconst (pc' := 281) (v := (5 : Int32)) C X24 at_280 rfl rfl ?_
    refine g_iload (pc' := 283) C X24 at_281 rfl rfl ?_
    refine g_callS (y := (⟨"com/example/caseloom/caseloom/store/ByteWriterSetIntPinLaw", "keep", "([B[BII)Z"⟩ : MethodName)) (argsL := [(.ref rb12), (.ref b1), (.int (5 : Int32)), (.int (0 : Int32))]) (st := []) (pc' := 286) C X24 at_283 (hw _ (List.mem_of_getElem? (i := 46) rfl)) (hw _ (List.mem_of_getElem? (i := 47) rfl)) (hw _ (List.mem_of_getElem? (i := 48) rfl)) (hw _ (List.mem_of_getElem? (i := 49) rfl)) (by decide) (rmk5 l Z a0 hw [] rb12 b1 (0 : Int32) kb12 k1 (nar .byte ((p3.toUInt32 >>> ((24 : Int32) &&& 31).toUInt32).toInt32).toInt8.toInt32) (nar .byte ((p3.toUInt32 >>> ((16 : Int32) &&& 31).toUInt32).toInt32).toInt8.toInt32) (nar .byte ((p3.toUInt32 >>> ((8 : Int32) &&& 31).toUInt32).toInt32).toInt8.toInt32) (nar .byte p3.toInt8.toInt32) (nar .byte ((q1.toUInt64 >>> ((24 : Int32) &&& 0x3f).toInt64.toUInt64).toInt64).toInt32.toInt8.toInt32) (nar .byte ((q1.toUInt64 >>> ((16 : Int32) &&& 0x3f).toInt64.toUInt64).toInt64).toInt32.toInt8.toInt32) (nar .byte ((q1.toUInt64 >>> ((8 : Int32) &&& 0x3f).toInt64.toUInt64).toInt64).toInt32.toInt8.toInt32) (nar .byte q1.toInt32.toInt8.toInt32) (nar .byte ((q1.toUInt64 >>> ((56 : Int32) &&& 0x3f).toInt64.toUInt64).toInt64).toInt32.toInt8.toInt32) (nar .byte ((q1.toUInt64 >>> ((48 : Int32) &&& 0x3f).toInt64.toUInt64).toInt64).toInt32.toInt8.toInt32) (nar .byte ((q1.toUInt64 >>> ((40 : Int32) &&& 0x3f).toInt64.toUInt64).toInt64).toInt32.toInt8.toInt32) (nar .byte ((q1.toUInt64 >>> ((32 : Int32) &&& 0x3f).toInt64.toUInt64).toInt64).toInt32.toInt8.toInt32) (nar .byte ((q1.toUInt64 >>> ((24 : Int32) &&& 0x3f).toInt64.toUInt64).toInt64).toInt32.toInt8.toInt32) (nar .byte ((q1.toUInt64 >>> ((16 : Int32) &&& 0x3f).toInt64.toUInt64).toInt64).toInt32.toInt8.toInt32) (nar .byte ((q1.toUInt64 >>> ((8 : Int32) &&& 0x3f).toInt64.toUInt64).toInt64).toInt32.toInt8.toInt32) (nar .byte q1.toInt32.toInt8.toInt32) T17.heap n0 P17_0 V9_17) (W := 0) (by decide) (by decide) (ce := 4) (sl := 19) rfl rfl (by decide) (by decide) rfl e24 rfl pd_5 rfl (Nat.le_refl _) rfl (fun v25 T25 L25 X25 Q25 => ?_)
    obtain ⟨q25, Nq25, e25⟩ := Q25
    have N25 := Fr.app N24 Nq25
    rw [Fk5_l3 (0 : Int32) (nar .byte ((q1.toUInt64 >>> ((16 : Int32) &&& 0x3f).toInt64.toUInt64).toInt64).toInt32.toInt8.toInt32) (nar .byte ((q1.toUInt64 >>> ((16 : Int32) &&& 0x3f).toInt64.toUInt64).toInt64).toInt32.toInt8.toInt32) (show ¬ ((5 : Int32) < (0 : Int32)) from (by decide)) (show ¬ ((5 : Int32) < ((0 : Int32) + (4 : Int32))) from (by decide)) (show (nar .byte ((q1.toUInt64 >>> ((16 : Int32) &&& 0x3f).toInt64.toUInt64).toInt64).toInt32.toInt8.toInt32) = (nar .byte ((q1.toUInt64 >>> ((16 : Int32) &&& 0x3f).toInt64.toUInt64).toInt64).toInt32.toInt8.toInt32) from (rfl : (nar .byte ((q1.toUInt64 >>> ((16 : Int32) &&& 0x3f).toInt64.toUInt64).toInt64).toInt32.toInt8.toInt32) = (nar .byte ((q1.toUInt64 >>> ((16 : Int32) &&& 0x3f).toInt64.toUInt64).toInt64).toInt32.toInt8.toInt32)))] at q25
    subst q25
    show Go p.tables e below _ (T25.setTop (mkF m 286 #[.val (.long q1), .second, .val (.int p2), .val (.int p3), .val (.int (0 : Int32)), .val (.ref b1), .val (.ref b10), .val (.ref rb12), .val (.int ((((((nar .byte ((p3.toUInt32 >>> ((24 : Int32) &&& 31).toUInt32).toInt32).toInt8.toInt32) &&& (255 : Int32)) <<< ((24 : Int32) &&& 31)) ||| (((nar .byte ((p3.toUInt32 >>> ((16 : Int32) &&& 31).toUInt32).toInt32).toInt8.toInt32) &&& (255 : Int32)) <<< ((16 : Int32) &&& 31))) ||| (((nar .byte ((p3.toUInt32 >>> ((8 : Int32) &&& 31).toUInt32).toInt32).toInt8.toInt32) &&& (255 : Int32)) <<< ((8 : Int32) &&& 31))) ||| ((nar .byte p3.toInt8.toInt32) &&& (255 : Int32))))] [(.int (1 : Int32))]))
    refine g_ifN (pc' := 289) C X25 at_286 (feq (show ¬ ((1 : Int32) = (0 : Int32)) from (by decide))).1 rfl ?_
    refine g_aload (pc' := 291) C X25 at_289 rfl rfl rfl ?_
    refine g_aload (pc' := 293) C X25 at_291 rfl rfl rfl ?_
    refine g_bipush (pc' := 295) (v := (6 : Int32)) C X25 at_293 rfl rfl ?_
    refine g_iload (pc' := 297) C X25 at_295 rfl rfl ?_
    refine g_callS (y := (⟨"com/example/caseloom/caseloom/store/ByteWriterSetIntPinLaw", "keep", "([B[BII)Z"⟩ : MethodName)) (argsL := [(.ref rb12), (.ref b1), (.int (6 : Int32)), (.int (0 : Int32))]) (st := []) (pc' := 300) C X25 at_297 (hw _ (List.mem_of_getElem? (i := 46) rfl)) (hw _ (List.mem_of_getElem? (i := 47) rfl)) (hw _ (List.mem_of_getElem? (i := 48) rfl)) (hw _ (List.mem_of_getElem? (i := 49) rfl)) (by decide) (rmk6 l Z a0 hw [] rb12 b1 (0 : Int32) kb12 k1 (nar .byte ((p3.toUInt32 >>> ((24 : Int32) &&& 31).toUInt32).toInt32).toInt8.toInt32) (nar .byte ((p3.toUInt32 >>> ((16 : Int32) &&& 31).toUInt32).toInt32).toInt8.toInt32) (nar .byte ((p3.toUInt32 >>> ((8 : Int32) &&& 31).toUInt32).toInt32).toInt8.toInt32) (nar .byte p3.toInt8.toInt32) (nar .byte ((q1.toUInt64 >>> ((24 : Int32) &&& 0x3f).toInt64.toUInt64).toInt64).toInt32.toInt8.toInt32) (nar .byte ((q1.toUInt64 >>> ((16 : Int32) &&& 0x3f).toInt64.toUInt64).toInt64).toInt32.toInt8.toInt32) (nar .byte ((q1.toUInt64 >>> ((8 : Int32) &&& 0x3f).toInt64.toUInt64).toInt64).toInt32.toInt8.toInt32) (nar .byte q1.toInt32.toInt8.toInt32) (nar .byte ((q1.toUInt64 >>> ((56 : Int32) &&& 0x3f).toInt64.toUInt64).toInt64).toInt32.toInt8.toInt32) (nar .byte ((q1.toUInt64 >>> ((48 : Int32) &&& 0x3f).toInt64.toUInt64).toInt64).toInt32.toInt8.toInt32) (nar .byte ((q1.toUInt64 >>> ((40 : Int32) &&& 0x3f).toInt64.toUInt64).toInt64).toInt32.toInt8.toInt32) (nar .byte ((q1.toUInt64 >>> ((32 : Int32) &&& 0x3f).toInt64.toUInt64).toInt64).toInt32.toInt8.toInt32) (nar .byte ((q1.toUInt64 >>> ((24 : Int32) &&& 0x3f).toInt64.toUInt64).toInt64).toInt32.toInt8.toInt32) (nar .byte ((q1.toUInt64 >>> ((16 : Int32) &&& 0x3f).toInt64.toUInt64).toInt64).toInt32.toInt8.toInt32) (nar .byte ((q1.toUInt64 >>> ((8 : Int32) &&& 0x3f).toInt64.toUInt64).toInt64).toInt32.toInt8.toInt32) (nar .byte q1.toInt32.toInt8.toInt32) T17.heap n0 P17_0 V9_17) (W := 0) (by decide) (by decide) (ce := 4) (sl := 19) rfl rfl (by decide) (by decide) rfl e25 rfl pd_5 rfl (Nat.le_refl _) rfl (fun v26 T26 L26 X26 Q26 => ?_)
    obtain ⟨q26, Nq26, e26⟩ := Q26
    have N26 := Fr.app N25 Nq26
    rw [Fk6_l3 (0 : Int32) (nar .byte ((q1.toUInt64 >>> ((8 : Int32) &&& 0x3f).toInt64.toUInt64).toInt64).toInt32.toInt8.toInt32) (nar .byte ((q1.toUInt64 >>> ((8 : Int32) &&& 0x3f).toInt64.toUInt64).toInt64).toInt32.toInt8.toInt32) (show ¬ ((6 : Int32) < (0 : Int32)) from (by decide)) (show ¬ ((6 : Int32) < ((0 : Int32) + (4 : Int32))) from (by decide)) (show (nar .byte ((q1.toUInt64 >>> ((8 : Int32) &&& 0x3f).toInt64.toUInt64).toInt64).toInt32.toInt8.toInt32) = (nar .byte ((q1.toUInt64 >>> ((8 : Int32) &&& 0x3f).toInt64.toUInt64).toInt64).toInt32.toInt8.toInt32) from (rfl : (nar .byte ((q1.toUInt64 >>> ((8 : Int32) &&& 0x3f).toInt64.toUInt64).toInt64).toInt32.toInt8.toInt32) = (nar .byte ((q1.toUInt64 >>> ((8 : Int32) &&& 0x3f).toInt64.toUInt64).toInt64).toInt32.toInt8.toInt32)))] at q26
    subst q26
    show Go p.tables e below _ (T26.setTop (mkF m 300 #[.val (.long q1), .second, .val (.int p2), .val (.int p3), .val (.int (0 : Int32)), .val (.ref b1), .val (.ref b10), .val (.ref rb12), .val (.int ((((((nar .byte ((p3.toUInt32 >>> ((24 : Int32) &&& 31).toUInt32).toInt32).toInt8.toInt32) &&& (255 : Int32)) <<< ((24 : Int32) &&& 31)) ||| (((nar .byte ((p3.toUInt32 >>> ((16 : Int32) &&& 31).toUInt32).toInt32).toInt8.toInt32) &&& (255 : Int32)) <<< ((16 : Int32) &&& 31))) ||| (((nar .byte ((p3.toUInt32 >>> ((8 : Int32) &&& 31).toUInt32).toInt32).toInt8.toInt32) &&& (255 : Int32)) <<< ((8 : Int32) &&& 31))) ||| ((nar .byte p3.toInt8.toInt32) &&& (255 : Int32))))] [(.int (1 : Int32))]))
    refine g_ifN (pc' := 303) C X26 at_300 (feq (show ¬ ((1 : Int32) = (0 : Int32)) from (by decide))).1 rfl ?_
    refine g_aload (pc' := 305) C X26 at_303 rfl rfl rfl ?_
    refine g_aload (pc' := 307) C X26 at_305 rfl rfl rfl ?_
    refine g_bipush (pc' := 309) (v := (7 : Int32)) C X26 at_307 rfl rfl ?_
    refine g_iload (pc' := 311) C X26 at_309 rfl rfl ?_
    refine g_callS (y := (⟨"com/example/caseloom/caseloom/store/ByteWriterSetIntPinLaw", "keep", "([B[BII)Z"⟩ : MethodName)) (argsL := [(.ref rb12), (.ref b1), (.int (7 : Int32)), (.int (0 : Int32))]) (st := []) (pc' := 314) C X26 at_311 (hw _ (List.mem_of_getElem? (i := 46) rfl)) (hw _ (List.mem_of_getElem? (i := 47) rfl)) (hw _ (List.mem_of_getElem? (i := 48) rfl)) (hw _ (List.mem_of_getElem? (i := 49) rfl)) (by decide) (rmk7 l Z a0 hw [] rb12 b1 (0 : Int32) kb12 k1 (nar .byte ((p3.toUInt32 >>> ((24 : Int32) &&& 31).toUInt32).toInt32).toInt8.toInt32) (nar .byte ((p3.toUInt32 >>> ((16 : Int32) &&& 31).toUInt32).toInt32).toInt8.toInt32) (nar .byte ((p3.toUInt32 >>> ((8 : Int32) &&& 31).toUInt32).toInt32).toInt8.toInt32) (nar .byte p3.toInt8.toInt32) (nar .byte ((q1.toUInt64 >>> ((24 : Int32) &&& 0x3f).toInt64.toUInt64).toInt64).toInt32.toInt8.toInt32) (nar .byte ((q1.toUInt64 >>> ((16 : Int32) &&& 0x3f).toInt64.toUInt64).toInt64).toInt32.toInt8.toInt32) (nar .byte ((q1.toUInt64 >>> ((8 : Int32) &&& 0x3f).toInt64.toUInt64).toInt64).toInt32.toInt8.toInt32) (nar .byte q1.toInt32.toInt8.toInt32) (nar .byte ((q1.toUInt64 >>> ((56 : Int32) &&& 0x3f).toInt64.toUInt64).toInt64).toInt32.toInt8.toInt32) (nar .byte ((q1.toUInt64 >>> ((48 : Int32) &&& 0x3f).toInt64.toUInt64).toInt64).toInt32.toInt8.toInt32) (nar .byte ((q1.toUInt64 >>> ((40 : Int32) &&& 0x3f).toInt64.toUInt64).toInt64).toInt32.toInt8.toInt32) (nar .byte ((q1.toUInt64 >>> ((32 : Int32) &&& 0x3f).toInt64.toUInt64).toInt64).toInt32.toInt8.toInt32) (nar .byte ((q1.toUInt64 >>> ((24 : Int32) &&& 0x3f).toInt64.toUInt64).toInt64).toInt32.toInt8.toInt32) (nar .byte ((q1.toUInt64 >>> ((16 : Int32) &&& 0x3f).toInt64.toUInt64).toInt64).toInt32.toInt8.toInt32) (nar .byte ((q1.toUInt64 >>> ((8 : Int32) &&& 0x3f).toInt64.toUInt64).toInt64).toInt32.toInt8.toInt32) (nar .byte q1.toInt32.toInt8.toInt32) T17.heap n0 P17_0 V9_17) (W := 0) (by decide) (by decide) (ce := 4) (sl := 19) rfl rfl (by decide) (by decide) rfl e26 rfl pd_5 rfl (Nat.le_refl _) rfl (fun v27 T27 L27 X27 Q27 => ?_)
    obtain ⟨q27, Nq27, e27⟩ := Q27
    have N27 := Fr.app N26 Nq27
    rw [Fk7_l3 (0 : Int32) (nar .byte q1.toInt32.toInt8.toInt32) (nar .byte q1.toInt32.toInt8.toInt32) (show ¬ ((7 : Int32) < (0 : Int32)) from (by decide)) (show ¬ ((7 : Int32) < ((0 : Int32) + (4 : Int32))) from (by decide)) (show (nar .byte q1.toInt32.toInt8.toInt32) = (nar .byte q1.toInt32.toInt8.toInt32) from (rfl : (nar .byte q1.toInt32.toInt8.toInt32) = (nar .byte q1.toInt32.toInt8.toInt32)))] at q27
    subst q27
    show Go p.tables e below _ (T27.setTop (mkF m 314 #[.val (.long q1), .second, .val (.int p2), .val (.int p3), .val (.int (0 : Int32)), .val (.ref b1), .val (.ref b10), .val (.ref rb12), .val (.int ((((((nar .byte ((p3.toUInt32 >>> ((24 : Int32) &&& 31).toUInt32).toInt32).toInt8.toInt32) &&& (255 : Int32)) <<< ((24 : Int32) &&& 31)) ||| (((nar .byte ((p3.toUInt32 >>> ((16 : Int32) &&& 31).toUInt32).toInt32).toInt8.toInt32) &&& (255 : Int32)) <<< ((16 : Int32) &&& 31))) ||| (((nar .byte ((p3.toUInt32 >>> ((8 : Int32) &&& 31).toUInt32).toInt32).toInt8.toInt32) &&& (255 : Int32)) <<< ((8 : Int32) &&& 31))) ||| ((nar .byte p3.toInt8.toInt32) &&& (255 : Int32))))] [(.int (1 : Int32))]))
    refine g_ifN (pc' := 317) C X27 at_314 (feq (show ¬ ((1 : Int32) = (0 : Int32)) from (by decide))).1 rfl ?_
    refine g_iconst (pc' := 318) (v := (1 : Int32)) C X27 at_317 rfl rfl ?_
    refine g_goto (pc' := 322) C X27 at_318 (by decide) (by decide) ?_
    exact g_retN C X27 (by simp) at_322 (by decide) (by decide) ⟨rfl, N27⟩
  · refine own_cast (show T15.setTop (mkF m 112 #[.val (.long q1), .second, .val (.int p2), .val (.int p3), .val (.int ((p2 &&& (2147483647 : Int32)) % (5 : Int32))), .val (.ref b1), .val (.ref b10), .unset, .unset] []) = T15.setTop (mkF m 112 #[.val (.long q1), .second, .val (.int p2), .val (.int p3), .val (.int (1 : Int32)), .val (.ref b1), .val (.ref b10), .unset, .unset] []) from by rw [s16]) ?_
    refine g_aload (pc' := 114) C X15 at_112 rfl rfl rfl ?_
    refine g_iload (pc' := 116) C X15 at_114 rfl rfl ?_
    refine g_iloadN (pc' := 117) C X15 at_116 rfl rfl ?_
    refine g_callV (b := b10) (z := (⟨"com/example/caseloom/caseloom/store/ByteWriter", "setInt", "(II)V"⟩ : MethodName)) (y := (⟨"com/example/caseloom/caseloom/store/ByteWriter", "setInt", "(II)V"⟩ : MethodName)) (argsL := [(.int (1 : Int32)), (.int p3)]) (st := []) (pc' := 120) C X15 at_117 (hw _ (List.mem_of_getElem? (i := 31) rfl)) (hw _ (List.mem_of_getElem? (i := 32) rfl)) (notFace_of_selects (args := #[]) (mvT C.hZ (hw _ (List.mem_of_getElem? (i := 34) rfl)))) (hw _ (List.mem_of_getElem? (i := 34) rfl)) (hw _ (List.mem_of_getElem? (i := 33) rfl)) (hw _ (List.mem_of_getElem? (i := 4) rfl)) (hw _ (List.mem_of_getElem? (i := 35) rfl)) (by decide) (rms1 l Z a0 hw [] b10 p3 rb12 kb12 (nar .byte ((q1.toUInt64 >>> ((56 : Int32) &&& 0x3f).toInt64.toUInt64).toInt64).toInt32.toInt8.toInt32) (nar .byte ((q1.toUInt64 >>> ((48 : Int32) &&& 0x3f).toInt64.toUInt64).toInt64).toInt32.toInt8.toInt32) (nar .byte ((q1.toUInt64 >>> ((40 : Int32) &&& 0x3f).toInt64.toUInt64).toInt64).toInt32.toInt8.toInt32) (nar .byte ((q1.toUInt64 >>> ((32 : Int32) &&& 0x3f).toInt64.toUInt64).toInt64).toInt32.toInt8.toInt32) (nar .byte ((q1.toUInt64 >>> ((24 : Int32) &&& 0x3f).toInt64.toUInt64).toInt64).toInt32.toInt8.toInt32) (nar .byte ((q1.toUInt64 >>> ((16 : Int32) &&& 0x3f).toInt64.toUInt64).toInt64).toInt32.toInt8.toInt32) (nar .byte ((q1.toUInt64 >>> ((8 : Int32) &&& 0x3f).toInt64.toUInt64).toInt64).toInt32.toInt8.toInt32) (nar .byte q1.toInt32.toInt8.toInt32) T15.heap n0 Z15 P15_2 P15_3 gn_rb12 ne12_14) (W := 0) (by decide) (by decide) (ce := 4) (sl := 19) rfl rfl (by decide) (by decide) rfl P15_0 rfl rfl pd_2 rfl (Nat.le_refl _) rfl (fun v28 T28 L28 X28 Q28 => ?_)
    obtain ⟨q28, Nq28, Kq28, P28_0⟩ := Q28
    have N28 := Fr.app N15 Nq28
    have V9_28 := V9_15.keep Kq28 (ninS ne12_13 nin0)
    have P15_0_28 := P15_0.keep Kq28
    have P15_1_28 := P15_1.keep Kq28 (ninS ne12_14 nin0)
    have P15_2_28 := P15_2.keep Kq28 (ninS ne12_14 nin0)
    have Z28 := Nat.le_trans Z15 Kq28.1
    subst q28
    show Go p.tables e below _ (T28.setTop (mkF m 120 #[.val (.long q1), .second, .val (.int p2), .val (.int p3), .val (.int (1 : Int32)), .val (.ref b1), .val (.ref b10), .unset, .unset] []))
    refine g_aload (pc' := 122) C X28 at_120 rfl rfl rfl ?_
    refine g_callV (b := b10) (z := (⟨"com/example/caseloom/caseloom/store/ByteWriter", "array", "()[B"⟩ : MethodName)) (y := (⟨"com/example/caseloom/caseloom/store/ByteWriter", "array", "()[B"⟩ : MethodName)) (argsL := []) (st := []) (pc' := 125) C X28 at_122 (hw _ (List.mem_of_getElem? (i := 36) rfl)) (hw _ (List.mem_of_getElem? (i := 37) rfl)) (notFace_of_selects (args := #[]) (mvT C.hZ (hw _ (List.mem_of_getElem? (i := 39) rfl)))) (hw _ (List.mem_of_getElem? (i := 39) rfl)) (hw _ (List.mem_of_getElem? (i := 38) rfl)) (hw _ (List.mem_of_getElem? (i := 4) rfl)) (hw _ (List.mem_of_getElem? (i := 40) rfl)) (by decide) (rm6 l Z a0 hw [] b10 rb12 T28.heap n0 P15_2_28) (W := 0) (by decide) (by decide) (ce := 4) (sl := 19) rfl rfl (by decide) (by decide) rfl P15_0_28 rfl rfl pd_3 rfl (Nat.le_refl _) rfl (fun v29 T29 L29 X29 Q29 => ?_)
    obtain ⟨q29, Nq29, e29⟩ := Q29
    have N29 := Fr.app N28 Nq29
    rw [F6_l0 rb12] at q29
    subst q29
    show Go p.tables e below _ (T29.setTop (mkF m 125 #[.val (.long q1), .second, .val (.int p2), .val (.int p3), .val (.int (1 : Int32)), .val (.ref b1), .val (.ref b10), .unset, .unset] [(.ref rb12)]))
    refine g_astore (pc' := 127) (Ls' := #[.val (.long q1), .second, .val (.int p2), .val (.int p3), .val (.int (1 : Int32)), .val (.ref b1), .val (.ref b10), .val (.ref rb12), .unset]) C X29 at_125 rfl rfl rfl ?_
    refine g_aload (pc' := 129) C X29 at_127 rfl rfl rfl ?_
    refine g_len (pc' := 130) C X29 at_129 e29 P28_0 rfl ?_
    refine g_bipush (pc' := 132) (v := (8 : Int32)) C X29 at_130 rfl rfl ?_
    refine g_icmpY (pc' := 137) C X29 at_132 (teq (show (8 : Int32) = (8 : Int32) from (by decide))).1 (by decide) (by decide) ?_
    refine g_aload (pc' := 139) C X29 at_137 rfl rfl rfl ?_
    refine g_callV (b := b10) (z := (⟨"com/example/caseloom/caseloom/store/ByteWriter", "length", "()I"⟩ : MethodName)) (y := (⟨"com/example/caseloom/caseloom/store/ByteWriter", "length", "()I"⟩ : MethodName)) (argsL := []) (st := []) (pc' := 142) C X29 at_139 (hw _ (List.mem_of_getElem? (i := 41) rfl)) (hw _ (List.mem_of_getElem? (i := 42) rfl)) (notFace_of_selects (args := #[]) (mvT C.hZ (hw _ (List.mem_of_getElem? (i := 44) rfl)))) (hw _ (List.mem_of_getElem? (i := 44) rfl)) (hw _ (List.mem_of_getElem? (i := 43) rfl)) (hw _ (List.mem_of_getElem? (i := 4) rfl)) (hw _ (List.mem_of_getElem? (i := 45) rfl)) (by decide) (rm7 l Z a0 hw [] b10 (8 : Int32) T28.heap n0 P15_1_28) (W := 0) (by decide) (by decide) (ce := 4) (sl := 19) rfl rfl (by decide) (by decide) rfl P15_0_28 e29 rfl pd_4 rfl (Nat.le_refl _) rfl (fun v30 T30 L30 X30 Q30 => ?_)
    obtain ⟨q30, Nq30, e30⟩ := Q30
    have N30 := Fr.app N29 Nq30
    rw [F7_l0 (8 : Int32)] at q30
    subst q30
    show Go p.tables e below _ (T30.setTop (mkF m 142 #[.val (.long q1), .second, .val (.int p2), .val (.int p3), .val (.int (1 : Int32)), .val (.ref b1), .val (.ref b10), .val (.ref rb12), .unset] [(.int (8 : Int32))]))
    refine g_bipush (pc' := 144) (v := (8 : Int32)) C X30 at_142 rfl rfl ?_
    refine g_icmpY (pc' := 149) C X30 at_144 (teq (show (8 : Int32) = (8 : Int32) from (by decide))).1 (by decide) (by decide) ?_
    refine g_aload (pc' := 151) C X30 at_149 rfl rfl rfl ?_
    refine g_iload (pc' := 153) C X30 at_151 rfl rfl ?_
    refine g_ldB (pc' := 154) (v := (.int (nar .byte ((p3.toUInt32 >>> ((24 : Int32) &&& 31).toUInt32).toInt32).toInt8.toInt32))) C X30 at_153 e30 P28_0 ⟨by decide, by decide⟩ rfl rfl ?_
    refine g_sipush (pc' := 157) (v := (255 : Int32)) C X30 at_154 rfl rfl ?_
    refine g_iand (pc' := 158) C X30 at_157 rfl ?_
    refine g_bipush (pc' := 160) (v := (24 : Int32)) C X30 at_158 rfl rfl ?_
    refine g_ishl (pc' := 161) C X30 at_160 rfl ?_
    refine g_aload (pc' := 163) C X30 at_161 rfl rfl rfl ?_
    refine g_iload (pc' := 165) C X30 at_163 rfl rfl ?_
    refine g_iconst (pc' := 166) (v := (1 : Int32)) C X30 at_165 rfl rfl ?_
    refine g_iadd (pc' := 167) C X30 at_166 rfl ?_
    refine own_cast (congrArg (fun z => T30.setTop (mkF m 167 #[.val (.long q1), .second, .val (.int p2), .val (.int p3), .val (.int (1 : Int32)), .val (.ref b1), .val (.ref b10), .val (.ref rb12), .unset] (.int z :: [(.ref rb12), (.int (((nar .byte ((p3.toUInt32 >>> ((24 : Int32) &&& 31).toUInt32).toInt32).toInt8.toInt32) &&& (255 : Int32)) <<< ((24 : Int32) &&& 31)))]))) (show ((1 : Int32) + (1 : Int32)) = (2 : Int32) from by decide)) ?_
    refine g_ldB (pc' := 168) (v := (.int (nar .byte ((p3.toUInt32 >>> ((16 : Int32) &&& 31).toUInt32).toInt32).toInt8.toInt32))) C X30 at_167 e30 P28_0 ⟨by decide, by decide⟩ rfl rfl ?_
    refine g_sipush (pc' := 171) (v := (255 : Int32)) C X30 at_168 rfl rfl ?_
    refine g_iand (pc' := 172) C X30 at_171 rfl ?_
    refine g_bipush (pc' := 174) (v := (16 : Int32)) C X30 at_172 rfl rfl ?_
    refine g_ishl (pc' := 175) C X30 at_174 rfl ?_
    refine g_ior (pc' := 176) C X30 at_175 rfl ?_
    refine g_aload (pc' := 178) C X30 at_176 rfl rfl rfl ?_
    refine g_iload (pc' := 180) C X30 at_178 rfl rfl ?_
    refine g_iconst (pc' := 181) (v := (2 : Int32)) C X30 at_180 rfl rfl ?_
    refine g_iadd (pc' := 182) C X30 at_181 rfl ?_
    refine own_cast (congrArg (fun z => T30.setTop (mkF m 182 #[.val (.long q1), .second, .val (.int p2), .val (.int p3), .val (.int (1 : Int32)), .val (.ref b1), .val (.ref b10), .val (.ref rb12), .unset] (.int z :: [(.ref rb12), (.int ((((nar .byte ((p3.toUInt32 >>> ((24 : Int32) &&& 31).toUInt32).toInt32).toInt8.toInt32) &&& (255 : Int32)) <<< ((24 : Int32) &&& 31)) ||| (((nar .byte ((p3.toUInt32 >>> ((16 : Int32) &&& 31).toUInt32).toInt32).toInt8.toInt32) &&& (255 : Int32)) <<< ((16 : Int32) &&& 31))))]))) (show ((1 : Int32) + (2 : Int32)) = (3 : Int32) from by decide)) ?_
    refine g_ldB (pc' := 183) (v := (.int (nar .byte ((p3.toUInt32 >>> ((8 : Int32) &&& 31).toUInt32).toInt32).toInt8.toInt32))) C X30 at_182 e30 P28_0 ⟨by decide, by decide⟩ rfl rfl ?_
    refine g_sipush (pc' := 186) (v := (255 : Int32)) C X30 at_183 rfl rfl ?_
    refine g_iand (pc' := 187) C X30 at_186 rfl ?_
    refine g_bipush (pc' := 189) (v := (8 : Int32)) C X30 at_187 rfl rfl ?_
    refine g_ishl (pc' := 190) C X30 at_189 rfl ?_
    refine g_ior (pc' := 191) C X30 at_190 rfl ?_
    refine g_aload (pc' := 193) C X30 at_191 rfl rfl rfl ?_
    refine g_iload (pc' := 195) C X30 at_193 rfl rfl ?_
    refine g_iconst (pc' := 196) (v := (3 : Int32)) C X30 at_195 rfl rfl ?_
    refine g_iadd (pc' := 197) C X30 at_196 rfl ?_
    refine own_cast (congrArg (fun z => T30.setTop (mkF m 197 #[.val (.long q1), .second, .val (.int p2), .val (.int p3), .val (.int (1 : Int32)), .val (.ref b1), .val (.ref b10), .val (.ref rb12), .unset] (.int z :: [(.ref rb12), (.int (((((nar .byte ((p3.toUInt32 >>> ((24 : Int32) &&& 31).toUInt32).toInt32).toInt8.toInt32) &&& (255 : Int32)) <<< ((24 : Int32) &&& 31)) ||| (((nar .byte ((p3.toUInt32 >>> ((16 : Int32) &&& 31).toUInt32).toInt32).toInt8.toInt32) &&& (255 : Int32)) <<< ((16 : Int32) &&& 31))) ||| (((nar .byte ((p3.toUInt32 >>> ((8 : Int32) &&& 31).toUInt32).toInt32).toInt8.toInt32) &&& (255 : Int32)) <<< ((8 : Int32) &&& 31))))]))) (show ((1 : Int32) + (3 : Int32)) = (4 : Int32) from by decide)) ?_
    refine g_ldB (pc' := 198) (v := (.int (nar .byte p3.toInt8.toInt32))) C X30 at_197 e30 P28_0 ⟨by decide, by decide⟩ rfl rfl ?_
    refine g_sipush (pc' := 201) (v := (255 : Int32)) C X30 at_198 rfl rfl ?_
    refine g_iand (pc' := 202) C X30 at_201 rfl ?_
    refine g_ior (pc' := 203) C X30 at_202 rfl ?_
    refine g_istore (pc' := 205) (Ls' := #[.val (.long q1), .second, .val (.int p2), .val (.int p3), .val (.int (1 : Int32)), .val (.ref b1), .val (.ref b10), .val (.ref rb12), .val (.int ((((((nar .byte ((p3.toUInt32 >>> ((24 : Int32) &&& 31).toUInt32).toInt32).toInt8.toInt32) &&& (255 : Int32)) <<< ((24 : Int32) &&& 31)) ||| (((nar .byte ((p3.toUInt32 >>> ((16 : Int32) &&& 31).toUInt32).toInt32).toInt8.toInt32) &&& (255 : Int32)) <<< ((16 : Int32) &&& 31))) ||| (((nar .byte ((p3.toUInt32 >>> ((8 : Int32) &&& 31).toUInt32).toInt32).toInt8.toInt32) &&& (255 : Int32)) <<< ((8 : Int32) &&& 31))) ||| ((nar .byte p3.toInt8.toInt32) &&& (255 : Int32))))]) C X30 at_203 rfl rfl ?_
    refine g_iload (pc' := 207) C X30 at_205 rfl rfl ?_
    refine g_iloadN (pc' := 208) C X30 at_207 rfl rfl ?_
    refine g_icmpN (pc' := 211) C X30 at_208 (teq (show ((((((nar .byte ((p3.toUInt32 >>> ((24 : Int32) &&& 31).toUInt32).toInt32).toInt8.toInt32) &&& (255 : Int32)) <<< ((24 : Int32) &&& 31)) ||| (((nar .byte ((p3.toUInt32 >>> ((16 : Int32) &&& 31).toUInt32).toInt32).toInt8.toInt32) &&& (255 : Int32)) <<< ((16 : Int32) &&& 31))) ||| (((nar .byte ((p3.toUInt32 >>> ((8 : Int32) &&& 31).toUInt32).toInt32).toInt8.toInt32) &&& (255 : Int32)) <<< ((8 : Int32) &&& 31))) ||| ((nar .byte p3.toInt8.toInt32) &&& (255 : Int32))) = p3 from (own_got p3))).2 rfl ?_
    refine g_aload (pc' := 213) C X30 at_211 rfl rfl rfl ?_
    refine g_aload (pc' := 215) C X30 at_213 rfl rfl rfl ?_
    refine g_iconst (pc' := 216) (v := (0 : Int32)) C X30 at_215 rfl rfl ?_
    refine g_iload (pc' := 218) C X30 at_216 rfl rfl ?_
    refine g_callS (y := (⟨"com/example/caseloom/caseloom/store/ByteWriterSetIntPinLaw", "keep", "([B[BII)Z"⟩ : MethodName)) (argsL := [(.ref rb12), (.ref b1), (.int (0 : Int32)), (.int (1 : Int32))]) (st := []) (pc' := 221) C X30 at_218 (hw _ (List.mem_of_getElem? (i := 46) rfl)) (hw _ (List.mem_of_getElem? (i := 47) rfl)) (hw _ (List.mem_of_getElem? (i := 48) rfl)) (hw _ (List.mem_of_getElem? (i := 49) rfl)) (by decide) (rmk0 l Z a0 hw [] rb12 b1 (1 : Int32) kb12 k1 (nar .byte ((q1.toUInt64 >>> ((56 : Int32) &&& 0x3f).toInt64.toUInt64).toInt64).toInt32.toInt8.toInt32) (nar .byte ((p3.toUInt32 >>> ((24 : Int32) &&& 31).toUInt32).toInt32).toInt8.toInt32) (nar .byte ((p3.toUInt32 >>> ((16 : Int32) &&& 31).toUInt32).toInt32).toInt8.toInt32) (nar .byte ((p3.toUInt32 >>> ((8 : Int32) &&& 31).toUInt32).toInt32).toInt8.toInt32) (nar .byte p3.toInt8.toInt32) (nar .byte ((q1.toUInt64 >>> ((16 : Int32) &&& 0x3f).toInt64.toUInt64).toInt64).toInt32.toInt8.toInt32) (nar .byte ((q1.toUInt64 >>> ((8 : Int32) &&& 0x3f).toInt64.toUInt64).toInt64).toInt32.toInt8.toInt32) (nar .byte q1.toInt32.toInt8.toInt32) (nar .byte ((q1.toUInt64 >>> ((56 : Int32) &&& 0x3f).toInt64.toUInt64).toInt64).toInt32.toInt8.toInt32) (nar .byte ((q1.toUInt64 >>> ((48 : Int32) &&& 0x3f).toInt64.toUInt64).toInt64).toInt32.toInt8.toInt32) (nar .byte ((q1.toUInt64 >>> ((40 : Int32) &&& 0x3f).toInt64.toUInt64).toInt64).toInt32.toInt8.toInt32) (nar .byte ((q1.toUInt64 >>> ((32 : Int32) &&& 0x3f).toInt64.toUInt64).toInt64).toInt32.toInt8.toInt32) (nar .byte ((q1.toUInt64 >>> ((24 : Int32) &&& 0x3f).toInt64.toUInt64).toInt64).toInt32.toInt8.toInt32) (nar .byte ((q1.toUInt64 >>> ((16 : Int32) &&& 0x3f).toInt64.toUInt64).toInt64).toInt32.toInt8.toInt32) (nar .byte ((q1.toUInt64 >>> ((8 : Int32) &&& 0x3f).toInt64.toUInt64).toInt64).toInt32.toInt8.toInt32) (nar .byte q1.toInt32.toInt8.toInt32) T28.heap n0 P28_0 V9_28) (W := 0) (by decide) (by decide) (ce := 4) (sl := 19) rfl rfl (by decide) (by decide) rfl e30 rfl pd_5 rfl (Nat.le_refl _) rfl (fun v31 T31 L31 X31 Q31 => ?_)
    obtain ⟨q31, Nq31, e31⟩ := Q31
    have N31 := Fr.app N30 Nq31
    rw [Fk0_l0 (1 : Int32) (nar .byte ((q1.toUInt64 >>> ((56 : Int32) &&& 0x3f).toInt64.toUInt64).toInt64).toInt32.toInt8.toInt32) (nar .byte ((q1.toUInt64 >>> ((56 : Int32) &&& 0x3f).toInt64.toUInt64).toInt64).toInt32.toInt8.toInt32) (show (0 : Int32) < (1 : Int32) from (by decide)) (show (nar .byte ((q1.toUInt64 >>> ((56 : Int32) &&& 0x3f).toInt64.toUInt64).toInt64).toInt32.toInt8.toInt32) = (nar .byte ((q1.toUInt64 >>> ((56 : Int32) &&& 0x3f).toInt64.toUInt64).toInt64).toInt32.toInt8.toInt32) from (rfl : (nar .byte ((q1.toUInt64 >>> ((56 : Int32) &&& 0x3f).toInt64.toUInt64).toInt64).toInt32.toInt8.toInt32) = (nar .byte ((q1.toUInt64 >>> ((56 : Int32) &&& 0x3f).toInt64.toUInt64).toInt64).toInt32.toInt8.toInt32)))] at q31
    subst q31
    show Go p.tables e below _ (T31.setTop (mkF m 221 #[.val (.long q1), .second, .val (.int p2), .val (.int p3), .val (.int (1 : Int32)), .val (.ref b1), .val (.ref b10), .val (.ref rb12), .val (.int ((((((nar .byte ((p3.toUInt32 >>> ((24 : Int32) &&& 31).toUInt32).toInt32).toInt8.toInt32) &&& (255 : Int32)) <<< ((24 : Int32) &&& 31)) ||| (((nar .byte ((p3.toUInt32 >>> ((16 : Int32) &&& 31).toUInt32).toInt32).toInt8.toInt32) &&& (255 : Int32)) <<< ((16 : Int32) &&& 31))) ||| (((nar .byte ((p3.toUInt32 >>> ((8 : Int32) &&& 31).toUInt32).toInt32).toInt8.toInt32) &&& (255 : Int32)) <<< ((8 : Int32) &&& 31))) ||| ((nar .byte p3.toInt8.toInt32) &&& (255 : Int32))))] [(.int (1 : Int32))]))
    refine g_ifN (pc' := 224) C X31 at_221 (feq (show ¬ ((1 : Int32) = (0 : Int32)) from (by decide))).1 rfl ?_
    refine g_aload (pc' := 226) C X31 at_224 rfl rfl rfl ?_
    refine g_aload (pc' := 228) C X31 at_226 rfl rfl rfl ?_
    refine g_iconst (pc' := 229) (v := (1 : Int32)) C X31 at_228 rfl rfl ?_
    refine g_iload (pc' := 231) C X31 at_229 rfl rfl ?_
    refine g_callS (y := (⟨"com/example/caseloom/caseloom/store/ByteWriterSetIntPinLaw", "keep", "([B[BII)Z"⟩ : MethodName)) (argsL := [(.ref rb12), (.ref b1), (.int (1 : Int32)), (.int (1 : Int32))]) (st := []) (pc' := 234) C X31 at_231 (hw _ (List.mem_of_getElem? (i := 46) rfl)) (hw _ (List.mem_of_getElem? (i := 47) rfl)) (hw _ (List.mem_of_getElem? (i := 48) rfl)) (hw _ (List.mem_of_getElem? (i := 49) rfl)) (by decide) (rmk1 l Z a0 hw [] rb12 b1 (1 : Int32) kb12 k1 (nar .byte ((q1.toUInt64 >>> ((56 : Int32) &&& 0x3f).toInt64.toUInt64).toInt64).toInt32.toInt8.toInt32) (nar .byte ((p3.toUInt32 >>> ((24 : Int32) &&& 31).toUInt32).toInt32).toInt8.toInt32) (nar .byte ((p3.toUInt32 >>> ((16 : Int32) &&& 31).toUInt32).toInt32).toInt8.toInt32) (nar .byte ((p3.toUInt32 >>> ((8 : Int32) &&& 31).toUInt32).toInt32).toInt8.toInt32) (nar .byte p3.toInt8.toInt32) (nar .byte ((q1.toUInt64 >>> ((16 : Int32) &&& 0x3f).toInt64.toUInt64).toInt64).toInt32.toInt8.toInt32) (nar .byte ((q1.toUInt64 >>> ((8 : Int32) &&& 0x3f).toInt64.toUInt64).toInt64).toInt32.toInt8.toInt32) (nar .byte q1.toInt32.toInt8.toInt32) (nar .byte ((q1.toUInt64 >>> ((56 : Int32) &&& 0x3f).toInt64.toUInt64).toInt64).toInt32.toInt8.toInt32) (nar .byte ((q1.toUInt64 >>> ((48 : Int32) &&& 0x3f).toInt64.toUInt64).toInt64).toInt32.toInt8.toInt32) (nar .byte ((q1.toUInt64 >>> ((40 : Int32) &&& 0x3f).toInt64.toUInt64).toInt64).toInt32.toInt8.toInt32) (nar .byte ((q1.toUInt64 >>> ((32 : Int32) &&& 0x3f).toInt64.toUInt64).toInt64).toInt32.toInt8.toInt32) (nar .byte ((q1.toUInt64 >>> ((24 : Int32) &&& 0x3f).toInt64.toUInt64).toInt64).toInt32.toInt8.toInt32) (nar .byte ((q1.toUInt64 >>> ((16 : Int32) &&& 0x3f).toInt64.toUInt64).toInt64).toInt32.toInt8.toInt32) (nar .byte ((q1.toUInt64 >>> ((8 : Int32) &&& 0x3f).toInt64.toUInt64).toInt64).toInt32.toInt8.toInt32) (nar .byte q1.toInt32.toInt8.toInt32) T28.heap n0 P28_0 V9_28) (W := 0) (by decide) (by decide) (ce := 4) (sl := 19) rfl rfl (by decide) (by decide) rfl e31 rfl pd_5 rfl (Nat.le_refl _) rfl (fun v32 T32 L32 X32 Q32 => ?_)
    obtain ⟨q32, Nq32, e32⟩ := Q32
    have N32 := Fr.app N31 Nq32
    rw [Fk1_l2 (1 : Int32) (nar .byte ((p3.toUInt32 >>> ((24 : Int32) &&& 31).toUInt32).toInt32).toInt8.toInt32) (nar .byte ((q1.toUInt64 >>> ((48 : Int32) &&& 0x3f).toInt64.toUInt64).toInt64).toInt32.toInt8.toInt32) (show ¬ ((1 : Int32) < (1 : Int32)) from (by decide)) (show (1 : Int32) < ((1 : Int32) + (4 : Int32)) from (by decide))] at q32
    subst q32
    show Go p.tables e below _ (T32.setTop (mkF m 234 #[.val (.long q1), .second, .val (.int p2), .val (.int p3), .val (.int (1 : Int32)), .val (.ref b1), .val (.ref b10), .val (.ref rb12), .val (.int ((((((nar .byte ((p3.toUInt32 >>> ((24 : Int32) &&& 31).toUInt32).toInt32).toInt8.toInt32) &&& (255 : Int32)) <<< ((24 : Int32) &&& 31)) ||| (((nar .byte ((p3.toUInt32 >>> ((16 : Int32) &&& 31).toUInt32).toInt32).toInt8.toInt32) &&& (255 : Int32)) <<< ((16 : Int32) &&& 31))) ||| (((nar .byte ((p3.toUInt32 >>> ((8 : Int32) &&& 31).toUInt32).toInt32).toInt8.toInt32) &&& (255 : Int32)) <<< ((8 : Int32) &&& 31))) ||| ((nar .byte p3.toInt8.toInt32) &&& (255 : Int32))))] [(.int (1 : Int32))]))
    refine g_ifN (pc' := 237) C X32 at_234 (feq (show ¬ ((1 : Int32) = (0 : Int32)) from (by decide))).1 rfl ?_
    refine g_aload (pc' := 239) C X32 at_237 rfl rfl rfl ?_
    refine g_aload (pc' := 241) C X32 at_239 rfl rfl rfl ?_
    refine g_iconst (pc' := 242) (v := (2 : Int32)) C X32 at_241 rfl rfl ?_
    refine g_iload (pc' := 244) C X32 at_242 rfl rfl ?_
    refine g_callS (y := (⟨"com/example/caseloom/caseloom/store/ByteWriterSetIntPinLaw", "keep", "([B[BII)Z"⟩ : MethodName)) (argsL := [(.ref rb12), (.ref b1), (.int (2 : Int32)), (.int (1 : Int32))]) (st := []) (pc' := 247) C X32 at_244 (hw _ (List.mem_of_getElem? (i := 46) rfl)) (hw _ (List.mem_of_getElem? (i := 47) rfl)) (hw _ (List.mem_of_getElem? (i := 48) rfl)) (hw _ (List.mem_of_getElem? (i := 49) rfl)) (by decide) (rmk2 l Z a0 hw [] rb12 b1 (1 : Int32) kb12 k1 (nar .byte ((q1.toUInt64 >>> ((56 : Int32) &&& 0x3f).toInt64.toUInt64).toInt64).toInt32.toInt8.toInt32) (nar .byte ((p3.toUInt32 >>> ((24 : Int32) &&& 31).toUInt32).toInt32).toInt8.toInt32) (nar .byte ((p3.toUInt32 >>> ((16 : Int32) &&& 31).toUInt32).toInt32).toInt8.toInt32) (nar .byte ((p3.toUInt32 >>> ((8 : Int32) &&& 31).toUInt32).toInt32).toInt8.toInt32) (nar .byte p3.toInt8.toInt32) (nar .byte ((q1.toUInt64 >>> ((16 : Int32) &&& 0x3f).toInt64.toUInt64).toInt64).toInt32.toInt8.toInt32) (nar .byte ((q1.toUInt64 >>> ((8 : Int32) &&& 0x3f).toInt64.toUInt64).toInt64).toInt32.toInt8.toInt32) (nar .byte q1.toInt32.toInt8.toInt32) (nar .byte ((q1.toUInt64 >>> ((56 : Int32) &&& 0x3f).toInt64.toUInt64).toInt64).toInt32.toInt8.toInt32) (nar .byte ((q1.toUInt64 >>> ((48 : Int32) &&& 0x3f).toInt64.toUInt64).toInt64).toInt32.toInt8.toInt32) (nar .byte ((q1.toUInt64 >>> ((40 : Int32) &&& 0x3f).toInt64.toUInt64).toInt64).toInt32.toInt8.toInt32) (nar .byte ((q1.toUInt64 >>> ((32 : Int32) &&& 0x3f).toInt64.toUInt64).toInt64).toInt32.toInt8.toInt32) (nar .byte ((q1.toUInt64 >>> ((24 : Int32) &&& 0x3f).toInt64.toUInt64).toInt64).toInt32.toInt8.toInt32) (nar .byte ((q1.toUInt64 >>> ((16 : Int32) &&& 0x3f).toInt64.toUInt64).toInt64).toInt32.toInt8.toInt32) (nar .byte ((q1.toUInt64 >>> ((8 : Int32) &&& 0x3f).toInt64.toUInt64).toInt64).toInt32.toInt8.toInt32) (nar .byte q1.toInt32.toInt8.toInt32) T28.heap n0 P28_0 V9_28) (W := 0) (by decide) (by decide) (ce := 4) (sl := 19) rfl rfl (by decide) (by decide) rfl e32 rfl pd_5 rfl (Nat.le_refl _) rfl (fun v33 T33 L33 X33 Q33 => ?_)
    obtain ⟨q33, Nq33, e33⟩ := Q33
    have N33 := Fr.app N32 Nq33
    rw [Fk2_l2 (1 : Int32) (nar .byte ((p3.toUInt32 >>> ((16 : Int32) &&& 31).toUInt32).toInt32).toInt8.toInt32) (nar .byte ((q1.toUInt64 >>> ((40 : Int32) &&& 0x3f).toInt64.toUInt64).toInt64).toInt32.toInt8.toInt32) (show ¬ ((2 : Int32) < (1 : Int32)) from (by decide)) (show (2 : Int32) < ((1 : Int32) + (4 : Int32)) from (by decide))] at q33
    subst q33
    show Go p.tables e below _ (T33.setTop (mkF m 247 #[.val (.long q1), .second, .val (.int p2), .val (.int p3), .val (.int (1 : Int32)), .val (.ref b1), .val (.ref b10), .val (.ref rb12), .val (.int ((((((nar .byte ((p3.toUInt32 >>> ((24 : Int32) &&& 31).toUInt32).toInt32).toInt8.toInt32) &&& (255 : Int32)) <<< ((24 : Int32) &&& 31)) ||| (((nar .byte ((p3.toUInt32 >>> ((16 : Int32) &&& 31).toUInt32).toInt32).toInt8.toInt32) &&& (255 : Int32)) <<< ((16 : Int32) &&& 31))) ||| (((nar .byte ((p3.toUInt32 >>> ((8 : Int32) &&& 31).toUInt32).toInt32).toInt8.toInt32) &&& (255 : Int32)) <<< ((8 : Int32) &&& 31))) ||| ((nar .byte p3.toInt8.toInt32) &&& (255 : Int32))))] [(.int (1 : Int32))]))
    refine g_ifN (pc' := 250) C X33 at_247 (feq (show ¬ ((1 : Int32) = (0 : Int32)) from (by decide))).1 rfl ?_
    refine g_aload (pc' := 252) C X33 at_250 rfl rfl rfl ?_
    refine g_aload (pc' := 254) C X33 at_252 rfl rfl rfl ?_
    refine g_iconst (pc' := 255) (v := (3 : Int32)) C X33 at_254 rfl rfl ?_
    refine g_iload (pc' := 257) C X33 at_255 rfl rfl ?_
    refine g_callS (y := (⟨"com/example/caseloom/caseloom/store/ByteWriterSetIntPinLaw", "keep", "([B[BII)Z"⟩ : MethodName)) (argsL := [(.ref rb12), (.ref b1), (.int (3 : Int32)), (.int (1 : Int32))]) (st := []) (pc' := 260) C X33 at_257 (hw _ (List.mem_of_getElem? (i := 46) rfl)) (hw _ (List.mem_of_getElem? (i := 47) rfl)) (hw _ (List.mem_of_getElem? (i := 48) rfl)) (hw _ (List.mem_of_getElem? (i := 49) rfl)) (by decide) (rmk3 l Z a0 hw [] rb12 b1 (1 : Int32) kb12 k1 (nar .byte ((q1.toUInt64 >>> ((56 : Int32) &&& 0x3f).toInt64.toUInt64).toInt64).toInt32.toInt8.toInt32) (nar .byte ((p3.toUInt32 >>> ((24 : Int32) &&& 31).toUInt32).toInt32).toInt8.toInt32) (nar .byte ((p3.toUInt32 >>> ((16 : Int32) &&& 31).toUInt32).toInt32).toInt8.toInt32) (nar .byte ((p3.toUInt32 >>> ((8 : Int32) &&& 31).toUInt32).toInt32).toInt8.toInt32) (nar .byte p3.toInt8.toInt32) (nar .byte ((q1.toUInt64 >>> ((16 : Int32) &&& 0x3f).toInt64.toUInt64).toInt64).toInt32.toInt8.toInt32) (nar .byte ((q1.toUInt64 >>> ((8 : Int32) &&& 0x3f).toInt64.toUInt64).toInt64).toInt32.toInt8.toInt32) (nar .byte q1.toInt32.toInt8.toInt32) (nar .byte ((q1.toUInt64 >>> ((56 : Int32) &&& 0x3f).toInt64.toUInt64).toInt64).toInt32.toInt8.toInt32) (nar .byte ((q1.toUInt64 >>> ((48 : Int32) &&& 0x3f).toInt64.toUInt64).toInt64).toInt32.toInt8.toInt32) (nar .byte ((q1.toUInt64 >>> ((40 : Int32) &&& 0x3f).toInt64.toUInt64).toInt64).toInt32.toInt8.toInt32) (nar .byte ((q1.toUInt64 >>> ((32 : Int32) &&& 0x3f).toInt64.toUInt64).toInt64).toInt32.toInt8.toInt32) (nar .byte ((q1.toUInt64 >>> ((24 : Int32) &&& 0x3f).toInt64.toUInt64).toInt64).toInt32.toInt8.toInt32) (nar .byte ((q1.toUInt64 >>> ((16 : Int32) &&& 0x3f).toInt64.toUInt64).toInt64).toInt32.toInt8.toInt32) (nar .byte ((q1.toUInt64 >>> ((8 : Int32) &&& 0x3f).toInt64.toUInt64).toInt64).toInt32.toInt8.toInt32) (nar .byte q1.toInt32.toInt8.toInt32) T28.heap n0 P28_0 V9_28) (W := 0) (by decide) (by decide) (ce := 4) (sl := 19) rfl rfl (by decide) (by decide) rfl e33 rfl pd_5 rfl (Nat.le_refl _) rfl (fun v34 T34 L34 X34 Q34 => ?_)
    obtain ⟨q34, Nq34, e34⟩ := Q34
    have N34 := Fr.app N33 Nq34
    rw [Fk3_l2 (1 : Int32) (nar .byte ((p3.toUInt32 >>> ((8 : Int32) &&& 31).toUInt32).toInt32).toInt8.toInt32) (nar .byte ((q1.toUInt64 >>> ((32 : Int32) &&& 0x3f).toInt64.toUInt64).toInt64).toInt32.toInt8.toInt32) (show ¬ ((3 : Int32) < (1 : Int32)) from (by decide)) (show (3 : Int32) < ((1 : Int32) + (4 : Int32)) from (by decide))] at q34
    subst q34
    show Go p.tables e below _ (T34.setTop (mkF m 260 #[.val (.long q1), .second, .val (.int p2), .val (.int p3), .val (.int (1 : Int32)), .val (.ref b1), .val (.ref b10), .val (.ref rb12), .val (.int ((((((nar .byte ((p3.toUInt32 >>> ((24 : Int32) &&& 31).toUInt32).toInt32).toInt8.toInt32) &&& (255 : Int32)) <<< ((24 : Int32) &&& 31)) ||| (((nar .byte ((p3.toUInt32 >>> ((16 : Int32) &&& 31).toUInt32).toInt32).toInt8.toInt32) &&& (255 : Int32)) <<< ((16 : Int32) &&& 31))) ||| (((nar .byte ((p3.toUInt32 >>> ((8 : Int32) &&& 31).toUInt32).toInt32).toInt8.toInt32) &&& (255 : Int32)) <<< ((8 : Int32) &&& 31))) ||| ((nar .byte p3.toInt8.toInt32) &&& (255 : Int32))))] [(.int (1 : Int32))]))
    refine g_ifN (pc' := 263) C X34 at_260 (feq (show ¬ ((1 : Int32) = (0 : Int32)) from (by decide))).1 rfl ?_
    refine g_aload (pc' := 265) C X34 at_263 rfl rfl rfl ?_
    refine g_aload (pc' := 267) C X34 at_265 rfl rfl rfl ?_
    refine g_iconst (pc' := 268) (v := (4 : Int32)) C X34 at_267 rfl rfl ?_
    refine g_iload (pc' := 270) C X34 at_268 rfl rfl ?_
    refine g_callS (y := (⟨"com/example/caseloom/caseloom/store/ByteWriterSetIntPinLaw", "keep", "([B[BII)Z"⟩ : MethodName)) (argsL := [(.ref rb12), (.ref b1), (.int (4 : Int32)), (.int (1 : Int32))]) (st := []) (pc' := 273) C X34 at_270 (hw _ (List.mem_of_getElem? (i := 46) rfl)) (hw _ (List.mem_of_getElem? (i := 47) rfl)) (hw _ (List.mem_of_getElem? (i := 48) rfl)) (hw _ (List.mem_of_getElem? (i := 49) rfl)) (by decide) (rmk4 l Z a0 hw [] rb12 b1 (1 : Int32) kb12 k1 (nar .byte ((q1.toUInt64 >>> ((56 : Int32) &&& 0x3f).toInt64.toUInt64).toInt64).toInt32.toInt8.toInt32) (nar .byte ((p3.toUInt32 >>> ((24 : Int32) &&& 31).toUInt32).toInt32).toInt8.toInt32) (nar .byte ((p3.toUInt32 >>> ((16 : Int32) &&& 31).toUInt32).toInt32).toInt8.toInt32) (nar .byte ((p3.toUInt32 >>> ((8 : Int32) &&& 31).toUInt32).toInt32).toInt8.toInt32) (nar .byte p3.toInt8.toInt32) (nar .byte ((q1.toUInt64 >>> ((16 : Int32) &&& 0x3f).toInt64.toUInt64).toInt64).toInt32.toInt8.toInt32) (nar .byte ((q1.toUInt64 >>> ((8 : Int32) &&& 0x3f).toInt64.toUInt64).toInt64).toInt32.toInt8.toInt32) (nar .byte q1.toInt32.toInt8.toInt32) (nar .byte ((q1.toUInt64 >>> ((56 : Int32) &&& 0x3f).toInt64.toUInt64).toInt64).toInt32.toInt8.toInt32) (nar .byte ((q1.toUInt64 >>> ((48 : Int32) &&& 0x3f).toInt64.toUInt64).toInt64).toInt32.toInt8.toInt32) (nar .byte ((q1.toUInt64 >>> ((40 : Int32) &&& 0x3f).toInt64.toUInt64).toInt64).toInt32.toInt8.toInt32) (nar .byte ((q1.toUInt64 >>> ((32 : Int32) &&& 0x3f).toInt64.toUInt64).toInt64).toInt32.toInt8.toInt32) (nar .byte ((q1.toUInt64 >>> ((24 : Int32) &&& 0x3f).toInt64.toUInt64).toInt64).toInt32.toInt8.toInt32) (nar .byte ((q1.toUInt64 >>> ((16 : Int32) &&& 0x3f).toInt64.toUInt64).toInt64).toInt32.toInt8.toInt32) (nar .byte ((q1.toUInt64 >>> ((8 : Int32) &&& 0x3f).toInt64.toUInt64).toInt64).toInt32.toInt8.toInt32) (nar .byte q1.toInt32.toInt8.toInt32) T28.heap n0 P28_0 V9_28) (W := 0) (by decide) (by decide) (ce := 4) (sl := 19) rfl rfl (by decide) (by decide) rfl e34 rfl pd_5 rfl (Nat.le_refl _) rfl (fun v35 T35 L35 X35 Q35 => ?_)
    obtain ⟨q35, Nq35, e35⟩ := Q35
    have N35 := Fr.app N34 Nq35
    rw [Fk4_l2 (1 : Int32) (nar .byte p3.toInt8.toInt32) (nar .byte ((q1.toUInt64 >>> ((24 : Int32) &&& 0x3f).toInt64.toUInt64).toInt64).toInt32.toInt8.toInt32) (show ¬ ((4 : Int32) < (1 : Int32)) from (by decide)) (show (4 : Int32) < ((1 : Int32) + (4 : Int32)) from (by decide))] at q35
    subst q35
    show Go p.tables e below _ (T35.setTop (mkF m 273 #[.val (.long q1), .second, .val (.int p2), .val (.int p3), .val (.int (1 : Int32)), .val (.ref b1), .val (.ref b10), .val (.ref rb12), .val (.int ((((((nar .byte ((p3.toUInt32 >>> ((24 : Int32) &&& 31).toUInt32).toInt32).toInt8.toInt32) &&& (255 : Int32)) <<< ((24 : Int32) &&& 31)) ||| (((nar .byte ((p3.toUInt32 >>> ((16 : Int32) &&& 31).toUInt32).toInt32).toInt8.toInt32) &&& (255 : Int32)) <<< ((16 : Int32) &&& 31))) ||| (((nar .byte ((p3.toUInt32 >>> ((8 : Int32) &&& 31).toUInt32).toInt32).toInt8.toInt32) &&& (255 : Int32)) <<< ((8 : Int32) &&& 31))) ||| ((nar .byte p3.toInt8.toInt32) &&& (255 : Int32))))] [(.int (1 : Int32))]))
    refine g_ifN (pc' := 276) C X35 at_273 (feq (show ¬ ((1 : Int32) = (0 : Int32)) from (by decide))).1 rfl ?_
    refine g_aload (pc' := 278) C X35 at_276 rfl rfl rfl ?_
    refine g_aload (pc' := 280) C X35 at_278 rfl rfl rfl ?_
    refine g_iconst (pc' := 281) (v := (5 : Int32)) C X35 at_280 rfl rfl ?_
    refine g_iload (pc' := 283) C X35 at_281 rfl rfl ?_
    refine g_callS (y := (⟨"com/example/caseloom/caseloom/store/ByteWriterSetIntPinLaw", "keep", "([B[BII)Z"⟩ : MethodName)) (argsL := [(.ref rb12), (.ref b1), (.int (5 : Int32)), (.int (1 : Int32))]) (st := []) (pc' := 286) C X35 at_283 (hw _ (List.mem_of_getElem? (i := 46) rfl)) (hw _ (List.mem_of_getElem? (i := 47) rfl)) (hw _ (List.mem_of_getElem? (i := 48) rfl)) (hw _ (List.mem_of_getElem? (i := 49) rfl)) (by decide) (rmk5 l Z a0 hw [] rb12 b1 (1 : Int32) kb12 k1 (nar .byte ((q1.toUInt64 >>> ((56 : Int32) &&& 0x3f).toInt64.toUInt64).toInt64).toInt32.toInt8.toInt32) (nar .byte ((p3.toUInt32 >>> ((24 : Int32) &&& 31).toUInt32).toInt32).toInt8.toInt32) (nar .byte ((p3.toUInt32 >>> ((16 : Int32) &&& 31).toUInt32).toInt32).toInt8.toInt32) (nar .byte ((p3.toUInt32 >>> ((8 : Int32) &&& 31).toUInt32).toInt32).toInt8.toInt32) (nar .byte p3.toInt8.toInt32) (nar .byte ((q1.toUInt64 >>> ((16 : Int32) &&& 0x3f).toInt64.toUInt64).toInt64).toInt32.toInt8.toInt32) (nar .byte ((q1.toUInt64 >>> ((8 : Int32) &&& 0x3f).toInt64.toUInt64).toInt64).toInt32.toInt8.toInt32) (nar .byte q1.toInt32.toInt8.toInt32) (nar .byte ((q1.toUInt64 >>> ((56 : Int32) &&& 0x3f).toInt64.toUInt64).toInt64).toInt32.toInt8.toInt32) (nar .byte ((q1.toUInt64 >>> ((48 : Int32) &&& 0x3f).toInt64.toUInt64).toInt64).toInt32.toInt8.toInt32) (nar .byte ((q1.toUInt64 >>> ((40 : Int32) &&& 0x3f).toInt64.toUInt64).toInt64).toInt32.toInt8.toInt32) (nar .byte ((q1.toUInt64 >>> ((32 : Int32) &&& 0x3f).toInt64.toUInt64).toInt64).toInt32.toInt8.toInt32) (nar .byte ((q1.toUInt64 >>> ((24 : Int32) &&& 0x3f).toInt64.toUInt64).toInt64).toInt32.toInt8.toInt32) (nar .byte ((q1.toUInt64 >>> ((16 : Int32) &&& 0x3f).toInt64.toUInt64).toInt64).toInt32.toInt8.toInt32) (nar .byte ((q1.toUInt64 >>> ((8 : Int32) &&& 0x3f).toInt64.toUInt64).toInt64).toInt32.toInt8.toInt32) (nar .byte q1.toInt32.toInt8.toInt32) T28.heap n0 P28_0 V9_28) (W := 0) (by decide) (by decide) (ce := 4) (sl := 19) rfl rfl (by decide) (by decide) rfl e35 rfl pd_5 rfl (Nat.le_refl _) rfl (fun v36 T36 L36 X36 Q36 => ?_)
    obtain ⟨q36, Nq36, e36⟩ := Q36
    have N36 := Fr.app N35 Nq36
    rw [Fk5_l3 (1 : Int32) (nar .byte ((q1.toUInt64 >>> ((16 : Int32) &&& 0x3f).toInt64.toUInt64).toInt64).toInt32.toInt8.toInt32) (nar .byte ((q1.toUInt64 >>> ((16 : Int32) &&& 0x3f).toInt64.toUInt64).toInt64).toInt32.toInt8.toInt32) (show ¬ ((5 : Int32) < (1 : Int32)) from (by decide)) (show ¬ ((5 : Int32) < ((1 : Int32) + (4 : Int32))) from (by decide)) (show (nar .byte ((q1.toUInt64 >>> ((16 : Int32) &&& 0x3f).toInt64.toUInt64).toInt64).toInt32.toInt8.toInt32) = (nar .byte ((q1.toUInt64 >>> ((16 : Int32) &&& 0x3f).toInt64.toUInt64).toInt64).toInt32.toInt8.toInt32) from (rfl : (nar .byte ((q1.toUInt64 >>> ((16 : Int32) &&& 0x3f).toInt64.toUInt64).toInt64).toInt32.toInt8.toInt32) = (nar .byte ((q1.toUInt64 >>> ((16 : Int32) &&& 0x3f).toInt64.toUInt64).toInt64).toInt32.toInt8.toInt32)))] at q36
    subst q36
    show Go p.tables e below _ (T36.setTop (mkF m 286 #[.val (.long q1), .second, .val (.int p2), .val (.int p3), .val (.int (1 : Int32)), .val (.ref b1), .val (.ref b10), .val (.ref rb12), .val (.int ((((((nar .byte ((p3.toUInt32 >>> ((24 : Int32) &&& 31).toUInt32).toInt32).toInt8.toInt32) &&& (255 : Int32)) <<< ((24 : Int32) &&& 31)) ||| (((nar .byte ((p3.toUInt32 >>> ((16 : Int32) &&& 31).toUInt32).toInt32).toInt8.toInt32) &&& (255 : Int32)) <<< ((16 : Int32) &&& 31))) ||| (((nar .byte ((p3.toUInt32 >>> ((8 : Int32) &&& 31).toUInt32).toInt32).toInt8.toInt32) &&& (255 : Int32)) <<< ((8 : Int32) &&& 31))) ||| ((nar .byte p3.toInt8.toInt32) &&& (255 : Int32))))] [(.int (1 : Int32))]))
    refine g_ifN (pc' := 289) C X36 at_286 (feq (show ¬ ((1 : Int32) = (0 : Int32)) from (by decide))).1 rfl ?_
    refine g_aload (pc' := 291) C X36 at_289 rfl rfl rfl ?_
    refine g_aload (pc' := 293) C X36 at_291 rfl rfl rfl ?_
    refine g_bipush (pc' := 295) (v := (6 : Int32)) C X36 at_293 rfl rfl ?_
    refine g_iload (pc' := 297) C X36 at_295 rfl rfl ?_
    refine g_callS (y := (⟨"com/example/caseloom/caseloom/store/ByteWriterSetIntPinLaw", "keep", "([B[BII)Z"⟩ : MethodName)) (argsL := [(.ref rb12), (.ref b1), (.int (6 : Int32)), (.int (1 : Int32))]) (st := []) (pc' := 300) C X36 at_297 (hw _ (List.mem_of_getElem? (i := 46) rfl)) (hw _ (List.mem_of_getElem? (i := 47) rfl)) (hw _ (List.mem_of_getElem? (i := 48) rfl)) (hw _ (List.mem_of_getElem? (i := 49) rfl)) (by decide) (rmk6 l Z a0 hw [] rb12 b1 (1 : Int32) kb12 k1 (nar .byte ((q1.toUInt64 >>> ((56 : Int32) &&& 0x3f).toInt64.toUInt64).toInt64).toInt32.toInt8.toInt32) (nar .byte ((p3.toUInt32 >>> ((24 : Int32) &&& 31).toUInt32).toInt32).toInt8.toInt32) (nar .byte ((p3.toUInt32 >>> ((16 : Int32) &&& 31).toUInt32).toInt32).toInt8.toInt32) (nar .byte ((p3.toUInt32 >>> ((8 : Int32) &&& 31).toUInt32).toInt32).toInt8.toInt32) (nar .byte p3.toInt8.toInt32) (nar .byte ((q1.toUInt64 >>> ((16 : Int32) &&& 0x3f).toInt64.toUInt64).toInt64).toInt32.toInt8.toInt32) (nar .byte ((q1.toUInt64 >>> ((8 : Int32) &&& 0x3f).toInt64.toUInt64).toInt64).toInt32.toInt8.toInt32) (nar .byte q1.toInt32.toInt8.toInt32) (nar .byte ((q1.toUInt64 >>> ((56 : Int32) &&& 0x3f).toInt64.toUInt64).toInt64).toInt32.toInt8.toInt32) (nar .byte ((q1.toUInt64 >>> ((48 : Int32) &&& 0x3f).toInt64.toUInt64).toInt64).toInt32.toInt8.toInt32) (nar .byte ((q1.toUInt64 >>> ((40 : Int32) &&& 0x3f).toInt64.toUInt64).toInt64).toInt32.toInt8.toInt32) (nar .byte ((q1.toUInt64 >>> ((32 : Int32) &&& 0x3f).toInt64.toUInt64).toInt64).toInt32.toInt8.toInt32) (nar .byte ((q1.toUInt64 >>> ((24 : Int32) &&& 0x3f).toInt64.toUInt64).toInt64).toInt32.toInt8.toInt32) (nar .byte ((q1.toUInt64 >>> ((16 : Int32) &&& 0x3f).toInt64.toUInt64).toInt64).toInt32.toInt8.toInt32) (nar .byte ((q1.toUInt64 >>> ((8 : Int32) &&& 0x3f).toInt64.toUInt64).toInt64).toInt32.toInt8.toInt32) (nar .byte q1.toInt32.toInt8.toInt32) T28.heap n0 P28_0 V9_28) (W := 0) (by decide) (by decide) (ce := 4) (sl := 19) rfl rfl (by decide) (by decide) rfl e36 rfl pd_5 rfl (Nat.le_refl _) rfl (fun v37 T37 L37 X37 Q37 => ?_)
    obtain ⟨q37, Nq37, e37⟩ := Q37
    have N37 := Fr.app N36 Nq37
    rw [Fk6_l3 (1 : Int32) (nar .byte ((q1.toUInt64 >>> ((8 : Int32) &&& 0x3f).toInt64.toUInt64).toInt64).toInt32.toInt8.toInt32) (nar .byte ((q1.toUInt64 >>> ((8 : Int32) &&& 0x3f).toInt64.toUInt64).toInt64).toInt32.toInt8.toInt32) (show ¬ ((6 : Int32) < (1 : Int32)) from (by decide)) (show ¬ ((6 : Int32) < ((1 : Int32) + (4 : Int32))) from (by decide)) (show (nar .byte ((q1.toUInt64 >>> ((8 : Int32) &&& 0x3f).toInt64.toUInt64).toInt64).toInt32.toInt8.toInt32) = (nar .byte ((q1.toUInt64 >>> ((8 : Int32) &&& 0x3f).toInt64.toUInt64).toInt64).toInt32.toInt8.toInt32) from (rfl : (nar .byte ((q1.toUInt64 >>> ((8 : Int32) &&& 0x3f).toInt64.toUInt64).toInt64).toInt32.toInt8.toInt32) = (nar .byte ((q1.toUInt64 >>> ((8 : Int32) &&& 0x3f).toInt64.toUInt64).toInt64).toInt32.toInt8.toInt32)))] at q37
    subst q37
    show Go p.tables e below _ (T37.setTop (mkF m 300 #[.val (.long q1), .second, .val (.int p2), .val (.int p3), .val (.int (1 : Int32)), .val (.ref b1), .val (.ref b10), .val (.ref rb12), .val (.int ((((((nar .byte ((p3.toUInt32 >>> ((24 : Int32) &&& 31).toUInt32).toInt32).toInt8.toInt32) &&& (255 : Int32)) <<< ((24 : Int32) &&& 31)) ||| (((nar .byte ((p3.toUInt32 >>> ((16 : Int32) &&& 31).toUInt32).toInt32).toInt8.toInt32) &&& (255 : Int32)) <<< ((16 : Int32) &&& 31))) ||| (((nar .byte ((p3.toUInt32 >>> ((8 : Int32) &&& 31).toUInt32).toInt32).toInt8.toInt32) &&& (255 : Int32)) <<< ((8 : Int32) &&& 31))) ||| ((nar .byte p3.toInt8.toInt32) &&& (255 : Int32))))] [(.int (1 : Int32))]))
    refine g_ifN (pc' := 303) C X37 at_300 (feq (show ¬ ((1 : Int32) = (0 : Int32)) from (by decide))).1 rfl ?_
    refine g_aload (pc' := 305) C X37 at_303 rfl rfl rfl ?_
    refine g_aload (pc' := 307) C X37 at_305 rfl rfl rfl ?_
    refine g_bipush (pc' := 309) (v := (7 : Int32)) C X37 at_307 rfl rfl ?_
    refine g_iload (pc' := 311) C X37 at_309 rfl rfl ?_
    refine g_callS (y := (⟨"com/example/caseloom/caseloom/store/ByteWriterSetIntPinLaw", "keep", "([B[BII)Z"⟩ : MethodName)) (argsL := [(.ref rb12), (.ref b1), (.int (7 : Int32)), (.int (1 : Int32))]) (st := []) (pc' := 314) C X37 at_311 (hw _ (List.mem_of_getElem? (i := 46) rfl)) (hw _ (List.mem_of_getElem? (i := 47) rfl)) (hw _ (List.mem_of_getElem? (i := 48) rfl)) (hw _ (List.mem_of_getElem? (i := 49) rfl)) (by decide) (rmk7 l Z a0 hw [] rb12 b1 (1 : Int32) kb12 k1 (nar .byte ((q1.toUInt64 >>> ((56 : Int32) &&& 0x3f).toInt64.toUInt64).toInt64).toInt32.toInt8.toInt32) (nar .byte ((p3.toUInt32 >>> ((24 : Int32) &&& 31).toUInt32).toInt32).toInt8.toInt32) (nar .byte ((p3.toUInt32 >>> ((16 : Int32) &&& 31).toUInt32).toInt32).toInt8.toInt32) (nar .byte ((p3.toUInt32 >>> ((8 : Int32) &&& 31).toUInt32).toInt32).toInt8.toInt32) (nar .byte p3.toInt8.toInt32) (nar .byte ((q1.toUInt64 >>> ((16 : Int32) &&& 0x3f).toInt64.toUInt64).toInt64).toInt32.toInt8.toInt32) (nar .byte ((q1.toUInt64 >>> ((8 : Int32) &&& 0x3f).toInt64.toUInt64).toInt64).toInt32.toInt8.toInt32) (nar .byte q1.toInt32.toInt8.toInt32) (nar .byte ((q1.toUInt64 >>> ((56 : Int32) &&& 0x3f).toInt64.toUInt64).toInt64).toInt32.toInt8.toInt32) (nar .byte ((q1.toUInt64 >>> ((48 : Int32) &&& 0x3f).toInt64.toUInt64).toInt64).toInt32.toInt8.toInt32) (nar .byte ((q1.toUInt64 >>> ((40 : Int32) &&& 0x3f).toInt64.toUInt64).toInt64).toInt32.toInt8.toInt32) (nar .byte ((q1.toUInt64 >>> ((32 : Int32) &&& 0x3f).toInt64.toUInt64).toInt64).toInt32.toInt8.toInt32) (nar .byte ((q1.toUInt64 >>> ((24 : Int32) &&& 0x3f).toInt64.toUInt64).toInt64).toInt32.toInt8.toInt32) (nar .byte ((q1.toUInt64 >>> ((16 : Int32) &&& 0x3f).toInt64.toUInt64).toInt64).toInt32.toInt8.toInt32) (nar .byte ((q1.toUInt64 >>> ((8 : Int32) &&& 0x3f).toInt64.toUInt64).toInt64).toInt32.toInt8.toInt32) (nar .byte q1.toInt32.toInt8.toInt32) T28.heap n0 P28_0 V9_28) (W := 0) (by decide) (by decide) (ce := 4) (sl := 19) rfl rfl (by decide) (by decide) rfl e37 rfl pd_5 rfl (Nat.le_refl _) rfl (fun v38 T38 L38 X38 Q38 => ?_)
    obtain ⟨q38, Nq38, e38⟩ := Q38
    have N38 := Fr.app N37 Nq38
    rw [Fk7_l3 (1 : Int32) (nar .byte q1.toInt32.toInt8.toInt32) (nar .byte q1.toInt32.toInt8.toInt32) (show ¬ ((7 : Int32) < (1 : Int32)) from (by decide)) (show ¬ ((7 : Int32) < ((1 : Int32) + (4 : Int32))) from (by decide)) (show (nar .byte q1.toInt32.toInt8.toInt32) = (nar .byte q1.toInt32.toInt8.toInt32) from (rfl : (nar .byte q1.toInt32.toInt8.toInt32) = (nar .byte q1.toInt32.toInt8.toInt32)))] at q38
    subst q38
    show Go p.tables e below _ (T38.setTop (mkF m 314 #[.val (.long q1), .second, .val (.int p2), .val (.int p3), .val (.int (1 : Int32)), .val (.ref b1), .val (.ref b10), .val (.ref rb12), .val (.int ((((((nar .byte ((p3.toUInt32 >>> ((24 : Int32) &&& 31).toUInt32).toInt32).toInt8.toInt32) &&& (255 : Int32)) <<< ((24 : Int32) &&& 31)) ||| (((nar .byte ((p3.toUInt32 >>> ((16 : Int32) &&& 31).toUInt32).toInt32).toInt8.toInt32) &&& (255 : Int32)) <<< ((16 : Int32) &&& 31))) ||| (((nar .byte ((p3.toUInt32 >>> ((8 : Int32) &&& 31).toUInt32).toInt32).toInt8.toInt32) &&& (255 : Int32)) <<< ((8 : Int32) &&& 31))) ||| ((nar .byte p3.toInt8.toInt32) &&& (255 : Int32))))] [(.int (1 : Int32))]))
    refine g_ifN (pc' := 317) C X38 at_314 (feq (show ¬ ((1 : Int32) = (0 : Int32)) from (by decide))).1 rfl ?_
    refine g_iconst (pc' := 318) (v := (1 : Int32)) C X38 at_317 rfl rfl ?_
    refine g_goto (pc' := 322) C X38 at_318 (by decide) (by decide) ?_
    exact g_retN C X38 (by simp) at_322 (by decide) (by decide) ⟨rfl, N38⟩
  · refine own_cast (show T15.setTop (mkF m 112 #[.val (.long q1), .second, .val (.int p2), .val (.int p3), .val (.int ((p2 &&& (2147483647 : Int32)) % (5 : Int32))), .val (.ref b1), .val (.ref b10), .unset, .unset] []) = T15.setTop (mkF m 112 #[.val (.long q1), .second, .val (.int p2), .val (.int p3), .val (.int (2 : Int32)), .val (.ref b1), .val (.ref b10), .unset, .unset] []) from by rw [s16]) ?_
    refine g_aload (pc' := 114) C X15 at_112 rfl rfl rfl ?_
    refine g_iload (pc' := 116) C X15 at_114 rfl rfl ?_
    refine g_iloadN (pc' := 117) C X15 at_116 rfl rfl ?_
    refine g_callV (b := b10) (z := (⟨"com/example/caseloom/caseloom/store/ByteWriter", "setInt", "(II)V"⟩ : MethodName)) (y := (⟨"com/example/caseloom/caseloom/store/ByteWriter", "setInt", "(II)V"⟩ : MethodName)) (argsL := [(.int (2 : Int32)), (.int p3)]) (st := []) (pc' := 120) C X15 at_117 (hw _ (List.mem_of_getElem? (i := 31) rfl)) (hw _ (List.mem_of_getElem? (i := 32) rfl)) (notFace_of_selects (args := #[]) (mvT C.hZ (hw _ (List.mem_of_getElem? (i := 34) rfl)))) (hw _ (List.mem_of_getElem? (i := 34) rfl)) (hw _ (List.mem_of_getElem? (i := 33) rfl)) (hw _ (List.mem_of_getElem? (i := 4) rfl)) (hw _ (List.mem_of_getElem? (i := 35) rfl)) (by decide) (rms2 l Z a0 hw [] b10 p3 rb12 kb12 (nar .byte ((q1.toUInt64 >>> ((56 : Int32) &&& 0x3f).toInt64.toUInt64).toInt64).toInt32.toInt8.toInt32) (nar .byte ((q1.toUInt64 >>> ((48 : Int32) &&& 0x3f).toInt64.toUInt64).toInt64).toInt32.toInt8.toInt32) (nar .byte ((q1.toUInt64 >>> ((40 : Int32) &&& 0x3f).toInt64.toUInt64).toInt64).toInt32.toInt8.toInt32) (nar .byte ((q1.toUInt64 >>> ((32 : Int32) &&& 0x3f).toInt64.toUInt64).toInt64).toInt32.toInt8.toInt32) (nar .byte ((q1.toUInt64 >>> ((24 : Int32) &&& 0x3f).toInt64.toUInt64).toInt64).toInt32.toInt8.toInt32) (nar .byte ((q1.toUInt64 >>> ((16 : Int32) &&& 0x3f).toInt64.toUInt64).toInt64).toInt32.toInt8.toInt32) (nar .byte ((q1.toUInt64 >>> ((8 : Int32) &&& 0x3f).toInt64.toUInt64).toInt64).toInt32.toInt8.toInt32) (nar .byte q1.toInt32.toInt8.toInt32) T15.heap n0 Z15 P15_2 P15_3 gn_rb12 ne12_14) (W := 0) (by decide) (by decide) (ce := 4) (sl := 19) rfl rfl (by decide) (by decide) rfl P15_0 rfl rfl pd_2 rfl (Nat.le_refl _) rfl (fun v39 T39 L39 X39 Q39 => ?_)
    obtain ⟨q39, Nq39, Kq39, P39_0⟩ := Q39
    have N39 := Fr.app N15 Nq39
    have V9_39 := V9_15.keep Kq39 (ninS ne12_13 nin0)
    have P15_0_39 := P15_0.keep Kq39
    have P15_1_39 := P15_1.keep Kq39 (ninS ne12_14 nin0)
    have P15_2_39 := P15_2.keep Kq39 (ninS ne12_14 nin0)
    have Z39 := Nat.le_trans Z15 Kq39.1
    subst q39
    show Go p.tables e below _ (T39.setTop (mkF m 120 #[.val (.long q1), .second, .val (.int p2), .val (.int p3), .val (.int (2 : Int32)), .val (.ref b1), .val (.ref b10), .unset, .unset] []))
    refine g_aload (pc' := 122) C X39 at_120 rfl rfl rfl ?_
    refine g_callV (b := b10) (z := (⟨"com/example/caseloom/caseloom/store/ByteWriter", "array", "()[B"⟩ : MethodName)) (y := (⟨"com/example/caseloom/caseloom/store/ByteWriter", "array", "()[B"⟩ : MethodName)) (argsL := []) (st := []) (pc' := 125) C X39 at_122 (hw _ (List.mem_of_getElem? (i := 36) rfl)) (hw _ (List.mem_of_getElem? (i := 37) rfl)) (notFace_of_selects (args := #[]) (mvT C.hZ (hw _ (List.mem_of_getElem? (i := 39) rfl)))) (hw _ (List.mem_of_getElem? (i := 39) rfl)) (hw _ (List.mem_of_getElem? (i := 38) rfl)) (hw _ (List.mem_of_getElem? (i := 4) rfl)) (hw _ (List.mem_of_getElem? (i := 40) rfl)) (by decide) (rm6 l Z a0 hw [] b10 rb12 T39.heap n0 P15_2_39) (W := 0) (by decide) (by decide) (ce := 4) (sl := 19) rfl rfl (by decide) (by decide) rfl P15_0_39 rfl rfl pd_3 rfl (Nat.le_refl _) rfl (fun v40 T40 L40 X40 Q40 => ?_)
    obtain ⟨q40, Nq40, e40⟩ := Q40
    have N40 := Fr.app N39 Nq40
    rw [F6_l0 rb12] at q40
    subst q40
    show Go p.tables e below _ (T40.setTop (mkF m 125 #[.val (.long q1), .second, .val (.int p2), .val (.int p3), .val (.int (2 : Int32)), .val (.ref b1), .val (.ref b10), .unset, .unset] [(.ref rb12)]))
    refine g_astore (pc' := 127) (Ls' := #[.val (.long q1), .second, .val (.int p2), .val (.int p3), .val (.int (2 : Int32)), .val (.ref b1), .val (.ref b10), .val (.ref rb12), .unset]) C X40 at_125 rfl rfl rfl ?_
    refine g_aload (pc' := 129) C X40 at_127 rfl rfl rfl ?_
    refine g_len (pc' := 130) C X40 at_129 e40 P39_0 rfl ?_
    refine g_bipush (pc' := 132) (v := (8 : Int32)) C X40 at_130 rfl rfl ?_
    refine g_icmpY (pc' := 137) C X40 at_132 (teq (show (8 : Int32) = (8 : Int32) from (by decide))).1 (by decide) (by decide) ?_
    refine g_aload (pc' := 139) C X40 at_137 rfl rfl rfl ?_
    refine g_callV (b := b10) (z := (⟨"com/example/caseloom/caseloom/store/ByteWriter", "length", "()I"⟩ : MethodName)) (y := (⟨"com/example/caseloom/caseloom/store/ByteWriter", "length", "()I"⟩ : MethodName)) (argsL := []) (st := []) (pc' := 142) C X40 at_139 (hw _ (List.mem_of_getElem? (i := 41) rfl)) (hw _ (List.mem_of_getElem? (i := 42) rfl)) (notFace_of_selects (args := #[]) (mvT C.hZ (hw _ (List.mem_of_getElem? (i := 44) rfl)))) (hw _ (List.mem_of_getElem? (i := 44) rfl)) (hw _ (List.mem_of_getElem? (i := 43) rfl)) (hw _ (List.mem_of_getElem? (i := 4) rfl)) (hw _ (List.mem_of_getElem? (i := 45) rfl)) (by decide) (rm7 l Z a0 hw [] b10 (8 : Int32) T39.heap n0 P15_1_39) (W := 0) (by decide) (by decide) (ce := 4) (sl := 19) rfl rfl (by decide) (by decide) rfl P15_0_39 e40 rfl pd_4 rfl (Nat.le_refl _) rfl (fun v41 T41 L41 X41 Q41 => ?_)
    obtain ⟨q41, Nq41, e41⟩ := Q41
    have N41 := Fr.app N40 Nq41
    rw [F7_l0 (8 : Int32)] at q41
    subst q41
    show Go p.tables e below _ (T41.setTop (mkF m 142 #[.val (.long q1), .second, .val (.int p2), .val (.int p3), .val (.int (2 : Int32)), .val (.ref b1), .val (.ref b10), .val (.ref rb12), .unset] [(.int (8 : Int32))]))
    refine g_bipush (pc' := 144) (v := (8 : Int32)) C X41 at_142 rfl rfl ?_
    refine g_icmpY (pc' := 149) C X41 at_144 (teq (show (8 : Int32) = (8 : Int32) from (by decide))).1 (by decide) (by decide) ?_
    refine g_aload (pc' := 151) C X41 at_149 rfl rfl rfl ?_
    refine g_iload (pc' := 153) C X41 at_151 rfl rfl ?_
    refine g_ldB (pc' := 154) (v := (.int (nar .byte ((p3.toUInt32 >>> ((24 : Int32) &&& 31).toUInt32).toInt32).toInt8.toInt32))) C X41 at_153 e41 P39_0 ⟨by decide, by decide⟩ rfl rfl ?_
    refine g_sipush (pc' := 157) (v := (255 : Int32)) C X41 at_154 rfl rfl ?_
    refine g_iand (pc' := 158) C X41 at_157 rfl ?_
    refine g_bipush (pc' := 160) (v := (24 : Int32)) C X41 at_158 rfl rfl ?_
    refine g_ishl (pc' := 161) C X41 at_160 rfl ?_
    refine g_aload (pc' := 163) C X41 at_161 rfl rfl rfl ?_
    refine g_iload (pc' := 165) C X41 at_163 rfl rfl ?_
    refine g_iconst (pc' := 166) (v := (1 : Int32)) C X41 at_165 rfl rfl ?_
    refine g_iadd (pc' := 167) C X41 at_166 rfl ?_
    refine own_cast (congrArg (fun z => T41.setTop (mkF m 167 #[.val (.long q1), .second, .val (.int p2), .val (.int p3), .val (.int (2 : Int32)), .val (.ref b1), .val (.ref b10), .val (.ref rb12), .unset] (.int z :: [(.ref rb12), (.int (((nar .byte ((p3.toUInt32 >>> ((24 : Int32) &&& 31).toUInt32).toInt32).toInt8.toInt32) &&& (255 : Int32)) <<< ((24 : Int32) &&& 31)))]))) (show ((2 : Int32) + (1 : Int32)) = (3 : Int32) from by decide)) ?_
    refine g_ldB (pc' := 168) (v := (.int (nar .byte ((p3.toUInt32 >>> ((16 : Int32) &&& 31).toUInt32).toInt32).toInt8.toInt32))) C X41 at_167 e41 P39_0 ⟨by decide, by decide⟩ rfl rfl ?_
    refine g_sipush (pc' := 171) (v := (255 : Int32)) C X41 at_168 rfl rfl ?_
    refine g_iand (pc' := 172) C X41 at_171 rfl ?_
    refine g_bipush (pc' := 174) (v := (16 : Int32)) C X41 at_172 rfl rfl ?_
    refine g_ishl (pc' := 175) C X41 at_174 rfl ?_
    refine g_ior (pc' := 176) C X41 at_175 rfl ?_
    refine g_aload (pc' := 178) C X41 at_176 rfl rfl rfl ?_
    refine g_iload (pc' := 180) C X41 at_178 rfl rfl ?_
    refine g_iconst (pc' := 181) (v := (2 : Int32)) C X41 at_180 rfl rfl ?_
    refine g_iadd (pc' := 182) C X41 at_181 rfl ?_
    refine own_cast (congrArg (fun z => T41.setTop (mkF m 182 #[.val (.long q1), .second, .val (.int p2), .val (.int p3), .val (.int (2 : Int32)), .val (.ref b1), .val (.ref b10), .val (.ref rb12), .unset] (.int z :: [(.ref rb12), (.int ((((nar .byte ((p3.toUInt32 >>> ((24 : Int32) &&& 31).toUInt32).toInt32).toInt8.toInt32) &&& (255 : Int32)) <<< ((24 : Int32) &&& 31)) ||| (((nar .byte ((p3.toUInt32 >>> ((16 : Int32) &&& 31).toUInt32).toInt32).toInt8.toInt32) &&& (255 : Int32)) <<< ((16 : Int32) &&& 31))))]))) (show ((2 : Int32) + (2 : Int32)) = (4 : Int32) from by decide)) ?_
    refine g_ldB (pc' := 183) (v := (.int (nar .byte ((p3.toUInt32 >>> ((8 : Int32) &&& 31).toUInt32).toInt32).toInt8.toInt32))) C X41 at_182 e41 P39_0 ⟨by decide, by decide⟩ rfl rfl ?_
    refine g_sipush (pc' := 186) (v := (255 : Int32)) C X41 at_183 rfl rfl ?_
    refine g_iand (pc' := 187) C X41 at_186 rfl ?_
    refine g_bipush (pc' := 189) (v := (8 : Int32)) C X41 at_187 rfl rfl ?_
    refine g_ishl (pc' := 190) C X41 at_189 rfl ?_
    refine g_ior (pc' := 191) C X41 at_190 rfl ?_
    refine g_aload (pc' := 193) C X41 at_191 rfl rfl rfl ?_
    refine g_iload (pc' := 195) C X41 at_193 rfl rfl ?_
    refine g_iconst (pc' := 196) (v := (3 : Int32)) C X41 at_195 rfl rfl ?_
    refine g_iadd (pc' := 197) C X41 at_196 rfl ?_
    refine own_cast (congrArg (fun z => T41.setTop (mkF m 197 #[.val (.long q1), .second, .val (.int p2), .val (.int p3), .val (.int (2 : Int32)), .val (.ref b1), .val (.ref b10), .val (.ref rb12), .unset] (.int z :: [(.ref rb12), (.int (((((nar .byte ((p3.toUInt32 >>> ((24 : Int32) &&& 31).toUInt32).toInt32).toInt8.toInt32) &&& (255 : Int32)) <<< ((24 : Int32) &&& 31)) ||| (((nar .byte ((p3.toUInt32 >>> ((16 : Int32) &&& 31).toUInt32).toInt32).toInt8.toInt32) &&& (255 : Int32)) <<< ((16 : Int32) &&& 31))) ||| (((nar .byte ((p3.toUInt32 >>> ((8 : Int32) &&& 31).toUInt32).toInt32).toInt8.toInt32) &&& (255 : Int32)) <<< ((8 : Int32) &&& 31))))]))) (show ((2 : Int32) + (3 : Int32)) = (5 : Int32) from by decide)) ?_
    refine g_ldB (pc' := 198) (v := (.int (nar .byte p3.toInt8.toInt32))) C X41 at_197 e41 P39_0 ⟨by decide, by decide⟩ rfl rfl ?_
    refine g_sipush (pc' := 201) (v := (255 : Int32)) C X41 at_198 rfl rfl ?_
    refine g_iand (pc' := 202) C X41 at_201 rfl ?_
    refine g_ior (pc' := 203) C X41 at_202 rfl ?_
    refine g_istore (pc' := 205) (Ls' := #[.val (.long q1), .second, .val (.int p2), .val (.int p3), .val (.int (2 : Int32)), .val (.ref b1), .val (.ref b10), .val (.ref rb12), .val (.int ((((((nar .byte ((p3.toUInt32 >>> ((24 : Int32) &&& 31).toUInt32).toInt32).toInt8.toInt32) &&& (255 : Int32)) <<< ((24 : Int32) &&& 31)) ||| (((nar .byte ((p3.toUInt32 >>> ((16 : Int32) &&& 31).toUInt32).toInt32).toInt8.toInt32) &&& (255 : Int32)) <<< ((16 : Int32) &&& 31))) ||| (((nar .byte ((p3.toUInt32 >>> ((8 : Int32) &&& 31).toUInt32).toInt32).toInt8.toInt32) &&& (255 : Int32)) <<< ((8 : Int32) &&& 31))) ||| ((nar .byte p3.toInt8.toInt32) &&& (255 : Int32))))]) C X41 at_203 rfl rfl ?_
    refine g_iload (pc' := 207) C X41 at_205 rfl rfl ?_
    refine g_iloadN (pc' := 208) C X41 at_207 rfl rfl ?_
    refine g_icmpN (pc' := 211) C X41 at_208 (teq (show ((((((nar .byte ((p3.toUInt32 >>> ((24 : Int32) &&& 31).toUInt32).toInt32).toInt8.toInt32) &&& (255 : Int32)) <<< ((24 : Int32) &&& 31)) ||| (((nar .byte ((p3.toUInt32 >>> ((16 : Int32) &&& 31).toUInt32).toInt32).toInt8.toInt32) &&& (255 : Int32)) <<< ((16 : Int32) &&& 31))) ||| (((nar .byte ((p3.toUInt32 >>> ((8 : Int32) &&& 31).toUInt32).toInt32).toInt8.toInt32) &&& (255 : Int32)) <<< ((8 : Int32) &&& 31))) ||| ((nar .byte p3.toInt8.toInt32) &&& (255 : Int32))) = p3 from (own_got p3))).2 rfl ?_
    refine g_aload (pc' := 213) C X41 at_211 rfl rfl rfl ?_
    refine g_aload (pc' := 215) C X41 at_213 rfl rfl rfl ?_
    refine g_iconst (pc' := 216) (v := (0 : Int32)) C X41 at_215 rfl rfl ?_
    refine g_iload (pc' := 218) C X41 at_216 rfl rfl ?_
    refine g_callS (y := (⟨"com/example/caseloom/caseloom/store/ByteWriterSetIntPinLaw", "keep", "([B[BII)Z"⟩ : MethodName)) (argsL := [(.ref rb12), (.ref b1), (.int (0 : Int32)), (.int (2 : Int32))]) (st := []) (pc' := 221) C X41 at_218 (hw _ (List.mem_of_getElem? (i := 46) rfl)) (hw _ (List.mem_of_getElem? (i := 47) rfl)) (hw _ (List.mem_of_getElem? (i := 48) rfl)) (hw _ (List.mem_of_getElem? (i := 49) rfl)) (by decide) (rmk0 l Z a0 hw [] rb12 b1 (2 : Int32) kb12 k1 (nar .byte ((q1.toUInt64 >>> ((56 : Int32) &&& 0x3f).toInt64.toUInt64).toInt64).toInt32.toInt8.toInt32) (nar .byte ((q1.toUInt64 >>> ((48 : Int32) &&& 0x3f).toInt64.toUInt64).toInt64).toInt32.toInt8.toInt32) (nar .byte ((p3.toUInt32 >>> ((24 : Int32) &&& 31).toUInt32).toInt32).toInt8.toInt32) (nar .byte ((p3.toUInt32 >>> ((16 : Int32) &&& 31).toUInt32).toInt32).toInt8.toInt32) (nar .byte ((p3.toUInt32 >>> ((8 : Int32) &&& 31).toUInt32).toInt32).toInt8.toInt32) (nar .byte p3.toInt8.toInt32) (nar .byte ((q1.toUInt64 >>> ((8 : Int32) &&& 0x3f).toInt64.toUInt64).toInt64).toInt32.toInt8.toInt32) (nar .byte q1.toInt32.toInt8.toInt32) (nar .byte ((q1.toUInt64 >>> ((56 : Int32) &&& 0x3f).toInt64.toUInt64).toInt64).toInt32.toInt8.toInt32) (nar .byte ((q1.toUInt64 >>> ((48 : Int32) &&& 0x3f).toInt64.toUInt64).toInt64).toInt32.toInt8.toInt32) (nar .byte ((q1.toUInt64 >>> ((40 : Int32) &&& 0x3f).toInt64.toUInt64).toInt64).toInt32.toInt8.toInt32) (nar .byte ((q1.toUInt64 >>> ((32 : Int32) &&& 0x3f).toInt64.toUInt64).toInt64).toInt32.toInt8.toInt32) (nar .byte ((q1.toUInt64 >>> ((24 : Int32) &&& 0x3f).toInt64.toUInt64).toInt64).toInt32.toInt8.toInt32) (nar .byte ((q1.toUInt64 >>> ((16 : Int32) &&& 0x3f).toInt64.toUInt64).toInt64).toInt32.toInt8.toInt32) (nar .byte ((q1.toUInt64 >>> ((8 : Int32) &&& 0x3f).toInt64.toUInt64).toInt64).toInt32.toInt8.toInt32) (nar .byte q1.toInt32.toInt8.toInt32) T39.heap n0 P39_0 V9_39) (W := 0) (by decide) (by decide) (ce := 4) (sl := 19) rfl rfl (by decide) (by decide) rfl e41 rfl pd_5 rfl (Nat.le_refl _) rfl (fun v42 T42 L42 X42 Q42 => ?_)
    obtain ⟨q42, Nq42, e42⟩ := Q42
    have N42 := Fr.app N41 Nq42
    rw [Fk0_l0 (2 : Int32) (nar .byte ((q1.toUInt64 >>> ((56 : Int32) &&& 0x3f).toInt64.toUInt64).toInt64).toInt32.toInt8.toInt32) (nar .byte ((q1.toUInt64 >>> ((56 : Int32) &&& 0x3f).toInt64.toUInt64).toInt64).toInt32.toInt8.toInt32) (show (0 : Int32) < (2 : Int32) from (by decide)) (show (nar .byte ((q1.toUInt64 >>> ((56 : Int32) &&& 0x3f).toInt64.toUInt64).toInt64).toInt32.toInt8.toInt32) = (nar .byte ((q1.toUInt64 >>> ((56 : Int32) &&& 0x3f).toInt64.toUInt64).toInt64).toInt32.toInt8.toInt32) from (rfl : (nar .byte ((q1.toUInt64 >>> ((56 : Int32) &&& 0x3f).toInt64.toUInt64).toInt64).toInt32.toInt8.toInt32) = (nar .byte ((q1.toUInt64 >>> ((56 : Int32) &&& 0x3f).toInt64.toUInt64).toInt64).toInt32.toInt8.toInt32)))] at q42
    subst q42
    show Go p.tables e below _ (T42.setTop (mkF m 221 #[.val (.long q1), .second, .val (.int p2), .val (.int p3), .val (.int (2 : Int32)), .val (.ref b1), .val (.ref b10), .val (.ref rb12), .val (.int ((((((nar .byte ((p3.toUInt32 >>> ((24 : Int32) &&& 31).toUInt32).toInt32).toInt8.toInt32) &&& (255 : Int32)) <<< ((24 : Int32) &&& 31)) ||| (((nar .byte ((p3.toUInt32 >>> ((16 : Int32) &&& 31).toUInt32).toInt32).toInt8.toInt32) &&& (255 : Int32)) <<< ((16 : Int32) &&& 31))) ||| (((nar .byte ((p3.toUInt32 >>> ((8 : Int32) &&& 31).toUInt32).toInt32).toInt8.toInt32) &&& (255 : Int32)) <<< ((8 : Int32) &&& 31))) ||| ((nar .byte p3.toInt8.toInt32) &&& (255 : Int32))))] [(.int (1 : Int32))]))
    refine g_ifN (pc' := 224) C X42 at_221 (feq (show ¬ ((1 : Int32) = (0 : Int32)) from (by decide))).1 rfl ?_
    refine g_aload (pc' := 226) C X42 at_224 rfl rfl rfl ?_
    refine g_aload (pc' := 228) C X42 at_226 rfl rfl rfl ?_
    refine g_iconst (pc' := 229) (v := (1 : Int32)) C X42 at_228 rfl rfl ?_
    refine g_iload (pc' := 231) C X42 at_229 rfl rfl ?_
    refine g_callS (y := (⟨"com/example/caseloom/caseloom/store/ByteWriterSetIntPinLaw", "keep", "([B[BII)Z"⟩ : MethodName)) (argsL := [(.ref rb12), (.ref b1), (.int (1 : Int32)), (.int (2 : Int32))]) (st := []) (pc' := 234) C X42 at_231 (hw _ (List.mem_of_getElem? (i := 46) rfl)) (hw _ (List.mem_of_getElem? (i := 47) rfl)) (hw _ (List.mem_of_getElem? (i := 48) rfl)) (hw _ (List.mem_of_getElem? (i := 49) rfl)) (by decide) (rmk1 l Z a0 hw [] rb12 b1 (2 : Int32) kb12 k1 (nar .byte ((q1.toUInt64 >>> ((56 : Int32) &&& 0x3f).toInt64.toUInt64).toInt64).toInt32.toInt8.toInt32) (nar .byte ((q1.toUInt64 >>> ((48 : Int32) &&& 0x3f).toInt64.toUInt64).toInt64).toInt32.toInt8.toInt32) (nar .byte ((p3.toUInt32 >>> ((24 : Int32) &&& 31).toUInt32).toInt32).toInt8.toInt32) (nar .byte ((p3.toUInt32 >>> ((16 : Int32) &&& 31).toUInt32).toInt32).toInt8.toInt32) (nar .byte ((p3.toUInt32 >>> ((8 : Int32) &&& 31).toUInt32).toInt32).toInt8.toInt32) (nar .byte p3.toInt8.toInt32) (nar .byte ((q1.toUInt64 >>> ((8 : Int32) &&& 0x3f).toInt64.toUInt64).toInt64).toInt32.toInt8.toInt32) (nar .byte q1.toInt32.toInt8.toInt32) (nar .byte ((q1.toUInt64 >>> ((56 : Int32) &&& 0x3f).toInt64.toUInt64).toInt64).toInt32.toInt8.toInt32) (nar .byte ((q1.toUInt64 >>> ((48 : Int32) &&& 0x3f).toInt64.toUInt64).toInt64).toInt32.toInt8.toInt32) (nar .byte ((q1.toUInt64 >>> ((40 : Int32) &&& 0x3f).toInt64.toUInt64).toInt64).toInt32.toInt8.toInt32) (nar .byte ((q1.toUInt64 >>> ((32 : Int32) &&& 0x3f).toInt64.toUInt64).toInt64).toInt32.toInt8.toInt32) (nar .byte ((q1.toUInt64 >>> ((24 : Int32) &&& 0x3f).toInt64.toUInt64).toInt64).toInt32.toInt8.toInt32) (nar .byte ((q1.toUInt64 >>> ((16 : Int32) &&& 0x3f).toInt64.toUInt64).toInt64).toInt32.toInt8.toInt32) (nar .byte ((q1.toUInt64 >>> ((8 : Int32) &&& 0x3f).toInt64.toUInt64).toInt64).toInt32.toInt8.toInt32) (nar .byte q1.toInt32.toInt8.toInt32) T39.heap n0 P39_0 V9_39) (W := 0) (by decide) (by decide) (ce := 4) (sl := 19) rfl rfl (by decide) (by decide) rfl e42 rfl pd_5 rfl (Nat.le_refl _) rfl (fun v43 T43 L43 X43 Q43 => ?_)
    obtain ⟨q43, Nq43, e43⟩ := Q43
    have N43 := Fr.app N42 Nq43
    rw [Fk1_l0 (2 : Int32) (nar .byte ((q1.toUInt64 >>> ((48 : Int32) &&& 0x3f).toInt64.toUInt64).toInt64).toInt32.toInt8.toInt32) (nar .byte ((q1.toUInt64 >>> ((48 : Int32) &&& 0x3f).toInt64.toUInt64).toInt64).toInt32.toInt8.toInt32) (show (1 : Int32) < (2 : Int32) from (by decide)) (show (nar .byte ((q1.toUInt64 >>> ((48 : Int32) &&& 0x3f).toInt64.toUInt64).toInt64).toInt32.toInt8.toInt32) = (nar .byte ((q1.toUInt64 >>> ((48 : Int32) &&& 0x3f).toInt64.toUInt64).toInt64).toInt32.toInt8.toInt32) from (rfl : (nar .byte ((q1.toUInt64 >>> ((48 : Int32) &&& 0x3f).toInt64.toUInt64).toInt64).toInt32.toInt8.toInt32) = (nar .byte ((q1.toUInt64 >>> ((48 : Int32) &&& 0x3f).toInt64.toUInt64).toInt64).toInt32.toInt8.toInt32)))] at q43
    subst q43
    show Go p.tables e below _ (T43.setTop (mkF m 234 #[.val (.long q1), .second, .val (.int p2), .val (.int p3), .val (.int (2 : Int32)), .val (.ref b1), .val (.ref b10), .val (.ref rb12), .val (.int ((((((nar .byte ((p3.toUInt32 >>> ((24 : Int32) &&& 31).toUInt32).toInt32).toInt8.toInt32) &&& (255 : Int32)) <<< ((24 : Int32) &&& 31)) ||| (((nar .byte ((p3.toUInt32 >>> ((16 : Int32) &&& 31).toUInt32).toInt32).toInt8.toInt32) &&& (255 : Int32)) <<< ((16 : Int32) &&& 31))) ||| (((nar .byte ((p3.toUInt32 >>> ((8 : Int32) &&& 31).toUInt32).toInt32).toInt8.toInt32) &&& (255 : Int32)) <<< ((8 : Int32) &&& 31))) ||| ((nar .byte p3.toInt8.toInt32) &&& (255 : Int32))))] [(.int (1 : Int32))]))
    refine g_ifN (pc' := 237) C X43 at_234 (feq (show ¬ ((1 : Int32) = (0 : Int32)) from (by decide))).1 rfl ?_
    refine g_aload (pc' := 239) C X43 at_237 rfl rfl rfl ?_
    refine g_aload (pc' := 241) C X43 at_239 rfl rfl rfl ?_
    refine g_iconst (pc' := 242) (v := (2 : Int32)) C X43 at_241 rfl rfl ?_
    refine g_iload (pc' := 244) C X43 at_242 rfl rfl ?_
    refine g_callS (y := (⟨"com/example/caseloom/caseloom/store/ByteWriterSetIntPinLaw", "keep", "([B[BII)Z"⟩ : MethodName)) (argsL := [(.ref rb12), (.ref b1), (.int (2 : Int32)), (.int (2 : Int32))]) (st := []) (pc' := 247) C X43 at_244 (hw _ (List.mem_of_getElem? (i := 46) rfl)) (hw _ (List.mem_of_getElem? (i := 47) rfl)) (hw _ (List.mem_of_getElem? (i := 48) rfl)) (hw _ (List.mem_of_getElem? (i := 49) rfl)) (by decide) (rmk2 l Z a0 hw [] rb12 b1 (2 : Int32) kb12 k1 (nar .byte ((q1.toUInt64 >>> ((56 : Int32) &&& 0x3f).toInt64.toUInt64).toInt64).toInt32.toInt8.toInt32) (nar .byte ((q1.toUInt64 >>> ((48 : Int32) &&& 0x3f).toInt64.toUInt64).toInt64).toInt32.toInt8.toInt32) (nar .byte ((p3.toUInt32 >>> ((24 : Int32) &&& 31).toUInt32).toInt32).toInt8.toInt32) (nar .byte ((p3.toUInt32 >>> ((16 : Int32) &&& 31).toUInt32).toInt32).toInt8.toInt32) (nar .byte ((p3.toUInt32 >>> ((8 : Int32) &&& 31).toUInt32).toInt32).toInt8.toInt32) (nar .byte p3.toInt8.toInt32) (nar .byte ((q1.toUInt64 >>> ((8 : Int32) &&& 0x3f).toInt64.toUInt64).toInt64).toInt32.toInt8.toInt32) (nar .byte q1.toInt32.toInt8.toInt32) (nar .byte ((q1.toUInt64 >>> ((56 : Int32) &&& 0x3f).toInt64.toUInt64).toInt64).toInt32.toInt8.toInt32) (nar .byte ((q1.toUInt64 >>> ((48 : Int32) &&& 0x3f).toInt64.toUInt64).toInt64).toInt32.toInt8.toInt32) (nar .byte ((q1.toUInt64 >>> ((40 : Int32) &&& 0x3f).toInt64.toUInt64).toInt64).toInt32.toInt8.toInt32) (nar .byte ((q1.toUInt64 >>> ((32 : Int32) &&& 0x3f).toInt64.toUInt64).toInt64).toInt32.toInt8.toInt32) (nar .byte ((q1.toUInt64 >>> ((24 : Int32) &&& 0x3f).toInt64.toUInt64).toInt64).toInt32.toInt8.toInt32) (nar .byte ((q1.toUInt64 >>> ((16 : Int32) &&& 0x3f).toInt64.toUInt64).toInt64).toInt32.toInt8.toInt32) (nar .byte ((q1.toUInt64 >>> ((8 : Int32) &&& 0x3f).toInt64.toUInt64).toInt64).toInt32.toInt8.toInt32) (nar .byte q1.toInt32.toInt8.toInt32) T39.heap n0 P39_0 V9_39) (W := 0) (by decide) (by decide) (ce := 4) (sl := 19) rfl rfl (by decide) (by decide) rfl e43 rfl pd_5 rfl (Nat.le_refl _) rfl (fun v44 T44 L44 X44 Q44 => ?_)
    obtain ⟨q44, Nq44, e44⟩ := Q44
    have N44 := Fr.app N43 Nq44
    rw [Fk2_l2 (2 : Int32) (nar .byte ((p3.toUInt32 >>> ((24 : Int32) &&& 31).toUInt32).toInt32).toInt8.toInt32) (nar .byte ((q1.toUInt64 >>> ((40 : Int32) &&& 0x3f).toInt64.toUInt64).toInt64).toInt32.toInt8.toInt32) (show ¬ ((2 : Int32) < (2 : Int32)) from (by decide)) (show (2 : Int32) < ((2 : Int32) + (4 : Int32)) from (by decide))] at q44
    subst q44
    show Go p.tables e below _ (T44.setTop (mkF m 247 #[.val (.long q1), .second, .val (.int p2), .val (.int p3), .val (.int (2 : Int32)), .val (.ref b1), .val (.ref b10), .val (.ref rb12), .val (.int ((((((nar .byte ((p3.toUInt32 >>> ((24 : Int32) &&& 31).toUInt32).toInt32).toInt8.toInt32) &&& (255 : Int32)) <<< ((24 : Int32) &&& 31)) ||| (((nar .byte ((p3.toUInt32 >>> ((16 : Int32) &&& 31).toUInt32).toInt32).toInt8.toInt32) &&& (255 : Int32)) <<< ((16 : Int32) &&& 31))) ||| (((nar .byte ((p3.toUInt32 >>> ((8 : Int32) &&& 31).toUInt32).toInt32).toInt8.toInt32) &&& (255 : Int32)) <<< ((8 : Int32) &&& 31))) ||| ((nar .byte p3.toInt8.toInt32) &&& (255 : Int32))))] [(.int (1 : Int32))]))
    refine g_ifN (pc' := 250) C X44 at_247 (feq (show ¬ ((1 : Int32) = (0 : Int32)) from (by decide))).1 rfl ?_
    refine g_aload (pc' := 252) C X44 at_250 rfl rfl rfl ?_
    refine g_aload (pc' := 254) C X44 at_252 rfl rfl rfl ?_
    refine g_iconst (pc' := 255) (v := (3 : Int32)) C X44 at_254 rfl rfl ?_
    refine g_iload (pc' := 257) C X44 at_255 rfl rfl ?_
    refine g_callS (y := (⟨"com/example/caseloom/caseloom/store/ByteWriterSetIntPinLaw", "keep", "([B[BII)Z"⟩ : MethodName)) (argsL := [(.ref rb12), (.ref b1), (.int (3 : Int32)), (.int (2 : Int32))]) (st := []) (pc' := 260) C X44 at_257 (hw _ (List.mem_of_getElem? (i := 46) rfl)) (hw _ (List.mem_of_getElem? (i := 47) rfl)) (hw _ (List.mem_of_getElem? (i := 48) rfl)) (hw _ (List.mem_of_getElem? (i := 49) rfl)) (by decide) (rmk3 l Z a0 hw [] rb12 b1 (2 : Int32) kb12 k1 (nar .byte ((q1.toUInt64 >>> ((56 : Int32) &&& 0x3f).toInt64.toUInt64).toInt64).toInt32.toInt8.toInt32) (nar .byte ((q1.toUInt64 >>> ((48 : Int32) &&& 0x3f).toInt64.toUInt64).toInt64).toInt32.toInt8.toInt32) (nar .byte ((p3.toUInt32 >>> ((24 : Int32) &&& 31).toUInt32).toInt32).toInt8.toInt32) (nar .byte ((p3.toUInt32 >>> ((16 : Int32) &&& 31).toUInt32).toInt32).toInt8.toInt32) (nar .byte ((p3.toUInt32 >>> ((8 : Int32) &&& 31).toUInt32).toInt32).toInt8.toInt32) (nar .byte p3.toInt8.toInt32) (nar .byte ((q1.toUInt64 >>> ((8 : Int32) &&& 0x3f).toInt64.toUInt64).toInt64).toInt32.toInt8.toInt32) (nar .byte q1.toInt32.toInt8.toInt32) (nar .byte ((q1.toUInt64 >>> ((56 : Int32) &&& 0x3f).toInt64.toUInt64).toInt64).toInt32.toInt8.toInt32) (nar .byte ((q1.toUInt64 >>> ((48 : Int32) &&& 0x3f).toInt64.toUInt64).toInt64).toInt32.toInt8.toInt32) (nar .byte ((q1.toUInt64 >>> ((40 : Int32) &&& 0x3f).toInt64.toUInt64).toInt64).toInt32.toInt8.toInt32) (nar .byte ((q1.toUInt64 >>> ((32 : Int32) &&& 0x3f).toInt64.toUInt64).toInt64).toInt32.toInt8.toInt32) (nar .byte ((q1.toUInt64 >>> ((24 : Int32) &&& 0x3f).toInt64.toUInt64).toInt64).toInt32.toInt8.toInt32) (nar .byte ((q1.toUInt64 >>> ((16 : Int32) &&& 0x3f).toInt64.toUInt64).toInt64).toInt32.toInt8.toInt32) (nar .byte ((q1.toUInt64 >>> ((8 : Int32) &&& 0x3f).toInt64.toUInt64).toInt64).toInt32.toInt8.toInt32) (nar .byte q1.toInt32.toInt8.toInt32) T39.heap n0 P39_0 V9_39) (W := 0) (by decide) (by decide) (ce := 4) (sl := 19) rfl rfl (by decide) (by decide) rfl e44 rfl pd_5 rfl (Nat.le_refl _) rfl (fun v45 T45 L45 X45 Q45 => ?_)
    obtain ⟨q45, Nq45, e45⟩ := Q45
    have N45 := Fr.app N44 Nq45
    rw [Fk3_l2 (2 : Int32) (nar .byte ((p3.toUInt32 >>> ((16 : Int32) &&& 31).toUInt32).toInt32).toInt8.toInt32) (nar .byte ((q1.toUInt64 >>> ((32 : Int32) &&& 0x3f).toInt64.toUInt64).toInt64).toInt32.toInt8.toInt32) (show ¬ ((3 : Int32) < (2 : Int32)) from (by decide)) (show (3 : Int32) < ((2 : Int32) + (4 : Int32)) from (by decide))] at q45
    subst q45
    show Go p.tables e below _ (T45.setTop (mkF m 260 #[.val (.long q1), .second, .val (.int p2), .val (.int p3), .val (.int (2 : Int32)), .val (.ref b1), .val (.ref b10), .val (.ref rb12), .val (.int ((((((nar .byte ((p3.toUInt32 >>> ((24 : Int32) &&& 31).toUInt32).toInt32).toInt8.toInt32) &&& (255 : Int32)) <<< ((24 : Int32) &&& 31)) ||| (((nar .byte ((p3.toUInt32 >>> ((16 : Int32) &&& 31).toUInt32).toInt32).toInt8.toInt32) &&& (255 : Int32)) <<< ((16 : Int32) &&& 31))) ||| (((nar .byte ((p3.toUInt32 >>> ((8 : Int32) &&& 31).toUInt32).toInt32).toInt8.toInt32) &&& (255 : Int32)) <<< ((8 : Int32) &&& 31))) ||| ((nar .byte p3.toInt8.toInt32) &&& (255 : Int32))))] [(.int (1 : Int32))]))
    refine g_ifN (pc' := 263) C X45 at_260 (feq (show ¬ ((1 : Int32) = (0 : Int32)) from (by decide))).1 rfl ?_
    refine g_aload (pc' := 265) C X45 at_263 rfl rfl rfl ?_
    refine g_aload (pc' := 267) C X45 at_265 rfl rfl rfl ?_
    refine g_iconst (pc' := 268) (v := (4 : Int32)) C X45 at_267 rfl rfl ?_
    refine g_iload (pc' := 270) C X45 at_268 rfl rfl ?_
    refine g_callS (y := (⟨"com/example/caseloom/caseloom/store/ByteWriterSetIntPinLaw", "keep", "([B[BII)Z"⟩ : MethodName)) (argsL := [(.ref rb12), (.ref b1), (.int (4 : Int32)), (.int (2 : Int32))]) (st := []) (pc' := 273) C X45 at_270 (hw _ (List.mem_of_getElem? (i := 46) rfl)) (hw _ (List.mem_of_getElem? (i := 47) rfl)) (hw _ (List.mem_of_getElem? (i := 48) rfl)) (hw _ (List.mem_of_getElem? (i := 49) rfl)) (by decide) (rmk4 l Z a0 hw [] rb12 b1 (2 : Int32) kb12 k1 (nar .byte ((q1.toUInt64 >>> ((56 : Int32) &&& 0x3f).toInt64.toUInt64).toInt64).toInt32.toInt8.toInt32) (nar .byte ((q1.toUInt64 >>> ((48 : Int32) &&& 0x3f).toInt64.toUInt64).toInt64).toInt32.toInt8.toInt32) (nar .byte ((p3.toUInt32 >>> ((24 : Int32) &&& 31).toUInt32).toInt32).toInt8.toInt32) (nar .byte ((p3.toUInt32 >>> ((16 : Int32) &&& 31).toUInt32).toInt32).toInt8.toInt32) (nar .byte ((p3.toUInt32 >>> ((8 : Int32) &&& 31).toUInt32).toInt32).toInt8.toInt32) (nar .byte p3.toInt8.toInt32) (nar .byte ((q1.toUInt64 >>> ((8 : Int32) &&& 0x3f).toInt64.toUInt64).toInt64).toInt32.toInt8.toInt32) (nar .byte q1.toInt32.toInt8.toInt32) (nar .byte ((q1.toUInt64 >>> ((56 : Int32) &&& 0x3f).toInt64.toUInt64).toInt64).toInt32.toInt8.toInt32) (nar .byte ((q1.toUInt64 >>> ((48 : Int32) &&& 0x3f).toInt64.toUInt64).toInt64).toInt32.toInt8.toInt32) (nar .byte ((q1.toUInt64 >>> ((40 : Int32) &&& 0x3f).toInt64.toUInt64).toInt64).toInt32.toInt8.toInt32) (nar .byte ((q1.toUInt64 >>> ((32 : Int32) &&& 0x3f).toInt64.toUInt64).toInt64).toInt32.toInt8.toInt32) (nar .byte ((q1.toUInt64 >>> ((24 : Int32) &&& 0x3f).toInt64.toUInt64).toInt64).toInt32.toInt8.toInt32) (nar .byte ((q1.toUInt64 >>> ((16 : Int32) &&& 0x3f).toInt64.toUInt64).toInt64).toInt32.toInt8.toInt32) (nar .byte ((q1.toUInt64 >>> ((8 : Int32) &&& 0x3f).toInt64.toUInt64).toInt64).toInt32.toInt8.toInt32) (nar .byte q1.toInt32.toInt8.toInt32) T39.heap n0 P39_0 V9_39) (W := 0) (by decide) (by decide) (ce := 4) (sl := 19) rfl rfl (by decide) (by decide) rfl e45 rfl pd_5 rfl (Nat.le_refl _) rfl (fun v46 T46 L46 X46 Q46 => ?_)
    obtain ⟨q46, Nq46, e46⟩ := Q46
    have N46 := Fr.app N45 Nq46
    rw [Fk4_l2 (2 : Int32) (nar .byte ((p3.toUInt32 >>> ((8 : Int32) &&& 31).toUInt32).toInt32).toInt8.toInt32) (nar .byte ((q1.toUInt64 >>> ((24 : Int32) &&& 0x3f).toInt64.toUInt64).toInt64).toInt32.toInt8.toInt32) (show ¬ ((4 : Int32) < (2 : Int32)) from (by decide)) (show (4 : Int32) < ((2 : Int32) + (4 : Int32)) from (by decide))] at q46
    subst q46
    show Go p.tables e below _ (T46.setTop (mkF m 273 #[.val (.long q1), .second, .val (.int p2), .val (.int p3), .val (.int (2 : Int32)), .val (.ref b1), .val (.ref b10), .val (.ref rb12), .val (.int ((((((nar .byte ((p3.toUInt32 >>> ((24 : Int32) &&& 31).toUInt32).toInt32).toInt8.toInt32) &&& (255 : Int32)) <<< ((24 : Int32) &&& 31)) ||| (((nar .byte ((p3.toUInt32 >>> ((16 : Int32) &&& 31).toUInt32).toInt32).toInt8.toInt32) &&& (255 : Int32)) <<< ((16 : Int32) &&& 31))) ||| (((nar .byte ((p3.toUInt32 >>> ((8 : Int32) &&& 31).toUInt32).toInt32).toInt8.toInt32) &&& (255 : Int32)) <<< ((8 : Int32) &&& 31))) ||| ((nar .byte p3.toInt8.toInt32) &&& (255 : Int32))))] [(.int (1 : Int32))]))
    refine g_ifN (pc' := 276) C X46 at_273 (feq (show ¬ ((1 : Int32) = (0 : Int32)) from (by decide))).1 rfl ?_
    refine g_aload (pc' := 278) C X46 at_276 rfl rfl rfl ?_
    refine g_aload (pc' := 280) C X46 at_278 rfl rfl rfl ?_
    refine g_iconst (pc' := 281) (v := (5 : Int32)) C X46 at_280 rfl rfl ?_
    refine g_iload (pc' := 283) C X46 at_281 rfl rfl ?_
    refine g_callS (y := (⟨"com/example/caseloom/caseloom/store/ByteWriterSetIntPinLaw", "keep", "([B[BII)Z"⟩ : MethodName)) (argsL := [(.ref rb12), (.ref b1), (.int (5 : Int32)), (.int (2 : Int32))]) (st := []) (pc' := 286) C X46 at_283 (hw _ (List.mem_of_getElem? (i := 46) rfl)) (hw _ (List.mem_of_getElem? (i := 47) rfl)) (hw _ (List.mem_of_getElem? (i := 48) rfl)) (hw _ (List.mem_of_getElem? (i := 49) rfl)) (by decide) (rmk5 l Z a0 hw [] rb12 b1 (2 : Int32) kb12 k1 (nar .byte ((q1.toUInt64 >>> ((56 : Int32) &&& 0x3f).toInt64.toUInt64).toInt64).toInt32.toInt8.toInt32) (nar .byte ((q1.toUInt64 >>> ((48 : Int32) &&& 0x3f).toInt64.toUInt64).toInt64).toInt32.toInt8.toInt32) (nar .byte ((p3.toUInt32 >>> ((24 : Int32) &&& 31).toUInt32).toInt32).toInt8.toInt32) (nar .byte ((p3.toUInt32 >>> ((16 : Int32) &&& 31).toUInt32).toInt32).toInt8.toInt32) (nar .byte ((p3.toUInt32 >>> ((8 : Int32) &&& 31).toUInt32).toInt32).toInt8.toInt32) (nar .byte p3.toInt8.toInt32) (nar .byte ((q1.toUInt64 >>> ((8 : Int32) &&& 0x3f).toInt64.toUInt64).toInt64).toInt32.toInt8.toInt32) (nar .byte q1.toInt32.toInt8.toInt32) (nar .byte ((q1.toUInt64 >>> ((56 : Int32) &&& 0x3f).toInt64.toUInt64).toInt64).toInt32.toInt8.toInt32) (nar .byte ((q1.toUInt64 >>> ((48 : Int32) &&& 0x3f).toInt64.toUInt64).toInt64).toInt32.toInt8.toInt32) (nar .byte ((q1.toUInt64 >>> ((40 : Int32) &&& 0x3f).toInt64.toUInt64).toInt64).toInt32.toInt8.toInt32) (nar .byte ((q1.toUInt64 >>> ((32 : Int32) &&& 0x3f).toInt64.toUInt64).toInt64).toInt32.toInt8.toInt32) (nar .byte ((q1.toUInt64 >>> ((24 : Int32) &&& 0x3f).toInt64.toUInt64).toInt64).toInt32.toInt8.toInt32) (nar .byte ((q1.toUInt64 >>> ((16 : Int32) &&& 0x3f).toInt64.toUInt64).toInt64).toInt32.toInt8.toInt32) (nar .byte ((q1.toUInt64 >>> ((8 : Int32) &&& 0x3f).toInt64.toUInt64).toInt64).toInt32.toInt8.toInt32) (nar .byte q1.toInt32.toInt8.toInt32) T39.heap n0 P39_0 V9_39) (W := 0) (by decide) (by decide) (ce := 4) (sl := 19) rfl rfl (by decide) (by decide) rfl e46 rfl pd_5 rfl (Nat.le_refl _) rfl (fun v47 T47 L47 X47 Q47 => ?_)
    obtain ⟨q47, Nq47, e47⟩ := Q47
    have N47 := Fr.app N46 Nq47
    rw [Fk5_l2 (2 : Int32) (nar .byte p3.toInt8.toInt32) (nar .byte ((q1.toUInt64 >>> ((16 : Int32) &&& 0x3f).toInt64.toUInt64).toInt64).toInt32.toInt8.toInt32) (show ¬ ((5 : Int32) < (2 : Int32)) from (by decide)) (show (5 : Int32) < ((2 : Int32) + (4 : Int32)) from (by decide))] at q47
    subst q47
    show Go p.tables e below _ (T47.setTop (mkF m 286 #[.val (.long q1), .second, .val (.int p2), .val (.int p3), .val (.int (2 : Int32)), .val (.ref b1), .val (.ref b10), .val (.ref rb12), .val (.int ((((((nar .byte ((p3.toUInt32 >>> ((24 : Int32) &&& 31).toUInt32).toInt32).toInt8.toInt32) &&& (255 : Int32)) <<< ((24 : Int32) &&& 31)) ||| (((nar .byte ((p3.toUInt32 >>> ((16 : Int32) &&& 31).toUInt32).toInt32).toInt8.toInt32) &&& (255 : Int32)) <<< ((16 : Int32) &&& 31))) ||| (((nar .byte ((p3.toUInt32 >>> ((8 : Int32) &&& 31).toUInt32).toInt32).toInt8.toInt32) &&& (255 : Int32)) <<< ((8 : Int32) &&& 31))) ||| ((nar .byte p3.toInt8.toInt32) &&& (255 : Int32))))] [(.int (1 : Int32))]))
    refine g_ifN (pc' := 289) C X47 at_286 (feq (show ¬ ((1 : Int32) = (0 : Int32)) from (by decide))).1 rfl ?_
    refine g_aload (pc' := 291) C X47 at_289 rfl rfl rfl ?_
    refine g_aload (pc' := 293) C X47 at_291 rfl rfl rfl ?_
    refine g_bipush (pc' := 295) (v := (6 : Int32)) C X47 at_293 rfl rfl ?_
    refine g_iload (pc' := 297) C X47 at_295 rfl rfl ?_
    refine g_callS (y := (⟨"com/example/caseloom/caseloom/store/ByteWriterSetIntPinLaw", "keep", "([B[BII)Z"⟩ : MethodName)) (argsL := [(.ref rb12), (.ref b1), (.int (6 : Int32)), (.int (2 : Int32))]) (st := []) (pc' := 300) C X47 at_297 (hw _ (List.mem_of_getElem? (i := 46) rfl)) (hw _ (List.mem_of_getElem? (i := 47) rfl)) (hw _ (List.mem_of_getElem? (i := 48) rfl)) (hw _ (List.mem_of_getElem? (i := 49) rfl)) (by decide) (rmk6 l Z a0 hw [] rb12 b1 (2 : Int32) kb12 k1 (nar .byte ((q1.toUInt64 >>> ((56 : Int32) &&& 0x3f).toInt64.toUInt64).toInt64).toInt32.toInt8.toInt32) (nar .byte ((q1.toUInt64 >>> ((48 : Int32) &&& 0x3f).toInt64.toUInt64).toInt64).toInt32.toInt8.toInt32) (nar .byte ((p3.toUInt32 >>> ((24 : Int32) &&& 31).toUInt32).toInt32).toInt8.toInt32) (nar .byte ((p3.toUInt32 >>> ((16 : Int32) &&& 31).toUInt32).toInt32).toInt8.toInt32) (nar .byte ((p3.toUInt32 >>> ((8 : Int32) &&& 31).toUInt32).toInt32).toInt8.toInt32) (nar .byte p3.toInt8.toInt32) (nar .byte ((q1.toUInt64 >>> ((8 : Int32) &&& 0x3f).toInt64.toUInt64).toInt64).toInt32.toInt8.toInt32) (nar .byte q1.toInt32.toInt8.toInt32) (nar .byte ((q1.toUInt64 >>> ((56 : Int32) &&& 0x3f).toInt64.toUInt64).toInt64).toInt32.toInt8.toInt32) (nar .byte ((q1.toUInt64 >>> ((48 : Int32) &&& 0x3f).toInt64.toUInt64).toInt64).toInt32.toInt8.toInt32) (nar .byte ((q1.toUInt64 >>> ((40 : Int32) &&& 0x3f).toInt64.toUInt64).toInt64).toInt32.toInt8.toInt32) (nar .byte ((q1.toUInt64 >>> ((32 : Int32) &&& 0x3f).toInt64.toUInt64).toInt64).toInt32.toInt8.toInt32) (nar .byte ((q1.toUInt64 >>> ((24 : Int32) &&& 0x3f).toInt64.toUInt64).toInt64).toInt32.toInt8.toInt32) (nar .byte ((q1.toUInt64 >>> ((16 : Int32) &&& 0x3f).toInt64.toUInt64).toInt64).toInt32.toInt8.toInt32) (nar .byte ((q1.toUInt64 >>> ((8 : Int32) &&& 0x3f).toInt64.toUInt64).toInt64).toInt32.toInt8.toInt32) (nar .byte q1.toInt32.toInt8.toInt32) T39.heap n0 P39_0 V9_39) (W := 0) (by decide) (by decide) (ce := 4) (sl := 19) rfl rfl (by decide) (by decide) rfl e47 rfl pd_5 rfl (Nat.le_refl _) rfl (fun v48 T48 L48 X48 Q48 => ?_)
    obtain ⟨q48, Nq48, e48⟩ := Q48
    have N48 := Fr.app N47 Nq48
    rw [Fk6_l3 (2 : Int32) (nar .byte ((q1.toUInt64 >>> ((8 : Int32) &&& 0x3f).toInt64.toUInt64).toInt64).toInt32.toInt8.toInt32) (nar .byte ((q1.toUInt64 >>> ((8 : Int32) &&& 0x3f).toInt64.toUInt64).toInt64).toInt32.toInt8.toInt32) (show ¬ ((6 : Int32) < (2 : Int32)) from (by decide)) (show ¬ ((6 : Int32) < ((2 : Int32) + (4 : Int32))) from (by decide)) (show (nar .byte ((q1.toUInt64 >>> ((8 : Int32) &&& 0x3f).toInt64.toUInt64).toInt64).toInt32.toInt8.toInt32) = (nar .byte ((q1.toUInt64 >>> ((8 : Int32) &&& 0x3f).toInt64.toUInt64).toInt64).toInt32.toInt8.toInt32) from (rfl : (nar .byte ((q1.toUInt64 >>> ((8 : Int32) &&& 0x3f).toInt64.toUInt64).toInt64).toInt32.toInt8.toInt32) = (nar .byte ((q1.toUInt64 >>> ((8 : Int32) &&& 0x3f).toInt64.toUInt64).toInt64).toInt32.toInt8.toInt32)))] at q48
    subst q48
    show Go p.tables e below _ (T48.setTop (mkF m 300 #[.val (.long q1), .second, .val (.int p2), .val (.int p3), .val (.int (2 : Int32)), .val (.ref b1), .val (.ref b10), .val (.ref rb12), .val (.int ((((((nar .byte ((p3.toUInt32 >>> ((24 : Int32) &&& 31).toUInt32).toInt32).toInt8.toInt32) &&& (255 : Int32)) <<< ((24 : Int32) &&& 31)) ||| (((nar .byte ((p3.toUInt32 >>> ((16 : Int32) &&& 31).toUInt32).toInt32).toInt8.toInt32) &&& (255 : Int32)) <<< ((16 : Int32) &&& 31))) ||| (((nar .byte ((p3.toUInt32 >>> ((8 : Int32) &&& 31).toUInt32).toInt32).toInt8.toInt32) &&& (255 : Int32)) <<< ((8 : Int32) &&& 31))) ||| ((nar .byte p3.toInt8.toInt32) &&& (255 : Int32))))] [(.int (1 : Int32))]))
    refine g_ifN (pc' := 303) C X48 at_300 (feq (show ¬ ((1 : Int32) = (0 : Int32)) from (by decide))).1 rfl ?_
    refine g_aload (pc' := 305) C X48 at_303 rfl rfl rfl ?_
    refine g_aload (pc' := 307) C X48 at_305 rfl rfl rfl ?_
    refine g_bipush (pc' := 309) (v := (7 : Int32)) C X48 at_307 rfl rfl ?_
    refine g_iload (pc' := 311) C X48 at_309 rfl rfl ?_
    refine g_callS (y := (⟨"com/example/caseloom/caseloom/store/ByteWriterSetIntPinLaw", "keep", "([B[BII)Z"⟩ : MethodName)) (argsL := [(.ref rb12), (.ref b1), (.int (7 : Int32)), (.int (2 : Int32))]) (st := []) (pc' := 314) C X48 at_311 (hw _ (List.mem_of_getElem? (i := 46) rfl)) (hw _ (List.mem_of_getElem? (i := 47) rfl)) (hw _ (List.mem_of_getElem? (i := 48) rfl)) (hw _ (List.mem_of_getElem? (i := 49) rfl)) (by decide) (rmk7 l Z a0 hw [] rb12 b1 (2 : Int32) kb12 k1 (nar .byte ((q1.toUInt64 >>> ((56 : Int32) &&& 0x3f).toInt64.toUInt64).toInt64).toInt32.toInt8.toInt32) (nar .byte ((q1.toUInt64 >>> ((48 : Int32) &&& 0x3f).toInt64.toUInt64).toInt64).toInt32.toInt8.toInt32) (nar .byte ((p3.toUInt32 >>> ((24 : Int32) &&& 31).toUInt32).toInt32).toInt8.toInt32) (nar .byte ((p3.toUInt32 >>> ((16 : Int32) &&& 31).toUInt32).toInt32).toInt8.toInt32) (nar .byte ((p3.toUInt32 >>> ((8 : Int32) &&& 31).toUInt32).toInt32).toInt8.toInt32) (nar .byte p3.toInt8.toInt32) (nar .byte ((q1.toUInt64 >>> ((8 : Int32) &&& 0x3f).toInt64.toUInt64).toInt64).toInt32.toInt8.toInt32) (nar .byte q1.toInt32.toInt8.toInt32) (nar .byte ((q1.toUInt64 >>> ((56 : Int32) &&& 0x3f).toInt64.toUInt64).toInt64).toInt32.toInt8.toInt32) (nar .byte ((q1.toUInt64 >>> ((48 : Int32) &&& 0x3f).toInt64.toUInt64).toInt64).toInt32.toInt8.toInt32) (nar .byte ((q1.toUInt64 >>> ((40 : Int32) &&& 0x3f).toInt64.toUInt64).toInt64).toInt32.toInt8.toInt32) (nar .byte ((q1.toUInt64 >>> ((32 : Int32) &&& 0x3f).toInt64.toUInt64).toInt64).toInt32.toInt8.toInt32) (nar .byte ((q1.toUInt64 >>> ((24 : Int32) &&& 0x3f).toInt64.toUInt64).toInt64).toInt32.toInt8.toInt32) (nar .byte ((q1.toUInt64 >>> ((16 : Int32) &&& 0x3f).toInt64.toUInt64).toInt64).toInt32.toInt8.toInt32) (nar .byte ((q1.toUInt64 >>> ((8 : Int32) &&& 0x3f).toInt64.toUInt64).toInt64).toInt32.toInt8.toInt32) (nar .byte q1.toInt32.toInt8.toInt32) T39.heap n0 P39_0 V9_39) (W := 0) (by decide) (by decide) (ce := 4) (sl := 19) rfl rfl (by decide) (by decide) rfl e48 rfl pd_5 rfl (Nat.le_refl _) rfl (fun v49 T49 L49 X49 Q49 => ?_)
    obtain ⟨q49, Nq49, e49⟩ := Q49
    have N49 := Fr.app N48 Nq49
    rw [Fk7_l3 (2 : Int32) (nar .byte q1.toInt32.toInt8.toInt32) (nar .byte q1.toInt32.toInt8.toInt32) (show ¬ ((7 : Int32) < (2 : Int32)) from (by decide)) (show ¬ ((7 : Int32) < ((2 : Int32) + (4 : Int32))) from (by decide)) (show (nar .byte q1.toInt32.toInt8.toInt32) = (nar .byte q1.toInt32.toInt8.toInt32) from (rfl : (nar .byte q1.toInt32.toInt8.toInt32) = (nar .byte q1.toInt32.toInt8.toInt32)))] at q49
    subst q49
    show Go p.tables e below _ (T49.setTop (mkF m 314 #[.val (.long q1), .second, .val (.int p2), .val (.int p3), .val (.int (2 : Int32)), .val (.ref b1), .val (.ref b10), .val (.ref rb12), .val (.int ((((((nar .byte ((p3.toUInt32 >>> ((24 : Int32) &&& 31).toUInt32).toInt32).toInt8.toInt32) &&& (255 : Int32)) <<< ((24 : Int32) &&& 31)) ||| (((nar .byte ((p3.toUInt32 >>> ((16 : Int32) &&& 31).toUInt32).toInt32).toInt8.toInt32) &&& (255 : Int32)) <<< ((16 : Int32) &&& 31))) ||| (((nar .byte ((p3.toUInt32 >>> ((8 : Int32) &&& 31).toUInt32).toInt32).toInt8.toInt32) &&& (255 : Int32)) <<< ((8 : Int32) &&& 31))) ||| ((nar .byte p3.toInt8.toInt32) &&& (255 : Int32))))] [(.int (1 : Int32))]))
    refine g_ifN (pc' := 317) C X49 at_314 (feq (show ¬ ((1 : Int32) = (0 : Int32)) from (by decide))).1 rfl ?_
    refine g_iconst (pc' := 318) (v := (1 : Int32)) C X49 at_317 rfl rfl ?_
    refine g_goto (pc' := 322) C X49 at_318 (by decide) (by decide) ?_
    exact g_retN C X49 (by simp) at_322 (by decide) (by decide) ⟨rfl, N49⟩
  · refine own_cast (show T15.setTop (mkF m 112 #[.val (.long q1), .second, .val (.int p2), .val (.int p3), .val (.int ((p2 &&& (2147483647 : Int32)) % (5 : Int32))), .val (.ref b1), .val (.ref b10), .unset, .unset] []) = T15.setTop (mkF m 112 #[.val (.long q1), .second, .val (.int p2), .val (.int p3), .val (.int (3 : Int32)), .val (.ref b1), .val (.ref b10), .unset, .unset] []) from by rw [s16]) ?_
    refine g_aload (pc' := 114) C X15 at_112 rfl rfl rfl ?_
    refine g_iload (pc' := 116) C X15 at_114 rfl rfl ?_
    refine g_iloadN (pc' := 117) C X15 at_116 rfl rfl ?_
    refine g_callV (b := b10) (z := (⟨"com/example/caseloom/caseloom/store/ByteWriter", "setInt", "(II)V"⟩ : MethodName)) (y := (⟨"com/example/caseloom/caseloom/store/ByteWriter", "setInt", "(II)V"⟩ : MethodName)) (argsL := [(.int (3 : Int32)), (.int p3)]) (st := []) (pc' := 120) C X15 at_117 (hw _ (List.mem_of_getElem? (i := 31) rfl)) (hw _ (List.mem_of_getElem? (i := 32) rfl)) (notFace_of_selects (args := #[]) (mvT C.hZ (hw _ (List.mem_of_getElem? (i := 34) rfl)))) (hw _ (List.mem_of_getElem? (i := 34) rfl)) (hw _ (List.mem_of_getElem? (i := 33) rfl)) (hw _ (List.mem_of_getElem? (i := 4) rfl)) (hw _ (List.mem_of_getElem? (i := 35) rfl)) (by decide) (rms3 l Z a0 hw [] b10 p3 rb12 kb12 (nar .byte ((q1.toUInt64 >>> ((56 : Int32) &&& 0x3f).toInt64.toUInt64).toInt64).toInt32.toInt8.toInt32) (nar .byte ((q1.toUInt64 >>> ((48 : Int32) &&& 0x3f).toInt64.toUInt64).toInt64).toInt32.toInt8.toInt32) (nar .byte ((q1.toUInt64 >>> ((40 : Int32) &&& 0x3f).toInt64.toUInt64).toInt64).toInt32.toInt8.toInt32) (nar .byte ((q1.toUInt64 >>> ((32 : Int32) &&& 0x3f).toInt64.toUInt64).toInt64).toInt32.toInt8.toInt32) (nar .byte ((q1.toUInt64 >>> ((24 : Int32) &&& 0x3f).toInt64.toUInt64).toInt64).toInt32.toInt8.toInt32) (nar .byte ((q1.toUInt64 >>> ((16 : Int32) &&& 0x3f).toInt64.toUInt64).toInt64).toInt32.toInt8.toInt32) (nar .byte ((q1.toUInt64 >>> ((8 : Int32) &&& 0x3f).toInt64.toUInt64).toInt64).toInt32.toInt8.toInt32) (nar .byte q1.toInt32.toInt8.toInt32) T15.heap n0 Z15 P15_2 P15_3 gn_rb12 ne12_14) (W := 0) (by decide) (by decide) (ce := 4) (sl := 19) rfl rfl (by decide) (by decide) rfl P15_0 rfl rfl pd_2 rfl (Nat.le_refl _) rfl (fun v50 T50 L50 X50 Q50 => ?_)
    obtain ⟨q50, Nq50, Kq50, P50_0⟩ := Q50
    have N50 := Fr.app N15 Nq50
    have V9_50 := V9_15.keep Kq50 (ninS ne12_13 nin0)
    have P15_0_50 := P15_0.keep Kq50
    have P15_1_50 := P15_1.keep Kq50 (ninS ne12_14 nin0)
    have P15_2_50 := P15_2.keep Kq50 (ninS ne12_14 nin0)
    have Z50 := Nat.le_trans Z15 Kq50.1
    subst q50
    show Go p.tables e below _ (T50.setTop (mkF m 120 #[.val (.long q1), .second, .val (.int p2), .val (.int p3), .val (.int (3 : Int32)), .val (.ref b1), .val (.ref b10), .unset, .unset] []))
    refine g_aload (pc' := 122) C X50 at_120 rfl rfl rfl ?_
    refine g_callV (b := b10) (z := (⟨"com/example/caseloom/caseloom/store/ByteWriter", "array", "()[B"⟩ : MethodName)) (y := (⟨"com/example/caseloom/caseloom/store/ByteWriter", "array", "()[B"⟩ : MethodName)) (argsL := []) (st := []) (pc' := 125) C X50 at_122 (hw _ (List.mem_of_getElem? (i := 36) rfl)) (hw _ (List.mem_of_getElem? (i := 37) rfl)) (notFace_of_selects (args := #[]) (mvT C.hZ (hw _ (List.mem_of_getElem? (i := 39) rfl)))) (hw _ (List.mem_of_getElem? (i := 39) rfl)) (hw _ (List.mem_of_getElem? (i := 38) rfl)) (hw _ (List.mem_of_getElem? (i := 4) rfl)) (hw _ (List.mem_of_getElem? (i := 40) rfl)) (by decide) (rm6 l Z a0 hw [] b10 rb12 T50.heap n0 P15_2_50) (W := 0) (by decide) (by decide) (ce := 4) (sl := 19) rfl rfl (by decide) (by decide) rfl P15_0_50 rfl rfl pd_3 rfl (Nat.le_refl _) rfl (fun v51 T51 L51 X51 Q51 => ?_)
    obtain ⟨q51, Nq51, e51⟩ := Q51
    have N51 := Fr.app N50 Nq51
    rw [F6_l0 rb12] at q51
    subst q51
    show Go p.tables e below _ (T51.setTop (mkF m 125 #[.val (.long q1), .second, .val (.int p2), .val (.int p3), .val (.int (3 : Int32)), .val (.ref b1), .val (.ref b10), .unset, .unset] [(.ref rb12)]))
    refine g_astore (pc' := 127) (Ls' := #[.val (.long q1), .second, .val (.int p2), .val (.int p3), .val (.int (3 : Int32)), .val (.ref b1), .val (.ref b10), .val (.ref rb12), .unset]) C X51 at_125 rfl rfl rfl ?_
    refine g_aload (pc' := 129) C X51 at_127 rfl rfl rfl ?_
    refine g_len (pc' := 130) C X51 at_129 e51 P50_0 rfl ?_
    refine g_bipush (pc' := 132) (v := (8 : Int32)) C X51 at_130 rfl rfl ?_
    refine g_icmpY (pc' := 137) C X51 at_132 (teq (show (8 : Int32) = (8 : Int32) from (by decide))).1 (by decide) (by decide) ?_
    refine g_aload (pc' := 139) C X51 at_137 rfl rfl rfl ?_
    refine g_callV (b := b10) (z := (⟨"com/example/caseloom/caseloom/store/ByteWriter", "length", "()I"⟩ : MethodName)) (y := (⟨"com/example/caseloom/caseloom/store/ByteWriter", "length", "()I"⟩ : MethodName)) (argsL := []) (st := []) (pc' := 142) C X51 at_139 (hw _ (List.mem_of_getElem? (i := 41) rfl)) (hw _ (List.mem_of_getElem? (i := 42) rfl)) (notFace_of_selects (args := #[]) (mvT C.hZ (hw _ (List.mem_of_getElem? (i := 44) rfl)))) (hw _ (List.mem_of_getElem? (i := 44) rfl)) (hw _ (List.mem_of_getElem? (i := 43) rfl)) (hw _ (List.mem_of_getElem? (i := 4) rfl)) (hw _ (List.mem_of_getElem? (i := 45) rfl)) (by decide) (rm7 l Z a0 hw [] b10 (8 : Int32) T50.heap n0 P15_1_50) (W := 0) (by decide) (by decide) (ce := 4) (sl := 19) rfl rfl (by decide) (by decide) rfl P15_0_50 e51 rfl pd_4 rfl (Nat.le_refl _) rfl (fun v52 T52 L52 X52 Q52 => ?_)
    obtain ⟨q52, Nq52, e52⟩ := Q52
    have N52 := Fr.app N51 Nq52
    rw [F7_l0 (8 : Int32)] at q52
    subst q52
    show Go p.tables e below _ (T52.setTop (mkF m 142 #[.val (.long q1), .second, .val (.int p2), .val (.int p3), .val (.int (3 : Int32)), .val (.ref b1), .val (.ref b10), .val (.ref rb12), .unset] [(.int (8 : Int32))]))
    refine g_bipush (pc' := 144) (v := (8 : Int32)) C X52 at_142 rfl rfl ?_
    refine g_icmpY (pc' := 149) C X52 at_144 (teq (show (8 : Int32) = (8 : Int32) from (by decide))).1 (by decide) (by decide) ?_
    refine g_aload (pc' := 151) C X52 at_149 rfl rfl rfl ?_
    refine g_iload (pc' := 153) C X52 at_151 rfl rfl ?_
    refine g_ldB (pc' := 154) (v := (.int (nar .byte ((p3.toUInt32 >>> ((24 : Int32) &&& 31).toUInt32).toInt32).toInt8.toInt32))) C X52 at_153 e52 P50_0 ⟨by decide, by decide⟩ rfl rfl ?_
    refine g_sipush (pc' := 157) (v := (255 : Int32)) C X52 at_154 rfl rfl ?_
    refine g_iand (pc' := 158) C X52 at_157 rfl ?_
    refine g_bipush (pc' := 160) (v := (24 : Int32)) C X52 at_158 rfl rfl ?_
    refine g_ishl (pc' := 161) C X52 at_160 rfl ?_
    refine g_aload (pc' := 163) C X52 at_161 rfl rfl rfl ?_
    refine g_iload (pc' := 165) C X52 at_163 rfl rfl ?_
    refine g_iconst (pc' := 166) (v := (1 : Int32)) C X52 at_165 rfl rfl ?_
    refine g_iadd (pc' := 167) C X52 at_166 rfl ?_
    refine own_cast (congrArg (fun z => T52.setTop (mkF m 167 #[.val (.long q1), .second, .val (.int p2), .val (.int p3), .val (.int (3 : Int32)), .val (.ref b1), .val (.ref b10), .val (.ref rb12), .unset] (.int z :: [(.ref rb12), (.int (((nar .byte ((p3.toUInt32 >>> ((24 : Int32) &&& 31).toUInt32).toInt32).toInt8.toInt32) &&& (255 : Int32)) <<< ((24 : Int32) &&& 31)))]))) (show ((3 : Int32) + (1 : Int32)) = (4 : Int32) from by decide)) ?_
    refine g_ldB (pc' := 168) (v := (.int (nar .byte ((p3.toUInt32 >>> ((16 : Int32) &&& 31).toUInt32).toInt32).toInt8.toInt32))) C X52 at_167 e52 P50_0 ⟨by decide, by decide⟩ rfl rfl ?_
    refine g_sipush (pc' := 171) (v := (255 : Int32)) C X52 at_168 rfl rfl ?_
    refine g_iand (pc' := 172) C X52 at_171 rfl ?_
    refine g_bipush (pc' := 174) (v := (16 : Int32)) C X52 at_172 rfl rfl ?_
    refine g_ishl (pc' := 175) C X52 at_174 rfl ?_
    refine g_ior (pc' := 176) C X52 at_175 rfl ?_
    refine g_aload (pc' := 178) C X52 at_176 rfl rfl rfl ?_
    refine g_iload (pc' := 180) C X52 at_178 rfl rfl ?_
    refine g_iconst (pc' := 181) (v := (2 : Int32)) C X52 at_180 rfl rfl ?_
    refine g_iadd (pc' := 182) C X52 at_181 rfl ?_
    refine own_cast (congrArg (fun z => T52.setTop (mkF m 182 #[.val (.long q1), .second, .val (.int p2), .val (.int p3), .val (.int (3 : Int32)), .val (.ref b1), .val (.ref b10), .val (.ref rb12), .unset] (.int z :: [(.ref rb12), (.int ((((nar .byte ((p3.toUInt32 >>> ((24 : Int32) &&& 31).toUInt32).toInt32).toInt8.toInt32) &&& (255 : Int32)) <<< ((24 : Int32) &&& 31)) ||| (((nar .byte ((p3.toUInt32 >>> ((16 : Int32) &&& 31).toUInt32).toInt32).toInt8.toInt32) &&& (255 : Int32)) <<< ((16 : Int32) &&& 31))))]))) (show ((3 : Int32) + (2 : Int32)) = (5 : Int32) from by decide)) ?_
    refine g_ldB (pc' := 183) (v := (.int (nar .byte ((p3.toUInt32 >>> ((8 : Int32) &&& 31).toUInt32).toInt32).toInt8.toInt32))) C X52 at_182 e52 P50_0 ⟨by decide, by decide⟩ rfl rfl ?_
    refine g_sipush (pc' := 186) (v := (255 : Int32)) C X52 at_183 rfl rfl ?_
    refine g_iand (pc' := 187) C X52 at_186 rfl ?_
    refine g_bipush (pc' := 189) (v := (8 : Int32)) C X52 at_187 rfl rfl ?_
    refine g_ishl (pc' := 190) C X52 at_189 rfl ?_
    refine g_ior (pc' := 191) C X52 at_190 rfl ?_
    refine g_aload (pc' := 193) C X52 at_191 rfl rfl rfl ?_
    refine g_iload (pc' := 195) C X52 at_193 rfl rfl ?_
    refine g_iconst (pc' := 196) (v := (3 : Int32)) C X52 at_195 rfl rfl ?_
    refine g_iadd (pc' := 197) C X52 at_196 rfl ?_
    refine own_cast (congrArg (fun z => T52.setTop (mkF m 197 #[.val (.long q1), .second, .val (.int p2), .val (.int p3), .val (.int (3 : Int32)), .val (.ref b1), .val (.ref b10), .val (.ref rb12), .unset] (.int z :: [(.ref rb12), (.int (((((nar .byte ((p3.toUInt32 >>> ((24 : Int32) &&& 31).toUInt32).toInt32).toInt8.toInt32) &&& (255 : Int32)) <<< ((24 : Int32) &&& 31)) ||| (((nar .byte ((p3.toUInt32 >>> ((16 : Int32) &&& 31).toUInt32).toInt32).toInt8.toInt32) &&& (255 : Int32)) <<< ((16 : Int32) &&& 31))) ||| (((nar .byte ((p3.toUInt32 >>> ((8 : Int32) &&& 31).toUInt32).toInt32).toInt8.toInt32) &&& (255 : Int32)) <<< ((8 : Int32) &&& 31))))]))) (show ((3 : Int32) + (3 : Int32)) = (6 : Int32) from by decide)) ?_
    refine g_ldB (pc' := 198) (v := (.int (nar .byte p3.toInt8.toInt32))) C X52 at_197 e52 P50_0 ⟨by decide, by decide⟩ rfl rfl ?_
    refine g_sipush (pc' := 201) (v := (255 : Int32)) C X52 at_198 rfl rfl ?_
    refine g_iand (pc' := 202) C X52 at_201 rfl ?_
    refine g_ior (pc' := 203) C X52 at_202 rfl ?_
    refine g_istore (pc' := 205) (Ls' := #[.val (.long q1), .second, .val (.int p2), .val (.int p3), .val (.int (3 : Int32)), .val (.ref b1), .val (.ref b10), .val (.ref rb12), .val (.int ((((((nar .byte ((p3.toUInt32 >>> ((24 : Int32) &&& 31).toUInt32).toInt32).toInt8.toInt32) &&& (255 : Int32)) <<< ((24 : Int32) &&& 31)) ||| (((nar .byte ((p3.toUInt32 >>> ((16 : Int32) &&& 31).toUInt32).toInt32).toInt8.toInt32) &&& (255 : Int32)) <<< ((16 : Int32) &&& 31))) ||| (((nar .byte ((p3.toUInt32 >>> ((8 : Int32) &&& 31).toUInt32).toInt32).toInt8.toInt32) &&& (255 : Int32)) <<< ((8 : Int32) &&& 31))) ||| ((nar .byte p3.toInt8.toInt32) &&& (255 : Int32))))]) C X52 at_203 rfl rfl ?_
    refine g_iload (pc' := 207) C X52 at_205 rfl rfl ?_
    refine g_iloadN (pc' := 208) C X52 at_207 rfl rfl ?_
    refine g_icmpN (pc' := 211) C X52 at_208 (teq (show ((((((nar .byte ((p3.toUInt32 >>> ((24 : Int32) &&& 31).toUInt32).toInt32).toInt8.toInt32) &&& (255 : Int32)) <<< ((24 : Int32) &&& 31)) ||| (((nar .byte ((p3.toUInt32 >>> ((16 : Int32) &&& 31).toUInt32).toInt32).toInt8.toInt32) &&& (255 : Int32)) <<< ((16 : Int32) &&& 31))) ||| (((nar .byte ((p3.toUInt32 >>> ((8 : Int32) &&& 31).toUInt32).toInt32).toInt8.toInt32) &&& (255 : Int32)) <<< ((8 : Int32) &&& 31))) ||| ((nar .byte p3.toInt8.toInt32) &&& (255 : Int32))) = p3 from (own_got p3))).2 rfl ?_
    refine g_aload (pc' := 213) C X52 at_211 rfl rfl rfl ?_
    refine g_aload (pc' := 215) C X52 at_213 rfl rfl rfl ?_
    refine g_iconst (pc' := 216) (v := (0 : Int32)) C X52 at_215 rfl rfl ?_
    refine g_iload (pc' := 218) C X52 at_216 rfl rfl ?_
    refine g_callS (y := (⟨"com/example/caseloom/caseloom/store/ByteWriterSetIntPinLaw", "keep", "([B[BII)Z"⟩ : MethodName)) (argsL := [(.ref rb12), (.ref b1), (.int (0 : Int32)), (.int (3 : Int32))]) (st := []) (pc' := 221) C X52 at_218 (hw _ (List.mem_of_getElem? (i := 46) rfl)) (hw _ (List.mem_of_getElem? (i := 47) rfl)) (hw _ (List.mem_of_getElem? (i := 48) rfl)) (hw _ (List.mem_of_getElem? (i := 49) rfl)) (by decide) (rmk0 l Z a0 hw [] rb12 b1 (3 : Int32) kb12 k1 (nar .byte ((q1.toUInt64 >>> ((56 : Int32) &&& 0x3f).toInt64.toUInt64).toInt64).toInt32.toInt8.toInt32) (nar .byte ((q1.toUInt64 >>> ((48 : Int32) &&& 0x3f).toInt64.toUInt64).toInt64).toInt32.toInt8.toInt32) (nar .byte ((q1.toUInt64 >>> ((40 : Int32) &&& 0x3f).toInt64.toUInt64).toInt64).toInt32.toInt8.toInt32) (nar .byte ((p3.toUInt32 >>> ((24 : Int32) &&& 31).toUInt32).toInt32).toInt8.toInt32) (nar .byte ((p3.toUInt32 >>> ((16 : Int32) &&& 31).toUInt32).toInt32).toInt8.toInt32) (nar .byte ((p3.toUInt32 >>> ((8 : Int32) &&& 31).toUInt32).toInt32).toInt8.toInt32) (nar .byte p3.toInt8.toInt32) (nar .byte q1.toInt32.toInt8.toInt32) (nar .byte ((q1.toUInt64 >>> ((56 : Int32) &&& 0x3f).toInt64.toUInt64).toInt64).toInt32.toInt8.toInt32) (nar .byte ((q1.toUInt64 >>> ((48 : Int32) &&& 0x3f).toInt64.toUInt64).toInt64).toInt32.toInt8.toInt32) (nar .byte ((q1.toUInt64 >>> ((40 : Int32) &&& 0x3f).toInt64.toUInt64).toInt64).toInt32.toInt8.toInt32) (nar .byte ((q1.toUInt64 >>> ((32 : Int32) &&& 0x3f).toInt64.toUInt64).toInt64).toInt32.toInt8.toInt32) (nar .byte ((q1.toUInt64 >>> ((24 : Int32) &&& 0x3f).toInt64.toUInt64).toInt64).toInt32.toInt8.toInt32) (nar .byte ((q1.toUInt64 >>> ((16 : Int32) &&& 0x3f).toInt64.toUInt64).toInt64).toInt32.toInt8.toInt32) (nar .byte ((q1.toUInt64 >>> ((8 : Int32) &&& 0x3f).toInt64.toUInt64).toInt64).toInt32.toInt8.toInt32) (nar .byte q1.toInt32.toInt8.toInt32) T50.heap n0 P50_0 V9_50) (W := 0) (by decide) (by decide) (ce := 4) (sl := 19) rfl rfl (by decide) (by decide) rfl e52 rfl pd_5 rfl (Nat.le_refl _) rfl (fun v53 T53 L53 X53 Q53 => ?_)
    obtain ⟨q53, Nq53, e53⟩ := Q53
    have N53 := Fr.app N52 Nq53
    rw [Fk0_l0 (3 : Int32) (nar .byte ((q1.toUInt64 >>> ((56 : Int32) &&& 0x3f).toInt64.toUInt64).toInt64).toInt32.toInt8.toInt32) (nar .byte ((q1.toUInt64 >>> ((56 : Int32) &&& 0x3f).toInt64.toUInt64).toInt64).toInt32.toInt8.toInt32) (show (0 : Int32) < (3 : Int32) from (by decide)) (show (nar .byte ((q1.toUInt64 >>> ((56 : Int32) &&& 0x3f).toInt64.toUInt64).toInt64).toInt32.toInt8.toInt32) = (nar .byte ((q1.toUInt64 >>> ((56 : Int32) &&& 0x3f).toInt64.toUInt64).toInt64).toInt32.toInt8.toInt32) from (rfl : (nar .byte ((q1.toUInt64 >>> ((56 : Int32) &&& 0x3f).toInt64.toUInt64).toInt64).toInt32.toInt8.toInt32) = (nar .byte ((q1.toUInt64 >>> ((56 : Int32) &&& 0x3f).toInt64.toUInt64).toInt64).toInt32.toInt8.toInt32)))] at q53
    subst q53
    show Go p.tables e below _ (T53.setTop (mkF m 221 #[.val (.long q1), .second, .val (.int p2), .val (.int p3), .val (.int (3 : Int32)), .val (.ref b1), .val (.ref b10), .val (.ref rb12), .val (.int ((((((nar .byte ((p3.toUInt32 >>> ((24 : Int32) &&& 31).toUInt32).toInt32).toInt8.toInt32) &&& (255 : Int32)) <<< ((24 : Int32) &&& 31)) ||| (((nar .byte ((p3.toUInt32 >>> ((16 : Int32) &&& 31).toUInt32).toInt32).toInt8.toInt32) &&& (255 : Int32)) <<< ((16 : Int32) &&& 31))) ||| (((nar .byte ((p3.toUInt32 >>> ((8 : Int32) &&& 31).toUInt32).toInt32).toInt8.toInt32) &&& (255 : Int32)) <<< ((8 : Int32) &&& 31))) ||| ((nar .byte p3.toInt8.toInt32) &&& (255 : Int32))))] [(.int (1 : Int32))]))
    refine g_ifN (pc' := 224) C X53 at_221 (feq (show ¬ ((1 : Int32) = (0 : Int32)) from (by decide))).1 rfl ?_
    refine g_aload (pc' := 226) C X53 at_224 rfl rfl rfl ?_
    refine g_aload (pc' := 228) C X53 at_226 rfl rfl rfl ?_
    refine g_iconst (pc' := 229) (v := (1 : Int32)) C X53 at_228 rfl rfl ?_
    refine g_iload (pc' := 231) C X53 at_229 rfl rfl ?_
    refine g_callS (y := (⟨"com/example/caseloom/caseloom/store/ByteWriterSetIntPinLaw", "keep", "([B[BII)Z"⟩ : MethodName)) (argsL := [(.ref rb12), (.ref b1), (.int (1 : Int32)), (.int (3 : Int32))]) (st := []) (pc' := 234) C X53 at_231 (hw _ (List.mem_of_getElem? (i := 46) rfl)) (hw _ (List.mem_of_getElem? (i := 47) rfl)) (hw _ (List.mem_of_getElem? (i := 48) rfl)) (hw _ (List.mem_of_getElem? (i := 49) rfl)) (by decide) (rmk1 l Z a0 hw [] rb12 b1 (3 : Int32) kb12 k1 (nar .byte ((q1.toUInt64 >>> ((56 : Int32) &&& 0x3f).toInt64.toUInt64).toInt64).toInt32.toInt8.toInt32) (nar .byte ((q1.toUInt64 >>> ((48 : Int32) &&& 0x3f).toInt64.toUInt64).toInt64).toInt32.toInt8.toInt32) (nar .byte ((q1.toUInt64 >>> ((40 : Int32) &&& 0x3f).toInt64.toUInt64).toInt64).toInt32.toInt8.toInt32) (nar .byte ((p3.toUInt32 >>> ((24 : Int32) &&& 31).toUInt32).toInt32).toInt8.toInt32) (nar .byte ((p3.toUInt32 >>> ((16 : Int32) &&& 31).toUInt32).toInt32).toInt8.toInt32) (nar .byte ((p3.toUInt32 >>> ((8 : Int32) &&& 31).toUInt32).toInt32).toInt8.toInt32) (nar .byte p3.toInt8.toInt32) (nar .byte q1.toInt32.toInt8.toInt32) (nar .byte ((q1.toUInt64 >>> ((56 : Int32) &&& 0x3f).toInt64.toUInt64).toInt64).toInt32.toInt8.toInt32) (nar .byte ((q1.toUInt64 >>> ((48 : Int32) &&& 0x3f).toInt64.toUInt64).toInt64).toInt32.toInt8.toInt32) (nar .byte ((q1.toUInt64 >>> ((40 : Int32) &&& 0x3f).toInt64.toUInt64).toInt64).toInt32.toInt8.toInt32) (nar .byte ((q1.toUInt64 >>> ((32 : Int32) &&& 0x3f).toInt64.toUInt64).toInt64).toInt32.toInt8.toInt32) (nar .byte ((q1.toUInt64 >>> ((24 : Int32) &&& 0x3f).toInt64.toUInt64).toInt64).toInt32.toInt8.toInt32) (nar .byte ((q1.toUInt64 >>> ((16 : Int32) &&& 0x3f).toInt64.toUInt64).toInt64).toInt32.toInt8.toInt32) (nar .byte ((q1.toUInt64 >>> ((8 : Int32) &&& 0x3f).toInt64.toUInt64).toInt64).toInt32.toInt8.toInt32) (nar .byte q1.toInt32.toInt8.toInt32) T50.heap n0 P50_0 V9_50) (W := 0) (by decide) (by decide) (ce := 4) (sl := 19) rfl rfl (by decide) (by decide) rfl e53 rfl pd_5 rfl (Nat.le_refl _) rfl (fun v54 T54 L54 X54 Q54 => ?_)
    obtain ⟨q54, Nq54, e54⟩ := Q54
    have N54 := Fr.app N53 Nq54
    rw [Fk1_l0 (3 : Int32) (nar .byte ((q1.toUInt64 >>> ((48 : Int32) &&& 0x3f).toInt64.toUInt64).toInt64).toInt32.toInt8.toInt32) (nar .byte ((q1.toUInt64 >>> ((48 : Int32) &&& 0x3f).toInt64.toUInt64).toInt64).toInt32.toInt8.toInt32) (show (1 : Int32) < (3 : Int32) from (by decide)) (show (nar .byte ((q1.toUInt64 >>> ((48 : Int32) &&& 0x3f).toInt64.toUInt64).toInt64).toInt32.toInt8.toInt32) = (nar .byte ((q1.toUInt64 >>> ((48 : Int32) &&& 0x3f).toInt64.toUInt64).toInt64).toInt32.toInt8.toInt32) from (rfl : (nar .byte ((q1.toUInt64 >>> ((48 : Int32) &&& 0x3f).toInt64.toUInt64).toInt64).toInt32.toInt8.toInt32) = (nar .byte ((q1.toUInt64 >>> ((48 : Int32) &&& 0x3f).toInt64.toUInt64).toInt64).toInt32.toInt8.toInt32)))] at q54
    subst q54
    show Go p.tables e below _ (T54.setTop (mkF m 234 #[.val (.long q1), .second, .val (.int p2), .val (.int p3), .val (.int (3 : Int32)), .val (.ref b1), .val (.ref b10), .val (.ref rb12), .val (.int ((((((nar .byte ((p3.toUInt32 >>> ((24 : Int32) &&& 31).toUInt32).toInt32).toInt8.toInt32) &&& (255 : Int32)) <<< ((24 : Int32) &&& 31)) ||| (((nar .byte ((p3.toUInt32 >>> ((16 : Int32) &&& 31).toUInt32).toInt32).toInt8.toInt32) &&& (255 : Int32)) <<< ((16 : Int32) &&& 31))) ||| (((nar .byte ((p3.toUInt32 >>> ((8 : Int32) &&& 31).toUInt32).toInt32).toInt8.toInt32) &&& (255 : Int32)) <<< ((8 : Int32) &&& 31))) ||| ((nar .byte p3.toInt8.toInt32) &&& (255 : Int32))))] [(.int (1 : Int32))]))
    refine g_ifN (pc' := 237) C X54 at_234 (feq (show ¬ ((1 : Int32) = (0 : Int32)) from (by decide))).1 rfl ?_
    refine g_aload (pc' := 239) C X54 at_237 rfl rfl rfl ?_
    refine g_aload (pc' := 241) C X54 at_239 rfl rfl rfl ?_
    refine g_iconst (pc' := 242) (v := (2 : Int32)) C X54 at_241 rfl rfl ?_
    refine g_iload (pc' := 244) C X54 at_242 rfl rfl ?_
    refine g_callS (y := (⟨"com/example/caseloom/caseloom/store/ByteWriterSetIntPinLaw", "keep", "([B[BII)Z"⟩ : MethodName)) (argsL := [(.ref rb12), (.ref b1), (.int (2 : Int32)), (.int (3 : Int32))]) (st := []) (pc' := 247) C X54 at_244 (hw _ (List.mem_of_getElem? (i := 46) rfl)) (hw _ (List.mem_of_getElem? (i := 47) rfl)) (hw _ (List.mem_of_getElem? (i := 48) rfl)) (hw _ (List.mem_of_getElem? (i := 49) rfl)) (by decide) (rmk2 l Z a0 hw [] rb12 b1 (3 : Int32) kb12 k1 (nar .byte ((q1.toUInt64 >>> ((56 : Int32) &&& 0x3f).toInt64.toUInt64).toInt64).toInt32.toInt8.toInt32) (nar .byte ((q1.toUInt64 >>> ((48 : Int32) &&& 0x3f).toInt64.toUInt64).toInt64).toInt32.toInt8.toInt32) (nar .byte ((q1.toUInt64 >>> ((40 : Int32) &&& 0x3f).toInt64.toUInt64).toInt64).toInt32.toInt8.toInt32) (nar .byte ((p3.toUInt32 >>> ((24 : Int32) &&& 31).toUInt32).toInt32).toInt8.toInt32) (nar .byte ((p3.toUInt32 >>> ((16 : Int32) &&& 31).toUInt32).toInt32).toInt8.toInt32) (nar .byte ((p3.toUInt32 >>> ((8 : Int32) &&& 31).toUInt32).toInt32).toInt8.toInt32) (nar .byte p3.toInt8.toInt32) (nar .byte q1.toInt32.toInt8.toInt32) (nar .byte ((q1.toUInt64 >>> ((56 : Int32) &&& 0x3f).toInt64.toUInt64).toInt64).toInt32.toInt8.toInt32) (nar .byte ((q1.toUInt64 >>> ((48 : Int32) &&& 0x3f).toInt64.toUInt64).toInt64).toInt32.toInt8.toInt32) (nar .byte ((q1.toUInt64 >>> ((40 : Int32) &&& 0x3f).toInt64.toUInt64).toInt64).toInt32.toInt8.toInt32) (nar .byte ((q1.toUInt64 >>> ((32 : Int32) &&& 0x3f).toInt64.toUInt64).toInt64).toInt32.toInt8.toInt32) (nar .byte ((q1.toUInt64 >>> ((24 : Int32) &&& 0x3f).toInt64.toUInt64).toInt64).toInt32.toInt8.toInt32) (nar .byte ((q1.toUInt64 >>> ((16 : Int32) &&& 0x3f).toInt64.toUInt64).toInt64).toInt32.toInt8.toInt32) (nar .byte ((q1.toUInt64 >>> ((8 : Int32) &&& 0x3f).toInt64.toUInt64).toInt64).toInt32.toInt8.toInt32) (nar .byte q1.toInt32.toInt8.toInt32) T50.heap n0 P50_0 V9_50) (W := 0) (by decide) (by decide) (ce := 4) (sl := 19) rfl rfl (by decide) (by decide) rfl e54 rfl pd_5 rfl (Nat.le_refl _) rfl (fun v55 T55 L55 X55 Q55 => ?_)
    obtain ⟨q55, Nq55, e55⟩ := Q55
    have N55 := Fr.app N54 Nq55
    rw [Fk2_l0 (3 : Int32) (nar .byte ((q1.toUInt64 >>> ((40 : Int32) &&& 0x3f).toInt64.toUInt64).toInt64).toInt32.toInt8.toInt32) (nar .byte ((q1.toUInt64 >>> ((40 : Int32) &&& 0x3f).toInt64.toUInt64).toInt64).toInt32.toInt8.toInt32) (show (2 : Int32) < (3 : Int32) from (by decide)) (show (nar .byte ((q1.toUInt64 >>> ((40 : Int32) &&& 0x3f).toInt64.toUInt64).toInt64).toInt32.toInt8.toInt32) = (nar .byte ((q1.toUInt64 >>> ((40 : Int32) &&& 0x3f).toInt64.toUInt64).toInt64).toInt32.toInt8.toInt32) from (rfl : (nar .byte ((q1.toUInt64 >>> ((40 : Int32) &&& 0x3f).toInt64.toUInt64).toInt64).toInt32.toInt8.toInt32) = (nar .byte ((q1.toUInt64 >>> ((40 : Int32) &&& 0x3f).toInt64.toUInt64).toInt64).toInt32.toInt8.toInt32)))] at q55
    subst q55
    show Go p.tables e below _ (T55.setTop (mkF m 247 #[.val (.long q1), .second, .val (.int p2), .val (.int p3), .val (.int (3 : Int32)), .val (.ref b1), .val (.ref b10), .val (.ref rb12), .val (.int ((((((nar .byte ((p3.toUInt32 >>> ((24 : Int32) &&& 31).toUInt32).toInt32).toInt8.toInt32) &&& (255 : Int32)) <<< ((24 : Int32) &&& 31)) ||| (((nar .byte ((p3.toUInt32 >>> ((16 : Int32) &&& 31).toUInt32).toInt32).toInt8.toInt32) &&& (255 : Int32)) <<< ((16 : Int32) &&& 31))) ||| (((nar .byte ((p3.toUInt32 >>> ((8 : Int32) &&& 31).toUInt32).toInt32).toInt8.toInt32) &&& (255 : Int32)) <<< ((8 : Int32) &&& 31))) ||| ((nar .byte p3.toInt8.toInt32) &&& (255 : Int32))))] [(.int (1 : Int32))]))
    refine g_ifN (pc' := 250) C X55 at_247 (feq (show ¬ ((1 : Int32) = (0 : Int32)) from (by decide))).1 rfl ?_
    refine g_aload (pc' := 252) C X55 at_250 rfl rfl rfl ?_
    refine g_aload (pc' := 254) C X55 at_252 rfl rfl rfl ?_
    refine g_iconst (pc' := 255) (v := (3 : Int32)) C X55 at_254 rfl rfl ?_
    refine g_iload (pc' := 257) C X55 at_255 rfl rfl ?_
    refine g_callS (y := (⟨"com/example/caseloom/caseloom/store/ByteWriterSetIntPinLaw", "keep", "([B[BII)Z"⟩ : MethodName)) (argsL := [(.ref rb12), (.ref b1), (.int (3 : Int32)), (.int (3 : Int32))]) (st := []) (pc' := 260) C X55 at_257 (hw _ (List.mem_of_getElem? (i := 46) rfl)) (hw _ (List.mem_of_getElem? (i := 47) rfl)) (hw _ (List.mem_of_getElem? (i := 48) rfl)) (hw _ (List.mem_of_getElem? (i := 49) rfl)) (by decide) (rmk3 l Z a0 hw [] rb12 b1 (3 : Int32) kb12 k1 (nar .byte ((q1.toUInt64 >>> ((56 : Int32) &&& 0x3f).toInt64.toUInt64).toInt64).toInt32.toInt8.toInt32) (nar .byte ((q1.toUInt64 >>> ((48 : Int32) &&& 0x3f).toInt64.toUInt64).toInt64).toInt32.toInt8.toInt32) (nar .byte ((q1.toUInt64 >>> ((40 : Int32) &&& 0x3f).toInt64.toUInt64).toInt64).toInt32.toInt8.toInt32) (nar .byte ((p3.toUInt32 >>> ((24 : Int32) &&& 31).toUInt32).toInt32).toInt8.toInt32) (nar .byte ((p3.toUInt32 >>> ((16 : Int32) &&& 31).toUInt32).toInt32).toInt8.toInt32) (nar .byte ((p3.toUInt32 >>> ((8 : Int32) &&& 31).toUInt32).toInt32).toInt8.toInt32) (nar .byte p3.toInt8.toInt32) (nar .byte q1.toInt32.toInt8.toInt32) (nar .byte ((q1.toUInt64 >>> ((56 : Int32) &&& 0x3f).toInt64.toUInt64).toInt64).toInt32.toInt8.toInt32) (nar .byte ((q1.toUInt64 >>> ((48 : Int32) &&& 0x3f).toInt64.toUInt64).toInt64).toInt32.toInt8.toInt32) (nar .byte ((q1.toUInt64 >>> ((40 : Int32) &&& 0x3f).toInt64.toUInt64).toInt64).toInt32.toInt8.toInt32) (nar .byte ((q1.toUInt64 >>> ((32 : Int32) &&& 0x3f).toInt64.toUInt64).toInt64).toInt32.toInt8.toInt32) (nar .byte ((q1.toUInt64 >>> ((24 : Int32) &&& 0x3f).toInt64.toUInt64).toInt64).toInt32.toInt8.toInt32) (nar .byte ((q1.toUInt64 >>> ((16 : Int32) &&& 0x3f).toInt64.toUInt64).toInt64).toInt32.toInt8.toInt32) (nar .byte ((q1.toUInt64 >>> ((8 : Int32) &&& 0x3f).toInt64.toUInt64).toInt64).toInt32.toInt8.toInt32) (nar .byte q1.toInt32.toInt8.toInt32) T50.heap n0 P50_0 V9_50) (W := 0) (by decide) (by decide) (ce := 4) (sl := 19) rfl rfl (by decide) (by decide) rfl e55 rfl pd_5 rfl (Nat.le_refl _) rfl (fun v56 T56 L56 X56 Q56 => ?_)
    obtain ⟨q56, Nq56, e56⟩ := Q56
    have N56 := Fr.app N55 Nq56
    rw [Fk3_l2 (3 : Int32) (nar .byte ((p3.toUInt32 >>> ((24 : Int32) &&& 31).toUInt32).toInt32).toInt8.toInt32) (nar .byte ((q1.toUInt64 >>> ((32 : Int32) &&& 0x3f).toInt64.toUInt64).toInt64).toInt32.toInt8.toInt32) (show ¬ ((3 : Int32) < (3 : Int32)) from (by decide)) (show (3 : Int32) < ((3 : Int32) + (4 : Int32)) from (by decide))] at q56
    subst q56
    show Go p.tables e below _ (T56.setTop (mkF m 260 #[.val (.long q1), .second, .val (.int p2), .val (.int p3), .val (.int (3 : Int32)), .val (.ref b1), .val (.ref b10), .val (.ref rb12), .val (.int ((((((nar .byte ((p3.toUInt32 >>> ((24 : Int32) &&& 31).toUInt32).toInt32).toInt8.toInt32) &&& (255 : Int32)) <<< ((24 : Int32) &&& 31)) ||| (((nar .byte ((p3.toUInt32 >>> ((16 : Int32) &&& 31).toUInt32).toInt32).toInt8.toInt32) &&& (255 : Int32)) <<< ((16 : Int32) &&& 31))) ||| (((nar .byte ((p3.toUInt32 >>> ((8 : Int32) &&& 31).toUInt32).toInt32).toInt8.toInt32) &&& (255 : Int32)) <<< ((8 : Int32) &&& 31))) ||| ((nar .byte p3.toInt8.toInt32) &&& (255 : Int32))))] [(.int (1 : Int32))]))
    refine g_ifN (pc' := 263) C X56 at_260 (feq (show ¬ ((1 : Int32) = (0 : Int32)) from (by decide))).1 rfl ?_
    refine g_aload (pc' := 265) C X56 at_263 rfl rfl rfl ?_
    refine g_aload (pc' := 267) C X56 at_265 rfl rfl rfl ?_
    refine g_iconst (pc' := 268) (v := (4 : Int32)) C X56 at_267 rfl rfl ?_
    refine g_iload (pc' := 270) C X56 at_268 rfl rfl ?_
    refine g_callS (y := (⟨"com/example/caseloom/caseloom/store/ByteWriterSetIntPinLaw", "keep", "([B[BII)Z"⟩ : MethodName)) (argsL := [(.ref rb12), (.ref b1), (.int (4 : Int32)), (.int (3 : Int32))]) (st := []) (pc' := 273) C X56 at_270 (hw _ (List.mem_of_getElem? (i := 46) rfl)) (hw _ (List.mem_of_getElem? (i := 47) rfl)) (hw _ (List.mem_of_getElem? (i := 48) rfl)) (hw _ (List.mem_of_getElem? (i := 49) rfl)) (by decide) (rmk4 l Z a0 hw [] rb12 b1 (3 : Int32) kb12 k1 (nar .byte ((q1.toUInt64 >>> ((56 : Int32) &&& 0x3f).toInt64.toUInt64).toInt64).toInt32.toInt8.toInt32) (nar .byte ((q1.toUInt64 >>> ((48 : Int32) &&& 0x3f).toInt64.toUInt64).toInt64).toInt32.toInt8.toInt32) (nar .byte ((q1.toUInt64 >>> ((40 : Int32) &&& 0x3f).toInt64.toUInt64).toInt64).toInt32.toInt8.toInt32) (nar .byte ((p3.toUInt32 >>> ((24 : Int32) &&& 31).toUInt32).toInt32).toInt8.toInt32) (nar .byte ((p3.toUInt32 >>> ((16 : Int32) &&& 31).toUInt32).toInt32).toInt8.toInt32) (nar .byte ((p3.toUInt32 >>> ((8 : Int32) &&& 31).toUInt32).toInt32).toInt8.toInt32) (nar .byte p3.toInt8.toInt32) (nar .byte q1.toInt32.toInt8.toInt32) (nar .byte ((q1.toUInt64 >>> ((56 : Int32) &&& 0x3f).toInt64.toUInt64).toInt64).toInt32.toInt8.toInt32) (nar .byte ((q1.toUInt64 >>> ((48 : Int32) &&& 0x3f).toInt64.toUInt64).toInt64).toInt32.toInt8.toInt32) (nar .byte ((q1.toUInt64 >>> ((40 : Int32) &&& 0x3f).toInt64.toUInt64).toInt64).toInt32.toInt8.toInt32) (nar .byte ((q1.toUInt64 >>> ((32 : Int32) &&& 0x3f).toInt64.toUInt64).toInt64).toInt32.toInt8.toInt32) (nar .byte ((q1.toUInt64 >>> ((24 : Int32) &&& 0x3f).toInt64.toUInt64).toInt64).toInt32.toInt8.toInt32) (nar .byte ((q1.toUInt64 >>> ((16 : Int32) &&& 0x3f).toInt64.toUInt64).toInt64).toInt32.toInt8.toInt32) (nar .byte ((q1.toUInt64 >>> ((8 : Int32) &&& 0x3f).toInt64.toUInt64).toInt64).toInt32.toInt8.toInt32) (nar .byte q1.toInt32.toInt8.toInt32) T50.heap n0 P50_0 V9_50) (W := 0) (by decide) (by decide) (ce := 4) (sl := 19) rfl rfl (by decide) (by decide) rfl e56 rfl pd_5 rfl (Nat.le_refl _) rfl (fun v57 T57 L57 X57 Q57 => ?_)
    obtain ⟨q57, Nq57, e57⟩ := Q57
    have N57 := Fr.app N56 Nq57
    rw [Fk4_l2 (3 : Int32) (nar .byte ((p3.toUInt32 >>> ((16 : Int32) &&& 31).toUInt32).toInt32).toInt8.toInt32) (nar .byte ((q1.toUInt64 >>> ((24 : Int32) &&& 0x3f).toInt64.toUInt64).toInt64).toInt32.toInt8.toInt32) (show ¬ ((4 : Int32) < (3 : Int32)) from (by decide)) (show (4 : Int32) < ((3 : Int32) + (4 : Int32)) from (by decide))] at q57
    subst q57
    show Go p.tables e below _ (T57.setTop (mkF m 273 #[.val (.long q1), .second, .val (.int p2), .val (.int p3), .val (.int (3 : Int32)), .val (.ref b1), .val (.ref b10), .val (.ref rb12), .val (.int ((((((nar .byte ((p3.toUInt32 >>> ((24 : Int32) &&& 31).toUInt32).toInt32).toInt8.toInt32) &&& (255 : Int32)) <<< ((24 : Int32) &&& 31)) ||| (((nar .byte ((p3.toUInt32 >>> ((16 : Int32) &&& 31).toUInt32).toInt32).toInt8.toInt32) &&& (255 : Int32)) <<< ((16 : Int32) &&& 31))) ||| (((nar .byte ((p3.toUInt32 >>> ((8 : Int32) &&& 31).toUInt32).toInt32).toInt8.toInt32) &&& (255 : Int32)) <<< ((8 : Int32) &&& 31))) ||| ((nar .byte p3.toInt8.toInt32) &&& (255 : Int32))))] [(.int (1 : Int32))]))
    refine g_ifN (pc' := 276) C X57 at_273 (feq (show ¬ ((1 : Int32) = (0 : Int32)) from (by decide))).1 rfl ?_
    refine g_aload (pc' := 278) C X57 at_276 rfl rfl rfl ?_
    refine g_aload (pc' := 280) C X57 at_278 rfl rfl rfl ?_
    refine g_iconst (pc' := 281) (v := (5 : Int32)) C X57 at_280 rfl rfl ?_
    refine g_iload (pc' := 283) C X57 at_281 rfl rfl ?_
    refine g_callS (y := (⟨"com/example/caseloom/caseloom/store/ByteWriterSetIntPinLaw", "keep", "([B[BII)Z"⟩ : MethodName)) (argsL := [(.ref rb12), (.ref b1), (.int (5 : Int32)), (.int (3 : Int32))]) (st := []) (pc' := 286) C X57 at_283 (hw _ (List.mem_of_getElem? (i := 46) rfl)) (hw _ (List.mem_of_getElem? (i := 47) rfl)) (hw _ (List.mem_of_getElem? (i := 48) rfl)) (hw _ (List.mem_of_getElem? (i := 49) rfl)) (by decide) (rmk5 l Z a0 hw [] rb12 b1 (3 : Int32) kb12 k1 (nar .byte ((q1.toUInt64 >>> ((56 : Int32) &&& 0x3f).toInt64.toUInt64).toInt64).toInt32.toInt8.toInt32) (nar .byte ((q1.toUInt64 >>> ((48 : Int32) &&& 0x3f).toInt64.toUInt64).toInt64).toInt32.toInt8.toInt32) (nar .byte ((q1.toUInt64 >>> ((40 : Int32) &&& 0x3f).toInt64.toUInt64).toInt64).toInt32.toInt8.toInt32) (nar .byte ((p3.toUInt32 >>> ((24 : Int32) &&& 31).toUInt32).toInt32).toInt8.toInt32) (nar .byte ((p3.toUInt32 >>> ((16 : Int32) &&& 31).toUInt32).toInt32).toInt8.toInt32) (nar .byte ((p3.toUInt32 >>> ((8 : Int32) &&& 31).toUInt32).toInt32).toInt8.toInt32) (nar .byte p3.toInt8.toInt32) (nar .byte q1.toInt32.toInt8.toInt32) (nar .byte ((q1.toUInt64 >>> ((56 : Int32) &&& 0x3f).toInt64.toUInt64).toInt64).toInt32.toInt8.toInt32) (nar .byte ((q1.toUInt64 >>> ((48 : Int32) &&& 0x3f).toInt64.toUInt64).toInt64).toInt32.toInt8.toInt32) (nar .byte ((q1.toUInt64 >>> ((40 : Int32) &&& 0x3f).toInt64.toUInt64).toInt64).toInt32.toInt8.toInt32) (nar .byte ((q1.toUInt64 >>> ((32 : Int32) &&& 0x3f).toInt64.toUInt64).toInt64).toInt32.toInt8.toInt32) (nar .byte ((q1.toUInt64 >>> ((24 : Int32) &&& 0x3f).toInt64.toUInt64).toInt64).toInt32.toInt8.toInt32) (nar .byte ((q1.toUInt64 >>> ((16 : Int32) &&& 0x3f).toInt64.toUInt64).toInt64).toInt32.toInt8.toInt32) (nar .byte ((q1.toUInt64 >>> ((8 : Int32) &&& 0x3f).toInt64.toUInt64).toInt64).toInt32.toInt8.toInt32) (nar .byte q1.toInt32.toInt8.toInt32) T50.heap n0 P50_0 V9_50) (W := 0) (by decide) (by decide) (ce := 4) (sl := 19) rfl rfl (by decide) (by decide) rfl e57 rfl pd_5 rfl (Nat.le_refl _) rfl (fun v58 T58 L58 X58 Q58 => ?_)
    obtain ⟨q58, Nq58, e58⟩ := Q58
    have N58 := Fr.app N57 Nq58
    rw [Fk5_l2 (3 : Int32) (nar .byte ((p3.toUInt32 >>> ((8 : Int32) &&& 31).toUInt32).toInt32).toInt8.toInt32) (nar .byte ((q1.toUInt64 >>> ((16 : Int32) &&& 0x3f).toInt64.toUInt64).toInt64).toInt32.toInt8.toInt32) (show ¬ ((5 : Int32) < (3 : Int32)) from (by decide)) (show (5 : Int32) < ((3 : Int32) + (4 : Int32)) from (by decide))] at q58
    subst q58
    show Go p.tables e below _ (T58.setTop (mkF m 286 #[.val (.long q1), .second, .val (.int p2), .val (.int p3), .val (.int (3 : Int32)), .val (.ref b1), .val (.ref b10), .val (.ref rb12), .val (.int ((((((nar .byte ((p3.toUInt32 >>> ((24 : Int32) &&& 31).toUInt32).toInt32).toInt8.toInt32) &&& (255 : Int32)) <<< ((24 : Int32) &&& 31)) ||| (((nar .byte ((p3.toUInt32 >>> ((16 : Int32) &&& 31).toUInt32).toInt32).toInt8.toInt32) &&& (255 : Int32)) <<< ((16 : Int32) &&& 31))) ||| (((nar .byte ((p3.toUInt32 >>> ((8 : Int32) &&& 31).toUInt32).toInt32).toInt8.toInt32) &&& (255 : Int32)) <<< ((8 : Int32) &&& 31))) ||| ((nar .byte p3.toInt8.toInt32) &&& (255 : Int32))))] [(.int (1 : Int32))]))
    refine g_ifN (pc' := 289) C X58 at_286 (feq (show ¬ ((1 : Int32) = (0 : Int32)) from (by decide))).1 rfl ?_
    refine g_aload (pc' := 291) C X58 at_289 rfl rfl rfl ?_
    refine g_aload (pc' := 293) C X58 at_291 rfl rfl rfl ?_
    refine g_bipush (pc' := 295) (v := (6 : Int32)) C X58 at_293 rfl rfl ?_
    refine g_iload (pc' := 297) C X58 at_295 rfl rfl ?_
    refine g_callS (y := (⟨"com/example/caseloom/caseloom/store/ByteWriterSetIntPinLaw", "keep", "([B[BII)Z"⟩ : MethodName)) (argsL := [(.ref rb12), (.ref b1), (.int (6 : Int32)), (.int (3 : Int32))]) (st := []) (pc' := 300) C X58 at_297 (hw _ (List.mem_of_getElem? (i := 46) rfl)) (hw _ (List.mem_of_getElem? (i := 47) rfl)) (hw _ (List.mem_of_getElem? (i := 48) rfl)) (hw _ (List.mem_of_getElem? (i := 49) rfl)) (by decide) (rmk6 l Z a0 hw [] rb12 b1 (3 : Int32) kb12 k1 (nar .byte ((q1.toUInt64 >>> ((56 : Int32) &&& 0x3f).toInt64.toUInt64).toInt64).toInt32.toInt8.toInt32) (nar .byte ((q1.toUInt64 >>> ((48 : Int32) &&& 0x3f).toInt64.toUInt64).toInt64).toInt32.toInt8.toInt32) (nar .byte ((q1.toUInt64 >>> ((40 : Int32) &&& 0x3f).toInt64.toUInt64).toInt64).toInt32.toInt8.toInt32) (nar .byte ((p3.toUInt32 >>> ((24 : Int32) &&& 31).toUInt32).toInt32).toInt8.toInt32) (nar .byte ((p3.toUInt32 >>> ((16 : Int32) &&& 31).toUInt32).toInt32).toInt8.toInt32) (nar .byte ((p3.toUInt32 >>> ((8 : Int32) &&& 31).toUInt32).toInt32).toInt8.toInt32) (nar .byte p3.toInt8.toInt32) (nar .byte q1.toInt32.toInt8.toInt32) (nar .byte ((q1.toUInt64 >>> ((56 : Int32) &&& 0x3f).toInt64.toUInt64).toInt64).toInt32.toInt8.toInt32) (nar .byte ((q1.toUInt64 >>> ((48 : Int32) &&& 0x3f).toInt64.toUInt64).toInt64).toInt32.toInt8.toInt32) (nar .byte ((q1.toUInt64 >>> ((40 : Int32) &&& 0x3f).toInt64.toUInt64).toInt64).toInt32.toInt8.toInt32) (nar .byte ((q1.toUInt64 >>> ((32 : Int32) &&& 0x3f).toInt64.toUInt64).toInt64).toInt32.toInt8.toInt32) (nar .byte ((q1.toUInt64 >>> ((24 : Int32) &&& 0x3f).toInt64.toUInt64).toInt64).toInt32.toInt8.toInt32) (nar .byte ((q1.toUInt64 >>> ((16 : Int32) &&& 0x3f).toInt64.toUInt64).toInt64).toInt32.toInt8.toInt32) (nar .byte ((q1.toUInt64 >>> ((8 : Int32) &&& 0x3f).toInt64.toUInt64).toInt64).toInt32.toInt8.toInt32) (nar .byte q1.toInt32.toInt8.toInt32) T50.heap n0 P50_0 V9_50) (W := 0) (by decide) (by decide) (ce := 4) (sl := 19) rfl rfl (by decide) (by decide) rfl e58 rfl pd_5 rfl (Nat.le_refl _) rfl (fun v59 T59 L59 X59 Q59 => ?_)
    obtain ⟨q59, Nq59, e59⟩ := Q59
    have N59 := Fr.app N58 Nq59
    rw [Fk6_l2 (3 : Int32) (nar .byte p3.toInt8.toInt32) (nar .byte ((q1.toUInt64 >>> ((8 : Int32) &&& 0x3f).toInt64.toUInt64).toInt64).toInt32.toInt8.toInt32) (show ¬ ((6 : Int32) < (3 : Int32)) from (by decide)) (show (6 : Int32) < ((3 : Int32) + (4 : Int32)) from (by decide))] at q59
    subst q59
    show Go p.tables e below _ (T59.setTop (mkF m 300 #[.val (.long q1), .second, .val (.int p2), .val (.int p3), .val (.int (3 : Int32)), .val (.ref b1), .val (.ref b10), .val (.ref rb12), .val (.int ((((((nar .byte ((p3.toUInt32 >>> ((24 : Int32) &&& 31).toUInt32).toInt32).toInt8.toInt32) &&& (255 : Int32)) <<< ((24 : Int32) &&& 31)) ||| (((nar .byte ((p3.toUInt32 >>> ((16 : Int32) &&& 31).toUInt32).toInt32).toInt8.toInt32) &&& (255 : Int32)) <<< ((16 : Int32) &&& 31))) ||| (((nar .byte ((p3.toUInt32 >>> ((8 : Int32) &&& 31).toUInt32).toInt32).toInt8.toInt32) &&& (255 : Int32)) <<< ((8 : Int32) &&& 31))) ||| ((nar .byte p3.toInt8.toInt32) &&& (255 : Int32))))] [(.int (1 : Int32))]))
    refine g_ifN (pc' := 303) C X59 at_300 (feq (show ¬ ((1 : Int32) = (0 : Int32)) from (by decide))).1 rfl ?_
    refine g_aload (pc' := 305) C X59 at_303 rfl rfl rfl ?_
    refine g_aload (pc' := 307) C X59 at_305 rfl rfl rfl ?_
    refine g_bipush (pc' := 309) (v := (7 : Int32)) C X59 at_307 rfl rfl ?_
    refine g_iload (pc' := 311) C X59 at_309 rfl rfl ?_
    refine g_callS (y := (⟨"com/example/caseloom/caseloom/store/ByteWriterSetIntPinLaw", "keep", "([B[BII)Z"⟩ : MethodName)) (argsL := [(.ref rb12), (.ref b1), (.int (7 : Int32)), (.int (3 : Int32))]) (st := []) (pc' := 314) C X59 at_311 (hw _ (List.mem_of_getElem? (i := 46) rfl)) (hw _ (List.mem_of_getElem? (i := 47) rfl)) (hw _ (List.mem_of_getElem? (i := 48) rfl)) (hw _ (List.mem_of_getElem? (i := 49) rfl)) (by decide) (rmk7 l Z a0 hw [] rb12 b1 (3 : Int32) kb12 k1 (nar .byte ((q1.toUInt64 >>> ((56 : Int32) &&& 0x3f).toInt64.toUInt64).toInt64).toInt32.toInt8.toInt32) (nar .byte ((q1.toUInt64 >>> ((48 : Int32) &&& 0x3f).toInt64.toUInt64).toInt64).toInt32.toInt8.toInt32) (nar .byte ((q1.toUInt64 >>> ((40 : Int32) &&& 0x3f).toInt64.toUInt64).toInt64).toInt32.toInt8.toInt32) (nar .byte ((p3.toUInt32 >>> ((24 : Int32) &&& 31).toUInt32).toInt32).toInt8.toInt32) (nar .byte ((p3.toUInt32 >>> ((16 : Int32) &&& 31).toUInt32).toInt32).toInt8.toInt32) (nar .byte ((p3.toUInt32 >>> ((8 : Int32) &&& 31).toUInt32).toInt32).toInt8.toInt32) (nar .byte p3.toInt8.toInt32) (nar .byte q1.toInt32.toInt8.toInt32) (nar .byte ((q1.toUInt64 >>> ((56 : Int32) &&& 0x3f).toInt64.toUInt64).toInt64).toInt32.toInt8.toInt32) (nar .byte ((q1.toUInt64 >>> ((48 : Int32) &&& 0x3f).toInt64.toUInt64).toInt64).toInt32.toInt8.toInt32) (nar .byte ((q1.toUInt64 >>> ((40 : Int32) &&& 0x3f).toInt64.toUInt64).toInt64).toInt32.toInt8.toInt32) (nar .byte ((q1.toUInt64 >>> ((32 : Int32) &&& 0x3f).toInt64.toUInt64).toInt64).toInt32.toInt8.toInt32) (nar .byte ((q1.toUInt64 >>> ((24 : Int32) &&& 0x3f).toInt64.toUInt64).toInt64).toInt32.toInt8.toInt32) (nar .byte ((q1.toUInt64 >>> ((16 : Int32) &&& 0x3f).toInt64.toUInt64).toInt64).toInt32.toInt8.toInt32) (nar .byte ((q1.toUInt64 >>> ((8 : Int32) &&& 0x3f).toInt64.toUInt64).toInt64).toInt32.toInt8.toInt32) (nar .byte q1.toInt32.toInt8.toInt32) T50.heap n0 P50_0 V9_50) (W := 0) (by decide) (by decide) (ce := 4) (sl := 19) rfl rfl (by decide) (by decide) rfl e59 rfl pd_5 rfl (Nat.le_refl _) rfl (fun v60 T60 L60 X60 Q60 => ?_)
    obtain ⟨q60, Nq60, e60⟩ := Q60
    have N60 := Fr.app N59 Nq60
    rw [Fk7_l3 (3 : Int32) (nar .byte q1.toInt32.toInt8.toInt32) (nar .byte q1.toInt32.toInt8.toInt32) (show ¬ ((7 : Int32) < (3 : Int32)) from (by decide)) (show ¬ ((7 : Int32) < ((3 : Int32) + (4 : Int32))) from (by decide)) (show (nar .byte q1.toInt32.toInt8.toInt32) = (nar .byte q1.toInt32.toInt8.toInt32) from (rfl : (nar .byte q1.toInt32.toInt8.toInt32) = (nar .byte q1.toInt32.toInt8.toInt32)))] at q60
    subst q60
    show Go p.tables e below _ (T60.setTop (mkF m 314 #[.val (.long q1), .second, .val (.int p2), .val (.int p3), .val (.int (3 : Int32)), .val (.ref b1), .val (.ref b10), .val (.ref rb12), .val (.int ((((((nar .byte ((p3.toUInt32 >>> ((24 : Int32) &&& 31).toUInt32).toInt32).toInt8.toInt32) &&& (255 : Int32)) <<< ((24 : Int32) &&& 31)) ||| (((nar .byte ((p3.toUInt32 >>> ((16 : Int32) &&& 31).toUInt32).toInt32).toInt8.toInt32) &&& (255 : Int32)) <<< ((16 : Int32) &&& 31))) ||| (((nar .byte ((p3.toUInt32 >>> ((8 : Int32) &&& 31).toUInt32).toInt32).toInt8.toInt32) &&& (255 : Int32)) <<< ((8 : Int32) &&& 31))) ||| ((nar .byte p3.toInt8.toInt32) &&& (255 : Int32))))] [(.int (1 : Int32))]))
    refine g_ifN (pc' := 317) C X60 at_314 (feq (show ¬ ((1 : Int32) = (0 : Int32)) from (by decide))).1 rfl ?_
    refine g_iconst (pc' := 318) (v := (1 : Int32)) C X60 at_317 rfl rfl ?_
    refine g_goto (pc' := 322) C X60 at_318 (by decide) (by decide) ?_
    exact g_retN C X60 (by simp) at_322 (by decide) (by decide) ⟨rfl, N60⟩
  · refine own_cast (show T15.setTop (mkF m 112 #[.val (.long q1), .second, .val (.int p2), .val (.int p3), .val (.int ((p2 &&& (2147483647 : Int32)) % (5 : Int32))), .val (.ref b1), .val (.ref b10), .unset, .unset] []) = T15.setTop (mkF m 112 #[.val (.long q1), .second, .val (.int p2), .val (.int p3), .val (.int (4 : Int32)), .val (.ref b1), .val (.ref b10), .unset, .unset] []) from by rw [s16]) ?_
    refine g_aload (pc' := 114) C X15 at_112 rfl rfl rfl ?_
    refine g_iload (pc' := 116) C X15 at_114 rfl rfl ?_
    refine g_iloadN (pc' := 117) C X15 at_116 rfl rfl ?_
    refine g_callV (b := b10) (z := (⟨"com/example/caseloom/caseloom/store/ByteWriter", "setInt", "(II)V"⟩ : MethodName)) (y := (⟨"com/example/caseloom/caseloom/store/ByteWriter", "setInt", "(II)V"⟩ : MethodName)) (argsL := [(.int (4 : Int32)), (.int p3)]) (st := []) (pc' := 120) C X15 at_117 (hw _ (List.mem_of_getElem? (i := 31) rfl)) (hw _ (List.mem_of_getElem? (i := 32) rfl)) (notFace_of_selects (args := #[]) (mvT C.hZ (hw _ (List.mem_of_getElem? (i := 34) rfl)))) (hw _ (List.mem_of_getElem? (i := 34) rfl)) (hw _ (List.mem_of_getElem? (i := 33) rfl)) (hw _ (List.mem_of_getElem? (i := 4) rfl)) (hw _ (List.mem_of_getElem? (i := 35) rfl)) (by decide) (rms4 l Z a0 hw [] b10 p3 rb12 kb12 (nar .byte ((q1.toUInt64 >>> ((56 : Int32) &&& 0x3f).toInt64.toUInt64).toInt64).toInt32.toInt8.toInt32) (nar .byte ((q1.toUInt64 >>> ((48 : Int32) &&& 0x3f).toInt64.toUInt64).toInt64).toInt32.toInt8.toInt32) (nar .byte ((q1.toUInt64 >>> ((40 : Int32) &&& 0x3f).toInt64.toUInt64).toInt64).toInt32.toInt8.toInt32) (nar .byte ((q1.toUInt64 >>> ((32 : Int32) &&& 0x3f).toInt64.toUInt64).toInt64).toInt32.toInt8.toInt32) (nar .byte ((q1.toUInt64 >>> ((24 : Int32) &&& 0x3f).toInt64.toUInt64).toInt64).toInt32.toInt8.toInt32) (nar .byte ((q1.toUInt64 >>> ((16 : Int32) &&& 0x3f).toInt64.toUInt64).toInt64).toInt32.toInt8.toInt32) (nar .byte ((q1.toUInt64 >>> ((8 : Int32) &&& 0x3f).toInt64.toUInt64).toInt64).toInt32.toInt8.toInt32) (nar .byte q1.toInt32.toInt8.toInt32) T15.heap n0 Z15 P15_2 P15_3 gn_rb12 ne12_14) (W := 0) (by decide) (by decide) (ce := 4) (sl := 19) rfl rfl (by decide) (by decide) rfl P15_0 rfl rfl pd_2 rfl (Nat.le_refl _) rfl (fun v61 T61 L61 X61 Q61 => ?_)
    obtain ⟨q61, Nq61, Kq61, P61_0⟩ := Q61
    have N61 := Fr.app N15 Nq61
    have V9_61 := V9_15.keep Kq61 (ninS ne12_13 nin0)
    have P15_0_61 := P15_0.keep Kq61
    have P15_1_61 := P15_1.keep Kq61 (ninS ne12_14 nin0)
    have P15_2_61 := P15_2.keep Kq61 (ninS ne12_14 nin0)
    have Z61 := Nat.le_trans Z15 Kq61.1
    subst q61
    show Go p.tables e below _ (T61.setTop (mkF m 120 #[.val (.long q1), .second, .val (.int p2), .val (.int p3), .val (.int (4 : Int32)), .val (.ref b1), .val (.ref b10), .unset, .unset] []))
    refine g_aload (pc' := 122) C X61 at_120 rfl rfl rfl ?_
    refine g_callV (b := b10) (z := (⟨"com/example/caseloom/caseloom/store/ByteWriter", "array", "()[B"⟩ : MethodName)) (y := (⟨"com/example/caseloom/caseloom/store/ByteWriter", "array", "()[B"⟩ : MethodName)) (argsL := []) (st := []) (pc' := 125) C X61 at_122 (hw _ (List.mem_of_getElem? (i := 36) rfl)) (hw _ (List.mem_of_getElem? (i := 37) rfl)) (notFace_of_selects (args := #[]) (mvT C.hZ (hw _ (List.mem_of_getElem? (i := 39) rfl)))) (hw _ (List.mem_of_getElem? (i := 39) rfl)) (hw _ (List.mem_of_getElem? (i := 38) rfl)) (hw _ (List.mem_of_getElem? (i := 4) rfl)) (hw _ (List.mem_of_getElem? (i := 40) rfl)) (by decide) (rm6 l Z a0 hw [] b10 rb12 T61.heap n0 P15_2_61) (W := 0) (by decide) (by decide) (ce := 4) (sl := 19) rfl rfl (by decide) (by decide) rfl P15_0_61 rfl rfl pd_3 rfl (Nat.le_refl _) rfl (fun v62 T62 L62 X62 Q62 => ?_)
    obtain ⟨q62, Nq62, e62⟩ := Q62
    have N62 := Fr.app N61 Nq62
    rw [F6_l0 rb12] at q62
    subst q62
    show Go p.tables e below _ (T62.setTop (mkF m 125 #[.val (.long q1), .second, .val (.int p2), .val (.int p3), .val (.int (4 : Int32)), .val (.ref b1), .val (.ref b10), .unset, .unset] [(.ref rb12)]))
    refine g_astore (pc' := 127) (Ls' := #[.val (.long q1), .second, .val (.int p2), .val (.int p3), .val (.int (4 : Int32)), .val (.ref b1), .val (.ref b10), .val (.ref rb12), .unset]) C X62 at_125 rfl rfl rfl ?_
    refine g_aload (pc' := 129) C X62 at_127 rfl rfl rfl ?_
    refine g_len (pc' := 130) C X62 at_129 e62 P61_0 rfl ?_
    refine g_bipush (pc' := 132) (v := (8 : Int32)) C X62 at_130 rfl rfl ?_
    refine g_icmpY (pc' := 137) C X62 at_132 (teq (show (8 : Int32) = (8 : Int32) from (by decide))).1 (by decide) (by decide) ?_
    refine g_aload (pc' := 139) C X62 at_137 rfl rfl rfl ?_
    refine g_callV (b := b10) (z := (⟨"com/example/caseloom/caseloom/store/ByteWriter", "length", "()I"⟩ : MethodName)) (y := (⟨"com/example/caseloom/caseloom/store/ByteWriter", "length", "()I"⟩ : MethodName)) (argsL := []) (st := []) (pc' := 142) C X62 at_139 (hw _ (List.mem_of_getElem? (i := 41) rfl)) (hw _ (List.mem_of_getElem? (i := 42) rfl)) (notFace_of_selects (args := #[]) (mvT C.hZ (hw _ (List.mem_of_getElem? (i := 44) rfl)))) (hw _ (List.mem_of_getElem? (i := 44) rfl)) (hw _ (List.mem_of_getElem? (i := 43) rfl)) (hw _ (List.mem_of_getElem? (i := 4) rfl)) (hw _ (List.mem_of_getElem? (i := 45) rfl)) (by decide) (rm7 l Z a0 hw [] b10 (8 : Int32) T61.heap n0 P15_1_61) (W := 0) (by decide) (by decide) (ce := 4) (sl := 19) rfl rfl (by decide) (by decide) rfl P15_0_61 e62 rfl pd_4 rfl (Nat.le_refl _) rfl (fun v63 T63 L63 X63 Q63 => ?_)
    obtain ⟨q63, Nq63, e63⟩ := Q63
    have N63 := Fr.app N62 Nq63
    rw [F7_l0 (8 : Int32)] at q63
    subst q63
    show Go p.tables e below _ (T63.setTop (mkF m 142 #[.val (.long q1), .second, .val (.int p2), .val (.int p3), .val (.int (4 : Int32)), .val (.ref b1), .val (.ref b10), .val (.ref rb12), .unset] [(.int (8 : Int32))]))
    refine g_bipush (pc' := 144) (v := (8 : Int32)) C X63 at_142 rfl rfl ?_
    refine g_icmpY (pc' := 149) C X63 at_144 (teq (show (8 : Int32) = (8 : Int32) from (by decide))).1 (by decide) (by decide) ?_
    refine g_aload (pc' := 151) C X63 at_149 rfl rfl rfl ?_
    refine g_iload (pc' := 153) C X63 at_151 rfl rfl ?_
    refine g_ldB (pc' := 154) (v := (.int (nar .byte ((p3.toUInt32 >>> ((24 : Int32) &&& 31).toUInt32).toInt32).toInt8.toInt32))) C X63 at_153 e63 P61_0 ⟨by decide, by decide⟩ rfl rfl ?_
    refine g_sipush (pc' := 157) (v := (255 : Int32)) C X63 at_154 rfl rfl ?_
    refine g_iand (pc' := 158) C X63 at_157 rfl ?_
    refine g_bipush (pc' := 160) (v := (24 : Int32)) C X63 at_158 rfl rfl ?_
    refine g_ishl (pc' := 161) C X63 at_160 rfl ?_
    refine g_aload (pc' := 163) C X63 at_161 rfl rfl rfl ?_
    refine g_iload (pc' := 165) C X63 at_163 rfl rfl ?_
    refine g_iconst (pc' := 166) (v := (1 : Int32)) C X63 at_165 rfl rfl ?_
    refine g_iadd (pc' := 167) C X63 at_166 rfl ?_
    refine own_cast (congrArg (fun z => T63.setTop (mkF m 167 #[.val (.long q1), .second, .val (.int p2), .val (.int p3), .val (.int (4 : Int32)), .val (.ref b1), .val (.ref b10), .val (.ref rb12), .unset] (.int z :: [(.ref rb12), (.int (((nar .byte ((p3.toUInt32 >>> ((24 : Int32) &&& 31).toUInt32).toInt32).toInt8.toInt32) &&& (255 : Int32)) <<< ((24 : Int32) &&& 31)))]))) (show ((4 : Int32) + (1 : Int32)) = (5 : Int32) from by decide)) ?_
    refine g_ldB (pc' := 168) (v := (.int (nar .byte ((p3.toUInt32 >>> ((16 : Int32) &&& 31).toUInt32).toInt32).toInt8.toInt32))) C X63 at_167 e63 P61_0 ⟨by decide, by decide⟩ rfl rfl ?_
    refine g_sipush (pc' := 171) (v := (255 : Int32)) C X63 at_168 rfl rfl ?_
    refine g_iand (pc' := 172) C X63 at_171 rfl ?_
    refine g_bipush (pc' := 174) (v := (16 : Int32)) C X63 at_172 rfl rfl ?_
    refine g_ishl (pc' := 175) C X63 at_174 rfl ?_
    refine g_ior (pc' := 176) C X63 at_175 rfl ?_
    refine g_aload (pc' := 178) C X63 at_176 rfl rfl rfl ?_
    refine g_iload (pc' := 180) C X63 at_178 rfl rfl ?_
    refine g_iconst (pc' := 181) (v := (2 : Int32)) C X63 at_180 rfl rfl ?_
    refine g_iadd (pc' := 182) C X63 at_181 rfl ?_
    refine own_cast (congrArg (fun z => T63.setTop (mkF m 182 #[.val (.long q1), .second, .val (.int p2), .val (.int p3), .val (.int (4 : Int32)), .val (.ref b1), .val (.ref b10), .val (.ref rb12), .unset] (.int z :: [(.ref rb12), (.int ((((nar .byte ((p3.toUInt32 >>> ((24 : Int32) &&& 31).toUInt32).toInt32).toInt8.toInt32) &&& (255 : Int32)) <<< ((24 : Int32) &&& 31)) ||| (((nar .byte ((p3.toUInt32 >>> ((16 : Int32) &&& 31).toUInt32).toInt32).toInt8.toInt32) &&& (255 : Int32)) <<< ((16 : Int32) &&& 31))))]))) (show ((4 : Int32) + (2 : Int32)) = (6 : Int32) from by decide)) ?_
    refine g_ldB (pc' := 183) (v := (.int (nar .byte ((p3.toUInt32 >>> ((8 : Int32) &&& 31).toUInt32).toInt32).toInt8.toInt32))) C X63 at_182 e63 P61_0 ⟨by decide, by decide⟩ rfl rfl ?_
    refine g_sipush (pc' := 186) (v := (255 : Int32)) C X63 at_183 rfl rfl ?_
    refine g_iand (pc' := 187) C X63 at_186 rfl ?_
    refine g_bipush (pc' := 189) (v := (8 : Int32)) C X63 at_187 rfl rfl ?_
    refine g_ishl (pc' := 190) C X63 at_189 rfl ?_
    refine g_ior (pc' := 191) C X63 at_190 rfl ?_
    refine g_aload (pc' := 193) C X63 at_191 rfl rfl rfl ?_
    refine g_iload (pc' := 195) C X63 at_193 rfl rfl ?_
    refine g_iconst (pc' := 196) (v := (3 : Int32)) C X63 at_195 rfl rfl ?_
    refine g_iadd (pc' := 197) C X63 at_196 rfl ?_
    refine own_cast (congrArg (fun z => T63.setTop (mkF m 197 #[.val (.long q1), .second, .val (.int p2), .val (.int p3), .val (.int (4 : Int32)), .val (.ref b1), .val (.ref b10), .val (.ref rb12), .unset] (.int z :: [(.ref rb12), (.int (((((nar .byte ((p3.toUInt32 >>> ((24 : Int32) &&& 31).toUInt32).toInt32).toInt8.toInt32) &&& (255 : Int32)) <<< ((24 : Int32) &&& 31)) ||| (((nar .byte ((p3.toUInt32 >>> ((16 : Int32) &&& 31).toUInt32).toInt32).toInt8.toInt32) &&& (255 : Int32)) <<< ((16 : Int32) &&& 31))) ||| (((nar .byte ((p3.toUInt32 >>> ((8 : Int32) &&& 31).toUInt32).toInt32).toInt8.toInt32) &&& (255 : Int32)) <<< ((8 : Int32) &&& 31))))]))) (show ((4 : Int32) + (3 : Int32)) = (7 : Int32) from by decide)) ?_
    refine g_ldB (pc' := 198) (v := (.int (nar .byte p3.toInt8.toInt32))) C X63 at_197 e63 P61_0 ⟨by decide, by decide⟩ rfl rfl ?_
    refine g_sipush (pc' := 201) (v := (255 : Int32)) C X63 at_198 rfl rfl ?_
    refine g_iand (pc' := 202) C X63 at_201 rfl ?_
    refine g_ior (pc' := 203) C X63 at_202 rfl ?_
    refine g_istore (pc' := 205) (Ls' := #[.val (.long q1), .second, .val (.int p2), .val (.int p3), .val (.int (4 : Int32)), .val (.ref b1), .val (.ref b10), .val (.ref rb12), .val (.int ((((((nar .byte ((p3.toUInt32 >>> ((24 : Int32) &&& 31).toUInt32).toInt32).toInt8.toInt32) &&& (255 : Int32)) <<< ((24 : Int32) &&& 31)) ||| (((nar .byte ((p3.toUInt32 >>> ((16 : Int32) &&& 31).toUInt32).toInt32).toInt8.toInt32) &&& (255 : Int32)) <<< ((16 : Int32) &&& 31))) ||| (((nar .byte ((p3.toUInt32 >>> ((8 : Int32) &&& 31).toUInt32).toInt32).toInt8.toInt32) &&& (255 : Int32)) <<< ((8 : Int32) &&& 31))) ||| ((nar .byte p3.toInt8.toInt32) &&& (255 : Int32))))]) C X63 at_203 rfl rfl ?_
    refine g_iload (pc' := 207) C X63 at_205 rfl rfl ?_
    refine g_iloadN (pc' := 208) C X63 at_207 rfl rfl ?_
    refine g_icmpN (pc' := 211) C X63 at_208 (teq (show ((((((nar .byte ((p3.toUInt32 >>> ((24 : Int32) &&& 31).toUInt32).toInt32).toInt8.toInt32) &&& (255 : Int32)) <<< ((24 : Int32) &&& 31)) ||| (((nar .byte ((p3.toUInt32 >>> ((16 : Int32) &&& 31).toUInt32).toInt32).toInt8.toInt32) &&& (255 : Int32)) <<< ((16 : Int32) &&& 31))) ||| (((nar .byte ((p3.toUInt32 >>> ((8 : Int32) &&& 31).toUInt32).toInt32).toInt8.toInt32) &&& (255 : Int32)) <<< ((8 : Int32) &&& 31))) ||| ((nar .byte p3.toInt8.toInt32) &&& (255 : Int32))) = p3 from (own_got p3))).2 rfl ?_
    refine g_aload (pc' := 213) C X63 at_211 rfl rfl rfl ?_
    refine g_aload (pc' := 215) C X63 at_213 rfl rfl rfl ?_
    refine g_iconst (pc' := 216) (v := (0 : Int32)) C X63 at_215 rfl rfl ?_
    refine g_iload (pc' := 218) C X63 at_216 rfl rfl ?_
    refine g_callS (y := (⟨"com/example/caseloom/caseloom/store/ByteWriterSetIntPinLaw", "keep", "([B[BII)Z"⟩ : MethodName)) (argsL := [(.ref rb12), (.ref b1), (.int (0 : Int32)), (.int (4 : Int32))]) (st := []) (pc' := 221) C X63 at_218 (hw _ (List.mem_of_getElem? (i := 46) rfl)) (hw _ (List.mem_of_getElem? (i := 47) rfl)) (hw _ (List.mem_of_getElem? (i := 48) rfl)) (hw _ (List.mem_of_getElem? (i := 49) rfl)) (by decide) (rmk0 l Z a0 hw [] rb12 b1 (4 : Int32) kb12 k1 (nar .byte ((q1.toUInt64 >>> ((56 : Int32) &&& 0x3f).toInt64.toUInt64).toInt64).toInt32.toInt8.toInt32) (nar .byte ((q1.toUInt64 >>> ((48 : Int32) &&& 0x3f).toInt64.toUInt64).toInt64).toInt32.toInt8.toInt32) (nar .byte ((q1.toUInt64 >>> ((40 : Int32) &&& 0x3f).toInt64.toUInt64).toInt64).toInt32.toInt8.toInt32) (nar .byte ((q1.toUInt64 >>> ((32 : Int32) &&& 0x3f).toInt64.toUInt64).toInt64).toInt32.toInt8.toInt32) (nar .byte ((p3.toUInt32 >>> ((24 : Int32) &&& 31).toUInt32).toInt32).toInt8.toInt32) (nar .byte ((p3.toUInt32 >>> ((16 : Int32) &&& 31).toUInt32).toInt32).toInt8.toInt32) (nar .byte ((p3.toUInt32 >>> ((8 : Int32) &&& 31).toUInt32).toInt32).toInt8.toInt32) (nar .byte p3.toInt8.toInt32) (nar .byte ((q1.toUInt64 >>> ((56 : Int32) &&& 0x3f).toInt64.toUInt64).toInt64).toInt32.toInt8.toInt32) (nar .byte ((q1.toUInt64 >>> ((48 : Int32) &&& 0x3f).toInt64.toUInt64).toInt64).toInt32.toInt8.toInt32) (nar .byte ((q1.toUInt64 >>> ((40 : Int32) &&& 0x3f).toInt64.toUInt64).toInt64).toInt32.toInt8.toInt32) (nar .byte ((q1.toUInt64 >>> ((32 : Int32) &&& 0x3f).toInt64.toUInt64).toInt64).toInt32.toInt8.toInt32) (nar .byte ((q1.toUInt64 >>> ((24 : Int32) &&& 0x3f).toInt64.toUInt64).toInt64).toInt32.toInt8.toInt32) (nar .byte ((q1.toUInt64 >>> ((16 : Int32) &&& 0x3f).toInt64.toUInt64).toInt64).toInt32.toInt8.toInt32) (nar .byte ((q1.toUInt64 >>> ((8 : Int32) &&& 0x3f).toInt64.toUInt64).toInt64).toInt32.toInt8.toInt32) (nar .byte q1.toInt32.toInt8.toInt32) T61.heap n0 P61_0 V9_61) (W := 0) (by decide) (by decide) (ce := 4) (sl := 19) rfl rfl (by decide) (by decide) rfl e63 rfl pd_5 rfl (Nat.le_refl _) rfl (fun v64 T64 L64 X64 Q64 => ?_)
    obtain ⟨q64, Nq64, e64⟩ := Q64
    have N64 := Fr.app N63 Nq64
    rw [Fk0_l0 (4 : Int32) (nar .byte ((q1.toUInt64 >>> ((56 : Int32) &&& 0x3f).toInt64.toUInt64).toInt64).toInt32.toInt8.toInt32) (nar .byte ((q1.toUInt64 >>> ((56 : Int32) &&& 0x3f).toInt64.toUInt64).toInt64).toInt32.toInt8.toInt32) (show (0 : Int32) < (4 : Int32) from (by decide)) (show (nar .byte ((q1.toUInt64 >>> ((56 : Int32) &&& 0x3f).toInt64.toUInt64).toInt64).toInt32.toInt8.toInt32) = (nar .byte ((q1.toUInt64 >>> ((56 : Int32) &&& 0x3f).toInt64.toUInt64).toInt64).toInt32.toInt8.toInt32) from (rfl : (nar .byte ((q1.toUInt64 >>> ((56 : Int32) &&& 0x3f).toInt64.toUInt64).toInt64).toInt32.toInt8.toInt32) = (nar .byte ((q1.toUInt64 >>> ((56 : Int32) &&& 0x3f).toInt64.toUInt64).toInt64).toInt32.toInt8.toInt32)))] at q64
    subst q64
    show Go p.tables e below _ (T64.setTop (mkF m 221 #[.val (.long q1), .second, .val (.int p2), .val (.int p3), .val (.int (4 : Int32)), .val (.ref b1), .val (.ref b10), .val (.ref rb12), .val (.int ((((((nar .byte ((p3.toUInt32 >>> ((24 : Int32) &&& 31).toUInt32).toInt32).toInt8.toInt32) &&& (255 : Int32)) <<< ((24 : Int32) &&& 31)) ||| (((nar .byte ((p3.toUInt32 >>> ((16 : Int32) &&& 31).toUInt32).toInt32).toInt8.toInt32) &&& (255 : Int32)) <<< ((16 : Int32) &&& 31))) ||| (((nar .byte ((p3.toUInt32 >>> ((8 : Int32) &&& 31).toUInt32).toInt32).toInt8.toInt32) &&& (255 : Int32)) <<< ((8 : Int32) &&& 31))) ||| ((nar .byte p3.toInt8.toInt32) &&& (255 : Int32))))] [(.int (1 : Int32))]))
    refine g_ifN (pc' := 224) C X64 at_221 (feq (show ¬ ((1 : Int32) = (0 : Int32)) from (by decide))).1 rfl ?_
    refine g_aload (pc' := 226) C X64 at_224 rfl rfl rfl ?_
    refine g_aload (pc' := 228) C X64 at_226 rfl rfl rfl ?_
    refine g_iconst (pc' := 229) (v := (1 : Int32)) C X64 at_228 rfl rfl ?_
    refine g_iload (pc' := 231) C X64 at_229 rfl rfl ?_
    refine g_callS (y := (⟨"com/example/caseloom/caseloom/store/ByteWriterSetIntPinLaw", "keep", "([B[BII)Z"⟩ : MethodName)) (argsL := [(.ref rb12), (.ref b1), (.int (1 : Int32)), (.int (4 : Int32))]) (st := []) (pc' := 234) C X64 at_231 (hw _ (List.mem_of_getElem? (i := 46) rfl)) (hw _ (List.mem_of_getElem? (i := 47) rfl)) (hw _ (List.mem_of_getElem? (i := 48) rfl)) (hw _ (List.mem_of_getElem? (i := 49) rfl)) (by decide) (rmk1 l Z a0 hw [] rb12 b1 (4 : Int32) kb12 k1 (nar .byte ((q1.toUInt64 >>> ((56 : Int32) &&& 0x3f).toInt64.toUInt64).toInt64).toInt32.toInt8.toInt32) (nar .byte ((q1.toUInt64 >>> ((48 : Int32) &&& 0x3f).toInt64.toUInt64).toInt64).toInt32.toInt8.toInt32) (nar .byte ((q1.toUInt64 >>> ((40 : Int32) &&& 0x3f).toInt64.toUInt64).toInt64).toInt32.toInt8.toInt32) (nar .byte ((q1.toUInt64 >>> ((32 : Int32) &&& 0x3f).toInt64.toUInt64).toInt64).toInt32.toInt8.toInt32) (nar .byte ((p3.toUInt32 >>> ((24 : Int32) &&& 31).toUInt32).toInt32).toInt8.toInt32) (nar .byte ((p3.toUInt32 >>> ((16 : Int32) &&& 31).toUInt32).toInt32).toInt8.toInt32) (nar .byte ((p3.toUInt32 >>> ((8 : Int32) &&& 31).toUInt32).toInt32).toInt8.toInt32) (nar .byte p3.toInt8.toInt32) (nar .byte ((q1.toUInt64 >>> ((56 : Int32) &&& 0x3f).toInt64.toUInt64).toInt64).toInt32.toInt8.toInt32) (nar .byte ((q1.toUInt64 >>> ((48 : Int32) &&& 0x3f).toInt64.toUInt64).toInt64).toInt32.toInt8.toInt32) (nar .byte ((q1.toUInt64 >>> ((40 : Int32) &&& 0x3f).toInt64.toUInt64).toInt64).toInt32.toInt8.toInt32) (nar .byte ((q1.toUInt64 >>> ((32 : Int32) &&& 0x3f).toInt64.toUInt64).toInt64).toInt32.toInt8.toInt32) (nar .byte ((q1.toUInt64 >>> ((24 : Int32) &&& 0x3f).toInt64.toUInt64).toInt64).toInt32.toInt8.toInt32) (nar .byte ((q1.toUInt64 >>> ((16 : Int32) &&& 0x3f).toInt64.toUInt64).toInt64).toInt32.toInt8.toInt32) (nar .byte ((q1.toUInt64 >>> ((8 : Int32) &&& 0x3f).toInt64.toUInt64).toInt64).toInt32.toInt8.toInt32) (nar .byte q1.toInt32.toInt8.toInt32) T61.heap n0 P61_0 V9_61) (W := 0) (by decide) (by decide) (ce := 4) (sl := 19) rfl rfl (by decide) (by decide) rfl e64 rfl pd_5 rfl (Nat.le_refl _) rfl (fun v65 T65 L65 X65 Q65 => ?_)
    obtain ⟨q65, Nq65, e65⟩ := Q65
    have N65 := Fr.app N64 Nq65
    rw [Fk1_l0 (4 : Int32) (nar .byte ((q1.toUInt64 >>> ((48 : Int32) &&& 0x3f).toInt64.toUInt64).toInt64).toInt32.toInt8.toInt32) (nar .byte ((q1.toUInt64 >>> ((48 : Int32) &&& 0x3f).toInt64.toUInt64).toInt64).toInt32.toInt8.toInt32) (show (1 : Int32) < (4 : Int32) from (by decide)) (show (nar .byte ((q1.toUInt64 >>> ((48 : Int32) &&& 0x3f).toInt64.toUInt64).toInt64).toInt32.toInt8.toInt32) = (nar .byte ((q1.toUInt64 >>> ((48 : Int32) &&& 0x3f).toInt64.toUInt64).toInt64).toInt32.toInt8.toInt32) from (rfl : (nar .byte ((q1.toUInt64 >>> ((48 : Int32) &&& 0x3f).toInt64.toUInt64).toInt64).toInt32.toInt8.toInt32) = (nar .byte ((q1.toUInt64 >>> ((48 : Int32) &&& 0x3f).toInt64.toUInt64).toInt64).toInt32.toInt8.toInt32)))] at q65
    subst q65
    show Go p.tables e below _ (T65.setTop (mkF m 234 #[.val (.long q1), .second, .val (.int p2), .val (.int p3), .val (.int (4 : Int32)), .val (.ref b1), .val (.ref b10), .val (.ref rb12), .val (.int ((((((nar .byte ((p3.toUInt32 >>> ((24 : Int32) &&& 31).toUInt32).toInt32).toInt8.toInt32) &&& (255 : Int32)) <<< ((24 : Int32) &&& 31)) ||| (((nar .byte ((p3.toUInt32 >>> ((16 : Int32) &&& 31).toUInt32).toInt32).toInt8.toInt32) &&& (255 : Int32)) <<< ((16 : Int32) &&& 31))) ||| (((nar .byte ((p3.toUInt32 >>> ((8 : Int32) &&& 31).toUInt32).toInt32).toInt8.toInt32) &&& (255 : Int32)) <<< ((8 : Int32) &&& 31))) ||| ((nar .byte p3.toInt8.toInt32) &&& (255 : Int32))))] [(.int (1 : Int32))]))
    refine g_ifN (pc' := 237) C X65 at_234 (feq (show ¬ ((1 : Int32) = (0 : Int32)) from (by decide))).1 rfl ?_
    refine g_aload (pc' := 239) C X65 at_237 rfl rfl rfl ?_
    refine g_aload (pc' := 241) C X65 at_239 rfl rfl rfl ?_
    refine g_iconst (pc' := 242) (v := (2 : Int32)) C X65 at_241 rfl rfl ?_
    refine g_iload (pc' := 244) C X65 at_242 rfl rfl ?_
    refine g_callS (y := (⟨"com/example/caseloom/caseloom/store/ByteWriterSetIntPinLaw", "keep", "([B[BII)Z"⟩ : MethodName)) (argsL := [(.ref rb12), (.ref b1), (.int (2 : Int32)), (.int (4 : Int32))]) (st := []) (pc' := 247) C X65 at_244 (hw _ (List.mem_of_getElem? (i := 46) rfl)) (hw _ (List.mem_of_getElem? (i := 47) rfl)) (hw _ (List.mem_of_getElem? (i := 48) rfl)) (hw _ (List.mem_of_getElem? (i := 49) rfl)) (by decide) (rmk2 l Z a0 hw [] rb12 b1 (4 : Int32) kb12 k1 (nar .byte ((q1.toUInt64 >>> ((56 : Int32) &&& 0x3f).toInt64.toUInt64).toInt64).toInt32.toInt8.toInt32) (nar .byte ((q1.toUInt64 >>> ((48 : Int32) &&& 0x3f).toInt64.toUInt64).toInt64).toInt32.toInt8.toInt32) (nar .byte ((q1.toUInt64 >>> ((40 : Int32) &&& 0x3f).toInt64.toUInt64).toInt64).toInt32.toInt8.toInt32) (nar .byte ((q1.toUInt64 >>> ((32 : Int32) &&& 0x3f).toInt64.toUInt64).toInt64).toInt32.toInt8.toInt32) (nar .byte ((p3.toUInt32 >>> ((24 : Int32) &&& 31).toUInt32).toInt32).toInt8.toInt32) (nar .byte ((p3.toUInt32 >>> ((16 : Int32) &&& 31).toUInt32).toInt32).toInt8.toInt32) (nar .byte ((p3.toUInt32 >>> ((8 : Int32) &&& 31).toUInt32).toInt32).toInt8.toInt32) (nar .byte p3.toInt8.toInt32) (nar .byte ((q1.toUInt64 >>> ((56 : Int32) &&& 0x3f).toInt64.toUInt64).toInt64).toInt32.toInt8.toInt32) (nar .byte ((q1.toUInt64 >>> ((48 : Int32) &&& 0x3f).toInt64.toUInt64).toInt64).toInt32.toInt8.toInt32) (nar .byte ((q1.toUInt64 >>> ((40 : Int32) &&& 0x3f).toInt64.toUInt64).toInt64).toInt32.toInt8.toInt32) (nar .byte ((q1.toUInt64 >>> ((32 : Int32) &&& 0x3f).toInt64.toUInt64).toInt64).toInt32.toInt8.toInt32) (nar .byte ((q1.toUInt64 >>> ((24 : Int32) &&& 0x3f).toInt64.toUInt64).toInt64).toInt32.toInt8.toInt32) (nar .byte ((q1.toUInt64 >>> ((16 : Int32) &&& 0x3f).toInt64.toUInt64).toInt64).toInt32.toInt8.toInt32) (nar .byte ((q1.toUInt64 >>> ((8 : Int32) &&& 0x3f).toInt64.toUInt64).toInt64).toInt32.toInt8.toInt32) (nar .byte q1.toInt32.toInt8.toInt32) T61.heap n0 P61_0 V9_61) (W := 0) (by decide) (by decide) (ce := 4) (sl := 19) rfl rfl (by decide) (by decide) rfl e65 rfl pd_5 rfl (Nat.le_refl _) rfl (fun v66 T66 L66 X66 Q66 => ?_)
    obtain ⟨q66, Nq66, e66⟩ := Q66
    have N66 := Fr.app N65 Nq66
    rw [Fk2_l0 (4 : Int32) (nar .byte ((q1.toUInt64 >>> ((40 : Int32) &&& 0x3f).toInt64.toUInt64).toInt64).toInt32.toInt8.toInt32) (nar .byte ((q1.toUInt64 >>> ((40 : Int32) &&& 0x3f).toInt64.toUInt64).toInt64).toInt32.toInt8.toInt32) (show (2 : Int32) < (4 : Int32) from (by decide)) (show (nar .byte ((q1.toUInt64 >>> ((40 : Int32) &&& 0x3f).toInt64.toUInt64).toInt64).toInt32.toInt8.toInt32) = (nar .byte ((q1.toUInt64 >>> ((40 : Int32) &&& 0x3f).toInt64.toUInt64).toInt64).toInt32.toInt8.toInt32) from (rfl : (nar .byte ((q1.toUInt64 >>> ((40 : Int32) &&& 0x3f).toInt64.toUInt64).toInt64).toInt32.toInt8.toInt32) = (nar .byte ((q1.toUInt64 >>> ((40 : Int32) &&& 0x3f).toInt64.toUInt64).toInt64).toInt32.toInt8.toInt32)))] at q66
    subst q66
    show Go p.tables e below _ (T66.setTop (mkF m 247 #[.val (.long q1), .second, .val (.int p2), .val (.int p3), .val (.int (4 : Int32)), .val (.ref b1), .val (.ref b10), .val (.ref rb12), .val (.int ((((((nar .byte ((p3.toUInt32 >>> ((24 : Int32) &&& 31).toUInt32).toInt32).toInt8.toInt32) &&& (255 : Int32)) <<< ((24 : Int32) &&& 31)) ||| (((nar .byte ((p3.toUInt32 >>> ((16 : Int32) &&& 31).toUInt32).toInt32).toInt8.toInt32) &&& (255 : Int32)) <<< ((16 : Int32) &&& 31))) ||| (((nar .byte ((p3.toUInt32 >>> ((8 : Int32) &&& 31).toUInt32).toInt32).toInt8.toInt32) &&& (255 : Int32)) <<< ((8 : Int32) &&& 31))) ||| ((nar .byte p3.toInt8.toInt32) &&& (255 : Int32))))] [(.int (1 : Int32))]))
    refine g_ifN (pc' := 250) C X66 at_247 (feq (show ¬ ((1 : Int32) = (0 : Int32)) from (by decide))).1 rfl ?_
    refine g_aload (pc' := 252) C X66 at_250 rfl rfl rfl ?_
    refine g_aload (pc' := 254) C X66 at_252 rfl rfl rfl ?_
    refine g_iconst (pc' := 255) (v := (3 : Int32)) C X66 at_254 rfl rfl ?_
    refine g_iload (pc' := 257) C X66 at_255 rfl rfl ?_
    refine g_callS (y := (⟨"com/example/caseloom/caseloom/store/ByteWriterSetIntPinLaw", "keep", "([B[BII)Z"⟩ : MethodName)) (argsL := [(.ref rb12), (.ref b1), (.int (3 : Int32)), (.int (4 : Int32))]) (st := []) (pc' := 260) C X66 at_257 (hw _ (List.mem_of_getElem? (i := 46) rfl)) (hw _ (List.mem_of_getElem? (i := 47) rfl)) (hw _ (List.mem_of_getElem? (i := 48) rfl)) (hw _ (List.mem_of_getElem? (i := 49) rfl)) (by decide) (rmk3 l Z a0 hw [] rb12 b1 (4 : Int32) kb12 k1 (nar .byte ((q1.toUInt64 >>> ((56 : Int32) &&& 0x3f).toInt64.toUInt64).toInt64).toInt32.toInt8.toInt32) (nar .byte ((q1.toUInt64 >>> ((48 : Int32) &&& 0x3f).toInt64.toUInt64).toInt64).toInt32.toInt8.toInt32) (nar .byte ((q1.toUInt64 >>> ((40 : Int32) &&& 0x3f).toInt64.toUInt64).toInt64).toInt32.toInt8.toInt32) (nar .byte ((q1.toUInt64 >>> ((32 : Int32) &&& 0x3f).toInt64.toUInt64).toInt64).toInt32.toInt8.toInt32) (nar .byte ((p3.toUInt32 >>> ((24 : Int32) &&& 31).toUInt32).toInt32).toInt8.toInt32) (nar .byte ((p3.toUInt32 >>> ((16 : Int32) &&& 31).toUInt32).toInt32).toInt8.toInt32) (nar .byte ((p3.toUInt32 >>> ((8 : Int32) &&& 31).toUInt32).toInt32).toInt8.toInt32) (nar .byte p3.toInt8.toInt32) (nar .byte ((q1.toUInt64 >>> ((56 : Int32) &&& 0x3f).toInt64.toUInt64).toInt64).toInt32.toInt8.toInt32) (nar .byte ((q1.toUInt64 >>> ((48 : Int32) &&& 0x3f).toInt64.toUInt64).toInt64).toInt32.toInt8.toInt32) (nar .byte ((q1.toUInt64 >>> ((40 : Int32) &&& 0x3f).toInt64.toUInt64).toInt64).toInt32.toInt8.toInt32) (nar .byte ((q1.toUInt64 >>> ((32 : Int32) &&& 0x3f).toInt64.toUInt64).toInt64).toInt32.toInt8.toInt32) (nar .byte ((q1.toUInt64 >>> ((24 : Int32) &&& 0x3f).toInt64.toUInt64).toInt64).toInt32.toInt8.toInt32) (nar .byte ((q1.toUInt64 >>> ((16 : Int32) &&& 0x3f).toInt64.toUInt64).toInt64).toInt32.toInt8.toInt32) (nar .byte ((q1.toUInt64 >>> ((8 : Int32) &&& 0x3f).toInt64.toUInt64).toInt64).toInt32.toInt8.toInt32) (nar .byte q1.toInt32.toInt8.toInt32) T61.heap n0 P61_0 V9_61) (W := 0) (by decide) (by decide) (ce := 4) (sl := 19) rfl rfl (by decide) (by decide) rfl e66 rfl pd_5 rfl (Nat.le_refl _) rfl (fun v67 T67 L67 X67 Q67 => ?_)
    obtain ⟨q67, Nq67, e67⟩ := Q67
    have N67 := Fr.app N66 Nq67
    rw [Fk3_l0 (4 : Int32) (nar .byte ((q1.toUInt64 >>> ((32 : Int32) &&& 0x3f).toInt64.toUInt64).toInt64).toInt32.toInt8.toInt32) (nar .byte ((q1.toUInt64 >>> ((32 : Int32) &&& 0x3f).toInt64.toUInt64).toInt64).toInt32.toInt8.toInt32) (show (3 : Int32) < (4 : Int32) from (by decide)) (show (nar .byte ((q1.toUInt64 >>> ((32 : Int32) &&& 0x3f).toInt64.toUInt64).toInt64).toInt32.toInt8.toInt32) = (nar .byte ((q1.toUInt64 >>> ((32 : Int32) &&& 0x3f).toInt64.toUInt64).toInt64).toInt32.toInt8.toInt32) from (rfl : (nar .byte ((q1.toUInt64 >>> ((32 : Int32) &&& 0x3f).toInt64.toUInt64).toInt64).toInt32.toInt8.toInt32) = (nar .byte ((q1.toUInt64 >>> ((32 : Int32) &&& 0x3f).toInt64.toUInt64).toInt64).toInt32.toInt8.toInt32)))] at q67
    subst q67
    show Go p.tables e below _ (T67.setTop (mkF m 260 #[.val (.long q1), .second, .val (.int p2), .val (.int p3), .val (.int (4 : Int32)), .val (.ref b1), .val (.ref b10), .val (.ref rb12), .val (.int ((((((nar .byte ((p3.toUInt32 >>> ((24 : Int32) &&& 31).toUInt32).toInt32).toInt8.toInt32) &&& (255 : Int32)) <<< ((24 : Int32) &&& 31)) ||| (((nar .byte ((p3.toUInt32 >>> ((16 : Int32) &&& 31).toUInt32).toInt32).toInt8.toInt32) &&& (255 : Int32)) <<< ((16 : Int32) &&& 31))) ||| (((nar .byte ((p3.toUInt32 >>> ((8 : Int32) &&& 31).toUInt32).toInt32).toInt8.toInt32) &&& (255 : Int32)) <<< ((8 : Int32) &&& 31))) ||| ((nar .byte p3.toInt8.toInt32) &&& (255 : Int32))))] [(.int (1 : Int32))]))
    refine g_ifN (pc' := 263) C X67 at_260 (feq (show ¬ ((1 : Int32) = (0 : Int32)) from (by decide))).1 rfl ?_
    refine g_aload (pc' := 265) C X67 at_263 rfl rfl rfl ?_
    refine g_aload (pc' := 267) C X67 at_265 rfl rfl rfl ?_
    refine g_iconst (pc' := 268) (v := (4 : Int32)) C X67 at_267 rfl rfl ?_
    refine g_iload (pc' := 270) C X67 at_268 rfl rfl ?_
    refine g_callS (y := (⟨"com/example/caseloom/caseloom/store/ByteWriterSetIntPinLaw", "keep", "([B[BII)Z"⟩ : MethodName)) (argsL := [(.ref rb12), (.ref b1), (.int (4 : Int32)), (.int (4 : Int32))]) (st := []) (pc' := 273) C X67 at_270 (hw _ (List.mem_of_getElem? (i := 46) rfl)) (hw _ (List.mem_of_getElem? (i := 47) rfl)) (hw _ (List.mem_of_getElem? (i := 48) rfl)) (hw _ (List.mem_of_getElem? (i := 49) rfl)) (by decide) (rmk4 l Z a0 hw [] rb12 b1 (4 : Int32) kb12 k1 (nar .byte ((q1.toUInt64 >>> ((56 : Int32) &&& 0x3f).toInt64.toUInt64).toInt64).toInt32.toInt8.toInt32) (nar .byte ((q1.toUInt64 >>> ((48 : Int32) &&& 0x3f).toInt64.toUInt64).toInt64).toInt32.toInt8.toInt32) (nar .byte ((q1.toUInt64 >>> ((40 : Int32) &&& 0x3f).toInt64.toUInt64).toInt64).toInt32.toInt8.toInt32) (nar .byte ((q1.toUInt64 >>> ((32 : Int32) &&& 0x3f).toInt64.toUInt64).toInt64).toInt32.toInt8.toInt32) (nar .byte ((p3.toUInt32 >>> ((24 : Int32) &&& 31).toUInt32).toInt32).toInt8.toInt32) (nar .byte ((p3.toUInt32 >>> ((16 : Int32) &&& 31).toUInt32).toInt32).toInt8.toInt32) (nar .byte ((p3.toUInt32 >>> ((8 : Int32) &&& 31).toUInt32).toInt32).toInt8.toInt32) (nar .byte p3.toInt8.toInt32) (nar .byte ((q1.toUInt64 >>> ((56 : Int32) &&& 0x3f).toInt64.toUInt64).toInt64).toInt32.toInt8.toInt32) (nar .byte ((q1.toUInt64 >>> ((48 : Int32) &&& 0x3f).toInt64.toUInt64).toInt64).toInt32.toInt8.toInt32) (nar .byte ((q1.toUInt64 >>> ((40 : Int32) &&& 0x3f).toInt64.toUInt64).toInt64).toInt32.toInt8.toInt32) (nar .byte ((q1.toUInt64 >>> ((32 : Int32) &&& 0x3f).toInt64.toUInt64).toInt64).toInt32.toInt8.toInt32) (nar .byte ((q1.toUInt64 >>> ((24 : Int32) &&& 0x3f).toInt64.toUInt64).toInt64).toInt32.toInt8.toInt32) (nar .byte ((q1.toUInt64 >>> ((16 : Int32) &&& 0x3f).toInt64.toUInt64).toInt64).toInt32.toInt8.toInt32) (nar .byte ((q1.toUInt64 >>> ((8 : Int32) &&& 0x3f).toInt64.toUInt64).toInt64).toInt32.toInt8.toInt32) (nar .byte q1.toInt32.toInt8.toInt32) T61.heap n0 P61_0 V9_61) (W := 0) (by decide) (by decide) (ce := 4) (sl := 19) rfl rfl (by decide) (by decide) rfl e67 rfl pd_5 rfl (Nat.le_refl _) rfl (fun v68 T68 L68 X68 Q68 => ?_)
    obtain ⟨q68, Nq68, e68⟩ := Q68
    have N68 := Fr.app N67 Nq68
    rw [Fk4_l2 (4 : Int32) (nar .byte ((p3.toUInt32 >>> ((24 : Int32) &&& 31).toUInt32).toInt32).toInt8.toInt32) (nar .byte ((q1.toUInt64 >>> ((24 : Int32) &&& 0x3f).toInt64.toUInt64).toInt64).toInt32.toInt8.toInt32) (show ¬ ((4 : Int32) < (4 : Int32)) from (by decide)) (show (4 : Int32) < ((4 : Int32) + (4 : Int32)) from (by decide))] at q68
    subst q68
    show Go p.tables e below _ (T68.setTop (mkF m 273 #[.val (.long q1), .second, .val (.int p2), .val (.int p3), .val (.int (4 : Int32)), .val (.ref b1), .val (.ref b10), .val (.ref rb12), .val (.int ((((((nar .byte ((p3.toUInt32 >>> ((24 : Int32) &&& 31).toUInt32).toInt32).toInt8.toInt32) &&& (255 : Int32)) <<< ((24 : Int32) &&& 31)) ||| (((nar .byte ((p3.toUInt32 >>> ((16 : Int32) &&& 31).toUInt32).toInt32).toInt8.toInt32) &&& (255 : Int32)) <<< ((16 : Int32) &&& 31))) ||| (((nar .byte ((p3.toUInt32 >>> ((8 : Int32) &&& 31).toUInt32).toInt32).toInt8.toInt32) &&& (255 : Int32)) <<< ((8 : Int32) &&& 31))) ||| ((nar .byte p3.toInt8.toInt32) &&& (255 : Int32))))] [(.int (1 : Int32))]))
    refine g_ifN (pc' := 276) C X68 at_273 (feq (show ¬ ((1 : Int32) = (0 : Int32)) from (by decide))).1 rfl ?_
    refine g_aload (pc' := 278) C X68 at_276 rfl rfl rfl ?_
    refine g_aload (pc' := 280) C X68 at_278 rfl rfl rfl ?_
    refine g_iconst (pc' := 281) (v := (5 : Int32)) C X68 at_280 rfl rfl ?_
    refine g_iload (pc' := 283) C X68 at_281 rfl rfl ?_
    refine g_callS (y := (⟨"com/example/caseloom/caseloom/store/ByteWriterSetIntPinLaw", "keep", "([B[BII)Z"⟩ : MethodName)) (argsL := [(.ref rb12), (.ref b1), (.int (5 : Int32)), (.int (4 : Int32))]) (st := []) (pc' := 286) C X68 at_283 (hw _ (List.mem_of_getElem? (i := 46) rfl)) (hw _ (List.mem_of_getElem? (i := 47) rfl)) (hw _ (List.mem_of_getElem? (i := 48) rfl)) (hw _ (List.mem_of_getElem? (i := 49) rfl)) (by decide) (rmk5 l Z a0 hw [] rb12 b1 (4 : Int32) kb12 k1 (nar .byte ((q1.toUInt64 >>> ((56 : Int32) &&& 0x3f).toInt64.toUInt64).toInt64).toInt32.toInt8.toInt32) (nar .byte ((q1.toUInt64 >>> ((48 : Int32) &&& 0x3f).toInt64.toUInt64).toInt64).toInt32.toInt8.toInt32) (nar .byte ((q1.toUInt64 >>> ((40 : Int32) &&& 0x3f).toInt64.toUInt64).toInt64).toInt32.toInt8.toInt32) (nar .byte ((q1.toUInt64 >>> ((32 : Int32) &&& 0x3f).toInt64.toUInt64).toInt64).toInt32.toInt8.toInt32) (nar .byte ((p3.toUInt32 >>> ((24 : Int32) &&& 31).toUInt32).toInt32).toInt8.toInt32) (nar .byte ((p3.toUInt32 >>> ((16 : Int32) &&& 31).toUInt32).toInt32).toInt8.toInt32) (nar .byte ((p3.toUInt32 >>> ((8 : Int32) &&& 31).toUInt32).toInt32).toInt8.toInt32) (nar .byte p3.toInt8.toInt32) (nar .byte ((q1.toUInt64 >>> ((56 : Int32) &&& 0x3f).toInt64.toUInt64).toInt64).toInt32.toInt8.toInt32) (nar .byte ((q1.toUInt64 >>> ((48 : Int32) &&& 0x3f).toInt64.toUInt64).toInt64).toInt32.toInt8.toInt32) (nar .byte ((q1.toUInt64 >>> ((40 : Int32) &&& 0x3f).toInt64.toUInt64).toInt64).toInt32.toInt8.toInt32) (nar .byte ((q1.toUInt64 >>> ((32 : Int32) &&& 0x3f).toInt64.toUInt64).toInt64).toInt32.toInt8.toInt32) (nar .byte ((q1.toUInt64 >>> ((24 : Int32) &&& 0x3f).toInt64.toUInt64).toInt64).toInt32.toInt8.toInt32) (nar .byte ((q1.toUInt64 >>> ((16 : Int32) &&& 0x3f).toInt64.toUInt64).toInt64).toInt32.toInt8.toInt32) (nar .byte ((q1.toUInt64 >>> ((8 : Int32) &&& 0x3f).toInt64.toUInt64).toInt64).toInt32.toInt8.toInt32) (nar .byte q1.toInt32.toInt8.toInt32) T61.heap n0 P61_0 V9_61) (W := 0) (by decide) (by decide) (ce := 4) (sl := 19) rfl rfl (by decide) (by decide) rfl e68 rfl pd_5 rfl (Nat.le_refl _) rfl (fun v69 T69 L69 X69 Q69 => ?_)
    obtain ⟨q69, Nq69, e69⟩ := Q69
    have N69 := Fr.app N68 Nq69
    rw [Fk5_l2 (4 : Int32) (nar .byte ((p3.toUInt32 >>> ((16 : Int32) &&& 31).toUInt32).toInt32).toInt8.toInt32) (nar .byte ((q1.toUInt64 >>> ((16 : Int32) &&& 0x3f).toInt64.toUInt64).toInt64).toInt32.toInt8.toInt32) (show ¬ ((5 : Int32) < (4 : Int32)) from (by decide)) (show (5 : Int32) < ((4 : Int32) + (4 : Int32)) from (by decide))] at q69
    subst q69
    show Go p.tables e below _ (T69.setTop (mkF m 286 #[.val (.long q1), .second, .val (.int p2), .val (.int p3), .val (.int (4 : Int32)), .val (.ref b1), .val (.ref b10), .val (.ref rb12), .val (.int ((((((nar .byte ((p3.toUInt32 >>> ((24 : Int32) &&& 31).toUInt32).toInt32).toInt8.toInt32) &&& (255 : Int32)) <<< ((24 : Int32) &&& 31)) ||| (((nar .byte ((p3.toUInt32 >>> ((16 : Int32) &&& 31).toUInt32).toInt32).toInt8.toInt32) &&& (255 : Int32)) <<< ((16 : Int32) &&& 31))) ||| (((nar .byte ((p3.toUInt32 >>> ((8 : Int32) &&& 31).toUInt32).toInt32).toInt8.toInt32) &&& (255 : Int32)) <<< ((8 : Int32) &&& 31))) ||| ((nar .byte p3.toInt8.toInt32) &&& (255 : Int32))))] [(.int (1 : Int32))]))
    refine g_ifN (pc' := 289) C X69 at_286 (feq (show ¬ ((1 : Int32) = (0 : Int32)) from (by decide))).1 rfl ?_
    refine g_aload (pc' := 291) C X69 at_289 rfl rfl rfl ?_
    refine g_aload (pc' := 293) C X69 at_291 rfl rfl rfl ?_
    refine g_bipush (pc' := 295) (v := (6 : Int32)) C X69 at_293 rfl rfl ?_
    refine g_iload (pc' := 297) C X69 at_295 rfl rfl ?_
    refine g_callS (y := (⟨"com/example/caseloom/caseloom/store/ByteWriterSetIntPinLaw", "keep", "([B[BII)Z"⟩ : MethodName)) (argsL := [(.ref rb12), (.ref b1), (.int (6 : Int32)), (.int (4 : Int32))]) (st := []) (pc' := 300) C X69 at_297 (hw _ (List.mem_of_getElem? (i := 46) rfl)) (hw _ (List.mem_of_getElem? (i := 47) rfl)) (hw _ (List.mem_of_getElem? (i := 48) rfl)) (hw _ (List.mem_of_getElem? (i := 49) rfl)) (by decide) (rmk6 l Z a0 hw [] rb12 b1 (4 : Int32) kb12 k1 (nar .byte ((q1.toUInt64 >>> ((56 : Int32) &&& 0x3f).toInt64.toUInt64).toInt64).toInt32.toInt8.toInt32) (nar .byte ((q1.toUInt64 >>> ((48 : Int32) &&& 0x3f).toInt64.toUInt64).toInt64).toInt32.toInt8.toInt32) (nar .byte ((q1.toUInt64 >>> ((40 : Int32) &&& 0x3f).toInt64.toUInt64).toInt64).toInt32.toInt8.toInt32) (nar .byte ((q1.toUInt64 >>> ((32 : Int32) &&& 0x3f).toInt64.toUInt64).toInt64).toInt32.toInt8.toInt32) (nar .byte ((p3.toUInt32 >>> ((24 : Int32) &&& 31).toUInt32).toInt32).toInt8.toInt32) (nar .byte ((p3.toUInt32 >>> ((16 : Int32) &&& 31).toUInt32).toInt32).toInt8.toInt32) (nar .byte ((p3.toUInt32 >>> ((8 : Int32) &&& 31).toUInt32).toInt32).toInt8.toInt32) (nar .byte p3.toInt8.toInt32) (nar .byte ((q1.toUInt64 >>> ((56 : Int32) &&& 0x3f).toInt64.toUInt64).toInt64).toInt32.toInt8.toInt32) (nar .byte ((q1.toUInt64 >>> ((48 : Int32) &&& 0x3f).toInt64.toUInt64).toInt64).toInt32.toInt8.toInt32) (nar .byte ((q1.toUInt64 >>> ((40 : Int32) &&& 0x3f).toInt64.toUInt64).toInt64).toInt32.toInt8.toInt32) (nar .byte ((q1.toUInt64 >>> ((32 : Int32) &&& 0x3f).toInt64.toUInt64).toInt64).toInt32.toInt8.toInt32) (nar .byte ((q1.toUInt64 >>> ((24 : Int32) &&& 0x3f).toInt64.toUInt64).toInt64).toInt32.toInt8.toInt32) (nar .byte ((q1.toUInt64 >>> ((16 : Int32) &&& 0x3f).toInt64.toUInt64).toInt64).toInt32.toInt8.toInt32) (nar .byte ((q1.toUInt64 >>> ((8 : Int32) &&& 0x3f).toInt64.toUInt64).toInt64).toInt32.toInt8.toInt32) (nar .byte q1.toInt32.toInt8.toInt32) T61.heap n0 P61_0 V9_61) (W := 0) (by decide) (by decide) (ce := 4) (sl := 19) rfl rfl (by decide) (by decide) rfl e69 rfl pd_5 rfl (Nat.le_refl _) rfl (fun v70 T70 L70 X70 Q70 => ?_)
    obtain ⟨q70, Nq70, e70⟩ := Q70
    have N70 := Fr.app N69 Nq70
    rw [Fk6_l2 (4 : Int32) (nar .byte ((p3.toUInt32 >>> ((8 : Int32) &&& 31).toUInt32).toInt32).toInt8.toInt32) (nar .byte ((q1.toUInt64 >>> ((8 : Int32) &&& 0x3f).toInt64.toUInt64).toInt64).toInt32.toInt8.toInt32) (show ¬ ((6 : Int32) < (4 : Int32)) from (by decide)) (show (6 : Int32) < ((4 : Int32) + (4 : Int32)) from (by decide))] at q70
    subst q70
    show Go p.tables e below _ (T70.setTop (mkF m 300 #[.val (.long q1), .second, .val (.int p2), .val (.int p3), .val (.int (4 : Int32)), .val (.ref b1), .val (.ref b10), .val (.ref rb12), .val (.int ((((((nar .byte ((p3.toUInt32 >>> ((24 : Int32) &&& 31).toUInt32).toInt32).toInt8.toInt32) &&& (255 : Int32)) <<< ((24 : Int32) &&& 31)) ||| (((nar .byte ((p3.toUInt32 >>> ((16 : Int32) &&& 31).toUInt32).toInt32).toInt8.toInt32) &&& (255 : Int32)) <<< ((16 : Int32) &&& 31))) ||| (((nar .byte ((p3.toUInt32 >>> ((8 : Int32) &&& 31).toUInt32).toInt32).toInt8.toInt32) &&& (255 : Int32)) <<< ((8 : Int32) &&& 31))) ||| ((nar .byte p3.toInt8.toInt32) &&& (255 : Int32))))] [(.int (1 : Int32))]))
    refine g_ifN (pc' := 303) C X70 at_300 (feq (show ¬ ((1 : Int32) = (0 : Int32)) from (by decide))).1 rfl ?_
    refine g_aload (pc' := 305) C X70 at_303 rfl rfl rfl ?_
    refine g_aload (pc' := 307) C X70 at_305 rfl rfl rfl ?_
    refine g_bipush (pc' := 309) (v := (7 : Int32)) C X70 at_307 rfl rfl ?_
    refine g_iload (pc' := 311) C X70 at_309 rfl rfl ?_
    refine g_callS (y := (⟨"com/example/caseloom/caseloom/store/ByteWriterSetIntPinLaw", "keep", "([B[BII)Z"⟩ : MethodName)) (argsL := [(.ref rb12), (.ref b1), (.int (7 : Int32)), (.int (4 : Int32))]) (st := []) (pc' := 314) C X70 at_311 (hw _ (List.mem_of_getElem? (i := 46) rfl)) (hw _ (List.mem_of_getElem? (i := 47) rfl)) (hw _ (List.mem_of_getElem? (i := 48) rfl)) (hw _ (List.mem_of_getElem? (i := 49) rfl)) (by decide) (rmk7 l Z a0 hw [] rb12 b1 (4 : Int32) kb12 k1 (nar .byte ((q1.toUInt64 >>> ((56 : Int32) &&& 0x3f).toInt64.toUInt64).toInt64).toInt32.toInt8.toInt32) (nar .byte ((q1.toUInt64 >>> ((48 : Int32) &&& 0x3f).toInt64.toUInt64).toInt64).toInt32.toInt8.toInt32) (nar .byte ((q1.toUInt64 >>> ((40 : Int32) &&& 0x3f).toInt64.toUInt64).toInt64).toInt32.toInt8.toInt32) (nar .byte ((q1.toUInt64 >>> ((32 : Int32) &&& 0x3f).toInt64.toUInt64).toInt64).toInt32.toInt8.toInt32) (nar .byte ((p3.toUInt32 >>> ((24 : Int32) &&& 31).toUInt32).toInt32).toInt8.toInt32) (nar .byte ((p3.toUInt32 >>> ((16 : Int32) &&& 31).toUInt32).toInt32).toInt8.toInt32) (nar .byte ((p3.toUInt32 >>> ((8 : Int32) &&& 31).toUInt32).toInt32).toInt8.toInt32) (nar .byte p3.toInt8.toInt32) (nar .byte ((q1.toUInt64 >>> ((56 : Int32) &&& 0x3f).toInt64.toUInt64).toInt64).toInt32.toInt8.toInt32) (nar .byte ((q1.toUInt64 >>> ((48 : Int32) &&& 0x3f).toInt64.toUInt64).toInt64).toInt32.toInt8.toInt32) (nar .byte ((q1.toUInt64 >>> ((40 : Int32) &&& 0x3f).toInt64.toUInt64).toInt64).toInt32.toInt8.toInt32) (nar .byte ((q1.toUInt64 >>> ((32 : Int32) &&& 0x3f).toInt64.toUInt64).toInt64).toInt32.toInt8.toInt32) (nar .byte ((q1.toUInt64 >>> ((24 : Int32) &&& 0x3f).toInt64.toUInt64).toInt64).toInt32.toInt8.toInt32) (nar .byte ((q1.toUInt64 >>> ((16 : Int32) &&& 0x3f).toInt64.toUInt64).toInt64).toInt32.toInt8.toInt32) (nar .byte ((q1.toUInt64 >>> ((8 : Int32) &&& 0x3f).toInt64.toUInt64).toInt64).toInt32.toInt8.toInt32) (nar .byte q1.toInt32.toInt8.toInt32) T61.heap n0 P61_0 V9_61) (W := 0) (by decide) (by decide) (ce := 4) (sl := 19) rfl rfl (by decide) (by decide) rfl e70 rfl pd_5 rfl (Nat.le_refl _) rfl (fun v71 T71 L71 X71 Q71 => ?_)
    obtain ⟨q71, Nq71, e71⟩ := Q71
    have N71 := Fr.app N70 Nq71
    rw [Fk7_l2 (4 : Int32) (nar .byte p3.toInt8.toInt32) (nar .byte q1.toInt32.toInt8.toInt32) (show ¬ ((7 : Int32) < (4 : Int32)) from (by decide)) (show (7 : Int32) < ((4 : Int32) + (4 : Int32)) from (by decide))] at q71
    subst q71
    show Go p.tables e below _ (T71.setTop (mkF m 314 #[.val (.long q1), .second, .val (.int p2), .val (.int p3), .val (.int (4 : Int32)), .val (.ref b1), .val (.ref b10), .val (.ref rb12), .val (.int ((((((nar .byte ((p3.toUInt32 >>> ((24 : Int32) &&& 31).toUInt32).toInt32).toInt8.toInt32) &&& (255 : Int32)) <<< ((24 : Int32) &&& 31)) ||| (((nar .byte ((p3.toUInt32 >>> ((16 : Int32) &&& 31).toUInt32).toInt32).toInt8.toInt32) &&& (255 : Int32)) <<< ((16 : Int32) &&& 31))) ||| (((nar .byte ((p3.toUInt32 >>> ((8 : Int32) &&& 31).toUInt32).toInt32).toInt8.toInt32) &&& (255 : Int32)) <<< ((8 : Int32) &&& 31))) ||| ((nar .byte p3.toInt8.toInt32) &&& (255 : Int32))))] [(.int (1 : Int32))]))
    refine g_ifN (pc' := 317) C X71 at_314 (feq (show ¬ ((1 : Int32) = (0 : Int32)) from (by decide))).1 rfl ?_
    refine g_iconst (pc' := 318) (v := (1 : Int32)) C X71 at_317 rfl rfl ?_
    refine g_goto (pc' := 322) C X71 at_318 (by decide) (by decide) ?_
    exact g_retN C X71 (by simp) at_322 (by decide) (by decide) ⟨rfl, N71⟩
set_option maxRecDepth 65536 in
set_option maxHeartbeats 40000000 in
theorem comes_1 {Post : Tables → Env → Array Value → State → Outcome → State → Prop} (hpost : ∀ tb e args s v u, (limb_1_1.after args s (.returned v) u = true ∧ limb_1_2.after args s (.returned v) u = true ∧ True) → FrameEnd s (.returned v) u (Jvm.fieldLocs frame_1_writes args s ++ Jvm.arrayLocs frame_1_arrays args s ++ Jvm.staticLocs frame_1_statics s) 16 128 → Post tb e args s (.returned v) u) :
    ArmFor flags0 classFile x code maxLocals ret World_1 tables_1 room_1 Calls_1 rest_1 Pre_1 Post := by
  intro l hfl _ _ p e ha hc hk s m args below hf hA hF happ hP
  obtain ⟨hcalls, hrest, hpre⟩ := hP
  obtain ⟨-, -, -, hnamed, -, -, -, hat⟩ := (Spec.applies_iff hf).mp happ
  obtain ⟨hg, hnr⟩ := and_e (Cond.before_iff.mp (show (Jvm.Cond.and given_1 narrow_1).before args s = true from hpre))
  obtain ⟨gg1, gg2⟩ := and_e hg
  obtain ⟨gg3, gg4⟩ := and_e gg2
  obtain ⟨gg5, gg6⟩ := and_e gg4
  obtain ⟨w0, w1, w2, rfl⟩ : ∃ w0 w1 w2 : Value, args = #[w0, w1, w2] := by
    have hs : args.size = 3 := by simpa [Cond.value, given_1] using gg1
    obtain ⟨L⟩ := args
    match L, hs with
    | [w0, w1, w2], _ => exact ⟨w0, w1, w2, rfl⟩
  have hw := fun d (hd : d ∈ tables_1) => atoms_spec (ws := Jvm.Cond.code x code maxLocals ret :: tables_1) hat d (List.mem_cons_of_mem _ hd)
  have hfit : Fit s := fun {y c} hc i hi => by
    obtain ⟨ha, rfl⟩ := Array.getElem?_eq_some_iff.mp hc
    have q := List.all_eq_true.mp ((Array.all_eq_true_iff_forall_mem.mp hF) _ (Array.getElem_mem ha)) i (List.mem_range.mpr hi)
    simpa [Array.getElem?_eq_getElem hi] using q
  obtain ⟨i0, ei0⟩ := isL_v gg3
  obtain rfl : w0 = (.long i0) := Option.some.inj ei0
  obtain ⟨i1, ei1⟩ := is_v gg5
  obtain rfl : w1 = (.int i1) := Option.some.inj ei1
  obtain ⟨i2, ei2⟩ := is_v gg6
  obtain rfl : w2 = (.int i2) := Option.some.inj ei2
  obtain ⟨n, o, h1, h2, h3, _, L, rfl, ⟨hv, N⟩, hq⟩ := rm0 l s _ hw tables_1 i0 i1 i2 s.heap s.heap.size (Nat.le_refl _) p e ha hc hk s m _ below hf ((Spec.applies_iff_loose hf).mp happ).1 ⟨rfl, State.Warmed39.refl s, rfl⟩ trivial
  subst hv
  refine ⟨n, _, h1, h2, h3, hpost _ _ _ _ _ _ ⟨Cond.after_iff.mpr rfl, Cond.after_iff.mpr (eq_i res_at (Term.int_eval (1)) rfl), trivial⟩ ⟨hq.1, hq.2.1, (hq.2.2.sift fun y hy => Or.inr (N y hy)).mono (by decide) (by decide)⟩⟩
theorem main_1_1 : Claimed_1_1 := comes_1 fun _ _ _ _ _ _ h hF => ⟨h.1, hF⟩
theorem main_1_2 : Claimed_1_2 := comes_1 fun _ _ _ _ _ _ h hF => ⟨h.2.1, hF⟩
end Jvm.Pilot.@@N@@
namespace Jvm.Pilot.@@N@@
open Jvm Jvm.ClassFile Sem Op Lib Jvm.Free Jvm.Stand Jvm.Pilot.@@N@@.Jvm.D
/-! MADE BY PROGRAM (witnessworld.py) out of the Statement's table words and the real class files: 12 classes; the members and pool entries that the words name. The judged class is class 1, her method 1. -/
namespace start1
open Jvm.ClassFile
def u (s : String) : CpInfo := .utf8 (stringToUtf16 s)
/-- a pool by its gaps: so many unusable entries, then the entry; so many at the end -/
def gap : Nat → List CpInfo → List CpInfo
  | 0, r => r
  | n + 1, r => .unusable :: gap n r
def poolList (es : List (Nat × CpInfo)) (last : Nat) : List CpInfo := es.foldr (fun e r => gap e.1 (e.2 :: r)) (gap last [])
def pool (es : List (Nat × CpInfo)) (last : Nat) : Array CpInfo := ⟨poolList es last⟩
def fileOf (pool : Array CpInfo) (this : Nat) (attrs : Array Attribute := #[]) (ms : Array MethodInfo := #[]) (fl : Nat := 33) (sup : Nat := 0) (ifs : Array Nat := #[]) (fds : Array FieldInfo := #[]) : ClassFile where
  minorVersion := 0
  majorVersion := 65
  constantPool := pool
  accessFlags := fl
  thisClass := this
  superClass := sup
  interfaces := ifs
  fields := fds
  methods := ms
  attributes := attrs
def plain (name : String) (sup : Option ClassId) : Class where
  name := name
  kind := .ordinary
  loader := none
  accessFlags := 33
  super := sup
  interfaces := #[]
  cf := none
  fields := #[]
  methods := #[]
  instanceTypes := #[]
  staticTypes := #[]
  resolved := #[]
  callSites := []
  init := .initialized
  statics := none
  mirror := none

def pool0 : Array CpInfo := pool [(5, u "<init>"), (0, u "()V"), (1, .class_ 10), (1, u "java/lang/Object")] 113

def k0c0 : Code := { maxStack := 0, maxLocals := 1, code := object_method_1_code, exceptionTable := #[], attributes := #[] }
def k0m0 : Method := { name := "<init>", desc := "()V", sig := { parameters := [], returnType := none }, accessFlags := 1, code := some k0c0 }
/-- java/lang/Object -/
def k0 : Class := { plain "java/lang/Object" none with
  accessFlags := 33
  interfaces := #[]
  cf := some (fileOf pool0 8 #[] #[{ accessFlags := 1, nameIndex := 5, descriptorIndex := 6, attributes := #[] }] 33 0 #[] #[])
  fields := #[]
  methods := #[k0m0]
  instanceTypes := #[]
  staticTypes := #[]
  resolved := Array.replicate 124 none
  statics := none }

def pool1 : Array CpInfo := pool [(2, .class_ 4), (1, u "java/lang/Object"), (0, u "<init>"), (0, u "()V"), (0, .integer 2147483647), (0, .class_ 9), (0, u "com/example/caseloom/caseloom/store/ByteWriter"), (0, .methodref 8 11), (0, .nameAndType 5 12), (0, u "(I)V"), (0, .methodref 8 14), (0, .nameAndType 15 16), (0, u "put"), (0, u "([B)Lcom/example/caseloom/caseloom/store/ByteWriter;"), (0, .methodref 8 18), (0, .nameAndType 19 20), (0, u "setInt"), (0, u "(II)V"), (0, .methodref 8 22), (0, .nameAndType 23 24), (0, u "array"), (0, u "()[B"), (0, .methodref 8 26), (0, .nameAndType 27 28), (0, u "length"), (0, u "()I"), (0, .methodref 30 31), (0, .class_ 32), (0, .nameAndType 33 34), (0, u "com/example/caseloom/caseloom/store/ByteWriterSetIntPinLaw"), (0, u "keep"), (0, u "([B[BII)Z"), (2, u "law"), (0, u "(JII)Z")] 5

def k1m0 : Method := { name := "<init>", desc := "()V", sig := { parameters := [], returnType := none }, accessFlags := 1, code := none }
def k1c1 : Code := { maxStack := 5, maxLocals := 9, code := code, exceptionTable := #[], attributes := #[] }
def k1m1 : Method := { name := "law", desc := "(JII)Z", sig := { parameters := [.long, .int, .int], returnType := some .boolean }, accessFlags := 9, code := some k1c1 }
def k1c2 : Code := { maxStack := 3, maxLocals := 4, code := method_3_code, exceptionTable := #[], attributes := #[] }
def k1m2 : Method := { name := "keep", desc := "([B[BII)Z", sig := { parameters := [(.array .byte), (.array .byte), .int, .int], returnType := some .boolean }, accessFlags := 10, code := some k1c2 }
/-- com/example/caseloom/caseloom/store/ByteWriterSetIntPinLaw -/
def k1 : Class := { plain "com/example/caseloom/caseloom/store/ByteWriterSetIntPinLaw" (some 0) with
  accessFlags := 49
  interfaces := #[]
  cf := some (fileOf pool1 30 #[] #[{ accessFlags := 1, nameIndex := 5, descriptorIndex := 6, attributes := #[] }, { accessFlags := 9, nameIndex := 37, descriptorIndex := 38, attributes := #[] }, { accessFlags := 10, nameIndex := 33, descriptorIndex := 34, attributes := #[] }] 49 2 #[] #[])
  fields := #[]
  methods := #[k1m0, k1m1, k1m2]
  instanceTypes := #[]
  staticTypes := #[]
  resolved := Array.replicate 44 none
  statics := none }

def pool2 : Array CpInfo := pool [(1, .methodref 2 3), (0, .class_ 4), (0, .nameAndType 5 6), (0, u "java/lang/Object"), (0, u "<init>"), (0, u "()V"), (0, .fieldref 8 9), (0, .class_ 10), (0, .nameAndType 11 12), (0, u "com/example/caseloom/caseloom/store/ByteWriter"), (0, u "chars"), (0, u "[C"), (0, .fieldref 8 14), (0, .nameAndType 15 16), (0, u "bytes"), (0, u "[B"), (0, .methodref 8 18), (0, .nameAndType 19 20), (0, u "room"), (0, u "(I)V"), (0, .fieldref 8 22), (0, .nameAndType 23 24), (0, u "length"), (0, u "I"), (0, .methodref 26 27), (0, .class_ 28), (0, .nameAndType 29 30), (0, u "java/lang/System"), (0, u "arraycopy"), (0, u "(Ljava/lang/Object;ILjava/lang/Object;II)V"), (4, u "setInt"), (0, u "(II)V"), (8, u "()I"), (20, u "put"), (1, u "([B)Lcom/example/caseloom/caseloom/store/ByteWriter;"), (8, u "array"), (0, u "()[B")] 2

def k2c0 : Code := { maxStack := 2, maxLocals := 2, code := prog_45_method_1_code, exceptionTable := #[], attributes := #[] }
def k2m0 : Method := { name := "<init>", desc := "(I)V", sig := { parameters := [.int], returnType := none }, accessFlags := 0, code := some k2c0 }
def k2c1 : Code := { maxStack := 5, maxLocals := 2, code := prog_45_method_3_code, exceptionTable := #[], attributes := #[] }
def k2m1 : Method := { name := "put", desc := "([B)Lcom/example/caseloom/caseloom/store/ByteWriter;", sig := { parameters := [(.array .byte)], returnType := some (.object "com/example/caseloom/caseloom/store/ByteWriter") }, accessFlags := 0, code := some k2c1 }
def k2c2 : Code := { maxStack := 4, maxLocals := 3, code := prog_45_method_7_code, exceptionTable := #[], attributes := #[] }
def k2m2 : Method := { name := "setInt", desc := "(II)V", sig := { parameters := [.int, .int], returnType := none }, accessFlags := 0, code := some k2c2 }
def k2c3 : Code := { maxStack := 1, maxLocals := 1, code := prog_45_method_8_code, exceptionTable := #[], attributes := #[] }
def k2m3 : Method := { name := "length", desc := "()I", sig := { parameters := [], returnType := some .int }, accessFlags := 0, code := some k2c3 }
def k2c4 : Code := { maxStack := 1, maxLocals := 1, code := prog_45_method_10_code, exceptionTable := #[], attributes := #[] }
def k2m4 : Method := { name := "array", desc := "()[B", sig := { parameters := [], returnType := some (.array .byte) }, accessFlags := 0, code := some k2c4 }
def k2c5 : Code := { maxStack := 5, maxLocals := 2, code := prog_45_method_12_code, exceptionTable := #[], attributes := #[] }
def k2m5 : Method := { name := "room", desc := "(I)V", sig := { parameters := [.int], returnType := none }, accessFlags := 2, code := some k2c5 }
/-- com/example/caseloom/caseloom/store/ByteWriter -/
def k2 : Class := { plain "com/example/caseloom/caseloom/store/ByteWriter" (some 0) with
  accessFlags := 32
  interfaces := #[]
  cf := some (fileOf pool2 8 #[] #[{ accessFlags := 0, nameIndex := 5, descriptorIndex := 20, attributes := #[] }, { accessFlags := 0, nameIndex := 66, descriptorIndex := 68, attributes := #[] }, { accessFlags := 0, nameIndex := 35, descriptorIndex := 36, attributes := #[] }, { accessFlags := 0, nameIndex := 23, descriptorIndex := 45, attributes := #[] }, { accessFlags := 0, nameIndex := 77, descriptorIndex := 78, attributes := #[] }, { accessFlags := 2, nameIndex := 19, descriptorIndex := 20, attributes := #[] }] 32 2 #[] #[{ accessFlags := 2, nameIndex := 15, descriptorIndex := 16, attributes := #[] }, { accessFlags := 2, nameIndex := 23, descriptorIndex := 24, attributes := #[] }, { accessFlags := 2, nameIndex := 11, descriptorIndex := 12, attributes := #[] }])
  fields := #[{ name := "bytes", type := (.array .byte), accessFlags := 2, slot := 0, constantValue := 0 }, { name := "length", type := .int, accessFlags := 2, slot := 1, constantValue := 0 }, { name := "chars", type := (.array .char), accessFlags := 2, slot := 2, constantValue := 0 }]
  methods := #[k2m0, k2m1, k2m2, k2m3, k2m4, k2m5]
  instanceTypes := #[(.array .byte), .int, (.array .char)]
  staticTypes := #[]
  resolved := Array.replicate 81 none
  statics := none }

def pool3 : Array CpInfo := pool [(2, .class_ 4), (1, u "java/lang/Object"), (0, u "<init>"), (0, u "()V"), (1, .class_ 10), (1, u "java/lang/System"), (0, u "allowSecurityManager"), (0, u "I"), (16, u "cons"), (0, u "Ljava/io/Console;"), (77, .class_ 110), (1, u "java/lang/System$CallersHolder"), (43, u "initialErrStream"), (0, u "Ljava/io/PrintStream;"), (19, u "security"), (0, u "Ljava/lang/SecurityManager;"), (31, .class_ 209), (0, u "java/lang/System$1"), (7, u "props"), (0, u "Ljava/util/Properties;"), (2, u "lineSeparator"), (0, u "Ljava/lang/String;"), (96, .class_ 321), (1, u "java/lang/System$LoggerFinder"), (5, .class_ 328), (0, u "java/lang/System$Logger"), (67, u "err"), (2, u "out"), (91, u "notSupportedJnuEncoding"), (15, u "in"), (17, u "initialIn"), (0, u "Ljava/io/InputStream;"), (35, u "bootLayer"), (0, u "Ljava/lang/ModuleLayer;"), (99, .class_ 664), (0, u "java/lang/System$2"), (9, u "NEVER"), (2, u "MAYBE"), (49, u "arraycopy"), (0, u "(Ljava/lang/Object;ILjava/lang/Object;II)V"), (72, .class_ 802), (0, u "java/lang/System$Logger$Level")] 31

def k3m0 : Method := { name := "<init>", desc := "()V", sig := { parameters := [], returnType := none }, accessFlags := 2, code := none }
def k3m1 : Method := { name := "arraycopy", desc := "(Ljava/lang/Object;ILjava/lang/Object;II)V", sig := { parameters := [(.object "java/lang/Object"), .int, (.object "java/lang/Object"), .int, .int], returnType := none }, accessFlags := 265, code := none }
/-- java/lang/System -/
def k3 : Class := { plain "java/lang/System" (some 0) with
  accessFlags := 49
  interfaces := #[]
  cf := some (fileOf pool3 8 #[.nestMembers #[319, 327, 801, 108, 663, 208]] #[{ accessFlags := 2, nameIndex := 5, descriptorIndex := 6, attributes := #[] }, { accessFlags := 265, nameIndex := 727, descriptorIndex := 728, attributes := #[] }] 49 2 #[] #[{ accessFlags := 25, nameIndex := 507, descriptorIndex := 526, attributes := #[] }, { accessFlags := 25, nameIndex := 399, descriptorIndex := 155, attributes := #[] }, { accessFlags := 25, nameIndex := 396, descriptorIndex := 155, attributes := #[] }, { accessFlags := 10, nameIndex := 525, descriptorIndex := 526, attributes := #[] }, { accessFlags := 26, nameIndex := 674, descriptorIndex := 12, attributes := #[] }, { accessFlags := 26, nameIndex := 677, descriptorIndex := 12, attributes := #[] }, { accessFlags := 10, nameIndex := 11, descriptorIndex := 12, attributes := #[] }, { accessFlags := 74, nameIndex := 175, descriptorIndex := 176, attributes := #[] }, { accessFlags := 10, nameIndex := 491, descriptorIndex := 222, attributes := #[] }, { accessFlags := 74, nameIndex := 29, descriptorIndex := 30, attributes := #[] }, { accessFlags := 74, nameIndex := 154, descriptorIndex := 155, attributes := #[] }, { accessFlags := 10, nameIndex := 217, descriptorIndex := 218, attributes := #[] }, { accessFlags := 10, nameIndex := 221, descriptorIndex := 222, attributes := #[] }, { accessFlags := 8, nameIndex := 562, descriptorIndex := 563, attributes := #[] }])
  fields := #[{ name := "in", type := (.object "java/io/InputStream"), accessFlags := 25, slot := 0, constantValue := 0 }, { name := "out", type := (.object "java/io/PrintStream"), accessFlags := 25, slot := 1, constantValue := 0 }, { name := "err", type := (.object "java/io/PrintStream"), accessFlags := 25, slot := 2, constantValue := 0 }, { name := "initialIn", type := (.object "java/io/InputStream"), accessFlags := 10, slot := 3, constantValue := 0 }, { name := "NEVER", type := .int, accessFlags := 26, slot := 4, constantValue := 0 }, { name := "MAYBE", type := .int, accessFlags := 26, slot := 5, constantValue := 0 }, { name := "allowSecurityManager", type := .int, accessFlags := 10, slot := 6, constantValue := 0 }, { name := "security", type := (.object "java/lang/SecurityManager"), accessFlags := 74, slot := 7, constantValue := 0 }, { name := "notSupportedJnuEncoding", type := (.object "java/lang/String"), accessFlags := 10, slot := 8, constantValue := 0 }, { name := "cons", type := (.object "java/io/Console"), accessFlags := 74, slot := 9, constantValue := 0 }, { name := "initialErrStream", type := (.object "java/io/PrintStream"), accessFlags := 74, slot := 10, constantValue := 0 }, { name := "props", type := (.object "java/util/Properties"), accessFlags := 10, slot := 11, constantValue := 0 }, { name := "lineSeparator", type := (.object "java/lang/String"), accessFlags := 10, slot := 12, constantValue := 0 }, { name := "bootLayer", type := (.object "java/lang/ModuleLayer"), accessFlags := 8, slot := 13, constantValue := 0 }]
  methods := #[k3m0, k3m1]
  instanceTypes := #[]
  staticTypes := #[(.object "java/io/InputStream"), (.object "java/io/PrintStream"), (.object "java/io/PrintStream"), (.object "java/io/InputStream"), .int, .int, .int, (.object "java/lang/SecurityManager"), (.object "java/lang/String"), (.object "java/io/Console"), (.object "java/io/PrintStream"), (.object "java/util/Properties"), (.object "java/lang/String"), (.object "java/lang/ModuleLayer")]
  resolved := Array.replicate 834 none
  statics := none }

def pool4 : Array CpInfo := pool [(1, u "java/lang/Cloneable"), (0, .class_ 1), (0, u "java/lang/Object"), (0, .class_ 3)] 3

/-- java/lang/Cloneable -/
def k4 : Class := { plain "java/lang/Cloneable" (some 0) with
  accessFlags := 1537
  interfaces := #[]
  cf := some (fileOf pool4 2 #[] #[] 1537 4 #[] #[])
  fields := #[]
  methods := #[]
  instanceTypes := #[]
  staticTypes := #[]
  resolved := Array.replicate 8 none
  statics := none }

def pool5 : Array CpInfo := pool [(1, u "java/io/Serializable"), (0, .class_ 1), (0, u "java/lang/Object"), (0, .class_ 3)] 3

/-- java/io/Serializable -/
def k5 : Class := { plain "java/io/Serializable" (some 0) with
  accessFlags := 1537
  interfaces := #[]
  cf := some (fileOf pool5 2 #[] #[] 1537 4 #[] #[])
  fields := #[]
  methods := #[]
  instanceTypes := #[]
  staticTypes := #[]
  resolved := Array.replicate 8 none
  statics := none }

/-- the primitive byte -/
def k6 : Class := { plain "byte" none with kind := .primitive 'B', accessFlags := 0x411 }
/-- [B -/
def k7 : Class := { plain "[B" (some 0) with kind := .array 6 .byte, interfaces := #[4, 5], accessFlags := 1041 }

/-- the primitive char -/
def k8 : Class := { plain "char" none with kind := .primitive 'C', accessFlags := 0x411 }
/-- [C -/
def k9 : Class := { plain "[C" (some 0) with kind := .array 8 .char, interfaces := #[4, 5], accessFlags := 1041 }

/-- the primitive int -/
def k10 : Class := { plain "int" none with kind := .primitive 'I', accessFlags := 0x411 }
/-- [I -/
def k11 : Class := { plain "[I" (some 0) with kind := .array 10 .int, interfaces := #[4, 5], accessFlags := 1041 }

def heap : Heap := #[]
def classes : Array Class := #[k0, k1, k2, k3, k4, k5, k6, k7, k8, k9, k10, k11]
def interned : List (Array UInt16 × Addr) := []
def slotsUsed : Nat := 0
def theMethod : MethodId := ⟨1, 1⟩
def args0 : Array Value := #[.long 5, .int 5, .int 7]
def aboutOver (below : List Frame) : State where
  vm := { classes := classes, interned := interned.toArray }
  heap := heap
  slotsUsed := slotsUsed
  threads := #[{ frames := .invoking theMethod args0 :: below }]
def below0 : List Frame := [.native { method := ⟨0, 0⟩, args := #[] }]
def about1 : State := aboutOver below0
def p0 : Program := .bare "" "" ""
def e0 : Env := launch0.env 0 0 0
theorem w_frames : about1.frames = Frame.invoking theMethod args0 :: below0 := rfl
set_option maxRecDepth 65536 in
theorem w_args : argsFit about1.vm theMethod args0 = true := by decide +kernel
set_option maxRecDepth 65536 in
theorem w_heap : heapFits about1 = true := by decide +kernel
set_option maxRecDepth 65536 in
theorem w_runnable : about1.curStatus? = some .runnable := by decide +kernel
set_option maxRecDepth 65536 in
theorem w_alone : about1.alone = true := by decide +kernel
set_option maxRecDepth 65536 in
theorem w_named : about1.methodNamed? x = some theMethod := by decide +kernel
set_option maxRecDepth 65536 in
theorem w_hears : about1.hears theMethod below0 = true := by decide +kernel
set_option maxRecDepth 65536 in
theorem w_ripe : about1.ripe theMethod args0 below0 = true := by decide +kernel
theorem w_running : about1.status = .running := rfl
set_option maxRecDepth 65536 in
theorem w_room : about1.hasRoom e0.platform room_1 = true :=
  launch0.hasRoom_least _ room_1 (by decide +kernel) (by decide +kernel) (by decide +kernel) (by decide +kernel) (by decide +kernel) (by decide +kernel)
theorem allAtoms_all (ts : List Jvm.Cond) (a : Array Jvm.Value) (st : Jvm.State) : (allAtoms ts).before a st = ts.all (fun c => c.before a st) := by
  induction ts with
  | nil => rfl
  | cons c t ih =>
    show (Jvm.Cond.and c (allAtoms t)).before a st = _
    rw [Jvm.Cond.before_and, ih, List.all_cons]
def words1 : List Jvm.Cond := Jvm.Cond.code x code maxLocals ret :: tables_1
/-- a 'code' word, met by the world's own term for the bytes: nothing is compared byte by byte -/
theorem code_word {y : MethodName} {bytes : ByteArray} {mx : Nat} {rt : Option FieldType} {a : Array Value} {s : State} {m : MethodId} {meth : Method} {c : Code} (h1 : s.methodNamed? y = some m) (h2 : s.vm.method? m = some meth) (h3 : meth.code = some c) (h4 : c.code = bytes)
    (h5 : (c.maxLocals == mx && c.exceptionTable.isEmpty && decide (c.maxStack ≤ mostOperands) && decide (meth.sig.returnType = rt) && !meth.locks && decide (parseMethodDescriptor y.desc = some meth.sig)) = true) : (Jvm.Cond.code y bytes mx rt).before a s = true := by
  simp only [Bool.and_eq_true, beq_iff_eq, Bool.not_eq_true', decide_eq_true_eq] at h5
  obtain ⟨⟨⟨⟨⟨g1, g2⟩, g3⟩, g4⟩, g5⟩, g6⟩ := h5
  simp [Cond.before, Cond.holds, Cond.value, h1, h2, h3, h4, g1, g2, g3, g4, g5, g6]
def isCode : Jvm.Cond → Bool
  | .code _ _ _ _ => true
  | _ => false
theorem all_split {L : List Jvm.Cond} {P : Jvm.Cond → Bool} (h1 : L.all (fun c => isCode c || P c) = true) (h2 : ∀ c ∈ L.filter isCode, P c = true) : L.all P = true := by
  refine List.all_eq_true.mpr fun c hc => ?_
  have h := List.all_eq_true.mp h1 c hc
  rcases Bool.eq_false_or_eq_true (isCode c) with hi | hi
  · exact h2 c (List.mem_filter.mpr ⟨hc, hi⟩)
  · simpa [hi] using h
set_option maxRecDepth 65536 in
theorem w_c0 : (Jvm.Cond.code x code maxLocals ret).before args0 about1 = true := code_word (m := ⟨1, 1⟩) (meth := k1m1) (c := k1c1) (by decide +kernel) rfl rfl rfl (by decide +kernel)
set_option maxRecDepth 65536 in
theorem w_c1 : (Jvm.Cond.code ({ cls := "com/example/caseloom/caseloom/store/ByteWriter", name := "<init>", desc := "(I)V" } : Jvm.MethodName) prog_45_method_1_code (2 : Nat) (Option.none : Option Jvm.ClassFile.FieldType)).before args0 about1 = true := code_word (m := ⟨2, 0⟩) (meth := k2m0) (c := k2c0) (by decide +kernel) rfl rfl rfl (by decide +kernel)
set_option maxRecDepth 65536 in
theorem w_c2 : (Jvm.Cond.code ({ cls := "java/lang/Object", name := "<init>", desc := "()V" } : Jvm.MethodName) object_method_1_code (1 : Nat) (Option.none : Option Jvm.ClassFile.FieldType)).before args0 about1 = true := code_word (m := ⟨0, 0⟩) (meth := k0m0) (c := k0c0) (by decide +kernel) rfl rfl rfl (by decide +kernel)
set_option maxRecDepth 65536 in
theorem w_c3 : (Jvm.Cond.code ({ cls := "com/example/caseloom/caseloom/store/ByteWriter", name := "put", desc := "([B)Lcom/example/caseloom/caseloom/store/ByteWriter;" } : Jvm.MethodName) prog_45_method_3_code (2 : Nat) (Option.some (Jvm.ClassFile.FieldType.object "com/example/caseloom/caseloom/store/ByteWriter"))).before args0 about1 = true := code_word (m := ⟨2, 1⟩) (meth := k2m1) (c := k2c1) (by decide +kernel) rfl rfl rfl (by decide +kernel)
set_option maxRecDepth 65536 in
theorem w_c4 : (Jvm.Cond.code ({ cls := "com/example/caseloom/caseloom/store/ByteWriter", name := "room", desc := "(I)V" } : Jvm.MethodName) prog_45_method_12_code (2 : Nat) (Option.none : Option Jvm.ClassFile.FieldType)).before args0 about1 = true := code_word (m := ⟨2, 5⟩) (meth := k2m5) (c := k2c5) (by decide +kernel) rfl rfl rfl (by decide +kernel)
set_option maxRecDepth 65536 in
theorem w_c5 : (Jvm.Cond.code ({ cls := "com/example/caseloom/caseloom/store/ByteWriter", name := "setInt", desc := "(II)V" } : Jvm.MethodName) prog_45_method_7_code (3 : Nat) (Option.none : Option Jvm.ClassFile.FieldType)).before args0 about1 = true := code_word (m := ⟨2, 2⟩) (meth := k2m2) (c := k2c2) (by decide +kernel) rfl rfl rfl (by decide +kernel)
set_option maxRecDepth 65536 in
theorem w_c6 : (Jvm.Cond.code ({ cls := "com/example/caseloom/caseloom/store/ByteWriter", name := "array", desc := "()[B" } : Jvm.MethodName) prog_45_method_10_code (1 : Nat) (Option.some (Jvm.ClassFile.FieldType.array Jvm.ClassFile.FieldType.byte))).before args0 about1 = true := code_word (m := ⟨2, 4⟩) (meth := k2m4) (c := k2c4) (by decide +kernel) rfl rfl rfl (by decide +kernel)
set_option maxRecDepth 65536 in
theorem w_c7 : (Jvm.Cond.code ({ cls := "com/example/caseloom/caseloom/store/ByteWriter", name := "length", desc := "()I" } : Jvm.MethodName) prog_45_method_8_code (1 : Nat) (Option.some Jvm.ClassFile.FieldType.int)).before args0 about1 = true := code_word (m := ⟨2, 3⟩) (meth := k2m3) (c := k2c3) (by decide +kernel) rfl rfl rfl (by decide +kernel)
set_option maxRecDepth 65536 in
theorem w_c8 : (Jvm.Cond.code ({ cls := "com/example/caseloom/caseloom/store/ByteWriterSetIntPinLaw", name := "keep", desc := "([B[BII)Z" } : Jvm.MethodName) method_3_code (4 : Nat) (Option.some Jvm.ClassFile.FieldType.boolean)).before args0 about1 = true := code_word (m := ⟨1, 2⟩) (meth := k1m2) (c := k1c2) (by decide +kernel) rfl rfl rfl (by decide +kernel)
def codes1 : List Jvm.Cond := [Jvm.Cond.code x code maxLocals ret, Jvm.Cond.code ({ cls := "com/example/caseloom/caseloom/store/ByteWriter", name := "<init>", desc := "(I)V" } : Jvm.MethodName) prog_45_method_1_code (2 : Nat) (Option.none : Option Jvm.ClassFile.FieldType), Jvm.Cond.code ({ cls := "java/lang/Object", name := "<init>", desc := "()V" } : Jvm.MethodName) object_method_1_code (1 : Nat) (Option.none : Option Jvm.ClassFile.FieldType), Jvm.Cond.code ({ cls := "com/example/caseloom/caseloom/store/ByteWriter", name := "put", desc := "([B)Lcom/example/caseloom/caseloom/store/ByteWriter;" } : Jvm.MethodName) prog_45_method_3_code (2 : Nat) (Option.some (Jvm.ClassFile.FieldType.object "com/example/caseloom/caseloom/store/ByteWriter")), Jvm.Cond.code ({ cls := "com/example/caseloom/caseloom/store/ByteWriter", name := "room", desc := "(I)V" } : Jvm.MethodName) prog_45_method_12_code (2 : Nat) (Option.none : Option Jvm.ClassFile.FieldType), Jvm.Cond.code ({ cls := "com/example/caseloom/caseloom/store/ByteWriter", name := "setInt", desc := "(II)V" } : Jvm.MethodName) prog_45_method_7_code (3 : Nat) (Option.none : Option Jvm.ClassFile.FieldType), Jvm.Cond.code ({ cls := "com/example/caseloom/caseloom/store/ByteWriter", name := "array", desc := "()[B" } : Jvm.MethodName) prog_45_method_10_code (1 : Nat) (Option.some (Jvm.ClassFile.FieldType.array Jvm.ClassFile.FieldType.byte)), Jvm.Cond.code ({ cls := "com/example/caseloom/caseloom/store/ByteWriter", name := "length", desc := "()I" } : Jvm.MethodName) prog_45_method_8_code (1 : Nat) (Option.some Jvm.ClassFile.FieldType.int), Jvm.Cond.code ({ cls := "com/example/caseloom/caseloom/store/ByteWriterSetIntPinLaw", name := "keep", desc := "([B[BII)Z" } : Jvm.MethodName) method_3_code (4 : Nat) (Option.some Jvm.ClassFile.FieldType.boolean)]
set_option maxRecDepth 65536 in
theorem codes_eq : words1.filter isCode = codes1 := rfl
theorem w_codes : ∀ c ∈ words1.filter isCode, c.before args0 about1 = true := by
  rw [codes_eq]
  intro c hc
  simp only [codes1, List.mem_cons, List.not_mem_nil, or_false] at hc
  rcases hc with rfl | rfl | rfl | rfl | rfl | rfl | rfl | rfl | rfl
  · exact w_c0
  · exact w_c1
  · exact w_c2
  · exact w_c3
  · exact w_c4
  · exact w_c5
  · exact w_c6
  · exact w_c7
  · exact w_c8
set_option maxRecDepth 65536 in
theorem w_t1 : (words1.take 24).all (fun c => isCode c || c.before args0 about1) = true := by decide +kernel
set_option maxRecDepth 65536 in
theorem w_t2 : ((words1.drop 24).take 24).all (fun c => isCode c || c.before args0 about1) = true := by decide +kernel
set_option maxRecDepth 65536 in
theorem w_t3 : ((words1.drop 24).drop 24).all (fun c => isCode c || c.before args0 about1) = true := by decide +kernel
theorem w_tables : (allAtoms (Jvm.Cond.code x code maxLocals ret :: tables_1)).before args0 about1 = true := by
  rw [allAtoms_all]
  show words1.all (fun c => c.before args0 about1) = true
  refine all_split ?_ w_codes
  rw [← List.take_append_drop 24 words1, List.all_append, w_t1, ← List.take_append_drop 24 (words1.drop 24), List.all_append, w_t2, w_t3]
  rfl
set_option maxRecDepth 65536 in
theorem w_case : (Jvm.Cond.and given_1 narrow_1).before args0 about1 = true := by decide +kernel
theorem w_applies : (headSpec (Jvm.Cond.code x code maxLocals ret :: tables_1) room_1).applies x e0.platform about1 = true :=
  (Spec.applies_iff w_frames).mpr ⟨w_running, w_runnable, w_alone, w_named, w_hears, w_ripe, w_room, w_tables⟩
theorem atStart : AtStart classFile x code maxLocals ret World_1 tables_1 room_1 Calls_1 rest_1 Pre_1 launch0 p0 e0 about1 theMethod args0 below0 :=
  ⟨lists_1, trivial, launch0.admits_env _ _ _, launch0.least_env, fairChoices_fair.cas, fairChoices_fair.clock, w_frames, w_args, w_heap, w_applies, trivial, trivial, w_case⟩
end start1
theorem witness_1 : WitnessClaimed_1 := ⟨start1.p0, start1.e0, start1.about1, start1.theMethod, start1.args0, start1.below0, start1.atStart⟩
end Jvm.Pilot.@@N@@
