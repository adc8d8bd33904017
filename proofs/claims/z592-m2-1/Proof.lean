import JvmDerived
import JvmDerived.Pilot.@@N@@Statement
import JvmDerived.Pilot.@@N@@Code
set_option linter.unusedVariables false
set_option linter.unusedSimpArgs false
namespace Jvm.Pilot.@@N@@
open Jvm Jvm.ClassFile Sem Op Lib Jvm.Free Jvm.Stand Jvm.LawKit Jvm.RoadKit Bundle Jvm.Pilot.@@N@@.Jvm.D
section OwnKit
variable {p : Program} {l : Launch} {e : Env} {R : Room} {s : State} {m : MethodId} {args : Array Value} {below : List Frame} {meth : Method} {c : Code} {T : State} {locs : List Loc} {cells slots : Nat} {Z : State} {a0 : Array Value} {h : Heap} {bs : ByteArray} {own mnm : String} {mx : Nat} {rt : Option FieldType} {G : Outcome → State → Prop} {pc pc' : Nat} {Ls Ls' : Array Slot} {st : List Value}
/-- from T the run comes to an end of which G holds -/
def Go (tb : Tables) (e : Env) (below : List Frame) (G : Outcome → State → Prop) (T : State) : Prop := ∃ s₂ o, Steps tb e below T s₂ ∧ s₂.status = .running ∧ Ended s₂ below o ∧ G o s₂
theorem Go.step {tb : Tables} {T T' : State} (g : Go tb e below G T') (h : ∀ t, Steps tb e below T' t → Steps tb e below T t) : Go tb e below G T := by
  obtain ⟨s₂, o, h1, h2⟩ := g
  exact ⟨s₂, o, h _ h1, h2⟩
/-- what a walk knows of its own body -/
def Cx (p : Program) (s : State) (m : MethodId) (meth : Method) (c : Code) (bs : ByteArray) (mx : Nat) (own mnm : String) (rt : Option FieldType) (Z : State) : Prop :=
  p.tables.exec = Jvm.exec ∧ c.code = bs ∧ c.maxLocals = mx ∧ s.vm.findClass own = some m.cls ∧ meth.name = mnm ∧ meth.sig.returnType = rt ∧ meth.locks = false ∧ Z.Warmed39 s.vm
theorem Cx.hown (C : Cx p s m meth c bs mx own mnm rt Z) : s.vm.findClass own = some m.cls := C.2.2.2.1
theorem Cx.nm (C : Cx p s m meth c bs mx own mnm rt Z) : meth.name = mnm := C.2.2.2.2.1
theorem Cx.ret (C : Cx p s m meth c bs mx own mnm rt Z) : meth.sig.returnType = rt := C.2.2.2.2.2.1
theorem Cx.locks (C : Cx p s m meth c bs mx own mnm rt Z) : meth.locks = false := C.2.2.2.2.2.2.1
theorem Cx.hZ (C : Cx p s m meth c bs mx own mnm rt Z) : Z.Warmed39 s.vm := C.2.2.2.2.2.2.2
/-- the end: returned, Q of the value, the heap and the places written; the frame -/
def End (s : State) (Q : Option Value → Heap → List Loc → Prop) (ce sl : Nat) (o : Outcome) (U' : State) : Prop := ∃ v L, o = .returned v ∧ Q v U'.heap L ∧ FrameEnd s o U' L ce sl
theorem met_of {y : MethodName} {ws : List Jvm.Cond} {rm : Room} {as' : Array Value} {Q : Option Value → Heap → List Loc → Prop} {ce sl : Nat} (hpn : plainFor y = true) (hef : ∀ m, entryFrame m as' mx = mkF m 0 Ls [])
    (hbody : ∀ (p : Program) (e : Env) (s : State) (m : MethodId) (below : List Frame) (meth : Method) (c : Code) (T : State), Cx p s m meth c bs mx y.cls y.name rt Z → Stand p l e rm s m as' below meth c T [] 0 0 → T.heap = h → Go p.tables e below (End s Q ce sl) (T.setTop (mkF m 0 Ls []))) :
    MetFree l y (head1 (Jvm.Cond.code y bs mx rt :: ws) rm) (fun a U => a = as' ∧ Z.Warmed39 U.vm ∧ U.heap = h) (fun _ _ _ _ _ => True) (fun _ U o U' => ∃ v L, o = .returned v ∧ Q v U'.heap L ∧ FrameEnd U o U' L ce sl) := by
  refine MetFree.of_bodySF hpn hisR ?_
  intro p e s m args below meth c s₁ Bd hml0 hP hK
  obtain ⟨rfl, hZ, hh⟩ := hP
  have X0 : Stand p l e rm s m _ below meth c s₁ [] 0 0 := Stand.of_body Bd
  have e0 : s₁.heap = h := by rw [← hh, Bd.state]; rfl
  obtain ⟨s₂, o, h1, h2, h3, h4⟩ := hbody p e s m below meth c s₁ ⟨Bd.exec, Bd.bytes, hml0, findClass_of_methodNamed Bd.named, (name_of_methodNamed Bd.named Bd.method).1, Bd.returns, Bd.notSynchronized, hZ⟩ X0 e0
  exact ⟨s₂, o, castTop (hef m) h1, h2, h3, h4⟩

theorem g_iloadN (C : Cx p s m meth c bs mx own mnm rt Z) (X : Stand p l e R s m args below meth c T locs cells slots) {k : Fin 4} {v : Int32} (hd : decode bs pc = .ok (.iload_n k, 1)) (hl : Ls[k.val]? = some (.val (.int v))) (hn : pc + 1 = pc')
    (hr : Go p.tables e below G (T.setTop (mkF m pc' Ls (.int v :: st)))) : Go p.tables e below G (T.setTop (mkF m pc Ls st)) := by
  subst hn; exact hr.step fun t k => XS.iloadN X.here C.1 rfl (hb C.2.1 hd) hl k
theorem g_iload (C : Cx p s m meth c bs mx own mnm rt Z) (X : Stand p l e R s m args below meth c T locs cells slots) {k : Nat} {v : Int32} (hd : decode bs pc = .ok (.iload k, 2)) (hl : Ls[k]? = some (.val (.int v))) (hn : pc + 2 = pc')
    (hr : Go p.tables e below G (T.setTop (mkF m pc' Ls (.int v :: st)))) : Go p.tables e below G (T.setTop (mkF m pc Ls st)) := by
  subst hn; exact hr.step fun t k => XS.iload X.here C.1 rfl (hb C.2.1 hd) hl k
theorem g_istoreN (C : Cx p s m meth c bs mx own mnm rt Z) (X : Stand p l e R s m args below meth c T locs cells slots) {k : Fin 4} {v : Int32} (hd : decode bs pc = .ok (.istore_n k, 1)) (hl : storeLocals Ls k.val (.int v) = some Ls') (hn : pc + 1 = pc')
    (hr : Go p.tables e below G (T.setTop (mkF m pc' Ls' st))) : Go p.tables e below G (T.setTop (mkF m pc Ls (.int v :: st))) := by
  subst hn; exact hr.step fun t k => XS.istoreN X.here C.1 rfl (hb C.2.1 hd) rfl hl k
theorem g_istore (C : Cx p s m meth c bs mx own mnm rt Z) (X : Stand p l e R s m args below meth c T locs cells slots) {k : Nat} {v : Int32} (hd : decode bs pc = .ok (.istore k, 2)) (hl : storeLocals Ls k (.int v) = some Ls') (hn : pc + 2 = pc')
    (hr : Go p.tables e below G (T.setTop (mkF m pc' Ls' st))) : Go p.tables e below G (T.setTop (mkF m pc Ls (.int v :: st))) := by
  subst hn; exact hr.step fun t k => XS.istore X.here C.1 rfl (hb C.2.1 hd) rfl hl k
theorem g_aloadN (C : Cx p s m meth c bs mx own mnm rt Z) (X : Stand p l e R s m args below meth c T locs cells slots) {k : Fin 4} {v : Value} (hd : decode bs pc = .ok (.aload_n k, 1)) (hl : Ls[k.val]? = some (.val v)) (hv : v.isRef = true) (hn : pc + 1 = pc')
    (hr : Go p.tables e below G (T.setTop (mkF m pc' Ls (v :: st)))) : Go p.tables e below G (T.setTop (mkF m pc Ls st)) := by
  subst hn; exact hr.step fun t k => XS.aloadN X.here C.1 rfl (hb C.2.1 hd) hl hv k
theorem g_aload (C : Cx p s m meth c bs mx own mnm rt Z) (X : Stand p l e R s m args below meth c T locs cells slots) {k : Nat} {v : Value} (hd : decode bs pc = .ok (.aload k, 2)) (hl : Ls[k]? = some (.val v)) (hv : v.isRef = true) (hn : pc + 2 = pc')
    (hr : Go p.tables e below G (T.setTop (mkF m pc' Ls (v :: st)))) : Go p.tables e below G (T.setTop (mkF m pc Ls st)) := by
  subst hn; exact hr.step fun t k => XS.aload X.here C.1 rfl (hb C.2.1 hd) hl hv k
theorem g_astoreN (C : Cx p s m meth c bs mx own mnm rt Z) (X : Stand p l e R s m args below meth c T locs cells slots) {k : Fin 4} {v : Value} (hd : decode bs pc = .ok (.astore_n k, 1)) (hv : v.isRef = true) (hl : storeLocals Ls k.val v = some Ls') (hn : pc + 1 = pc')
    (hr : Go p.tables e below G (T.setTop (mkF m pc' Ls' st))) : Go p.tables e below G (T.setTop (mkF m pc Ls (v :: st))) := by
  subst hn; exact hr.step fun t k => XS.astoreN X.here C.1 rfl (hb C.2.1 hd) rfl hv hl k
theorem g_astore (C : Cx p s m meth c bs mx own mnm rt Z) (X : Stand p l e R s m args below meth c T locs cells slots) {k : Nat} {v : Value} (hd : decode bs pc = .ok (.astore k, 2)) (hv : v.isRef = true) (hl : storeLocals Ls k v = some Ls') (hn : pc + 2 = pc')
    (hr : Go p.tables e below G (T.setTop (mkF m pc' Ls' st))) : Go p.tables e below G (T.setTop (mkF m pc Ls (v :: st))) := by
  subst hn; exact hr.step fun t k => XS.astore X.here C.1 rfl (hb C.2.1 hd) rfl hv hl k
theorem g_iconst (C : Cx p s m meth c bs mx own mnm rt Z) (X : Stand p l e R s m args below meth c T locs cells slots) {i : Int} {v : Int32} (hd : decode bs pc = .ok (.iconst i, 1)) (hv : Int32.ofInt i = v) (hn : pc + 1 = pc')
    (hr : Go p.tables e below G (T.setTop (mkF m pc' Ls (.int v :: st)))) : Go p.tables e below G (T.setTop (mkF m pc Ls st)) := by
  subst hn; exact hr.step fun t k => XS.iconst X.here C.1 rfl (hb C.2.1 hd) (by rw [hv]; exact k)
theorem g_bipush (C : Cx p s m meth c bs mx own mnm rt Z) (X : Stand p l e R s m args below meth c T locs cells slots) {i : Int} {v : Int32} (hd : decode bs pc = .ok (.bipush i, 2)) (hv : (Int8.ofInt i).toInt32 = v) (hn : pc + 2 = pc')
    (hr : Go p.tables e below G (T.setTop (mkF m pc' Ls (.int v :: st)))) : Go p.tables e below G (T.setTop (mkF m pc Ls st)) := by
  subst hn; exact hr.step fun t k => XS.bipush X.here C.1 rfl (hb C.2.1 hd) (by rw [hv]; exact k)
theorem g_sipush (C : Cx p s m meth c bs mx own mnm rt Z) (X : Stand p l e R s m args below meth c T locs cells slots) {i : Int} {v : Int32} (hd : decode bs pc = .ok (.sipush i, 3)) (hv : (Int16.ofInt i).toInt32 = v) (hn : pc + 3 = pc')
    (hr : Go p.tables e below G (T.setTop (mkF m pc' Ls (.int v :: st)))) : Go p.tables e below G (T.setTop (mkF m pc Ls st)) := by
  subst hn; exact hr.step fun t k => XS.sipush X.here C.1 rfl (hb C.2.1 hd) (by rw [hv]; exact k)
theorem g_null (C : Cx p s m meth c bs mx own mnm rt Z) (X : Stand p l e R s m args below meth c T locs cells slots)  (hd : decode bs pc = .ok (.aconst_null, 1)) (hn : pc + 1 = pc')
    (hr : Go p.tables e below G (T.setTop (mkF m pc' Ls (.null :: st)))) : Go p.tables e below G (T.setTop (mkF m pc Ls st)) := by
  subst hn; exact hr.step fun t k => XS.aconstNull X.here C.1 rfl (hb C.2.1 hd) k
theorem g_iadd (C : Cx p s m meth c bs mx own mnm rt Z) (X : Stand p l e R s m args below meth c T locs cells slots) {x y : Int32} (hd : decode bs pc = .ok (.iadd, 1)) (hn : pc + 1 = pc')
    (hr : Go p.tables e below G (T.setTop (mkF m pc' Ls (.int (x + y) :: st)))) : Go p.tables e below G (T.setTop (mkF m pc Ls (.int y :: .int x :: st))) := by
  subst hn; exact hr.step fun t k => XS.iadd X.here C.1 rfl (hb C.2.1 hd) rfl k
theorem g_isub (C : Cx p s m meth c bs mx own mnm rt Z) (X : Stand p l e R s m args below meth c T locs cells slots) {x y : Int32} (hd : decode bs pc = .ok (.isub, 1)) (hn : pc + 1 = pc')
    (hr : Go p.tables e below G (T.setTop (mkF m pc' Ls (.int (x - y) :: st)))) : Go p.tables e below G (T.setTop (mkF m pc Ls (.int y :: .int x :: st))) := by
  subst hn; exact hr.step fun t k => XS.isub X.here C.1 rfl (hb C.2.1 hd) rfl k
theorem g_iand (C : Cx p s m meth c bs mx own mnm rt Z) (X : Stand p l e R s m args below meth c T locs cells slots) {x y : Int32} (hd : decode bs pc = .ok (.iand, 1)) (hn : pc + 1 = pc')
    (hr : Go p.tables e below G (T.setTop (mkF m pc' Ls (.int (x &&& y) :: st)))) : Go p.tables e below G (T.setTop (mkF m pc Ls (.int y :: .int x :: st))) := by
  subst hn; exact hr.step fun t k => XS.iand X.here C.1 rfl (hb C.2.1 hd) rfl k
theorem g_ior (C : Cx p s m meth c bs mx own mnm rt Z) (X : Stand p l e R s m args below meth c T locs cells slots) {x y : Int32} (hd : decode bs pc = .ok (.ior, 1)) (hn : pc + 1 = pc')
    (hr : Go p.tables e below G (T.setTop (mkF m pc' Ls (.int (x ||| y) :: st)))) : Go p.tables e below G (T.setTop (mkF m pc Ls (.int y :: .int x :: st))) := by
  subst hn; exact hr.step fun t k => XS.ior X.here C.1 rfl (hb C.2.1 hd) rfl k
theorem g_irem (C : Cx p s m meth c bs mx own mnm rt Z) (X : Stand p l e R s m args below meth c T locs cells slots) {x y : Int32} (hd : decode bs pc = .ok (.irem, 1)) (hy : ¬ y = 0) (hn : pc + 1 = pc')
    (hr : Go p.tables e below G (T.setTop (mkF m pc' Ls (.int (x % y) :: st)))) : Go p.tables e below G (T.setTop (mkF m pc Ls (.int y :: .int x :: st))) := by
  subst hn; exact hr.step fun t k => Jvm.RoadKit.iremM X C.1 rfl (hb C.2.1 hd) rfl hy k
theorem g_ishl (C : Cx p s m meth c bs mx own mnm rt Z) (X : Stand p l e R s m args below meth c T locs cells slots) {x y : Int32} (hd : decode bs pc = .ok (.ishl, 1)) (hn : pc + 1 = pc')
    (hr : Go p.tables e below G (T.setTop (mkF m pc' Ls (.int (x <<< (y &&& 31)) :: st)))) : Go p.tables e below G (T.setTop (mkF m pc Ls (.int y :: .int x :: st))) := by
  subst hn; exact hr.step fun t k => XS.ishl X.here C.1 rfl (hb C.2.1 hd) rfl k
theorem g_ishr (C : Cx p s m meth c bs mx own mnm rt Z) (X : Stand p l e R s m args below meth c T locs cells slots) {x y : Int32} (hd : decode bs pc = .ok (.ishr, 1)) (hn : pc + 1 = pc')
    (hr : Go p.tables e below G (T.setTop (mkF m pc' Ls (.int (x >>> (y &&& 31)) :: st)))) : Go p.tables e below G (T.setTop (mkF m pc Ls (.int y :: .int x :: st))) := by
  subst hn; exact hr.step fun t k => XS.ishr X.here C.1 rfl (hb C.2.1 hd) rfl k
theorem g_iushr (C : Cx p s m meth c bs mx own mnm rt Z) (X : Stand p l e R s m args below meth c T locs cells slots) {x y : Int32} (hd : decode bs pc = .ok (.iushr, 1)) (hn : pc + 1 = pc')
    (hr : Go p.tables e below G (T.setTop (mkF m pc' Ls (.int ((x.toUInt32 >>> (y &&& 31).toUInt32).toInt32) :: st)))) : Go p.tables e below G (T.setTop (mkF m pc Ls (.int y :: .int x :: st))) := by
  subst hn; exact hr.step fun t k => XS.iushr X.here C.1 rfl (hb C.2.1 hd) rfl k
theorem g_i2b (C : Cx p s m meth c bs mx own mnm rt Z) (X : Stand p l e R s m args below meth c T locs cells slots) {x : Int32} (hd : decode bs pc = .ok (.i2b, 1)) (hn : pc + 1 = pc')
    (hr : Go p.tables e below G (T.setTop (mkF m pc' Ls (.int x.toInt8.toInt32 :: st)))) : Go p.tables e below G (T.setTop (mkF m pc Ls (.int x :: st))) := by
  subst hn; exact hr.step fun t k => XS.i2b X.here C.1 rfl (hb C.2.1 hd) rfl k
theorem g_i2c (C : Cx p s m meth c bs mx own mnm rt Z) (X : Stand p l e R s m args below meth c T locs cells slots) {x : Int32} (hd : decode bs pc = .ok (.i2c, 1)) (hn : pc + 1 = pc')
    (hr : Go p.tables e below G (T.setTop (mkF m pc' Ls (.int x.toUInt32.toUInt16.toUInt32.toInt32 :: st)))) : Go p.tables e below G (T.setTop (mkF m pc Ls (.int x :: st))) := by
  subst hn; exact hr.step fun t k => XS.i2c X.here C.1 rfl (hb C.2.1 hd) rfl k
theorem g_dup (C : Cx p s m meth c bs mx own mnm rt Z) (X : Stand p l e R s m args below meth c T locs cells slots) {x : Value} (hd : decode bs pc = .ok (.dup, 1)) (hc : x.category = 1) (hn : pc + 1 = pc')
    (hr : Go p.tables e below G (T.setTop (mkF m pc' Ls (x :: x :: st)))) : Go p.tables e below G (T.setTop (mkF m pc Ls (x :: st))) := by
  subst hn; exact hr.step fun t k => XS.dup X.here C.1 rfl (hb C.2.1 hd) rfl hc k
theorem g_pop (C : Cx p s m meth c bs mx own mnm rt Z) (X : Stand p l e R s m args below meth c T locs cells slots) {x : Value} (hd : decode bs pc = .ok (.pop, 1)) (hc : x.category = 1) (hn : pc + 1 = pc')
    (hr : Go p.tables e below G (T.setTop (mkF m pc' Ls st))) : Go p.tables e below G (T.setTop (mkF m pc Ls (x :: st))) := by
  subst hn; exact hr.step fun t k => XS.pop X.here C.1 rfl (hb C.2.1 hd) rfl hc k
theorem g_dupX1 (C : Cx p s m meth c bs mx own mnm rt Z) (X : Stand p l e R s m args below meth c T locs cells slots) {x y : Value} (hd : decode bs pc = .ok (.dup_x1, 1)) (hc : x.category = 1) (hc' : y.category = 1) (hn : pc + 1 = pc')
    (hr : Go p.tables e below G (T.setTop (mkF m pc' Ls (x :: y :: x :: st)))) : Go p.tables e below G (T.setTop (mkF m pc Ls (x :: y :: st))) := by
  subst hn; exact hr.step fun t k => XS.dupX1 X.here C.1 rfl (hb C.2.1 hd) rfl hc hc' k
theorem g_iinc (C : Cx p s m meth c bs mx own mnm rt Z) (X : Stand p l e R s m args below meth c T locs cells slots) {k : Nat} {i : Int} {x : Int32} (hd : decode bs pc = .ok (.iinc k i, 3)) (hl : Ls[k]? = some (.val (.int x))) (hl' : storeLocals Ls k (.int (x + Int32.ofInt i)) = some Ls') (hn : pc + 3 = pc')
    (hr : Go p.tables e below G (T.setTop (mkF m pc' Ls' st))) : Go p.tables e below G (T.setTop (mkF m pc Ls st)) := by
  subst hn; exact hr.step fun t k => XS.iinc X.here C.1 rfl (hb C.2.1 hd) hl hl' k
theorem g_goto (C : Cx p s m meth c bs mx own mnm rt Z) (X : Stand p l e R s m args below meth c T locs cells slots) {o : Int} (hd : decode bs pc = .ok (.goto o, 3)) (ho : 0 ≤ (pc : Int) + o) (hp : ((pc : Int) + o).toNat = pc')
    (hr : Go p.tables e below G (T.setTop (mkF m pc' Ls st))) : Go p.tables e below G (T.setTop (mkF m pc Ls st)) :=
  hr.step fun t k => XS.goto X.here C.1 rfl rfl (hb C.2.1 hd) ho hp k
theorem g_icmpY (C : Cx p s m meth c bs mx own mnm rt Z) (X : Stand p l e R s m args below meth c T locs cells slots) {cd : ClassFile.Cond} {x y : Int32} {o : Int} (hd : decode bs pc = .ok (.if_icmp cd o, 3)) (hc : if_icmp.holds cd x y = true) (ho : 0 ≤ (pc : Int) + o) (hp : ((pc : Int) + o).toNat = pc')
    (hr : Go p.tables e below G (T.setTop (mkF m pc' Ls st))) : Go p.tables e below G (T.setTop (mkF m pc Ls (.int y :: .int x :: st))) :=
  hr.step fun t k => XS.icmpYes X.here C.1 rfl rfl (hb C.2.1 hd) rfl hc ho hp k
theorem g_icmpN (C : Cx p s m meth c bs mx own mnm rt Z) (X : Stand p l e R s m args below meth c T locs cells slots) {cd : ClassFile.Cond} {x y : Int32} {o : Int} (hd : decode bs pc = .ok (.if_icmp cd o, 3)) (hc : if_icmp.holds cd x y = false) (hn : pc + 3 = pc')
    (hr : Go p.tables e below G (T.setTop (mkF m pc' Ls st))) : Go p.tables e below G (T.setTop (mkF m pc Ls (.int y :: .int x :: st))) := by
  subst hn; exact hr.step fun t k => XS.icmpNo X.here C.1 rfl (hb C.2.1 hd) rfl hc k
theorem g_ifY (C : Cx p s m meth c bs mx own mnm rt Z) (X : Stand p l e R s m args below meth c T locs cells slots) {cd : ClassFile.Cond} {x : Int32} {o : Int} (hd : decode bs pc = .ok (.ifCond cd o, 3)) (hc : if_icmp.holds cd x 0 = true) (ho : 0 ≤ (pc : Int) + o) (hp : ((pc : Int) + o).toNat = pc')
    (hr : Go p.tables e below G (T.setTop (mkF m pc' Ls st))) : Go p.tables e below G (T.setTop (mkF m pc Ls (.int x :: st))) :=
  hr.step fun t k => XS.ifYes X.here C.1 rfl rfl (hb C.2.1 hd) rfl ((if0 _ _).trans hc) ho hp k
theorem g_ifN (C : Cx p s m meth c bs mx own mnm rt Z) (X : Stand p l e R s m args below meth c T locs cells slots) {cd : ClassFile.Cond} {x : Int32} {o : Int} (hd : decode bs pc = .ok (.ifCond cd o, 3)) (hc : if_icmp.holds cd x 0 = false) (hn : pc + 3 = pc')
    (hr : Go p.tables e below G (T.setTop (mkF m pc' Ls st))) : Go p.tables e below G (T.setTop (mkF m pc Ls (.int x :: st))) := by
  subst hn; exact hr.step fun t k => XS.ifNo X.here C.1 rfl (hb C.2.1 hd) rfl ((if0 _ _).trans hc) k
theorem g_ifnonnullY (C : Cx p s m meth c bs mx own mnm rt Z) (X : Stand p l e R s m args below meth c T locs cells slots) {b : Addr} {o : Int} (hd : decode bs pc = .ok (.ifnonnull o, 3)) (ho : 0 ≤ (pc : Int) + o) (hp : ((pc : Int) + o).toNat = pc')
    (hr : Go p.tables e below G (T.setTop (mkF m pc' Ls st))) : Go p.tables e below G (T.setTop (mkF m pc Ls (.ref b :: st))) :=
  hr.step fun t k => XS.ifnonnullYes X.here C.1 rfl rfl (hb C.2.1 hd) rfl ho hp k
theorem g_ldc (C : Cx p s m meth c bs mx own mnm rt Z) (X : Stand p l e R s m args below meth c T locs cells slots) {i : Nat} {v : Int32} (hd : decode bs pc = .ok (.ldc i, 2)) (w : (Jvm.Cond.constant own i v).before a0 Z = true) (hn : pc + 2 = pc')
    (hr : Go p.tables e below G (T.setTop (mkF m pc' Ls (.int v :: st)))) : Go p.tables e below G (T.setTop (mkF m pc Ls st)) := by
  subst hn; exact hr.step fun t k => X.ldcInt C.1 C.hown (mvT C.hZ w) (g := mkF m pc Ls st) rfl (hb C.2.1 hd) _ k
theorem g_getS (C : Cx p s m meth c bs mx own mnm rt Z) (X : Stand p l e R s m args below meth c T locs cells slots) {O n d R0 host : String} {i : Nat} {v : Value} (hd : decode bs pc = .ok (.getstatic i, 3)) (w : (Jvm.Cond.fieldLink own i R0 n d).before a0 Z = true ∨ (Jvm.Cond.fieldLinkNest own i R0 n d host).before a0 Z = true) (via : Via Z R0 O n d) (eT : T.heap = h) (F : Sta Z h O n d v) (hn : pc + 3 = pc')
    (hr : ∀ T', Stand p l e R s m args below meth c T' locs cells slots → T'.heap = h → Go p.tables e below G (T'.setTop (mkF m pc' Ls (v :: st)))) : Go p.tables e below G (T.setTop (mkF m pc Ls st)) := by
  subst hn
  obtain ⟨T', X', e', st'⟩ := getS2 X C.1 C.hZ C.hown w via eT F (g := mkF m pc Ls st) rfl (hb C.2.1 hd)
  exact (hr T' X' e').step st'
theorem g_getF (C : Cx p s m meth c bs mx own mnm rt Z) (X : Stand p l e R s m args below meth c T locs cells slots) {O n d R0 host : String} {i : Nat} {a : Addr} {v : Value} (hd : decode bs pc = .ok (.getfield i, 3)) (w : (Jvm.Cond.fieldLink own i R0 n d).before a0 Z = true ∨ (Jvm.Cond.fieldLinkNest own i R0 n d host).before a0 Z = true) (via : Via Z R0 O n d) (eT : T.heap = h) (F : Fld Z h a O n d v) (hn : pc + 3 = pc')
    (hr : ∀ T', Stand p l e R s m args below meth c T' locs cells slots → T'.heap = h → Go p.tables e below G (T'.setTop (mkF m pc' Ls (v :: st)))) : Go p.tables e below G (T.setTop (mkF m pc Ls (.ref a :: st))) := by
  subst hn
  obtain ⟨T', X', e', st'⟩ := getF X C.1 C.hZ C.hown w via eT F (g := mkF m pc Ls (.ref a :: st)) rfl rfl (hb C.2.1 hd)
  exact (hr T' X' e').step st'
theorem g_callS (C : Cx p s m meth c bs mx own mnm rt Z) (X : Stand p l e R s m args below meth c T locs cells slots) {rm : Room} {as' : Array Value} {Q : Option Value → Heap → List Loc → Prop} {ml : Nat} {yb : ByteArray} {yr : Option FieldType} {ce sl W : Nat} {argsL : List Value} {ps : List FieldType} {pr : Option FieldType} {y : MethodName} {i : Nat} (hd : decode bs pc = .ok (.invokestatic i, 3)) (w1 : (Jvm.Cond.methodLink own i y).before a0 Z = true) (w2 : (Jvm.Cond.static y).before a0 Z = true) (w3 : (Jvm.Cond.initialized y.cls).before a0 Z = true) (w4 : (Jvm.Cond.code y yb ml yr).before a0 Z = true) (hy : y.cls ≠ "java/lang/invoke/MethodHandle" ∧ y.cls ≠ "java/lang/invoke/VarHandle")
    (hM : MetFree l y (head1 [Jvm.Cond.code y yb ml yr] rm) (fun a U => a = as' ∧ Z.Warmed39 U.vm ∧ U.heap = h) (fun _ _ _ _ _ => True) (fun _ U o U' => ∃ v L, o = .returned v ∧ Q v U'.heap L ∧ FrameEnd U o U' L rm.cells rm.slots)) (hf : rm.frames + 1 ≤ R.frames) (hlo : W + (ml + 11) + rm.locals ≤ R.locals) (hce : cells + rm.cells = ce) (hsl : slots + rm.slots = sl) (hce' : ce ≤ R.cells) (hsl' : sl ≤ R.slots) (has : argsL.toArray = as') (eT : T.heap = h) (hsz : Ls.size = mx) (hpd : parseMethodDescriptor y.desc = some ⟨ps, pr⟩) (hln : argsL.length = ps.length) (hW : (st.map fun v => v.category).sum ≤ W) (hn : pc + 3 = pc')
    (hr : ∀ v T' L, Stand p l e R s m args below meth c T' (locs ++ L) ce sl → Q v T'.heap L → Go p.tables e below G (T'.setTop (mkF m pc' Ls (v.toList ++ st)))) : Go p.tables e below G (T.setTop (mkF m pc Ls (argsL.reverse ++ st))) := by
  subst hn hce hsl has
  obtain ⟨v, vm1, ⟨T', L', k', n'⟩, -, X', ⟨Lc, hQ, l', y', z'⟩, st'⟩ := Jvm.LawKit.callS X C.1 (y := y) C.hown (mvT C.hZ w1) (mvT C.hZ w2) (mvT C.hZ w3) (mvT C.hZ w4) hy (backOf (W := W) hM C.hZ w4 w3 hf hlo) (g := mkF m pc Ls (argsL.reverse ++ st)) rfl (hsz.trans C.2.2.1.symm) (argsL := argsL) (rest := st) (lenOf hpd hln) rfl (by show 2 * 0 + _ ≤ _; omega) (hb C.2.1 hd) (fun _ _ => ⟨rfl, eT, hce', hsl'⟩)
  dsimp only [Pt.U, Pt.locs, Pt.cells, Pt.slots] at X' l' y' z' st' hQ
  subst l' y' z'
  exact (hr v T' Lc X' hQ).step st'
theorem g_callV (C : Cx p s m meth c bs mx own mnm rt Z) (X : Stand p l e R s m args below meth c T locs cells slots) {rm : Room} {as' : Array Value} {Q : Option Value → Heap → List Loc → Prop} {ml : Nat} {yb : ByteArray} {yr : Option FieldType} {ce sl W : Nat} {argsL : List Value} {ps : List FieldType} {pr : Option FieldType} {K : String} {y z : MethodName} {i : Nat} {b : Addr} (hd : decode bs pc = .ok (.invokevirtual i, 3)) (w1 : (Jvm.Cond.methodLink own i y).before a0 Z = true) (w2 : (Jvm.Cond.declares y).before a0 Z = true) (hnf : NotFace s y) (w3 : (Jvm.Cond.selects K y z).before a0 Z = true) (w4 : (Jvm.Cond.instanceMethod z).before a0 Z = true) (w5 : (Jvm.Cond.initialized z.cls).before a0 Z = true) (w6 : (Jvm.Cond.code z yb ml yr).before a0 Z = true) (hy : y.cls ≠ "java/lang/invoke/MethodHandle" ∧ y.cls ≠ "java/lang/invoke/VarHandle")
    (hM : MetFree l z (head1 [Jvm.Cond.code z yb ml yr] rm) (fun a U => a = as' ∧ Z.Warmed39 U.vm ∧ U.heap = h) (fun _ _ _ _ _ => True) (fun _ U o U' => ∃ v L, o = .returned v ∧ Q v U'.heap L ∧ FrameEnd U o U' L rm.cells rm.slots)) (hf : rm.frames + 1 ≤ R.frames) (hlo : W + (ml + 11) + rm.locals ≤ R.locals) (hce : cells + rm.cells = ce) (hsl : slots + rm.slots = sl) (hce' : ce ≤ R.cells) (hsl' : sl ≤ R.slots) (has : (.ref b :: argsL).toArray = as') (E : Exa Z h b K) (eT : T.heap = h) (hsz : Ls.size = mx) (hpd : parseMethodDescriptor y.desc = some ⟨ps, pr⟩) (hln : argsL.length = ps.length) (hW : (st.map fun v => v.category).sum ≤ W) (hn : pc + 3 = pc')
    (hr : ∀ v T' L, Stand p l e R s m args below meth c T' (locs ++ L) ce sl → Q v T'.heap L → Go p.tables e below G (T'.setTop (mkF m pc' Ls (v.toList ++ st)))) : Go p.tables e below G (T.setTop (mkF m pc Ls (argsL.reverse ++ .ref b :: st))) := by
  subst hn hce hsl has
  obtain ⟨cq, kq, qa, qb, qc⟩ := isOf C.hZ eT E
  obtain ⟨v, vm1, ⟨T', L', k', n'⟩, -, X', ⟨Lc, hQ, l', y', z'⟩, st'⟩ := X.virtualBack C.1 (y := y) (z := z) C.hown (mvT C.hZ w1) (mvT C.hZ w2) hnf (mvT C.hZ w3) (mvT C.hZ w4) hy (backOf (W := W) hM C.hZ w6 w5 hf hlo) qa qc (g := mkF m pc Ls (argsL.reverse ++ .ref b :: st)) rfl (hsz.trans C.2.2.1.symm) (Steps.refl _) (argsL := argsL) (rest := st) (lenOf hpd hln) rfl (by show 2 * 0 + _ ≤ _; omega) (hb C.2.1 hd) (fun _ _ => ⟨rfl, eT, hce', hsl'⟩)
  dsimp only [Pt.U, Pt.locs, Pt.cells, Pt.slots] at X' l' y' z' st' hQ
  subst l' y' z'
  exact (hr v T' Lc X' hQ).step fun t k => st'.trans k
theorem g_callI (C : Cx p s m meth c bs mx own mnm rt Z) (X : Stand p l e R s m args below meth c T locs cells slots) {rm : Room} {as' : Array Value} {Q : Option Value → Heap → List Loc → Prop} {ml : Nat} {yb : ByteArray} {ce sl W : Nat} {argsL : List Value} {ps : List FieldType} {pr : Option FieldType} {y : MethodName} {i : Nat} {b : Addr} (hy1 : y.name = "<init>") (hd : decode bs pc = .ok (.invokespecial i, 3)) (w1 : (Jvm.Cond.methodLink own i y).before a0 Z = true) (w2 : (Jvm.Cond.instanceMethod y).before a0 Z = true) (w3 : (Jvm.Cond.initialized y.cls).before a0 Z = true) (w4 : (Jvm.Cond.code y yb ml none).before a0 Z = true) (hy : y.cls ≠ "java/lang/invoke/MethodHandle" ∧ y.cls ≠ "java/lang/invoke/VarHandle")
    (hM : MetFree l y (head1 [Jvm.Cond.code y yb ml none] rm) (fun a U => a = as' ∧ Z.Warmed39 U.vm ∧ U.heap = h) (fun _ _ _ _ _ => True) (fun _ U o U' => ∃ v L, o = .returned v ∧ Q v U'.heap L ∧ FrameEnd U o U' L rm.cells rm.slots)) (hf : rm.frames + 1 ≤ R.frames) (hlo : W + (ml + 11) + rm.locals ≤ R.locals) (hce : cells + rm.cells = ce) (hsl : slots + rm.slots = sl) (hce' : ce ≤ R.cells) (hsl' : sl ≤ R.slots) (has : (.ref b :: argsL).toArray = as') (eT : T.heap = h) (hsz : Ls.size = mx) (hpd : parseMethodDescriptor y.desc = some ⟨ps, pr⟩) (hln : argsL.length = ps.length) (hW : (st.map fun v => v.category).sum ≤ W) (hn : pc + 3 = pc')
    (hr : ∀ v T' L, Stand p l e R s m args below meth c T' (locs ++ L) ce sl → Q v T'.heap L → Go p.tables e below G (T'.setTop (mkF m pc' Ls (v.toList ++ st)))) : Go p.tables e below G (T.setTop (mkF m pc Ls (argsL.reverse ++ .ref b :: st))) := by
  subst hn hce hsl has
  obtain ⟨v, vm1, ⟨T', L', k', n'⟩, -, X', ⟨Lc, hQ, l', y', z'⟩, st'⟩ := X.specialBack C.1 (y := y) hy1 C.hown (mvT C.hZ w1) (mvT C.hZ w2) (mvT C.hZ w4) hy (backOf (W := W) hM C.hZ w4 w3 hf hlo) (g := mkF m pc Ls (argsL.reverse ++ .ref b :: st)) rfl (hsz.trans C.2.2.1.symm) (Steps.refl _) (a := b) (argsL := argsL) (rest := st) (lenOf hpd hln) rfl (by show 2 * 0 + _ ≤ _; omega) (hb C.2.1 hd) (fun _ _ => ⟨rfl, eT, hce', hsl'⟩)
  dsimp only [Pt.U, Pt.locs, Pt.cells, Pt.slots] at X' l' y' z' st' hQ
  subst l' y' z'
  exact (hr v T' Lc X' hQ).step fun t k => st'.trans k
theorem g_retI (C : Cx p s m meth c bs mx own mnm (some .int) Z) (X : Stand p l e R s m args below meth c T locs cells slots) {Q : Option Value → Heap → List Loc → Prop} {ce sl : Nat} {z : Int32} (hd : decode bs pc = .ok (.ireturn, 1)) (hc : cells ≤ ce) (hs : slots ≤ sl) (hQ : Q (some (.int z)) T.heap locs) : Go p.tables e below (End s Q ce sl) (T.setTop (mkF m pc Ls (.int z :: st))) := by
  obtain ⟨fs, hr, hrun, hended, hW, hsame⟩ := X.leave (v := (some (.int z))) (fun h => by rw [C.ret] at h; cases h) C.locks
  exact ⟨_, _, retOut X C.1 C.ret rfl (Or.inl ⟨rfl, Or.inl rfl, _, rfl⟩) (hb C.2.1 hd) hr, hrun, hended, _, _, rfl, hQ, ⟨_, rfl⟩, hW, hsame.mono hc hs⟩
theorem g_retA {t : FieldType} (C : Cx p s m meth c bs mx own mnm (some t) Z) (X : Stand p l e R s m args below meth c T locs cells slots) {Q : Option Value → Heap → List Loc → Prop} {ce sl : Nat} {v : Value} (ht : t.isReference = true) (hnw : narrow t v = v) (hv : v.isRef = true) (hd : decode bs pc = .ok (.areturn, 1)) (hc : cells ≤ ce) (hs : slots ≤ sl) (hQ : Q (some v) T.heap locs) : Go p.tables e below (End s Q ce sl) (T.setTop (mkF m pc Ls (v :: st))) := by
  obtain ⟨fs, hr, hrun, hended, hW, hsame⟩ := X.leave (v := (some v)) (fun h => by rw [C.ret] at h; cases h) C.locks
  exact ⟨_, _, retOut X C.1 C.ret hnw (Or.inr (Or.inr (Or.inr (Or.inr ⟨rfl, ht, hv⟩)))) (hb C.2.1 hd) hr, hrun, hended, _, _, rfl, hQ, ⟨_, rfl⟩, hW, hsame.mono hc hs⟩
theorem g_retN {t : FieldType} (C : Cx p s m meth c bs mx own mnm (some t) Z) (X : Stand p l e R s m args below meth c T locs cells slots) {Q : Option Value → Heap → List Loc → Prop} {ce sl : Nat} {z : Int32} (ht : t = .boolean ∨ t = .byte ∨ t = .char ∨ t = .short) (hd : decode bs pc = .ok (.ireturn, 1)) (hc : cells ≤ ce) (hs : slots ≤ sl) (hQ : Q (some (.int (nar t z))) T.heap locs) : Go p.tables e below (End s Q ce sl) (T.setTop (mkF m pc Ls (.int z :: st))) := by
  obtain ⟨fs, hr, hrun, hended, hW, hsame⟩ := X.leave (v := (some (.int (nar t z)))) (fun h => by rw [C.ret] at h; cases h) C.locks
  exact ⟨_, _, retN X C.1 C.ret ht (hb C.2.1 hd) hr, hrun, hended, _, _, rfl, hQ, ⟨_, rfl⟩, hW, hsame.mono hc hs⟩
theorem g_retV (C : Cx p s m meth c bs mx own mnm none Z) (X : Stand p l e R s m args below meth c T locs cells slots) {Q : Option Value → Heap → List Loc → Prop} {ce sl : Nat}  (hd : decode bs pc = .ok (.return_, 1)) (hc : cells ≤ ce) (hs : slots ≤ sl) (hQ : Q none T.heap locs) : Go p.tables e below (End s Q ce sl) (T.setTop (mkF m pc Ls [])) := by
  obtain ⟨fs, hr, hrun, hended, hW, hsame⟩ := X.leave (v := none) (fun _ => rfl) C.locks
  exact ⟨_, _, X.returnOut C.1 C.ret (hb C.2.1 hd) hr, hrun, hended, _, _, rfl, hQ, ⟨_, rfl⟩, hW, hsame.mono hc hs⟩
theorem g_new (C : Cx p s m meth c bs mx own mnm rt Z) (X : Stand p l e R s m args below meth c T locs cells slots) {K : String} {i n ce sl : Nat} (hd : decode bs pc = .ok (.new i, 3)) (w : (Jvm.Cond.classLink own i K).before a0 Z = true) (wi : (Jvm.Cond.instantiable K n).before a0 Z = true) (wz : (Jvm.Cond.initialized K).before a0 Z = true) (eT : T.heap = h) (hce : cells + 1 = ce) (hsl : slots + n = sl) (hce' : ce ≤ R.cells) (hsl' : sl ≤ R.slots) (hn : pc + 3 = pc')
    (hr : ∀ T' h' b, b = h.size → Stand p l e R s m args below meth c T' locs ce sl → T'.heap = h' → Ext h h' → Exa Z h' b K → (∀ {O nm d : String} {ty : FieldType}, Laid Z a0 K O nm d → parseFieldDescriptor d = some ty → Fld Z h' b O nm d (defaultValue ty)) → Go p.tables e below G (T'.setTop (mkF m pc' Ls (.ref b :: st)))) : Go p.tables e below G (T.setTop (mkF m pc Ls st)) := by
  subst hn hce hsl
  obtain ⟨T', h', X', e', E', A', D', -, st'⟩ := newO X C.1 C.hZ C.hown w wi wz eT (g := mkF m pc Ls st) rfl (hb C.2.1 hd) hce' hsl'
  exact (hr T' h' _ rfl X' e' E' A' D').step st'
theorem g_initO (C : Cx p s m meth c bs mx own mnm rt Z) (X : Stand p l e R s m args below meth c T locs cells slots) {i W : Nat} {a : Addr} (hd : decode bs pc = .ok (.invokespecial i, 3)) (w1 : (Jvm.Cond.methodLink own i Lib.objectInit).before a0 Z = true) (w2 : (Jvm.Cond.instanceMethod Lib.objectInit).before a0 Z = true) (w3 : (Jvm.Cond.code Lib.objectInit object_method_1_code 1 none).before a0 Z = true) (eT : T.heap = h) (hsz : Ls.size = mx) (hf : 1 ≤ R.frames) (hW : (st.map fun v => v.category).sum ≤ W) (hl : W + 12 ≤ R.locals) (hn : pc + 3 = pc')
    (hr : ∀ T', Stand p l e R s m args below meth c T' locs cells slots → T'.heap = h → Go p.tables e below G (T'.setTop (mkF m pc' Ls st))) : Go p.tables e below G (T.setTop (mkF m pc Ls (.ref a :: st))) := by
  subst hn
  obtain ⟨T', X', e', st'⟩ := initO X C.1 C.hZ C.hown w1 w2 w3 eT (g := mkF m pc Ls (.ref a :: st)) rfl (hsz.trans C.2.2.1.symm) rfl (hb C.2.1 hd) hf (W := W) (by show 2 * 0 + _ ≤ _; omega) hl
  exact (hr T' X' e').step st'
theorem g_putF (C : Cx p s m meth c bs mx own mnm rt Z) (X : Stand p l e R s m args below meth c T locs cells slots) {O n d R0 host K : String} {i kk : Nat} {ty : FieldType} {a : Addr} {v old : Value} (hd : decode bs pc = .ok (.putfield i, 3)) (w : (Jvm.Cond.fieldLink own i R0 n d).before a0 Z = true ∨ (Jvm.Cond.fieldLinkNest own i R0 n d host).before a0 Z = true) (via : Via Z R0 O n d) (eT : T.heap = h) (F : Fld Z h a O n d old) (E : Exa Z h a K) (L : (Jvm.Cond.lays K O n d).before a0 Z = true ∨ ((Jvm.Cond.laysFinal K O n d).before a0 Z = true ∧ own = O ∧ mnm = "<init>")) (wi : (Jvm.Cond.instantiable K kk).before a0 Z = true) (hty : parseFieldDescriptor d = some ty) (hnw : narrow ty v = v) (hf : fits ty v = true) (hn : pc + 3 = pc')
    (hr : ∀ T' h', Stand p l e R s m args below meth c T' (locs ++ [⟨a, Jvm.RoadKit.slotOf Z O n d⟩]) cells slots → T'.heap = h' → Wr h h' a (Jvm.RoadKit.slotOf Z O n d) v → Go p.tables e below G (T'.setTop (mkF m pc' Ls st))) : Go p.tables e below G (T.setTop (mkF m pc Ls (v :: .ref a :: st))) := by
  subst hn
  obtain ⟨T', h', X', e', W', st'⟩ := putF X C.1 C.hZ C.hown w via eT F E (L.imp id fun q => ⟨q.1, q.2.1, C.nm.trans q.2.2⟩) wi hty hnw hf (g := mkF m pc Ls (v :: .ref a :: st)) rfl rfl (hb C.2.1 hd)
  exact (hr T' h' X' e' W').step st'
theorem g_putFN (C : Cx p s m meth c bs mx own mnm rt Z) (X : Stand p l e R s m args below meth c T locs cells slots) {O n d R0 K : String} {i kk : Nat} {ty : FieldType} {a : Addr} {v v' old : Value} (hd : decode bs pc = .ok (.putfield i, 3)) (w : (Jvm.Cond.fieldLink own i R0 n d).before a0 Z = true) (via : Via Z R0 O n d) (eT : T.heap = h) (F : Fld Z h a O n d old) (E : Exa Z h a K) (L : (Jvm.Cond.lays K O n d).before a0 Z = true ∨ ((Jvm.Cond.laysFinal K O n d).before a0 Z = true ∧ own = O ∧ mnm = "<init>")) (wi : (Jvm.Cond.instantiable K kk).before a0 Z = true) (hty : parseFieldDescriptor d = some ty) (hnw : narrow ty v = v') (hf : fits ty v' = true) (hn : pc + 3 = pc')
    (hr : ∀ T' h', Stand p l e R s m args below meth c T' (locs ++ [⟨a, Jvm.RoadKit.slotOf Z O n d⟩]) cells slots → T'.heap = h' → Wr h h' a (Jvm.RoadKit.slotOf Z O n d) v' → Go p.tables e below G (T'.setTop (mkF m pc' Ls st))) : Go p.tables e below G (T.setTop (mkF m pc Ls (v :: .ref a :: st))) := by
  subst hn
  obtain ⟨T', h', X', e', W', st'⟩ := putFN X C.1 C.hZ C.hown w via eT F E (L.imp id fun q => ⟨q.1, q.2.1, C.nm.trans q.2.2⟩) wi hty hnw hf (g := mkF m pc Ls (v :: .ref a :: st)) rfl rfl (hb C.2.1 hd)
  exact (hr T' h' X' e' W').step st'
theorem g_newP (C : Cx p s m meth c bs mx own mnm rt Z) (X : Stand p l e R s m args below meth c T locs cells slots) {aty : ArrayType} {n : Int32} {cap ce sl : Nat} (hd : decode bs pc = .ok (.newarray aty, 2)) (w : (Jvm.Cond.arrayClass (newarray.typeOf aty)).before a0 Z = true) (eT : T.heap = h) (hn0 : ¬ n < 0) (hcap : n.toNatClampNeg ≤ cap) (hb8 : cap * 8 ≤ 536870912) (hce : cells + 1 = ce) (hsl : slots + cap = sl) (hce' : ce ≤ R.cells) (hsl' : sl ≤ R.slots) (hn : pc + 2 = pc')
    (hr : ∀ T' h' b k, b = h.size → Stand p l e R s m args below meth c T' locs ce sl → T'.heap = h' → Ext h h' → Arv Z h' b k (newarray.typeOf aty) n [] (defaultValue (newarray.typeOf aty)) → Go p.tables e below G (T'.setTop (mkF m pc' Ls (.ref b :: st)))) : Go p.tables e below G (T.setTop (mkF m pc Ls (.int n :: st))) := by
  subst hn hce hsl
  obtain ⟨T', h', k', X', e', E', A', st'⟩ := newP X C.1 C.hZ w eT (g := mkF m pc Ls (.int n :: st)) rfl (hb C.2.1 hd) rfl hn0 hcap hb8 hce' hsl'
  exact (hr T' h' _ k' rfl X' e' E' (Arv.new A' hn0)).step st'
theorem g_stB (C : Cx p s m meth c bs mx own mnm rt Z) (X : Stand p l e R s m args below meth c T locs cells slots) {a : Addr} {k : ClassId} {n j : Int32} {x : Int32} {vs : List Value} {dv : Value} {i : Nat} (hd : decode bs pc = .ok (.bastore, 1)) (eT : T.heap = h) (F : Arv Z h a k .byte n vs dv) (hj : ¬ j < 0 ∧ j < n) (hji : j.toNatClampNeg = i) (hi : i < vs.length) (hn : pc + 1 = pc')
    (hr : ∀ T' h', Stand p l e R s m args below meth c T' (locs ++ [⟨a, j.toNatClampNeg⟩]) cells slots → T'.heap = h' → Wr h h' a j.toNatClampNeg (.int (nar .byte x)) → Arv Z h' a k .byte n (vs.set i (.int (nar .byte x))) dv → Go p.tables e below G (T'.setTop (mkF m pc' Ls st))) : Go p.tables e below G (T.setTop (mkF m pc Ls (.int x :: .int j :: .ref a :: st))) := by
  subst hn
  obtain ⟨cl, A, q, Sz, N, H, Gf⟩ := F
  obtain ⟨T', h', X', e', W', st'⟩ := stB X C.1 C.hZ eT A (j := j) (inb_of Sz hj) (g := mkF m pc Ls (.int x :: .int j :: .ref a :: st)) rfl rfl (hb C.2.1 hd)
  exact (hr T' h' X' e' W' (Arv.set A q Sz N H Gf (fits_nar_byte _) W' i hji hi)).step st'
theorem g_stC (C : Cx p s m meth c bs mx own mnm rt Z) (X : Stand p l e R s m args below meth c T locs cells slots) {a : Addr} {k : ClassId} {n j : Int32} {x : Int32} {vs : List Value} {dv : Value} {i : Nat} (hd : decode bs pc = .ok (.castore, 1)) (eT : T.heap = h) (F : Arv Z h a k .char n vs dv) (hj : ¬ j < 0 ∧ j < n) (hji : j.toNatClampNeg = i) (hi : i < vs.length) (hn : pc + 1 = pc')
    (hr : ∀ T' h', Stand p l e R s m args below meth c T' (locs ++ [⟨a, j.toNatClampNeg⟩]) cells slots → T'.heap = h' → Wr h h' a j.toNatClampNeg (.int (nar .char x)) → Arv Z h' a k .char n (vs.set i (.int (nar .char x))) dv → Go p.tables e below G (T'.setTop (mkF m pc' Ls st))) : Go p.tables e below G (T.setTop (mkF m pc Ls (.int x :: .int j :: .ref a :: st))) := by
  subst hn
  obtain ⟨cl, A, q, Sz, N, H, Gf⟩ := F
  obtain ⟨T', h', X', e', W', st'⟩ := stC X C.1 C.hZ eT A (j := j) (inb_of Sz hj) (g := mkF m pc Ls (.int x :: .int j :: .ref a :: st)) rfl rfl (hb C.2.1 hd)
  exact (hr T' h' X' e' W' (Arv.set A q Sz N H Gf (fits_nar_char _) W' i hji hi)).step st'
theorem g_ldB (C : Cx p s m meth c bs mx own mnm rt Z) (X : Stand p l e R s m args below meth c T locs cells slots) {a : Addr} {k : ClassId} {n j : Int32} {vs : List Value} {dv v : Value} (hd : decode bs pc = .ok (.baload, 1)) (eT : T.heap = h) (F : Arv Z h a k .byte n vs dv) (hj : ¬ j < 0 ∧ j < n) (hv : vs.getD j.toNatClampNeg dv = v) (hn : pc + 1 = pc')
    (hr : Go p.tables e below G (T.setTop (mkF m pc' Ls (v :: st)))) : Go p.tables e below G (T.setTop (mkF m pc Ls (.int j :: .ref a :: st))) := by
  subst hn
  obtain ⟨cl, A, q, Sz, N, H, Gf⟩ := F
  have hin := inb_of Sz hj
  exact hr.step fun t k => X.baloadBytes C.1 (j := j) (by rw [eT]; exact A.1) (State.isArrayOf_alike C.hZ.alike A.2.1) A.2.2 hin ((H _ (Nat.lt_of_not_le fun q => hin (Or.inr q))).trans (congrArg some hv)) (g := mkF m pc Ls (.int j :: .ref a :: st)) rfl rfl (hb C.2.1 hd) _ k
theorem g_ldC (C : Cx p s m meth c bs mx own mnm rt Z) (X : Stand p l e R s m args below meth c T locs cells slots) {a : Addr} {k : ClassId} {n j : Int32} {vs : List Value} {dv v : Value} (hd : decode bs pc = .ok (.caload, 1)) (eT : T.heap = h) (F : Arv Z h a k .char n vs dv) (hj : ¬ j < 0 ∧ j < n) (hv : vs.getD j.toNatClampNeg dv = v) (hn : pc + 1 = pc')
    (hr : Go p.tables e below G (T.setTop (mkF m pc' Ls (v :: st)))) : Go p.tables e below G (T.setTop (mkF m pc Ls (.int j :: .ref a :: st))) := by
  subst hn
  obtain ⟨cl, A, q, Sz, N, H, Gf⟩ := F
  have hin := inb_of Sz hj
  exact hr.step fun t k => X.caload C.1 (j := j) (by rw [eT]; exact A.1) (State.isArrayOf_alike C.hZ.alike A.2.1) A.2.2 hin ((H _ (Nat.lt_of_not_le fun q => hin (Or.inr q))).trans (congrArg some hv)) (g := mkF m pc Ls (.int j :: .ref a :: st)) rfl rfl (hb C.2.1 hd) _ k
theorem g_len (C : Cx p s m meth c bs mx own mnm rt Z) (X : Stand p l e R s m args below meth c T locs cells slots) {a : Addr} {k : ClassId} {n : Int32} {ty : FieldType} {vs : List Value} {dv : Value} (hd : decode bs pc = .ok (.arraylength, 1)) (eT : T.heap = h) (F : Arv Z h a k ty n vs dv) (hn : pc + 1 = pc')
    (hr : Go p.tables e below G (T.setTop (mkF m pc' Ls (.int n :: st)))) : Go p.tables e below G (T.setTop (mkF m pc Ls (.ref a :: st))) := by
  subst hn
  obtain ⟨cl, A, q, Sz, N, H, Gf⟩ := F
  exact hr.step fun t k => X.arraylength C.1 (by rw [eT]; exact A.1) (State.isArrayOf_alike C.hZ.alike A.2.1) (g := mkF m pc Ls (.ref a :: st)) rfl rfl (hb C.2.1 hd) _ (by rw [len_of Sz N]; exact k)
theorem own_sta_keep {h' : Heap} {ws : List Addr} {K n d : String} {v : Value} (F : Sta Z h K n d v) (Kp : Keep h h' ws) (q : ∀ a ∈ ws, ∃ c : Cell, h[a]? = some c ∧ c.vm.isStatics = false) : Sta Z h' K n d v := by
  obtain ⟨cf, i, k, f, st, cell, h1, h2, h3, h4, h5, h6, h7⟩ := F
  refine ⟨cf, i, k, f, st, cell, h1, h2, h3, h4, Kp.2.1 st cell h5 (fun hm => ?_), h6, h7⟩
  obtain ⟨c', e1, e2⟩ := q st hm
  cases h5.symm.trans e1
  rw [h6] at e2
  cases e2
theorem g_cp (C : Cx p s m meth c bs mx own mnm rt Z) (X : Stand p l e R s m args below meth c T locs cells slots) {i W n0 : Nat} {a b : Addr} {k k' : ClassId} {ty : FieldType} {z z' sp dp nn : Int32} {vs vd us : List Value} {dv dd : Value} (hd : decode bs pc = .ok (.invokestatic i, 3)) (w1 : (Jvm.Cond.methodLink own i Jvm.Stand.acN).before a0 Z = true) (w2 : (Jvm.Cond.native Jvm.Stand.acN).before a0 Z = true) (w3 : (Jvm.Cond.static Jvm.Stand.acN).before a0 Z = true) (w4 : (Jvm.Cond.initialized "java/lang/System").before a0 Z = true) (eT : T.heap = h) (A : Arv Z h a k ty z vs dv) (B : Arv Z h b k' ty z' vd dd) (hty : refKind ty = false)
    (h1 : ¬ sp < 0) (h2 : ¬ dp < 0) (h3 : ¬ nn < 0) (h4 : sp.toNatClampNeg + nn.toNatClampNeg ≤ z.toNatClampNeg) (h5 : dp.toNatClampNeg + nn.toNatClampNeg ≤ z'.toNatClampNeg) (hus : us = (List.range nn.toNatClampNeg).map fun i => vs.getD (sp.toNatClampNeg + i) dv) (hl : dp.toNatClampNeg + nn.toNatClampNeg ≤ vd.length) (N : Fr n0 locs) (ge : n0 ≤ b) (hsz : Ls.size = mx) (hf : 1 ≤ R.frames) (hW : (st.map fun v => v.category).sum ≤ W) (hlo : W + (nativeFrameWords "java/lang/System" "arraycopy" 5 + 11) ≤ R.locals) (hn : pc + 3 = pc')
    (hr : ∀ T' h' L, Stand p l e R s m args below meth c T' L cells slots → T'.heap = h' → Fr n0 L → Keep h h' [b] → Arv Z h' b k' ty z' (vd.take dp.toNatClampNeg ++ us ++ vd.drop (dp.toNatClampNeg + nn.toNatClampNeg)) dd → Go p.tables e below G (T'.setTop (mkF m pc' Ls st))) : Go p.tables e below G (T.setTop (mkF m pc Ls (.int nn :: .int dp :: .ref b :: .int sp :: .ref a :: st))) := by
  subst hn
  obtain ⟨T', h', L', X', e', N', K', A', st'⟩ := cpA X C.1 C.hZ C.hown w1 w2 w3 w4 eT A B (Or.inl ⟨rfl, hty⟩) h1 h2 h3 h4 h5 hus hl N ge (g := mkF m pc Ls (.int nn :: .int dp :: .ref b :: .int sp :: .ref a :: st)) rfl (hsz.trans C.2.2.1.symm) rfl (hb C.2.1 hd) hf (W := W) (by show 2 * 0 + _ ≤ _; omega) hlo
  exact (hr T' h' L' X' e' N' K' A').step st'
theorem own_fitc {a : Addr} {k : ClassId} {ty : FieldType} {n : Int32} {vs : List Value} {dv : Value} {cl : Cell} (A : Arr Z h a cl ty) (Hs : Has cl vs dv) (Gf : ∀ i, i < cl.slots.size → fits ty (vs.getD i dv) = true) : FitC Z cl := fun i v hv => by
  obtain ⟨hi, -⟩ := Array.getElem?_eq_some_iff.mp hv
  have e := Hs i hi
  rw [hv] at e
  obtain rfl := Option.some.inj e
  obtain ⟨-, kk, hk, comp, hkind⟩ := A.2.1
  simp [State.fitsSlot, State.slotType?, hk, hkind]
  simpa using Gf i hi
theorem g_clone (C : Cx p s m meth c bs mx own mnm rt Z) (X : Stand p l e R s m args below meth c T locs cells slots) {i W cap ce sl : Nat} {ad : String} {a : Addr} {k : ClassId} {ty : FieldType} {n : Int32} {vs : List Value} {dv : Value} (hd : decode bs pc = .ok (.invokevirtual i, 3)) (w1 : (Jvm.Cond.methodLink own i ⟨ad, "clone", "()Ljava/lang/Object;"⟩).before a0 Z = true) (w2 : (Jvm.Cond.sameMethod ad "java/lang/Object" "clone" "()Ljava/lang/Object;").before a0 Z = true) (w3 : (Jvm.Cond.native ⟨"java/lang/Object", "clone", "()Ljava/lang/Object;"⟩).before a0 Z = true) (w4 : (Jvm.Cond.instanceMethod ⟨"java/lang/Object", "clone", "()Ljava/lang/Object;"⟩).before a0 Z = true) (w5 : (Jvm.Cond.selects ad ⟨ad, "clone", "()Ljava/lang/Object;"⟩ ⟨"java/lang/Object", "clone", "()Ljava/lang/Object;"⟩).before a0 Z = true) (w6 : (Jvm.Cond.castable ad "java/lang/Cloneable").before a0 Z = true)
    (eT : T.heap = h) (F : Arv Z h a k ty n vs dv) (E : Exa Z h a ad) (hsz : Ls.size = mx) (hf : 1 ≤ R.frames) (hW : (st.map fun v => v.category).sum ≤ W) (hlo : W + 14 ≤ R.locals) (hcap : n.toNatClampNeg ≤ cap) (hce : cells + 1 = ce) (hsl : slots + cap = sl) (hce' : ce ≤ R.cells) (hsl' : sl ≤ R.slots) (hn : pc + 3 = pc')
    (hr : ∀ T' h' b, b = h.size → Stand p l e R s m args below meth c T' locs ce sl → T'.heap = h' → Ext h h' → Arv Z h' b k ty n vs dv → Exa Z h' b ad → Go p.tables e below G (T'.setTop (mkF m pc' Ls (.ref b :: st)))) : Go p.tables e below G (T.setTop (mkF m pc Ls (.ref a :: st))) := by
  subst hn hce hsl
  obtain ⟨cl, A, q, Sz, N, H, Gf⟩ := F
  obtain ⟨T', h', X', e', E', A', Ex', st'⟩ := cloneA X C.1 C.hZ C.hown w1 w2 w3 w4 w5 w6 eT A E (own_fitc (k := k) (n := n) A H Gf) (g := mkF m pc Ls (.ref a :: st)) rfl (hsz.trans C.2.2.1.symm) rfl (hb C.2.1 hd) hf (W := W) (by show 2 * 0 + _ ≤ _; omega) hlo (by rw [Sz]; exact hcap) hce' hsl'
  exact (hr T' h' _ rfl X' e' E' ⟨cloneOf cl, A', q, Sz, N, H, Gf⟩ Ex').step st'
theorem g_castY (C : Cx p s m meth c bs mx own mnm rt Z) (X : Stand p l e R s m args below meth c T locs cells slots) {i : Nat} {K : String} {a : Addr} (hd : decode bs pc = .ok (.checkcast i, 3)) (w : (Jvm.Cond.classLink own i K).before a0 Z = true) (eT : T.heap = h) (Iy : Ins Z h a K true) (hn : pc + 3 = pc')
    (hr : ∀ T', Stand p l e R s m args below meth c T' locs cells slots → T'.heap = h → Go p.tables e below G (T'.setTop (mkF m pc' Ls (.ref a :: st)))) : Go p.tables e below G (T.setTop (mkF m pc Ls (.ref a :: st))) := by
  subst hn
  obtain ⟨T', X', e', st'⟩ := castY X C.1 C.hZ C.hown w eT Iy (g := mkF m pc Ls (.ref a :: st)) rfl rfl (hb C.2.1 hd)
  exact (hr T' X' e').step st'
theorem own_cast {tb : Tables} {S S' : State} (q : S = S') (g : Go tb e below G S') : Go tb e below G S := q ▸ g
theorem own_nface {K : String} {y z z' : MethodName} (w : (Jvm.Cond.selects K z z').before a0 Z = true) (hz : z = z') (hc : z.cls = y.cls) (hZ : Z.Warmed39 s.vm) : NotFace s y := fun r0 h0 => by
  subst hz
  have n1 : NotFace s z := notFace_of_selects (args := #[]) (mvT hZ w)
  obtain ⟨c2, r2, m2, q1, q2, q3, q4, kP, hkP, hkPi⟩ := Cond.selects_spec (mvT (args := #[]) hZ w)
  have e1 := findClass_of_methodNamed h0
  have e2 := findClass_of_methodNamed q3
  rw [hc] at e2
  have e3 : r0.cls = m2.cls := Option.some.inj (e1.symm.trans e2)
  obtain ⟨kr, hk, hi⟩ := n1 _ q3
  exact ⟨kr, by rw [e3]; exact hk, hi⟩
theorem own_same {y : MethodName} (wi : (Jvm.Cond.instanceMethod y).before a0 Z = true) (nf : NotFace Z y) (hy : y.cls ≠ "java/lang/invoke/MethodHandle" ∧ y.cls ≠ "java/lang/invoke/VarHandle") : (Jvm.Cond.sameMethod y.cls y.cls y.name y.desc).before a0 Z = true := by
  obtain ⟨mk, meth, hn, -⟩ := Cond.instanceMethod_spec wi
  have hf := State.methodFound?_of_named hn hy
  have hc := findClass_of_methodNamed hn
  obtain ⟨kr, hk, hi⟩ := nf _ hn
  simp [Cond.before, Cond.holds, Cond.value, hc, hf, show Z.methodNamed? ⟨y.cls, y.name, y.desc⟩ = some mk from hn, hk, hi]
theorem g_callU (C : Cx p s m meth c bs mx own mnm rt Z) (X : Stand p l e R s m args below meth c T locs cells slots) {rm : Room} {as' : Array Value} {Q : Option Value → Heap → List Loc → Prop} {ml : Nat} {yb : ByteArray} {yr : Option FieldType} {ce sl W : Nat} {argsL : List Value} {ps : List FieldType} {pr : Option FieldType} {K : String} {y : MethodName} {i : Nat} {b : Addr} (hd : decode bs pc = .ok (.invokespecial i, 3)) (w1 : (Jvm.Cond.methodLink own i y).before a0 Z = true) (w2 : (Jvm.Cond.instanceMethod y).before a0 Z = true) (nf : NotFace Z y) (w4 : (Jvm.Cond.superclass own y.cls).before a0 Z = true) (hy0 : y.name ≠ "<init>") (w5 : (Jvm.Cond.initialized y.cls).before a0 Z = true) (w6 : (Jvm.Cond.code y yb ml yr).before a0 Z = true) (hy : y.cls ≠ "java/lang/invoke/MethodHandle" ∧ y.cls ≠ "java/lang/invoke/VarHandle")
    (hM : MetFree l y (head1 [Jvm.Cond.code y yb ml yr] rm) (fun a U => a = as' ∧ Z.Warmed39 U.vm ∧ U.heap = h) (fun _ _ _ _ _ => True) (fun _ U o U' => ∃ v L, o = .returned v ∧ Q v U'.heap L ∧ FrameEnd U o U' L rm.cells rm.slots)) (hf : rm.frames + 1 ≤ R.frames) (hlo : W + (ml + 11) + rm.locals ≤ R.locals) (hce : cells + rm.cells = ce) (hsl : slots + rm.slots = sl) (hce' : ce ≤ R.cells) (hsl' : sl ≤ R.slots) (has : (.ref b :: argsL).toArray = as') (E : Exa Z h b K) (eT : T.heap = h) (hsz : Ls.size = mx) (hpd : parseMethodDescriptor y.desc = some ⟨ps, pr⟩) (hln : argsL.length = ps.length) (hW : (st.map fun v => v.category).sum ≤ W) (hn : pc + 3 = pc')
    (hr : ∀ v T' L, Stand p l e R s m args below meth c T' (locs ++ L) ce sl → Q v T'.heap L → Go p.tables e below G (T'.setTop (mkF m pc' Ls (v.toList ++ st)))) : Go p.tables e below G (T.setTop (mkF m pc Ls (argsL.reverse ++ .ref b :: st))) := by
  subst hn hce hsl has
  obtain ⟨v, vm1, ⟨T', L', k', n'⟩, -, X', ⟨Lc, hQ, l', y', z'⟩, st'⟩ := Jvm.RoadKit.superBack X C.1 C.hZ (y := y) C.hown w1 (own_same w2 nf hy) w2 w4 hy0 (backOf (W := W) hM C.hZ w6 w5 hf hlo) eT (Ins.self E) (g := mkF m pc Ls (argsL.reverse ++ .ref b :: st)) rfl (hsz.trans C.2.2.1.symm) w6 (argsL := argsL) (rest := st) (lenOf hpd hln) rfl (by show 2 * 0 + _ ≤ _; omega) (hb C.2.1 hd) (fun _ _ => ⟨rfl, eT, hce', hsl'⟩)
  dsimp only [Pt.U, Pt.locs, Pt.cells, Pt.slots] at X' l' y' z' st' hQ
  subst l' y' z'
  exact (hr v T' Lc X' hQ).step fun t k => st'.trans k
theorem g_newPE (C : Cx p s m meth c bs mx own mnm rt Z) (X : Stand p l e R s m args below meth c T locs cells slots) {aty : ArrayType} {n : Int32} {cap ce sl : Nat} {ad : String} (had : "[" ++ (newarray.typeOf aty).toString = ad) (hd : decode bs pc = .ok (.newarray aty, 2)) (w : (Jvm.Cond.arrayClass (newarray.typeOf aty)).before a0 Z = true) (eT : T.heap = h) (hn0 : ¬ n < 0) (hcap : n.toNatClampNeg ≤ cap) (hb8 : cap * 8 ≤ 536870912) (hce : cells + 1 = ce) (hsl : slots + cap = sl) (hce' : ce ≤ R.cells) (hsl' : sl ≤ R.slots) (hn : pc + 2 = pc')
    (hr : ∀ T' h' b k, b = h.size → Stand p l e R s m args below meth c T' locs ce sl → T'.heap = h' → Ext h h' → Arv Z h' b k (newarray.typeOf aty) n [] (defaultValue (newarray.typeOf aty)) → Exa Z h' b ad → Go p.tables e below G (T'.setTop (mkF m pc' Ls (.ref b :: st)))) : Go p.tables e below G (T.setTop (mkF m pc Ls (.int n :: st))) := by
  subst hn hce hsl
  obtain ⟨T', h', k', X', e', E', A', Ex', st'⟩ := newPE X C.1 C.hZ w eT (g := mkF m pc Ls (.int n :: st)) rfl (hb C.2.1 hd) rfl hn0 hcap hb8 hce' hsl' had
  exact (hr T' h' _ k' rfl X' e' E' (Arv.new A' hn0) Ex').step st'
theorem g_callQ (C : Cx p s m meth c bs mx own mnm rt Z) (X : Stand p l e R s m args below meth c T locs cells slots) {rm : Room} {as' : Array Value} {Q : Option Value → Heap → List Loc → Prop} {ml : Nat} {yb : ByteArray} {yr : Option FieldType} {ce sl W : Nat} {argsL : List Value} {ps : List FieldType} {pr : Option FieldType} {y : MethodName} {i : Nat} {b : Addr} {K : String} (hd : decode bs pc = .ok (.invokevirtual i, 3)) (w1 : (Jvm.Cond.methodLink own i y).before a0 Z = true) (w2 : (Jvm.Cond.instanceMethod y).before a0 Z = true) (w3 : (Jvm.Cond.privateMethod y).before a0 Z = true) (w5 : (Jvm.Cond.initialized y.cls).before a0 Z = true) (w6 : (Jvm.Cond.selects K y y).before a0 Z = true) (w4 : (Jvm.Cond.code y yb ml yr).before a0 Z = true) (hy : y.cls ≠ "java/lang/invoke/MethodHandle" ∧ y.cls ≠ "java/lang/invoke/VarHandle")
    (hM : MetFree l y (head1 [Jvm.Cond.code y yb ml yr] rm) (fun a U => a = as' ∧ Z.Warmed39 U.vm ∧ U.heap = h) (fun _ _ _ _ _ => True) (fun _ U o U' => ∃ v L, o = .returned v ∧ Q v U'.heap L ∧ FrameEnd U o U' L rm.cells rm.slots)) (hf : rm.frames + 1 ≤ R.frames) (hlo : W + (ml + 11) + rm.locals ≤ R.locals) (hce : cells + rm.cells = ce) (hsl : slots + rm.slots = sl) (hce' : ce ≤ R.cells) (hsl' : sl ≤ R.slots) (has : (.ref b :: argsL).toArray = as') (E : Exa Z h b K) (eT : T.heap = h) (hsz : Ls.size = mx) (hpd : parseMethodDescriptor y.desc = some ⟨ps, pr⟩) (hln : argsL.length = ps.length) (hW : (st.map fun v => v.category).sum ≤ W) (hn : pc + 3 = pc')
    (hr : ∀ v T' L, Stand p l e R s m args below meth c T' (locs ++ L) ce sl → Q v T'.heap L → Go p.tables e below G (T'.setTop (mkF m pc' Ls (v.toList ++ st)))) : Go p.tables e below G (T.setTop (mkF m pc Ls (argsL.reverse ++ .ref b :: st))) := by
  subst hn hce hsl has
  obtain ⟨cq, q1, q2⟩ := E.cell
  have hpr : s.PrivateAt y := Cond.privateMethod_at (mvP C.hZ w3 (args := #[]))
  have hsel : (Jvm.Cond.selects y.cls y y).before args s = true := by
    obtain ⟨mk, methM, hn2, -⟩ := Cond.instanceMethod_spec (mvT C.hZ w2 (args := args))
    obtain ⟨kr, hk2, hi2⟩ := notFace_of_selects (args := args) (mvT C.hZ w6) _ hn2
    exact selects_self_of_private (findClass_of_methodNamed hn2) hk2 hi2 hpr (mvT C.hZ w2) hy
  obtain ⟨v, vm1, ⟨T', L', k', n'⟩, -, X', ⟨Lc, hQ, l', y', z'⟩, st'⟩ := X.privateBack C.1 (y := y) C.hown (mvT C.hZ w1) (mvT C.hZ w2) hsel hpr (mvT C.hZ w4) hy (backOf (W := W) hM C.hZ w4 w5 hf hlo) (g := mkF m pc Ls (argsL.reverse ++ .ref b :: st)) rfl (hsz.trans C.2.2.1.symm) (Steps.refl _) (a := b) (by rw [eT]; exact q1) q2 (argsL := argsL) (rest := st) (lenOf hpd hln) rfl (by show 2 * 0 + _ ≤ _; omega) (hb C.2.1 hd) (fun _ _ => ⟨rfl, eT, hce', hsl'⟩)
  dsimp only [Pt.U, Pt.locs, Pt.cells, Pt.slots] at X' l' y' z' st' hQ
  subst l' y' z'
  exact (hr v T' Lc X' hQ).step fun t k => st'.trans k
/-- the end of a body that may intern -/
def EndW (s : State) (Q : Option Value → Heap → List Loc → Prop) (ce sl : Nat) (o : Outcome) (U' : State) : Prop := ∃ v L, o = .returned v ∧ Q v U'.heap L ∧ ReturnedEndW s o U' L ce sl
theorem met_ofW {y : MethodName} {ws : List Jvm.Cond} {rm : Room} {as' : Array Value} {Q : Option Value → Heap → List Loc → Prop} {ce sl : Nat} {Px : State → Prop} (hpn : plainFor y = true) (hef : ∀ m, entryFrame m as' mx = mkF m 0 Ls [])
    (hbody : ∀ (p : Program) (e : Env) (s : State) (m : MethodId) (below : List Frame) (meth : Method) (c : Code) (T : State), Px s → Cx p (s.setVm s.vm) m meth c bs mx y.cls y.name rt Z → Stand p l e rm (s.setVm s.vm) m as' below meth c T [] 0 0 → s.Since s.vm 0 → T.heap = h → Go p.tables e below (EndW s Q ce sl) (T.setTop (mkF m 0 Ls []))) :
    MetFree l y (head1 (Jvm.Cond.code y bs mx rt :: ws) rm) (fun a U => a = as' ∧ Z.Warmed39 U.vm ∧ U.heap = h ∧ Px U) (fun _ _ _ _ _ => True) (fun _ U o U' => ∃ v L, o = .returned v ∧ Q v U'.heap L ∧ ReturnedEndW U o U' L ce sl) := by
  refine MetFree.of_bodySF hpn hisR ?_
  intro p e s m args below meth c s₁ Bd hml0 hP hK
  obtain ⟨rfl, hZ, hh, hpx⟩ := hP
  have X0 : Stand p l e rm s m _ below meth c s₁ [] 0 0 := Stand.of_body Bd
  have e0 : s₁.heap = h := by rw [← hh, Bd.state]; rfl
  obtain ⟨s₂, o, h1, h2, h3, h4⟩ := hbody p e s m below meth c s₁ hpx ⟨Bd.exec, Bd.bytes, hml0, findClass_of_methodNamed Bd.named, (name_of_methodNamed Bd.named Bd.method).1, Bd.returns, Bd.notSynchronized, hZ⟩ X0 ((State.WarmedH.refl s).since 0) e0
  exact ⟨s₂, o, castTop (hef m) h1, h2, h3, h4⟩
theorem met_ofW0 {y : MethodName} {ws : List Jvm.Cond} {rm : Room} {as' : Array Value} {Q : Option Value → Heap → List Loc → Prop} {ce sl : Nat} (hpn : plainFor y = true) (hef : ∀ m, entryFrame m as' mx = mkF m 0 Ls [])
    (hbody : ∀ (p : Program) (e : Env) (s : State) (m : MethodId) (below : List Frame) (meth : Method) (c : Code) (T : State), Cx p (s.setVm s.vm) m meth c bs mx y.cls y.name rt Z → Stand p l e rm (s.setVm s.vm) m as' below meth c T [] 0 0 → s.Since s.vm 0 → T.heap = h → Go p.tables e below (EndW s Q ce sl) (T.setTop (mkF m 0 Ls []))) :
    MetFree l y (head1 (Jvm.Cond.code y bs mx rt :: ws) rm) (fun a U => a = as' ∧ Z.Warmed39 U.vm ∧ U.heap = h) (fun _ _ _ _ _ => True) (fun _ U o U' => ∃ v L, o = .returned v ∧ Q v U'.heap L ∧ ReturnedEndW U o U' L ce sl) := by
  refine MetFree.of_bodySF hpn hisR ?_
  intro p e s m args below meth c s₁ Bd hml0 hP hK
  obtain ⟨rfl, hZ, hh⟩ := hP
  have X0 : Stand p l e rm s m _ below meth c s₁ [] 0 0 := Stand.of_body Bd
  have e0 : s₁.heap = h := by rw [← hh, Bd.state]; rfl
  obtain ⟨s₂, o, h1, h2, h3, h4⟩ := hbody p e s m below meth c s₁ ⟨Bd.exec, Bd.bytes, hml0, findClass_of_methodNamed Bd.named, (name_of_methodNamed Bd.named Bd.method).1, Bd.returns, Bd.notSynchronized, hZ⟩ X0 ((State.WarmedH.refl s).since 0) e0
  exact ⟨s₂, o, castTop (hef m) h1, h2, h3, h4⟩
theorem Cx.reb {s' : State} (C : Cx p s m meth c bs mx own mnm rt Z) (hZ : Z.Warmed39 s'.vm) (ho : s'.vm.findClass own = some m.cls) : Cx p s' m meth c bs mx own mnm rt Z := ⟨C.1, C.2.1, C.2.2.1, ho, C.nm, C.ret, C.locks, hZ⟩
theorem own_backH {y : MethodName} {yb : ByteArray} {ml : Nat} {yr : Option FieldType} {rm : Room} {len W : Nat} {as' : Array Value} {Q : Option Value → Heap → List Loc → Prop} {EL : List (String × Nat)} {vm0 : Vm}
    (hM : MetFree l y (head1 [Jvm.Cond.code y yb ml yr] rm) (fun a U => a = as' ∧ Z.Warmed39 U.vm ∧ U.heap = h ∧ CHv Z EL U.vm h) (fun _ _ _ _ _ => True) (fun _ U o U' => ∃ v L, o = .returned v ∧ Q v U'.heap L ∧ ReturnedEndW U o U' L rm.cells rm.slots))
    (hZ : Z.Warmed39 vm0) (wc : (Jvm.Cond.code y yb ml yr).before a0 Z = true) (wz : (Jvm.Cond.initialized y.cls).before a0 Z = true) (hf : rm.frames + 1 ≤ R.frames) (hl : W + (ml + 11) + rm.locals ≤ R.locals) (hEL : EW Z a0 EL) (H : CHv Z EL vm0 h) :
    BackS l R p e below (s.setVm vm0) args y len W (fun A a => a = as' ∧ A.U.heap = h ∧ A.cells + rm.cells ≤ R.cells ∧ A.slots + rm.slots ≤ R.slots)
      (fun A _ v B => ∃ L, Q v B.U.heap L ∧ B.locs = A.locs ++ L ∧ B.cells = A.cells + rm.cells ∧ B.slots = A.slots + rm.slots) := by
  refine BackS.of_freeW (bytes := yb) (maxL := ml) (ret := yr) (E := fun _ _ o t L k n => k = rm.cells ∧ n = rm.slots ∧ ∃ v, o = .returned v ∧ Q v t.heap L) hM hf hl (fun m meth c A a Y hp => ?_) (fun m meth c A a g mk Y hp => ?_) (fun _ _ _ _ _ _ _ _ _ => trivial) ?_ ?_
  · have hU : Z.Warmed39 A.U.vm := wtrans (s := s.setVm vm0) hZ Y.warmed
    exact ⟨by show (Jvm.Cond.and _ .tt).before a A.U = true; rw [Cond.before_and, mv hU wc]; rfl, mv hU wc, mv hU wz, hp.2.2.1, hp.2.2.2⟩
  · exact ⟨hp.1, wtrans (s := s.setVm vm0) hZ Y.warmed, hp.2.1, (CHv.at Y hZ hEL H).1⟩
  · rintro a first o t ⟨v, L, h1, h2, h3⟩
    exact ⟨L, _, _, h3, rfl, rfl, v, h1, h2⟩
  · rintro m meth c A a g mk v t L k n Y hp - - ⟨e1, e2, v', e3, e4⟩
    cases e3; subst e1 e2
    exact ⟨L, e4, rfl, rfl, rfl⟩
theorem g_callIH {vm0 : Vm} {k0 : Nat} (C : Cx p (s.setVm vm0) m meth c bs mx own mnm rt Z) (X : Stand p l e R (s.setVm vm0) m args below meth c T locs cells slots) (hS : s.Since vm0 k0) (hk : k0 ≤ h.size) {EL : List (String × Nat)} (hEL : EW Z a0 EL) (Hc : CHv Z EL vm0 h) {rm : Room} {as' : Array Value} {Q : Option Value → Heap → List Loc → Prop} {ml : Nat} {yb : ByteArray} {ce sl W : Nat} {argsL : List Value} {ps : List FieldType} {pr : Option FieldType} {y : MethodName} {i : Nat} {b : Addr} (hy1 : y.name = "<init>") (hd : decode bs pc = .ok (.invokespecial i, 3)) (w1 : (Jvm.Cond.methodLink own i y).before a0 Z = true) (w2 : (Jvm.Cond.instanceMethod y).before a0 Z = true) (w3 : (Jvm.Cond.initialized y.cls).before a0 Z = true) (w4 : (Jvm.Cond.code y yb ml none).before a0 Z = true) (hy : y.cls ≠ "java/lang/invoke/MethodHandle" ∧ y.cls ≠ "java/lang/invoke/VarHandle")
    (hM : MetFree l y (head1 [Jvm.Cond.code y yb ml none] rm) (fun a U => a = as' ∧ Z.Warmed39 U.vm ∧ U.heap = h ∧ CHv Z EL U.vm h) (fun _ _ _ _ _ => True) (fun _ U o U' => ∃ v L, o = .returned v ∧ Q v U'.heap L ∧ ReturnedEndW U o U' L rm.cells rm.slots)) (hf : rm.frames + 1 ≤ R.frames) (hlo : W + (ml + 11) + rm.locals ≤ R.locals) (hce : cells + rm.cells = ce) (hsl : slots + rm.slots = sl) (hce' : ce ≤ R.cells) (hsl' : sl ≤ R.slots) (has : (.ref b :: argsL).toArray = as') (eT : T.heap = h) (hsz : Ls.size = mx) (hpd : parseMethodDescriptor y.desc = some ⟨ps, pr⟩) (hln : argsL.length = ps.length) (hW : (st.map fun v => v.category).sum ≤ W) (hn : pc + 3 = pc')
    (hr : ∀ v T' L, Cx p (s.setVm T'.vm) m meth c bs mx own mnm rt Z → Stand p l e R (s.setVm T'.vm) m args below meth c T' (locs ++ L) ce sl → s.Since T'.vm T'.heap.size → Q v T'.heap L → Go p.tables e below G (T'.setTop (mkF m pc' Ls (v.toList ++ st)))) : Go p.tables e below G (T.setTop (mkF m pc Ls (argsL.reverse ++ .ref b :: st))) := by
  subst hn hce hsl has
  obtain ⟨v, vm1, ⟨T', L', k', n'⟩, -, X', hS1, hg1, ⟨Lc, hQ, l', y', z'⟩, st'⟩ := X.specialBackS C.1 (y := y) hy1 C.hown (mvT C.hZ w1) (mvT C.hZ w2) (mvT C.hZ w4) hy (own_backH (W := W) hM C.hZ w4 w3 hf hlo hEL Hc) (g := mkF m pc Ls (argsL.reverse ++ .ref b :: st)) rfl (hsz.trans C.2.2.1.symm) (Steps.refl _) (a := b) (argsL := argsL) (rest := st) (lenOf hpd hln) rfl (by show 2 * 0 + _ ≤ _; omega) (hb C.2.1 hd) (fun _ _ => ⟨rfl, eT, hce', hsl'⟩)
  dsimp only [Pt.U, Pt.locs, Pt.cells, Pt.slots] at X' hS1 hg1 l' y' z' st' hQ
  subst l' y' z'
  obtain ⟨X2, S2, hZ2, ho2⟩ := rebS hS (Nat.le_trans hk (Nat.le_of_eq (congrArg Array.size eT).symm)) X' hS1 hg1 C.hZ C.hown
  exact (hr v T' Lc (C.reb hZ2 ho2) X2 S2 hQ).step fun t k => st'.trans k
theorem g_callSH {vm0 : Vm} {k0 : Nat} (C : Cx p (s.setVm vm0) m meth c bs mx own mnm rt Z) (X : Stand p l e R (s.setVm vm0) m args below meth c T locs cells slots) (hS : s.Since vm0 k0) (hk : k0 ≤ h.size) {EL : List (String × Nat)} (hEL : EW Z a0 EL) (Hc : CHv Z EL vm0 h) {rm : Room} {as' : Array Value} {Q : Option Value → Heap → List Loc → Prop} {ml : Nat} {yb : ByteArray} {yr : Option FieldType} {ce sl W : Nat} {argsL : List Value} {ps : List FieldType} {pr : Option FieldType} {y : MethodName} {i : Nat} (hd : decode bs pc = .ok (.invokestatic i, 3)) (w1 : (Jvm.Cond.methodLink own i y).before a0 Z = true) (w2 : (Jvm.Cond.static y).before a0 Z = true) (w3 : (Jvm.Cond.initialized y.cls).before a0 Z = true) (w4 : (Jvm.Cond.code y yb ml yr).before a0 Z = true) (hy : y.cls ≠ "java/lang/invoke/MethodHandle" ∧ y.cls ≠ "java/lang/invoke/VarHandle")
    (hM : MetFree l y (head1 [Jvm.Cond.code y yb ml yr] rm) (fun a U => a = as' ∧ Z.Warmed39 U.vm ∧ U.heap = h ∧ CHv Z EL U.vm h) (fun _ _ _ _ _ => True) (fun _ U o U' => ∃ v L, o = .returned v ∧ Q v U'.heap L ∧ ReturnedEndW U o U' L rm.cells rm.slots)) (hf : rm.frames + 1 ≤ R.frames) (hlo : W + (ml + 11) + rm.locals ≤ R.locals) (hce : cells + rm.cells = ce) (hsl : slots + rm.slots = sl) (hce' : ce ≤ R.cells) (hsl' : sl ≤ R.slots) (has : argsL.toArray = as') (eT : T.heap = h) (hsz : Ls.size = mx) (hpd : parseMethodDescriptor y.desc = some ⟨ps, pr⟩) (hln : argsL.length = ps.length) (hW : (st.map fun v => v.category).sum ≤ W) (hn : pc + 3 = pc')
    (hr : ∀ v T' L, Cx p (s.setVm T'.vm) m meth c bs mx own mnm rt Z → Stand p l e R (s.setVm T'.vm) m args below meth c T' (locs ++ L) ce sl → s.Since T'.vm T'.heap.size → Q v T'.heap L → Go p.tables e below G (T'.setTop (mkF m pc' Ls (v.toList ++ st)))) : Go p.tables e below G (T.setTop (mkF m pc Ls (argsL.reverse ++ st))) := by
  subst hn hce hsl has
  obtain ⟨v, vm1, ⟨T', L', k', n'⟩, -, X', hS1, hg1, ⟨Lc, hQ, l', y', z'⟩, st'⟩ := callSS X C.1 (y := y) C.hown (mvT C.hZ w1) (mvT C.hZ w2) (mvT C.hZ w3) (mvT C.hZ w4) hy (own_backH (W := W) hM C.hZ w4 w3 hf hlo hEL Hc) (g := mkF m pc Ls (argsL.reverse ++ st)) rfl (hsz.trans C.2.2.1.symm) (argsL := argsL) (rest := st) (lenOf hpd hln) rfl (by show 2 * 0 + _ ≤ _; omega) (hb C.2.1 hd) (fun _ _ => ⟨rfl, eT, hce', hsl'⟩)
  dsimp only [Pt.U, Pt.locs, Pt.cells, Pt.slots] at X' hS1 hg1 l' y' z' st' hQ
  subst l' y' z'
  obtain ⟨X2, S2, hZ2, ho2⟩ := rebS hS (Nat.le_trans hk (Nat.le_of_eq (congrArg Array.size eT).symm)) X' hS1 hg1 C.hZ C.hown
  exact (hr v T' Lc (C.reb hZ2 ho2) X2 S2 hQ).step fun t k => st'.trans k
theorem g_ldcH {vm0 : Vm} {k0 : Nat} (C : Cx p (s.setVm vm0) m meth c bs mx own mnm rt Z) (X : Stand p l e R (s.setVm vm0) m args below meth c T locs cells slots) (hS : s.Since vm0 k0) (hk : k0 ≤ h.size) {EL : List (String × Nat)} (hEL : EW Z a0 EL) (Hc : CHv Z EL vm0 h) {i n ce sl : Nat} {text : String} {vs : List Value} {z : Int32} (hmem : (own, i) ∈ EL) (hd : decode bs pc = .ok (.ldc i, 2)) (w : (Jvm.Cond.stringLink own i text).before a0 Z = true) (wS : ∀ a ∈ Bundle.stringAtoms, a.before a0 Z = true) (eT : T.heap = h) (ht : (∀ c ∈ text.toList, c.toNat < 256) ∧ text.toList.map (fun c => Value.int (Jvm.Lit.byteI c.toNat.toUInt16)) = vs) (hz : ¬ z < 0) (hzl : z.toNatClampNeg = vs.length) (hn4 : 4 * text.toList.length ≤ n) (hbig : n ≤ 536870912) (hce : cells + 2 = ce) (hsl : slots + (n + 4) = sl) (hce' : ce ≤ R.cells) (hsl' : sl ≤ R.slots) (hn : pc + 2 = pc')
    (hr : ∀ a T' h' k1 b k, Cx p (s.setVm T'.vm) m meth c bs mx own mnm rt Z → Stand p l e R (s.setVm T'.vm) m args below meth c T' locs ce sl → T'.heap = h' → Ext h h' → s.Since T'.vm k1 → k1 ≤ h'.size → Exa Z h' a "java/lang/String" → Fld Z h' a "java/lang/String" "coder" "B" (.int 0) → Fld Z h' a "java/lang/String" "value" "[B" (.ref b) → Arv Z h' b k .byte z vs (.int 0) → Lit (s.setVm T'.vm) own i a → CHr Z EL vm0 h T'.vm h' → (∀ x, Safe Z EL T'.vm h' x → x ≠ a ∧ x ≠ b) → Go p.tables e below G (T'.setTop (mkF m pc' Ls (.ref a :: st)))) : Go p.tables e below G (T.setTop (mkF m pc Ls st)) := by
  subst hn hce hsl
  obtain ⟨a, T', h', k1, b, k, X', e', E', hS', hk', hZ', ho', A1, A2, A3, A4, -, -, A5, A6, A7, st'⟩ := ldcCH X C.1 C.hZ C.hown w wS eT hS hk hEL hmem Hc ht hz hzl (g := mkF m pc Ls st) rfl (hb C.2.1 hd) hn4 hbig hce' hsl'
  exact (hr a T' h' k1 b k (C.reb hZ' ho') X' e' E' hS' hk' A1 A2 A3 A4 A6 A5 A7).step st'
theorem g_ldcAgain {vm0 : Vm} (C : Cx p (s.setVm vm0) m meth c bs mx own mnm rt Z) (X : Stand p l e R (s.setVm vm0) m args below meth c T locs cells slots) {i : Nat} {text : String} {a : Addr} (hd : decode bs pc = .ok (.ldc i, 2)) (w : (Jvm.Cond.stringLink own i text).before a0 Z = true) (L : Lit (s.setVm vm0) own i a) (hn : pc + 2 = pc')
    (hr : Go p.tables e below G (T.setTop (mkF m pc' Ls (.ref a :: st)))) : Go p.tables e below G (T.setTop (mkF m pc Ls st)) := by
  subst hn
  exact hr.step fun t k => ldcAgain X C.1 C.hZ C.hown w L (g := mkF m pc Ls st) rfl (hb C.2.1 hd) _ k
theorem g_retAW {vm0 : Vm} {k0 : Nat} {t : FieldType} (C : Cx p (s.setVm vm0) m meth c bs mx own mnm (some t) Z) (X : Stand p l e R (s.setVm vm0) m args below meth c T locs cells slots) (hS : s.Since vm0 k0) (hk : k0 ≤ T.heap.size) {Q : Option Value → Heap → List Loc → Prop} {ce sl : Nat} {v : Value} (ht : t.isReference = true) (hnw : narrow t v = v) (hv : v.isRef = true) (hd : decode bs pc = .ok (.areturn, 1)) (hc : cells ≤ ce) (hs : slots ≤ sl) (hQ : Q (some v) T.heap locs) : Go p.tables e below (EndW s Q ce sl) (T.setTop (mkF m pc Ls (v :: st))) := by
  obtain ⟨fs, hr, hrun, hended, q1, q2, q3, q4⟩ := X.leaveW hS hk (v := (some v)) (fun h => by rw [C.ret] at h; cases h) C.locks
  exact ⟨_, _, retOut X C.1 C.ret hnw (Or.inr (Or.inr (Or.inr (Or.inr ⟨rfl, ht, hv⟩)))) (hb C.2.1 hd) hr, hrun, hended, _, _, rfl, hQ, q1, q2, q3, q4.mono hc hs⟩
theorem g_retNW {vm0 : Vm} {k0 : Nat} {t : FieldType} (C : Cx p (s.setVm vm0) m meth c bs mx own mnm (some t) Z) (X : Stand p l e R (s.setVm vm0) m args below meth c T locs cells slots) (hS : s.Since vm0 k0) (hk : k0 ≤ T.heap.size) {Q : Option Value → Heap → List Loc → Prop} {ce sl : Nat} {z : Int32} (ht : t = .boolean ∨ t = .byte ∨ t = .char ∨ t = .short) (hd : decode bs pc = .ok (.ireturn, 1)) (hc : cells ≤ ce) (hs : slots ≤ sl) (hQ : Q (some (.int (nar t z))) T.heap locs) : Go p.tables e below (EndW s Q ce sl) (T.setTop (mkF m pc Ls (.int z :: st))) := by
  obtain ⟨fs, hr, hrun, hended, q1, q2, q3, q4⟩ := X.leaveW hS hk (v := (some (.int (nar t z)))) (fun h => by rw [C.ret] at h; cases h) C.locks
  exact ⟨_, _, retN X C.1 C.ret ht (hb C.2.1 hd) hr, hrun, hended, _, _, rfl, hQ, q1, q2, q3, q4.mono hc hs⟩
theorem g_retVW {vm0 : Vm} {k0 : Nat} (C : Cx p (s.setVm vm0) m meth c bs mx own mnm none Z) (X : Stand p l e R (s.setVm vm0) m args below meth c T locs cells slots) (hS : s.Since vm0 k0) (hk : k0 ≤ T.heap.size) {Q : Option Value → Heap → List Loc → Prop} {ce sl : Nat}  (hd : decode bs pc = .ok (.return_, 1)) (hc : cells ≤ ce) (hs : slots ≤ sl) (hQ : Q none T.heap locs) : Go p.tables e below (EndW s Q ce sl) (T.setTop (mkF m pc Ls [])) := by
  obtain ⟨fs, hr, hrun, hended, q1, q2, q3, q4⟩ := X.leaveW hS hk (v := none) (fun _ => rfl) C.locks
  exact ⟨_, _, X.returnOut C.1 C.ret (hb C.2.1 hd) hr, hrun, hended, _, _, rfl, hQ, q1, q2, q3, q4.mono hc hs⟩
theorem own_lsw {g : JFrame} {target : State} (X : Stand p l e R s m args below meth c T locs cells slots) (hx : p.tables.exec = Jvm.exec) (hg : g.method = m) {dflt : Int} {ps : Array (Int × Int)} {len : Nat} {x : Int32} {rest : List Value} {pc0 pc' : Nat} {o : Int} (hpc : g.pc = pc0) (hd : decode c.code g.pc = .ok (.lookupswitch dflt ps, len)) (hs : g.stack = .int x :: rest) (hord : (ps.toList.zip (ps.toList.drop 1)).all (fun (a, next) => a.1 < next.1) = true) (hoff : lookupswitch.offset ps.toList dflt x.toInt = o) (ho : 0 ≤ (pc0 : Int) + o) (hp : ((pc0 : Int) + o).toNat = pc') (hr : Steps p.tables e below (T.setTop { g with pc := pc', stack := rest }) target) : Steps p.tables e below (T.setTop g) target := by
  subst hg hpc hp hoff
  jvm_step X.here [X.here.top, hx, hd, hs, lookupswitch.wp_chain, ho]
  exact ⟨by simpa using hord, hr⟩
theorem g_lswY (C : Cx p s m meth c bs mx own mnm rt Z) (X : Stand p l e R s m args below meth c T locs cells slots) {dflt : Int} {ps : Array (Int × Int)} {len : Nat} {x k : Int32} {o : Int} (hd : decode bs pc = .ok (.lookupswitch dflt ps, len)) (hord : (ps.toList.zip (ps.toList.drop 1)).all (fun (a, next) => a.1 < next.1) = true) (hx : x = k) (hoff : lookupswitch.offset ps.toList dflt k.toInt = o) (ho : 0 ≤ (pc : Int) + o) (hp : ((pc : Int) + o).toNat = pc')
    (hr : Go p.tables e below G (T.setTop (mkF m pc' Ls st))) : Go p.tables e below G (T.setTop (mkF m pc Ls (.int x :: st))) := by
  subst hx
  exact hr.step fun t k => own_lsw X C.1 rfl rfl (hb C.2.1 hd) rfl hord hoff ho hp k
theorem g_lswN (C : Cx p s m meth c bs mx own mnm rt Z) (X : Stand p l e R s m args below meth c T locs cells slots) {dflt : Int} {ps : Array (Int × Int)} {len : Nat} {x : Int32} (hd : decode bs pc = .ok (.lookupswitch dflt ps, len)) (hord : (ps.toList.zip (ps.toList.drop 1)).all (fun (a, next) => a.1 < next.1) = true) (hoff : lookupswitch.offset ps.toList dflt x.toInt = dflt) (ho : 0 ≤ (pc : Int) + dflt) (hp : ((pc : Int) + dflt).toNat = pc')
    (hr : Go p.tables e below G (T.setTop (mkF m pc' Ls st))) : Go p.tables e below G (T.setTop (mkF m pc Ls (.int x :: st))) := hr.step fun t k => own_lsw X C.1 rfl rfl (hb C.2.1 hd) rfl hord hoff ho hp k
end OwnKit
theorem wq {a0 : Array Value} {Z : State} (hw : ∀ d ∈ tables_1, d.before a0 Z = true) (i : Nat) {d : Jvm.Cond} (q : tables_1[i]? = some d) : d.before a0 Z = true := hw _ (List.mem_of_getElem? q)
theorem own_neqi {args : Array Value} {s : State} {t : Term} {x v : Int32} (ht : t.eval args s none [] s = some (.int x)) (h : (Jvm.Cond.not (Jvm.Cond.eq t (.int v))).value args s none s [] = some true) : ¬ (x = v) := by
  have q := not_v h
  intro e
  subst e
  simp [Cond.value, Term.eval, ht] at q
theorem own_arv_ne {Z : State} {h : Heap} {a b : Addr} {k k' : ClassId} {ty ty' : FieldType} {n n' : Int32} {vs vs' : List Value} {d d' : Value} (A : Arv Z h a k ty n vs d) (B : Arv Z h b k' ty' n' vs' d') (q : ¬ (n.toNatClampNeg = n'.toNatClampNeg)) : ¬ (a = b) := by
  rintro rfl
  obtain ⟨c, A1, -, S1, -⟩ := A
  obtain ⟨c', B1, -, S2, -⟩ := B
  cases A1.1.symm.trans B1.1
  exact q (S1.symm.trans S2)
theorem own_wS {a0 : Array Value} {Z : State} (hw : ∀ d ∈ tables_1, d.before a0 Z = true) : ∀ a ∈ Bundle.stringAtoms, a.before a0 Z = true := by
  intro a ha
  simp only [Bundle.stringAtoms, Bundle.sN, List.mem_cons, List.not_mem_nil, or_false] at ha
  rcases ha with rfl | rfl | rfl | rfl | rfl | rfl | rfl
  · exact (wq hw 8 rfl)
  · exact (wq hw 7 rfl)
  · exact (wq hw 20 rfl)
  · exact (wq hw 21 rfl)
  · exact (wq hw 22 rfl)
  · exact (wq hw 23 rfl)
  · exact (wq hw 24 rfl)
def own_vl (cs : List Int32) : List Value := cs.map fun x => Value.int x
def own_g (L : List Int32) (j : Int32) : Int32 := L.getD j.toNatClampNeg 0
def own_s (L : List Int32) (j x : Int32) : List Int32 := (L ++ List.replicate (j.toNatClampNeg + 1) 0).set j.toNatClampNeg x
theorem own_vl_getD (L : List Int32) (i : Nat) : (own_vl L).getD i (.int 0) = .int (L.getD i 0) := by
  unfold own_vl; rw [List.getD_eq_getElem?_getD, List.getD_eq_getElem?_getD, List.getElem?_map]; cases L[i]? <;> rfl
theorem own_vl_get (L : List Int32) (j : Int32) : (own_vl L).getD j.toNatClampNeg (.int (0 : Int32)) = .int (own_g L j) := own_vl_getD _ _
theorem own_vl_set (L : List Int32) (j x : Int32) : (own_vl L ++ List.replicate (j.toNatClampNeg + 1) (Value.int 0)).set j.toNatClampNeg (Value.int x) = own_vl (own_s L j x) := by
  unfold own_s own_vl; rw [List.map_set, List.map_append, List.map_replicate]
theorem own_lts {L : List Value} {i : Nat} {v : Value} : i < (L ++ List.replicate (i + 1) v).length := by rw [List.length_append, List.length_replicate]; omega
theorem own_s_getD (L : List Int32) (j x : Int32) (i : Nat) : (own_s L j x).getD i 0 = if i = j.toNatClampNeg then x else L.getD i 0 := by
  unfold own_s
  rw [List.getD_eq_getElem?_getD, List.getD_eq_getElem?_getD, List.getElem?_set]
  by_cases h : j.toNatClampNeg = i
  · subst h; rw [if_pos rfl, if_pos rfl, if_pos (by rw [List.length_append, List.length_replicate]; omega)]; rfl
  · rw [if_neg h, if_neg (Ne.symm h), List.getElem?_append]
    by_cases h2 : i < L.length
    · rw [if_pos h2]
    · rw [if_neg h2, List.getElem?_replicate, List.getElem?_eq_none (Nat.le_of_not_lt h2)]; split <;> rfl
theorem own_pw {Z : State} {h : Heap} {a : Addr} {k : ClassId} {ty : FieldType} {n : Int32} {L L' : List Int32} (F : Arv Z h a k ty n (own_vl L) (.int 0)) (q : ∀ i, L'.getD i 0 = L.getD i 0) : Arv Z h a k ty n (own_vl L') (.int 0) :=
  F.pad fun i => by rw [own_vl_getD, own_vl_getD, q]
def FX (Z : State) (h : Heap) (cs_ : Int32) (fm : Value) : Prop := (Sta Z h "java/lang/String" "COMPACT_STRINGS" "Z" (.int cs_)) ∧ (¬ (cs_ = (0 : Int32))) ∧ (Sta Z h "jdk/internal/util/Preconditions" "SIOOBE_FORMATTER" "Ljava/util/function/BiFunction;" fm) ∧ (fm.category = 1) ∧ (Sta Z h "java/lang/StringUTF16" "$assertionsDisabled" "Z" (.int (1 : Int32))) ∧ (Sta Z h "java/lang/StringUTF16" "HI_BYTE_SHIFT" "I" (.int (0 : Int32))) ∧ (Sta Z h "java/lang/StringUTF16" "LO_BYTE_SHIFT" "I" (.int (8 : Int32)))
theorem FX_ext {Z : State} {h h' : Heap} {cs_ : Int32} {fm : Value} (F : FX Z h cs_ fm) (E : Ext h h') : FX Z h' cs_ fm := ⟨F.1.ext E, F.2.1, F.2.2.1.ext E, F.2.2.2.1, F.2.2.2.2.1.ext E, F.2.2.2.2.2.1.ext E, F.2.2.2.2.2.2.ext E⟩
theorem FX_wr {Z : State} {h h' : Heap} {a : Addr} {sl : Nat} {v : Value} {cs_ : Int32} {fm : Value} (F : FX Z h cs_ fm) (W : Wr h h' a sl v) : FX Z h' cs_ fm := ⟨F.1.wr W, F.2.1, F.2.2.1.wr W, F.2.2.2.1, F.2.2.2.2.1.wr W, F.2.2.2.2.2.1.wr W, F.2.2.2.2.2.2.wr W⟩
theorem FX_keep {Z : State} {h h' : Heap} {ws : List Addr} {cs_ : Int32} {fm : Value} (F : FX Z h cs_ fm) (K : Keep h h' ws) (q : ∀ a ∈ ws, ∃ c : Cell, h[a]? = some c ∧ c.vm.isStatics = false) : FX Z h' cs_ fm := ⟨own_sta_keep F.1 K q, F.2.1, own_sta_keep F.2.2.1 K q, F.2.2.2.1, own_sta_keep F.2.2.2.2.1 K q, own_sta_keep F.2.2.2.2.2.1 K q, own_sta_keep F.2.2.2.2.2.2 K q⟩
theorem d26_0 : decode jdk_41_method_11_code 0 = .ok (.iload_n 0, 1) := by decide +kernel
theorem d26_1 : decode jdk_41_method_11_code 1 = .ok (.ifCond .lt 8, 3) := by decide +kernel
theorem d26_4 : decode jdk_41_method_11_code 4 = .ok (.iload_n 0, 1) := by decide +kernel
theorem d26_5 : decode jdk_41_method_11_code 5 = .ok (.iload_n 1, 1) := by decide +kernel
theorem d26_6 : decode jdk_41_method_11_code 6 = .ok (.if_icmp .lt 10, 3) := by decide +kernel
theorem d26_16 : decode jdk_41_method_11_code 16 = .ok (.iload_n 0, 1) := by decide +kernel
theorem d26_17 : decode jdk_41_method_11_code 17 = .ok (.ireturn, 1) := by decide +kernel
def Fpci (p1 : Int32) : Int32 := p1
theorem Fpci_l0 (p1 : Int32)  : Fpci p1 = p1 := rfl
theorem ef_pci (m : MethodId) (p1 : Int32) (p2 : Int32) (u3 : Value) (hu3 : u3.category = 1) : entryFrame m #[(.int p1), (.int p2), u3] 3 = mkF m 0 #[.val (.int p1), .val (.int p2), .val u3] [] := by cases u3 <;> first | (simp [entryFrame, mkF, argsToLocals, Value.category]; done) | rfl | (simp [Value.category] at hu3; done)
def Q_pci (Z : State) (p1 : Int32) (p2 : Int32) (u3 : Value) (cs_ : Int32) (fm : Value) (h0 : Heap) (n0 : Nat) (v : Option Value) (h : Heap) (L : List Loc) : Prop := v = some (.int (Fpci p1)) ∧ Fr n0 L ∧ h = h0
set_option maxRecDepth 65536 in
set_option maxHeartbeats 40000000 in
theorem rmpci (l : Launch) (Z : State) (a0 : Array Value) (hw : ∀ d ∈ tables_1, d.before a0 Z = true) (ws : List Jvm.Cond) (p1 : Int32) (p2 : Int32) (u3 : Value) (cs_ : Int32) (fm : Value) (h0 : Heap) (n0 : Nat) (hF : FX Z h0 cs_ fm) (hi0 : ¬ (p1 < (0 : Int32))) (hi1 : p1 < p2) (hu3 : u3.category = 1) :
    MetFree l (⟨"jdk/internal/util/Preconditions", "checkIndex", "(IILjava/util/function/BiFunction;)I"⟩ : MethodName) (head1 (Jvm.Cond.code (⟨"jdk/internal/util/Preconditions", "checkIndex", "(IILjava/util/function/BiFunction;)I"⟩ : MethodName) jdk_41_method_11_code 3 (some .int) :: ws) ({ frames := 0, cells := 0, slots := 0, locals := 0 } : Room)) (fun a U => a = #[(.int p1), (.int p2), u3] ∧ Z.Warmed39 U.vm ∧ U.heap = h0) (fun _ _ _ _ _ => True) (fun _ U o U' => ∃ v L, o = .returned v ∧ Q_pci Z p1 p2 u3 cs_ fm h0 n0 v U'.heap L ∧ FrameEnd U o U' L ({ frames := 0, cells := 0, slots := 0, locals := 0 } : Room).cells ({ frames := 0, cells := 0, slots := 0, locals := 0 } : Room).slots) := by
  refine met_of (Ls := #[.val (.int p1), .val (.int p2), .val u3]) (plainFor_of_name (by first | (simp [plainName, overriddenIn]; done) | decide +kernel)) (fun m => ef_pci m p1 p2 u3 hu3) ?_
  intro p e s m below meth c T0 C X0 e0
  obtain ⟨S_cs, hcs, S_fm, hfm, S_ad, S_hi, S_lo⟩ := id hF
  have N0 := Fr.nil n0
  refine g_iloadN (pc' := 1) C X0 d26_0 rfl rfl ?_
  refine g_ifN (pc' := 4) C X0 d26_1 (flt hi0).1 rfl ?_
  refine g_iloadN (pc' := 5) C X0 d26_4 rfl rfl ?_
  refine g_iloadN (pc' := 6) C X0 d26_5 rfl rfl ?_
  refine g_icmpY (pc' := 16) C X0 d26_6 (tlt hi1).1 (by decide) (by decide) ?_
  refine g_iloadN (pc' := 17) C X0 d26_16 rfl rfl ?_
  exact g_retI C X0 d26_17 (by decide) (by decide) ⟨congrArg (fun z => some (Value.int z)) (Fpci_l0 p1 ).symm, N0, e0⟩
theorem d25_0 : decode jdk_42_method_155_code 0 = .ok (.iload_n 0, 1) := by decide +kernel
theorem d25_1 : decode jdk_42_method_155_code 1 = .ok (.iload_n 1, 1) := by decide +kernel
theorem d25_2 : decode jdk_42_method_155_code 2 = .ok (.getstatic 1053, 3) := by decide +kernel
theorem d25_5 : decode jdk_42_method_155_code 5 = .ok (.invokestatic 1059, 3) := by decide +kernel
theorem pd_0 : parseMethodDescriptor "(IILjava/util/function/BiFunction;)I" = some ⟨[.int, .int, (.object "java/util/function/BiFunction")], some .int⟩ := by decide +kernel
theorem d25_8 : decode jdk_42_method_155_code 8 = .ok (.pop, 1) := by decide +kernel
theorem d25_9 : decode jdk_42_method_155_code 9 = .ok (.return_, 1) := by decide +kernel
theorem ef_sci (m : MethodId) (p1 : Int32) (p2 : Int32) : entryFrame m #[(.int p1), (.int p2)] 2 = mkF m 0 #[.val (.int p1), .val (.int p2)] [] := by first | (simp [entryFrame, mkF, argsToLocals, Value.category]; done) | rfl
def Q_sci (Z : State) (p1 : Int32) (p2 : Int32) (cs_ : Int32) (fm : Value) (h0 : Heap) (n0 : Nat) (v : Option Value) (h : Heap) (L : List Loc) : Prop := v = none ∧ Fr n0 L ∧ h = h0
set_option maxRecDepth 65536 in
set_option maxHeartbeats 40000000 in
theorem rmsci (l : Launch) (Z : State) (a0 : Array Value) (hw : ∀ d ∈ tables_1, d.before a0 Z = true) (ws : List Jvm.Cond) (p1 : Int32) (p2 : Int32) (cs_ : Int32) (fm : Value) (h0 : Heap) (n0 : Nat) (hF : FX Z h0 cs_ fm) (hi0 : ¬ (p1 < (0 : Int32))) (hi1 : p1 < p2) :
    MetFree l (⟨"java/lang/String", "checkIndex", "(II)V"⟩ : MethodName) (head1 (Jvm.Cond.code (⟨"java/lang/String", "checkIndex", "(II)V"⟩ : MethodName) jdk_42_method_155_code 2 none :: ws) ({ frames := 1, cells := 0, slots := 0, locals := 14 } : Room)) (fun a U => a = #[(.int p1), (.int p2)] ∧ Z.Warmed39 U.vm ∧ U.heap = h0) (fun _ _ _ _ _ => True) (fun _ U o U' => ∃ v L, o = .returned v ∧ Q_sci Z p1 p2 cs_ fm h0 n0 v U'.heap L ∧ FrameEnd U o U' L ({ frames := 1, cells := 0, slots := 0, locals := 14 } : Room).cells ({ frames := 1, cells := 0, slots := 0, locals := 14 } : Room).slots) := by
  refine met_of (Ls := #[.val (.int p1), .val (.int p2)]) (plainFor_of_name (by first | (simp [plainName, overriddenIn]; done) | decide +kernel)) (fun m => ef_sci m p1 p2) ?_
  intro p e s m below meth c T0 C X0 e0
  obtain ⟨S_cs, hcs, S_fm, hfm, S_ad, S_hi, S_lo⟩ := id hF
  have N0 := Fr.nil n0
  refine g_iloadN (pc' := 1) C X0 d25_0 rfl rfl ?_
  refine g_iloadN (pc' := 2) C X0 d25_1 rfl rfl ?_
  refine g_getS (pc' := 5) C X0 d25_2 (host := "") (Or.inl (wq hw 137 rfl)) Via.refl e0 S_fm rfl (fun T1 X1 e1 => ?_)
  refine g_callS (y := (⟨"jdk/internal/util/Preconditions", "checkIndex", "(IILjava/util/function/BiFunction;)I"⟩ : MethodName)) (argsL := [(.int p1), (.int p2), fm]) (st := []) (pc' := 8) C X1 d25_5 (wq hw 139 rfl) (wq hw 140 rfl) (wq hw 138 rfl) (wq hw 141 rfl) (by decide) (rmpci l Z a0 hw [] p1 p2 fm cs_ fm h0 n0 hF hi0 hi1 hfm) (W := 0) (by decide) (by decide) (ce := 0) (sl := 0) rfl rfl (by decide) (by decide) rfl e1 rfl pd_0 rfl (Nat.le_refl _) rfl (fun rv2 T2 L2 X2 Q2 => ?_)
  obtain ⟨q2, Nq2, e2⟩ := Q2
  have N2 := Fr.app N0 Nq2
  subst q2
  show Go p.tables e below _ (T2.setTop (mkF m 8 #[.val (.int p1), .val (.int p2)] [(.int (Fpci p1))]))
  refine g_pop (pc' := 9) C X2 d25_8 rfl rfl ?_
  exact g_retV C X2 d25_9 (by decide) (by decide) ⟨rfl, N2, e2⟩
theorem d24_0 : decode jdk_43_method_2_code 0 = .ok (.iload_n 1, 1) := by decide +kernel
theorem d24_1 : decode jdk_43_method_2_code 1 = .ok (.aload_n 0, 1) := by decide +kernel
theorem d24_2 : decode jdk_43_method_2_code 2 = .ok (.arraylength, 1) := by decide +kernel
theorem d24_3 : decode jdk_43_method_2_code 3 = .ok (.invokestatic 9, 3) := by decide +kernel
theorem pd_1 : parseMethodDescriptor "(II)V" = some ⟨[.int, .int], none⟩ := by decide +kernel
theorem d24_6 : decode jdk_43_method_2_code 6 = .ok (.aload_n 0, 1) := by decide +kernel
theorem d24_7 : decode jdk_43_method_2_code 7 = .ok (.iload_n 1, 1) := by decide +kernel
theorem d24_8 : decode jdk_43_method_2_code 8 = .ok (.baload, 1) := by decide +kernel
theorem d24_9 : decode jdk_43_method_2_code 9 = .ok (.sipush 255, 3) := by decide +kernel
theorem d24_12 : decode jdk_43_method_2_code 12 = .ok (.iand, 1) := by decide +kernel
theorem d24_13 : decode jdk_43_method_2_code 13 = .ok (.i2c, 1) := by decide +kernel
theorem d24_14 : decode jdk_43_method_2_code 14 = .ok (.ireturn, 1) := by decide +kernel
def Flca (p2 : Int32) (lx : List Int32) : Int32 := (nar .char ((own_g lx p2) &&& (255 : Int32)).toUInt32.toUInt16.toUInt32.toInt32)
theorem Flca_l0 (p2 : Int32) (lx : List Int32)  : Flca p2 lx = (nar .char ((own_g lx p2) &&& (255 : Int32)).toUInt32.toUInt16.toUInt32.toInt32) := rfl
theorem ef_lca (m : MethodId) (a1 : Addr) (p2 : Int32) : entryFrame m #[(.ref a1), (.int p2)] 2 = mkF m 0 #[.val (.ref a1), .val (.int p2)] [] := by first | (simp [entryFrame, mkF, argsToLocals, Value.category]; done) | rfl
def Q_lca (Z : State) (a1 : Addr) (p2 : Int32) (k1 : ClassId) (z1 : Int32) (lx : List Int32) (cs_ : Int32) (fm : Value) (h0 : Heap) (n0 : Nat) (v : Option Value) (h : Heap) (L : List Loc) : Prop := v = some (.int (Flca p2 lx)) ∧ Fr n0 L ∧ h = h0
set_option maxRecDepth 65536 in
set_option maxHeartbeats 40000000 in
theorem rmlca (l : Launch) (Z : State) (a0 : Array Value) (hw : ∀ d ∈ tables_1, d.before a0 Z = true) (ws : List Jvm.Cond) (a1 : Addr) (p2 : Int32) (k1 : ClassId) (z1 : Int32) (lx : List Int32) (cs_ : Int32) (fm : Value) (h0 : Heap) (n0 : Nat) (hF : FX Z h0 cs_ fm) (V_b : Arv Z h0 a1 k1 .byte z1 (own_vl lx) (.int (0 : Int32))) (hi0 : ¬ (p2 < (0 : Int32))) (hi1 : p2 < z1) :
    MetFree l (⟨"java/lang/StringLatin1", "charAt", "([BI)C"⟩ : MethodName) (head1 (Jvm.Cond.code (⟨"java/lang/StringLatin1", "charAt", "([BI)C"⟩ : MethodName) jdk_43_method_2_code 2 (some .char) :: ws) ({ frames := 2, cells := 0, slots := 0, locals := 27 } : Room)) (fun a U => a = #[(.ref a1), (.int p2)] ∧ Z.Warmed39 U.vm ∧ U.heap = h0) (fun _ _ _ _ _ => True) (fun _ U o U' => ∃ v L, o = .returned v ∧ Q_lca Z a1 p2 k1 z1 lx cs_ fm h0 n0 v U'.heap L ∧ FrameEnd U o U' L ({ frames := 2, cells := 0, slots := 0, locals := 27 } : Room).cells ({ frames := 2, cells := 0, slots := 0, locals := 27 } : Room).slots) := by
  refine met_of (Ls := #[.val (.ref a1), .val (.int p2)]) (plainFor_of_name (by first | (simp [plainName, overriddenIn]; done) | decide +kernel)) (fun m => ef_lca m a1 p2) ?_
  intro p e s m below meth c T0 C X0 e0
  obtain ⟨S_cs, hcs, S_fm, hfm, S_ad, S_hi, S_lo⟩ := id hF
  have N0 := Fr.nil n0
  refine g_iloadN (pc' := 1) C X0 d24_0 rfl rfl ?_
  refine g_aloadN (pc' := 2) C X0 d24_1 rfl rfl rfl ?_
  refine g_len (pc' := 3) C X0 d24_2 e0 V_b rfl ?_
  refine g_callS (y := (⟨"java/lang/String", "checkIndex", "(II)V"⟩ : MethodName)) (argsL := [(.int p2), (.int z1)]) (st := []) (pc' := 6) C X0 d24_3 (wq hw 134 rfl) (wq hw 135 rfl) (wq hw 8 rfl) (wq hw 136 rfl) (by decide) (rmsci l Z a0 hw [] p2 z1 cs_ fm h0 n0 hF hi0 hi1) (W := 0) (by decide) (by decide) (ce := 0) (sl := 0) rfl rfl (by decide) (by decide) rfl e0 rfl pd_1 rfl (Nat.le_refl _) rfl (fun rv1 T1 L1 X1 Q1 => ?_)
  obtain ⟨q1, Nq1, e1⟩ := Q1
  have N1 := Fr.app N0 Nq1
  subst q1
  show Go p.tables e below _ (T1.setTop (mkF m 6 #[.val (.ref a1), .val (.int p2)] []))
  refine g_aloadN (pc' := 7) C X1 d24_6 rfl rfl rfl ?_
  refine g_iloadN (pc' := 8) C X1 d24_7 rfl rfl ?_
  refine g_ldB (pc' := 9) (v := (.int (own_g lx p2))) C X1 d24_8 e1 V_b ⟨hi0, hi1⟩ (own_vl_get _ _) rfl ?_
  refine g_sipush (pc' := 12) (v := (255 : Int32)) C X1 d24_9 rfl rfl ?_
  refine g_iand (pc' := 13) C X1 d24_12 rfl ?_
  refine g_i2c (pc' := 14) C X1 d24_13 rfl ?_
  exact g_retN C X1 (by simp) d24_14 (by decide) (by decide) ⟨congrArg (fun z => some (Value.int z)) (Flca_l0 p2 lx ).symm, N1, e1⟩
theorem d51_0 : decode jdk_52_method_6_code 0 = .ok (.aload_n 0, 1) := by decide +kernel
theorem d51_1 : decode jdk_52_method_6_code 1 = .ok (.arraylength, 1) := by decide +kernel
theorem d51_2 : decode jdk_52_method_6_code 2 = .ok (.iconst 1, 1) := by decide +kernel
theorem d51_3 : decode jdk_52_method_6_code 3 = .ok (.ishr, 1) := by decide +kernel
theorem d51_4 : decode jdk_52_method_6_code 4 = .ok (.ireturn, 1) := by decide +kernel
def Ful (z1 : Int32) : Int32 := (z1 >>> ((1 : Int32) &&& 31))
theorem Ful_l0 (z1 : Int32)  : Ful z1 = (z1 >>> ((1 : Int32) &&& 31)) := rfl
theorem ef_ul (m : MethodId) (a1 : Addr) : entryFrame m #[(.ref a1)] 1 = mkF m 0 #[.val (.ref a1)] [] := by first | (simp [entryFrame, mkF, argsToLocals, Value.category]; done) | rfl
def Q_ul (Z : State) (a1 : Addr) (k1 : ClassId) (z1 : Int32) (lx : List Int32) (cs_ : Int32) (fm : Value) (h0 : Heap) (n0 : Nat) (v : Option Value) (h : Heap) (L : List Loc) : Prop := v = some (.int (Ful z1)) ∧ Fr n0 L ∧ h = h0
set_option maxRecDepth 65536 in
set_option maxHeartbeats 40000000 in
theorem rmul (l : Launch) (Z : State) (a0 : Array Value) (hw : ∀ d ∈ tables_1, d.before a0 Z = true) (ws : List Jvm.Cond) (a1 : Addr) (k1 : ClassId) (z1 : Int32) (lx : List Int32) (cs_ : Int32) (fm : Value) (h0 : Heap) (n0 : Nat) (hF : FX Z h0 cs_ fm) (V_b : Arv Z h0 a1 k1 .byte z1 (own_vl lx) (.int (0 : Int32))) :
    MetFree l (⟨"java/lang/StringUTF16", "length", "([B)I"⟩ : MethodName) (head1 (Jvm.Cond.code (⟨"java/lang/StringUTF16", "length", "([B)I"⟩ : MethodName) jdk_52_method_6_code 1 (some .int) :: ws) ({ frames := 0, cells := 0, slots := 0, locals := 0 } : Room)) (fun a U => a = #[(.ref a1)] ∧ Z.Warmed39 U.vm ∧ U.heap = h0) (fun _ _ _ _ _ => True) (fun _ U o U' => ∃ v L, o = .returned v ∧ Q_ul Z a1 k1 z1 lx cs_ fm h0 n0 v U'.heap L ∧ FrameEnd U o U' L ({ frames := 0, cells := 0, slots := 0, locals := 0 } : Room).cells ({ frames := 0, cells := 0, slots := 0, locals := 0 } : Room).slots) := by
  refine met_of (Ls := #[.val (.ref a1)]) (plainFor_of_name (by first | (simp [plainName, overriddenIn]; done) | decide +kernel)) (fun m => ef_ul m a1) ?_
  intro p e s m below meth c T0 C X0 e0
  obtain ⟨S_cs, hcs, S_fm, hfm, S_ad, S_hi, S_lo⟩ := id hF
  have N0 := Fr.nil n0
  refine g_aloadN (pc' := 1) C X0 d51_0 rfl rfl rfl ?_
  refine g_len (pc' := 2) C X0 d51_1 e0 V_b rfl ?_
  refine g_iconst (pc' := 3) (v := (1 : Int32)) C X0 d51_2 rfl rfl ?_
  refine g_ishr (pc' := 4) C X0 d51_3 rfl ?_
  exact g_retI C X0 d51_4 (by decide) (by decide) ⟨congrArg (fun z => some (Value.int z)) (Ful_l0 z1 ).symm, N0, e0⟩
theorem d50_0 : decode jdk_52_method_91_code 0 = .ok (.iload_n 0, 1) := by decide +kernel
theorem d50_1 : decode jdk_52_method_91_code 1 = .ok (.aload_n 1, 1) := by decide +kernel
theorem d50_2 : decode jdk_52_method_91_code 2 = .ok (.invokestatic 48, 3) := by decide +kernel
theorem pd_2 : parseMethodDescriptor "([B)I" = some ⟨[(.array .byte)], some .int⟩ := by decide +kernel
theorem d50_5 : decode jdk_52_method_91_code 5 = .ok (.invokestatic 414, 3) := by decide +kernel
theorem d50_8 : decode jdk_52_method_91_code 8 = .ok (.return_, 1) := by decide +kernel
theorem ef_uci (m : MethodId) (p1 : Int32) (a2 : Addr) : entryFrame m #[(.int p1), (.ref a2)] 2 = mkF m 0 #[.val (.int p1), .val (.ref a2)] [] := by first | (simp [entryFrame, mkF, argsToLocals, Value.category]; done) | rfl
def Q_uci (Z : State) (p1 : Int32) (a2 : Addr) (k1 : ClassId) (z1 : Int32) (lx : List Int32) (cs_ : Int32) (fm : Value) (h0 : Heap) (n0 : Nat) (v : Option Value) (h : Heap) (L : List Loc) : Prop := v = none ∧ Fr n0 L ∧ h = h0
set_option maxRecDepth 65536 in
set_option maxHeartbeats 40000000 in
theorem rmuci (l : Launch) (Z : State) (a0 : Array Value) (hw : ∀ d ∈ tables_1, d.before a0 Z = true) (ws : List Jvm.Cond) (p1 : Int32) (a2 : Addr) (k1 : ClassId) (z1 : Int32) (lx : List Int32) (cs_ : Int32) (fm : Value) (h0 : Heap) (n0 : Nat) (hF : FX Z h0 cs_ fm) (V_b : Arv Z h0 a2 k1 .byte z1 (own_vl lx) (.int (0 : Int32))) (hi0 : ¬ (p1 < (0 : Int32))) (hi1 : p1 < (z1 >>> ((1 : Int32) &&& 31))) :
    MetFree l (⟨"java/lang/StringUTF16", "checkIndex", "(I[B)V"⟩ : MethodName) (head1 (Jvm.Cond.code (⟨"java/lang/StringUTF16", "checkIndex", "(I[B)V"⟩ : MethodName) jdk_52_method_91_code 2 none :: ws) ({ frames := 2, cells := 0, slots := 0, locals := 27 } : Room)) (fun a U => a = #[(.int p1), (.ref a2)] ∧ Z.Warmed39 U.vm ∧ U.heap = h0) (fun _ _ _ _ _ => True) (fun _ U o U' => ∃ v L, o = .returned v ∧ Q_uci Z p1 a2 k1 z1 lx cs_ fm h0 n0 v U'.heap L ∧ FrameEnd U o U' L ({ frames := 2, cells := 0, slots := 0, locals := 27 } : Room).cells ({ frames := 2, cells := 0, slots := 0, locals := 27 } : Room).slots) := by
  refine met_of (Ls := #[.val (.int p1), .val (.ref a2)]) (plainFor_of_name (by first | (simp [plainName, overriddenIn]; done) | decide +kernel)) (fun m => ef_uci m p1 a2) ?_
  intro p e s m below meth c T0 C X0 e0
  obtain ⟨S_cs, hcs, S_fm, hfm, S_ad, S_hi, S_lo⟩ := id hF
  have N0 := Fr.nil n0
  refine g_iloadN (pc' := 1) C X0 d50_0 rfl rfl ?_
  refine g_aloadN (pc' := 2) C X0 d50_1 rfl rfl rfl ?_
  refine g_callS (y := (⟨"java/lang/StringUTF16", "length", "([B)I"⟩ : MethodName)) (argsL := [(.ref a2)]) (st := [(.int p1)]) (pc' := 5) C X0 d50_2 (wq hw 250 rfl) (wq hw 251 rfl) (wq hw 112 rfl) (wq hw 252 rfl) (by decide) (rmul l Z a0 hw [] a2 k1 z1 lx cs_ fm h0 n0 hF V_b) (W := 1) (by decide) (by decide) (ce := 0) (sl := 0) rfl rfl (by decide) (by decide) rfl e0 rfl pd_2 rfl (Nat.le_refl _) rfl (fun rv1 T1 L1 X1 Q1 => ?_)
  obtain ⟨q1, Nq1, e1⟩ := Q1
  have N1 := Fr.app N0 Nq1
  rw [Ful_l0 z1] at q1
  subst q1
  show Go p.tables e below _ (T1.setTop (mkF m 5 #[.val (.int p1), .val (.ref a2)] [(.int (z1 >>> ((1 : Int32) &&& 31))), (.int p1)]))
  refine g_callS (y := (⟨"java/lang/String", "checkIndex", "(II)V"⟩ : MethodName)) (argsL := [(.int p1), (.int (z1 >>> ((1 : Int32) &&& 31)))]) (st := []) (pc' := 8) C X1 d50_5 (wq hw 253 rfl) (wq hw 135 rfl) (wq hw 8 rfl) (wq hw 136 rfl) (by decide) (rmsci l Z a0 hw [] p1 (z1 >>> ((1 : Int32) &&& 31)) cs_ fm h0 n0 hF hi0 hi1) (W := 0) (by decide) (by decide) (ce := 0) (sl := 0) rfl rfl (by decide) (by decide) rfl e1 rfl pd_1 rfl (Nat.le_refl _) rfl (fun rv2 T2 L2 X2 Q2 => ?_)
  obtain ⟨q2, Nq2, e2⟩ := Q2
  have N2 := Fr.app N1 Nq2
  subst q2
  show Go p.tables e below _ (T2.setTop (mkF m 8 #[.val (.int p1), .val (.ref a2)] []))
  exact g_retV C X2 d50_8 (by decide) (by decide) ⟨rfl, N2, e2⟩
theorem d48_0 : decode jdk_52_method_5_code 0 = .ok (.getstatic 44, 3) := by decide +kernel
theorem d48_3 : decode jdk_52_method_5_code 3 = .ok (.ifCond .ne 25, 3) := by decide +kernel
theorem d48_28 : decode jdk_52_method_5_code 28 = .ok (.iload_n 1, 1) := by decide +kernel
theorem d48_29 : decode jdk_52_method_5_code 29 = .ok (.iconst 1, 1) := by decide +kernel
theorem d48_30 : decode jdk_52_method_5_code 30 = .ok (.ishl, 1) := by decide +kernel
theorem d48_31 : decode jdk_52_method_5_code 31 = .ok (.istore_n 1, 1) := by decide +kernel
theorem d48_32 : decode jdk_52_method_5_code 32 = .ok (.aload_n 0, 1) := by decide +kernel
theorem d48_33 : decode jdk_52_method_5_code 33 = .ok (.iload_n 1, 1) := by decide +kernel
theorem d48_34 : decode jdk_52_method_5_code 34 = .ok (.iinc 1 1, 3) := by decide +kernel
theorem d48_37 : decode jdk_52_method_5_code 37 = .ok (.baload, 1) := by decide +kernel
theorem d48_38 : decode jdk_52_method_5_code 38 = .ok (.sipush 255, 3) := by decide +kernel
theorem d48_41 : decode jdk_52_method_5_code 41 = .ok (.iand, 1) := by decide +kernel
theorem d48_42 : decode jdk_52_method_5_code 42 = .ok (.getstatic 59, 3) := by decide +kernel
theorem d48_45 : decode jdk_52_method_5_code 45 = .ok (.ishl, 1) := by decide +kernel
theorem d48_46 : decode jdk_52_method_5_code 46 = .ok (.aload_n 0, 1) := by decide +kernel
theorem d48_47 : decode jdk_52_method_5_code 47 = .ok (.iload_n 1, 1) := by decide +kernel
theorem d48_48 : decode jdk_52_method_5_code 48 = .ok (.baload, 1) := by decide +kernel
theorem d48_49 : decode jdk_52_method_5_code 49 = .ok (.sipush 255, 3) := by decide +kernel
theorem d48_52 : decode jdk_52_method_5_code 52 = .ok (.iand, 1) := by decide +kernel
theorem d48_53 : decode jdk_52_method_5_code 53 = .ok (.getstatic 63, 3) := by decide +kernel
theorem d48_56 : decode jdk_52_method_5_code 56 = .ok (.ishl, 1) := by decide +kernel
theorem d48_57 : decode jdk_52_method_5_code 57 = .ok (.ior, 1) := by decide +kernel
theorem d48_58 : decode jdk_52_method_5_code 58 = .ok (.i2c, 1) := by decide +kernel
theorem d48_59 : decode jdk_52_method_5_code 59 = .ok (.ireturn, 1) := by decide +kernel
def Fugc (p2 : Int32) (lx : List Int32) : Int32 := (nar .char ((((own_g lx (p2 <<< ((1 : Int32) &&& 31))) &&& (255 : Int32)) <<< ((0 : Int32) &&& 31)) ||| (((own_g lx ((p2 <<< ((1 : Int32) &&& 31)) + (1 : Int32))) &&& (255 : Int32)) <<< ((8 : Int32) &&& 31))).toUInt32.toUInt16.toUInt32.toInt32)
theorem Fugc_l0 (p2 : Int32) (lx : List Int32)  : Fugc p2 lx = (nar .char ((((own_g lx (p2 <<< ((1 : Int32) &&& 31))) &&& (255 : Int32)) <<< ((0 : Int32) &&& 31)) ||| (((own_g lx ((p2 <<< ((1 : Int32) &&& 31)) + (1 : Int32))) &&& (255 : Int32)) <<< ((8 : Int32) &&& 31))).toUInt32.toUInt16.toUInt32.toInt32) := rfl
theorem ef_ugc (m : MethodId) (a1 : Addr) (p2 : Int32) : entryFrame m #[(.ref a1), (.int p2)] 2 = mkF m 0 #[.val (.ref a1), .val (.int p2)] [] := by first | (simp [entryFrame, mkF, argsToLocals, Value.category]; done) | rfl
def Q_ugc (Z : State) (a1 : Addr) (p2 : Int32) (k1 : ClassId) (z1 : Int32) (lx : List Int32) (cs_ : Int32) (fm : Value) (h0 : Heap) (n0 : Nat) (v : Option Value) (h : Heap) (L : List Loc) : Prop := v = some (.int (Fugc p2 lx)) ∧ Fr n0 L ∧ h = h0
set_option maxRecDepth 65536 in
set_option maxHeartbeats 40000000 in
theorem rmugc (l : Launch) (Z : State) (a0 : Array Value) (hw : ∀ d ∈ tables_1, d.before a0 Z = true) (ws : List Jvm.Cond) (a1 : Addr) (p2 : Int32) (k1 : ClassId) (z1 : Int32) (lx : List Int32) (cs_ : Int32) (fm : Value) (h0 : Heap) (n0 : Nat) (hF : FX Z h0 cs_ fm) (V_b : Arv Z h0 a1 k1 .byte z1 (own_vl lx) (.int (0 : Int32))) (hb0 : ¬ ((p2 <<< ((1 : Int32) &&& 31)) < (0 : Int32))) (hb1 : (p2 <<< ((1 : Int32) &&& 31)) < z1) (hb2 : ¬ (((p2 <<< ((1 : Int32) &&& 31)) + (1 : Int32)) < (0 : Int32))) (hb3 : ((p2 <<< ((1 : Int32) &&& 31)) + (1 : Int32)) < z1) :
    MetFree l (⟨"java/lang/StringUTF16", "getChar", "([BI)C"⟩ : MethodName) (head1 (Jvm.Cond.code (⟨"java/lang/StringUTF16", "getChar", "([BI)C"⟩ : MethodName) jdk_52_method_5_code 2 (some .char) :: ws) ({ frames := 0, cells := 0, slots := 0, locals := 0 } : Room)) (fun a U => a = #[(.ref a1), (.int p2)] ∧ Z.Warmed39 U.vm ∧ U.heap = h0) (fun _ _ _ _ _ => True) (fun _ U o U' => ∃ v L, o = .returned v ∧ Q_ugc Z a1 p2 k1 z1 lx cs_ fm h0 n0 v U'.heap L ∧ FrameEnd U o U' L ({ frames := 0, cells := 0, slots := 0, locals := 0 } : Room).cells ({ frames := 0, cells := 0, slots := 0, locals := 0 } : Room).slots) := by
  refine met_of (Ls := #[.val (.ref a1), .val (.int p2)]) (plainFor_of_name (by first | (simp [plainName, overriddenIn]; done) | decide +kernel)) (fun m => ef_ugc m a1 p2) ?_
  intro p e s m below meth c T0 C X0 e0
  obtain ⟨S_cs, hcs, S_fm, hfm, S_ad, S_hi, S_lo⟩ := id hF
  have N0 := Fr.nil n0
  refine g_getS (pc' := 3) C X0 d48_0 (host := "") (Or.inl (wq hw 238 rfl)) Via.refl e0 S_ad rfl (fun T1 X1 e1 => ?_)
  refine g_ifY (pc' := 28) C X1 d48_3 (feq (show ¬ ((1 : Int32) = (0 : Int32)) from (by decide))).2 (by decide) (by decide) ?_
  refine g_iloadN (pc' := 29) C X1 d48_28 rfl rfl ?_
  refine g_iconst (pc' := 30) (v := (1 : Int32)) C X1 d48_29 rfl rfl ?_
  refine g_ishl (pc' := 31) C X1 d48_30 rfl ?_
  refine g_istoreN (pc' := 32) (Ls' := #[.val (.ref a1), .val (.int (p2 <<< ((1 : Int32) &&& 31)))]) C X1 d48_31 rfl rfl ?_
  refine g_aloadN (pc' := 33) C X1 d48_32 rfl rfl rfl ?_
  refine g_iloadN (pc' := 34) C X1 d48_33 rfl rfl ?_
  refine g_iinc (pc' := 37) (Ls' := #[.val (.ref a1), .val (.int ((p2 <<< ((1 : Int32) &&& 31)) + (1 : Int32)))]) C X1 d48_34 rfl rfl rfl ?_
  refine g_ldB (pc' := 38) (v := (.int (own_g lx (p2 <<< ((1 : Int32) &&& 31))))) C X1 d48_37 e1 V_b ⟨hb0, hb1⟩ (own_vl_get _ _) rfl ?_
  refine g_sipush (pc' := 41) (v := (255 : Int32)) C X1 d48_38 rfl rfl ?_
  refine g_iand (pc' := 42) C X1 d48_41 rfl ?_
  refine g_getS (pc' := 45) C X1 d48_42 (host := "") (Or.inl (wq hw 239 rfl)) Via.refl e1 S_hi rfl (fun T2 X2 e2 => ?_)
  refine g_ishl (pc' := 46) C X2 d48_45 rfl ?_
  refine g_aloadN (pc' := 47) C X2 d48_46 rfl rfl rfl ?_
  refine g_iloadN (pc' := 48) C X2 d48_47 rfl rfl ?_
  refine g_ldB (pc' := 49) (v := (.int (own_g lx ((p2 <<< ((1 : Int32) &&& 31)) + (1 : Int32))))) C X2 d48_48 e2 V_b ⟨hb2, hb3⟩ (own_vl_get _ _) rfl ?_
  refine g_sipush (pc' := 52) (v := (255 : Int32)) C X2 d48_49 rfl rfl ?_
  refine g_iand (pc' := 53) C X2 d48_52 rfl ?_
  refine g_getS (pc' := 56) C X2 d48_53 (host := "") (Or.inl (wq hw 240 rfl)) Via.refl e2 S_lo rfl (fun T3 X3 e3 => ?_)
  refine g_ishl (pc' := 57) C X3 d48_56 rfl ?_
  refine g_ior (pc' := 58) C X3 d48_57 rfl ?_
  refine g_i2c (pc' := 59) C X3 d48_58 rfl ?_
  exact g_retN C X3 (by simp) d48_59 (by decide) (by decide) ⟨congrArg (fun z => some (Value.int z)) (Fugc_l0 p2 lx ).symm, N0, e3⟩
theorem d49_0 : decode jdk_52_method_83_code 0 = .ok (.iload_n 1, 1) := by decide +kernel
theorem d49_1 : decode jdk_52_method_83_code 1 = .ok (.aload_n 0, 1) := by decide +kernel
theorem d49_2 : decode jdk_52_method_83_code 2 = .ok (.invokestatic 67, 3) := by decide +kernel
theorem pd_3 : parseMethodDescriptor "(I[B)V" = some ⟨[.int, (.array .byte)], none⟩ := by decide +kernel
theorem d49_5 : decode jdk_52_method_83_code 5 = .ok (.aload_n 0, 1) := by decide +kernel
theorem d49_6 : decode jdk_52_method_83_code 6 = .ok (.iload_n 1, 1) := by decide +kernel
theorem d49_7 : decode jdk_52_method_83_code 7 = .ok (.invokestatic 71, 3) := by decide +kernel
theorem pd_4 : parseMethodDescriptor "([BI)C" = some ⟨[(.array .byte), .int], some .char⟩ := by decide +kernel
theorem d49_10 : decode jdk_52_method_83_code 10 = .ok (.ireturn, 1) := by decide +kernel
def Fuca (p2 : Int32) (lx : List Int32) : Int32 := (nar .char (nar .char ((((own_g lx (p2 <<< ((1 : Int32) &&& 31))) &&& (255 : Int32)) <<< ((0 : Int32) &&& 31)) ||| (((own_g lx ((p2 <<< ((1 : Int32) &&& 31)) + (1 : Int32))) &&& (255 : Int32)) <<< ((8 : Int32) &&& 31))).toUInt32.toUInt16.toUInt32.toInt32))
theorem Fuca_l0 (p2 : Int32) (lx : List Int32)  : Fuca p2 lx = (nar .char (nar .char ((((own_g lx (p2 <<< ((1 : Int32) &&& 31))) &&& (255 : Int32)) <<< ((0 : Int32) &&& 31)) ||| (((own_g lx ((p2 <<< ((1 : Int32) &&& 31)) + (1 : Int32))) &&& (255 : Int32)) <<< ((8 : Int32) &&& 31))).toUInt32.toUInt16.toUInt32.toInt32)) := rfl
theorem ef_uca (m : MethodId) (a1 : Addr) (p2 : Int32) : entryFrame m #[(.ref a1), (.int p2)] 2 = mkF m 0 #[.val (.ref a1), .val (.int p2)] [] := by first | (simp [entryFrame, mkF, argsToLocals, Value.category]; done) | rfl
def Q_uca (Z : State) (a1 : Addr) (p2 : Int32) (k1 : ClassId) (z1 : Int32) (lx : List Int32) (cs_ : Int32) (fm : Value) (h0 : Heap) (n0 : Nat) (v : Option Value) (h : Heap) (L : List Loc) : Prop := v = some (.int (Fuca p2 lx)) ∧ Fr n0 L ∧ h = h0
set_option maxRecDepth 65536 in
set_option maxHeartbeats 40000000 in
theorem rmuca (l : Launch) (Z : State) (a0 : Array Value) (hw : ∀ d ∈ tables_1, d.before a0 Z = true) (ws : List Jvm.Cond) (a1 : Addr) (p2 : Int32) (k1 : ClassId) (z1 : Int32) (lx : List Int32) (cs_ : Int32) (fm : Value) (h0 : Heap) (n0 : Nat) (hF : FX Z h0 cs_ fm) (V_b : Arv Z h0 a1 k1 .byte z1 (own_vl lx) (.int (0 : Int32))) (hb0 : ¬ ((p2 <<< ((1 : Int32) &&& 31)) < (0 : Int32))) (hb1 : (p2 <<< ((1 : Int32) &&& 31)) < z1) (hb2 : ¬ (((p2 <<< ((1 : Int32) &&& 31)) + (1 : Int32)) < (0 : Int32))) (hb3 : ((p2 <<< ((1 : Int32) &&& 31)) + (1 : Int32)) < z1) (hi0 : ¬ (p2 < (0 : Int32))) (hi1 : p2 < (z1 >>> ((1 : Int32) &&& 31))) :
    MetFree l (⟨"java/lang/StringUTF16", "charAt", "([BI)C"⟩ : MethodName) (head1 (Jvm.Cond.code (⟨"java/lang/StringUTF16", "charAt", "([BI)C"⟩ : MethodName) jdk_52_method_83_code 2 (some .char) :: ws) ({ frames := 3, cells := 0, slots := 0, locals := 40 } : Room)) (fun a U => a = #[(.ref a1), (.int p2)] ∧ Z.Warmed39 U.vm ∧ U.heap = h0) (fun _ _ _ _ _ => True) (fun _ U o U' => ∃ v L, o = .returned v ∧ Q_uca Z a1 p2 k1 z1 lx cs_ fm h0 n0 v U'.heap L ∧ FrameEnd U o U' L ({ frames := 3, cells := 0, slots := 0, locals := 40 } : Room).cells ({ frames := 3, cells := 0, slots := 0, locals := 40 } : Room).slots) := by
  refine met_of (Ls := #[.val (.ref a1), .val (.int p2)]) (plainFor_of_name (by first | (simp [plainName, overriddenIn]; done) | decide +kernel)) (fun m => ef_uca m a1 p2) ?_
  intro p e s m below meth c T0 C X0 e0
  obtain ⟨S_cs, hcs, S_fm, hfm, S_ad, S_hi, S_lo⟩ := id hF
  have N0 := Fr.nil n0
  refine g_iloadN (pc' := 1) C X0 d49_0 rfl rfl ?_
  refine g_aloadN (pc' := 2) C X0 d49_1 rfl rfl rfl ?_
  refine g_callS (y := (⟨"java/lang/StringUTF16", "checkIndex", "(I[B)V"⟩ : MethodName)) (argsL := [(.int p2), (.ref a1)]) (st := []) (pc' := 5) C X0 d49_2 (wq hw 247 rfl) (wq hw 248 rfl) (wq hw 112 rfl) (wq hw 249 rfl) (by decide) (rmuci l Z a0 hw [] p2 a1 k1 z1 lx cs_ fm h0 n0 hF V_b hi0 hi1) (W := 0) (by decide) (by decide) (ce := 0) (sl := 0) rfl rfl (by decide) (by decide) rfl e0 rfl pd_3 rfl (Nat.le_refl _) rfl (fun rv1 T1 L1 X1 Q1 => ?_)
  obtain ⟨q1, Nq1, e1⟩ := Q1
  have N1 := Fr.app N0 Nq1
  subst q1
  show Go p.tables e below _ (T1.setTop (mkF m 5 #[.val (.ref a1), .val (.int p2)] []))
  refine g_aloadN (pc' := 6) C X1 d49_5 rfl rfl rfl ?_
  refine g_iloadN (pc' := 7) C X1 d49_6 rfl rfl ?_
  refine g_callS (y := (⟨"java/lang/StringUTF16", "getChar", "([BI)C"⟩ : MethodName)) (argsL := [(.ref a1), (.int p2)]) (st := []) (pc' := 10) C X1 d49_7 (wq hw 241 rfl) (wq hw 242 rfl) (wq hw 112 rfl) (wq hw 243 rfl) (by decide) (rmugc l Z a0 hw [] a1 p2 k1 z1 lx cs_ fm h0 n0 hF V_b hb0 hb1 hb2 hb3) (W := 0) (by decide) (by decide) (ce := 0) (sl := 0) rfl rfl (by decide) (by decide) rfl e1 rfl pd_4 rfl (Nat.le_refl _) rfl (fun rv2 T2 L2 X2 Q2 => ?_)
  obtain ⟨q2, Nq2, e2⟩ := Q2
  have N2 := Fr.app N1 Nq2
  rw [Fugc_l0 p2 lx] at q2
  subst q2
  show Go p.tables e below _ (T2.setTop (mkF m 10 #[.val (.ref a1), .val (.int p2)] [(.int (nar .char ((((own_g lx (p2 <<< ((1 : Int32) &&& 31))) &&& (255 : Int32)) <<< ((0 : Int32) &&& 31)) ||| (((own_g lx ((p2 <<< ((1 : Int32) &&& 31)) + (1 : Int32))) &&& (255 : Int32)) <<< ((8 : Int32) &&& 31))).toUInt32.toUInt16.toUInt32.toInt32))]))
  exact g_retN C X2 (by simp) d49_10 (by decide) (by decide) ⟨congrArg (fun z => some (Value.int z)) (Fuca_l0 p2 lx ).symm, N2, e2⟩
def own_lo (x : Int32) : Int32 := nar .byte (x >>> ((0 : Int32) &&& 31)).toInt8.toInt32
def own_hi (x : Int32) : Int32 := nar .byte (x >>> ((8 : Int32) &&& 31)).toInt8.toInt32
def own_put (L : List Int32) (j x : Int32) : List Int32 := own_s (own_s L (j <<< ((1 : Int32) &&& 31)) (own_lo x)) ((j <<< ((1 : Int32) &&& 31)) + (1 : Int32)) (own_hi x)
theorem d47_0 : decode jdk_52_method_4_code 0 = .ok (.getstatic 44, 3) := by decide +kernel
theorem d47_3 : decode jdk_52_method_4_code 3 = .ok (.ifCond .ne 25, 3) := by decide +kernel
theorem d47_28 : decode jdk_52_method_4_code 28 = .ok (.iload_n 1, 1) := by decide +kernel
theorem d47_29 : decode jdk_52_method_4_code 29 = .ok (.iconst 1, 1) := by decide +kernel
theorem d47_30 : decode jdk_52_method_4_code 30 = .ok (.ishl, 1) := by decide +kernel
theorem d47_31 : decode jdk_52_method_4_code 31 = .ok (.istore_n 1, 1) := by decide +kernel
theorem d47_32 : decode jdk_52_method_4_code 32 = .ok (.aload_n 0, 1) := by decide +kernel
theorem d47_33 : decode jdk_52_method_4_code 33 = .ok (.iload_n 1, 1) := by decide +kernel
theorem d47_34 : decode jdk_52_method_4_code 34 = .ok (.iinc 1 1, 3) := by decide +kernel
theorem d47_37 : decode jdk_52_method_4_code 37 = .ok (.iload_n 2, 1) := by decide +kernel
theorem d47_38 : decode jdk_52_method_4_code 38 = .ok (.getstatic 59, 3) := by decide +kernel
theorem d47_41 : decode jdk_52_method_4_code 41 = .ok (.ishr, 1) := by decide +kernel
theorem d47_42 : decode jdk_52_method_4_code 42 = .ok (.i2b, 1) := by decide +kernel
theorem d47_43 : decode jdk_52_method_4_code 43 = .ok (.bastore, 1) := by decide +kernel
theorem d47_44 : decode jdk_52_method_4_code 44 = .ok (.aload_n 0, 1) := by decide +kernel
theorem d47_45 : decode jdk_52_method_4_code 45 = .ok (.iload_n 1, 1) := by decide +kernel
theorem d47_46 : decode jdk_52_method_4_code 46 = .ok (.iload_n 2, 1) := by decide +kernel
theorem d47_47 : decode jdk_52_method_4_code 47 = .ok (.getstatic 63, 3) := by decide +kernel
theorem d47_50 : decode jdk_52_method_4_code 50 = .ok (.ishr, 1) := by decide +kernel
theorem d47_51 : decode jdk_52_method_4_code 51 = .ok (.i2b, 1) := by decide +kernel
theorem d47_52 : decode jdk_52_method_4_code 52 = .ok (.bastore, 1) := by decide +kernel
theorem d47_53 : decode jdk_52_method_4_code 53 = .ok (.return_, 1) := by decide +kernel
theorem ef_upc (m : MethodId) (a1 : Addr) (p2 : Int32) (p3 : Int32) : entryFrame m #[(.ref a1), (.int p2), (.int p3)] 3 = mkF m 0 #[.val (.ref a1), .val (.int p2), .val (.int p3)] [] := by first | (simp [entryFrame, mkF, argsToLocals, Value.category]; done) | rfl
def Q_upc (Z : State) (a1 : Addr) (p2 : Int32) (p3 : Int32) (k1 : ClassId) (z1 : Int32) (lx : List Int32) (cs_ : Int32) (fm : Value) (h0 : Heap) (n0 : Nat) (vr : Option Value) (h : Heap) (L : List Loc) : Prop := (vr = none) ∧ (Fr n0 L) ∧ (Keep h0 h [a1]) ∧ (Arv Z h a1 k1 .byte z1 (own_vl (own_put lx p2 p3)) (.int (0 : Int32)))
set_option maxRecDepth 65536 in
set_option maxHeartbeats 40000000 in
theorem rmupc (l : Launch) (Z : State) (a0 : Array Value) (hw : ∀ d ∈ tables_1, d.before a0 Z = true) (ws : List Jvm.Cond) (a1 : Addr) (p2 : Int32) (p3 : Int32) (k1 : ClassId) (z1 : Int32) (lx : List Int32) (cs_ : Int32) (fm : Value) (h0 : Heap) (n0 : Nat) (Z0 : n0 ≤ h0.size) (hF : FX Z h0 cs_ fm) (V_b : Arv Z h0 a1 k1 .byte z1 (own_vl lx) (.int (0 : Int32))) (hb0 : ¬ ((p2 <<< ((1 : Int32) &&& 31)) < (0 : Int32))) (hb1 : (p2 <<< ((1 : Int32) &&& 31)) < z1) (hb2 : ¬ (((p2 <<< ((1 : Int32) &&& 31)) + (1 : Int32)) < (0 : Int32))) (hb3 : ((p2 <<< ((1 : Int32) &&& 31)) + (1 : Int32)) < z1) (gn_a1 : n0 ≤ a1) :
    MetFree l (⟨"java/lang/StringUTF16", "putChar", "([BII)V"⟩ : MethodName) (head1 (Jvm.Cond.code (⟨"java/lang/StringUTF16", "putChar", "([BII)V"⟩ : MethodName) jdk_52_method_4_code 3 none :: ws) ({ frames := 0, cells := 0, slots := 0, locals := 0 } : Room)) (fun a U => a = #[(.ref a1), (.int p2), (.int p3)] ∧ Z.Warmed39 U.vm ∧ U.heap = h0) (fun _ _ _ _ _ => True) (fun _ U o U' => ∃ v L, o = .returned v ∧ Q_upc Z a1 p2 p3 k1 z1 lx cs_ fm h0 n0 v U'.heap L ∧ FrameEnd U o U' L ({ frames := 0, cells := 0, slots := 0, locals := 0 } : Room).cells ({ frames := 0, cells := 0, slots := 0, locals := 0 } : Room).slots) := by
  refine met_of (Ls := #[.val (.ref a1), .val (.int p2), .val (.int p3)]) (plainFor_of_name (by first | (simp [plainName, overriddenIn]; done) | decide +kernel)) (fun m => ef_upc m a1 p2 p3) ?_
  intro p e s m below meth c T0 C X0 e0
  obtain ⟨S_cs, hcs, S_fm, hfm, S_ad, S_hi, S_lo⟩ := id hF
  have N0 := Fr.nil n0
  have K0 : Keep h0 h0 [a1] := Keep.refl h0 _
  refine g_getS (pc' := 3) C X0 d47_0 (host := "") (Or.inl (wq hw 238 rfl)) Via.refl e0 S_ad rfl (fun T1 X1 e1 => ?_)
  refine g_ifY (pc' := 28) C X1 d47_3 (feq (show ¬ ((1 : Int32) = (0 : Int32)) from (by decide))).2 (by decide) (by decide) ?_
  refine g_iloadN (pc' := 29) C X1 d47_28 rfl rfl ?_
  refine g_iconst (pc' := 30) (v := (1 : Int32)) C X1 d47_29 rfl rfl ?_
  refine g_ishl (pc' := 31) C X1 d47_30 rfl ?_
  refine g_istoreN (pc' := 32) (Ls' := #[.val (.ref a1), .val (.int (p2 <<< ((1 : Int32) &&& 31))), .val (.int p3)]) C X1 d47_31 rfl rfl ?_
  refine g_aloadN (pc' := 33) C X1 d47_32 rfl rfl rfl ?_
  refine g_iloadN (pc' := 34) C X1 d47_33 rfl rfl ?_
  refine g_iinc (pc' := 37) (Ls' := #[.val (.ref a1), .val (.int ((p2 <<< ((1 : Int32) &&& 31)) + (1 : Int32))), .val (.int p3)]) C X1 d47_34 rfl rfl rfl ?_
  refine g_iloadN (pc' := 38) C X1 d47_37 rfl rfl ?_
  refine g_getS (pc' := 41) C X1 d47_38 (host := "") (Or.inl (wq hw 239 rfl)) Via.refl e1 S_hi rfl (fun T2 X2 e2 => ?_)
  refine g_ishr (pc' := 42) C X2 d47_41 rfl ?_
  refine g_i2b (pc' := 43) C X2 d47_42 rfl ?_
  refine g_stB (pc' := 44) (i := (p2 <<< ((1 : Int32) &&& 31)).toNatClampNeg) C X2 d47_43 e2 (V_b.pad (pad_rep _ _ ((p2 <<< ((1 : Int32) &&& 31)).toNatClampNeg + 1))) ⟨hb0, hb1⟩ rfl own_lts rfl (fun T3 h3 X3 e3 W3 V3q => ?_)
  have V3 : Arv Z h3 a1 k1 .byte z1 (own_vl (own_s lx (p2 <<< ((1 : Int32) &&& 31)) (nar .byte (p3 >>> ((0 : Int32) &&& 31)).toInt8.toInt32))) (.int (0 : Int32)) := own_vl_set _ _ _ ▸ V3q
  have FX_3 := FX_wr hF W3
  have Z3 := Nat.le_trans Z0 (Nat.le_of_eq W3.size.symm)
  have N3 := Fr.snoc X3 N0 gn_a1
  have K3 := K0.wr W3 (Or.inl (List.mem_of_getElem? (i := 0) rfl))
  refine g_aloadN (pc' := 45) C X3 d47_44 rfl rfl rfl ?_
  refine g_iloadN (pc' := 46) C X3 d47_45 rfl rfl ?_
  refine g_iloadN (pc' := 47) C X3 d47_46 rfl rfl ?_
  refine g_getS (pc' := 50) C X3 d47_47 (host := "") (Or.inl (wq hw 240 rfl)) Via.refl e3 FX_3.2.2.2.2.2.2 rfl (fun T4 X4 e4 => ?_)
  refine g_ishr (pc' := 51) C X4 d47_50 rfl ?_
  refine g_i2b (pc' := 52) C X4 d47_51 rfl ?_
  refine g_stB (pc' := 53) (i := ((p2 <<< ((1 : Int32) &&& 31)) + (1 : Int32)).toNatClampNeg) C X4 d47_52 e4 (V3.pad (pad_rep _ _ (((p2 <<< ((1 : Int32) &&& 31)) + (1 : Int32)).toNatClampNeg + 1))) ⟨hb2, hb3⟩ rfl own_lts rfl (fun T5 h5 X5 e5 W5 V5q => ?_)
  have V5 : Arv Z h5 a1 k1 .byte z1 (own_vl (own_s (own_s lx (p2 <<< ((1 : Int32) &&& 31)) (nar .byte (p3 >>> ((0 : Int32) &&& 31)).toInt8.toInt32)) ((p2 <<< ((1 : Int32) &&& 31)) + (1 : Int32)) (nar .byte (p3 >>> ((8 : Int32) &&& 31)).toInt8.toInt32))) (.int (0 : Int32)) := own_vl_set _ _ _ ▸ V5q
  have FX_5 := FX_wr FX_3 W5
  have Z5 := Nat.le_trans Z3 (Nat.le_of_eq W5.size.symm)
  have N5 := Fr.snoc X5 N3 gn_a1
  have K5 := K3.wr W5 (Or.inl (List.mem_of_getElem? (i := 0) rfl))
  exact g_retV C X5 d47_53 (by decide) (by decide) ⟨rfl, N5, (by rw [e5]; exact K5), (by rw [e5]; exact V5)⟩
def own_B (x : Int32) : Int32 := nar .byte x.toInt8.toInt32
def own_lat (cs : List Int32) : List Int32 := cs.map own_B
def own_u (cs : List Int32) : List Int32 := cs.flatMap fun x => [own_lo x, own_hi x]
def own_n (cs : List Int32) : Int32 := Int32.ofNat cs.length
def own_ch (x : Int32) : Prop := 0 ≤ x.toInt ∧ x.toInt ≤ 65535
theorem own_nI {cs : List Int32} (h : cs.length ≤ 8) : (own_n cs).toInt = (cs.length : Int) := by
  unfold own_n
  generalize cs.length = k at h ⊢
  match k, h with
  | 0, _ => decide
  | 1, _ => decide
  | 2, _ => decide
  | 3, _ => decide
  | 4, _ => decide
  | 5, _ => decide
  | 6, _ => decide
  | 7, _ => decide
  | 8, _ => decide
theorem own_tn (a : Int32) : a.toNatClampNeg = a.toInt.toNat := rfl
theorem own_ntn {cs : List Int32} (h : cs.length ≤ 8) : (own_n cs).toNatClampNeg = cs.length := by rw [own_tn, own_nI h]; rfl
theorem own_eqI {a b : Int32} (h : a.toInt = b.toInt) : a = b := Int32.toInt_inj.mp h
theorem own_z0 : (0 : Int32).toInt = 0 := by decide
theorem own_z1 : (1 : Int32).toInt = 1 := by decide
theorem own_inc {i : Int32} (h0 : 0 ≤ i.toInt) (h1 : i.toInt ≤ 1000) : (i + (1 : Int32)).toInt = i.toInt + 1 := by
  have a := c_iadd i 1
  have b := (i + (1 : Int32)).toInt_lt
  have c := (i + (1 : Int32)).le_toInt
  rw [own_z1] at a; omega
theorem own_addI {i j : Int32} (h0 : -1000 ≤ i.toInt) (h1 : i.toInt ≤ 1000) (k0 : -1000 ≤ j.toInt) (k1 : j.toInt ≤ 1000) : (i + j).toInt = i.toInt + j.toInt := by
  have a := c_iadd i j
  have b := (i + j).toInt_lt
  have c := (i + j).le_toInt
  omega
theorem own_subI {i j : Int32} (h0 : -1000 ≤ i.toInt) (h1 : i.toInt ≤ 1000) (k0 : -1000 ≤ j.toInt) (k1 : j.toInt ≤ 1000) : (i - j).toInt = i.toInt - j.toInt := by
  have a := c_isub i j
  have b := (i - j).toInt_lt
  have c := (i - j).le_toInt
  omega
theorem own_shl1 {i : Int32} (h0 : 0 ≤ i.toInt) (h1 : i.toInt ≤ 1000) : (i <<< ((1 : Int32) &&& 31)).toInt = 2 * i.toInt := by
  have a := c_ishl i 1 1 (by decide)
  have b := (i <<< ((1 : Int32) &&& 31)).toInt_lt
  have c := (i <<< ((1 : Int32) &&& 31)).le_toInt
  omega
theorem own_shl0 {i : Int32} : (i <<< ((0 : Int32) &&& 31)) = i := by
  have a := c_ishl i 0 0 (by decide)
  have b := (i <<< ((0 : Int32) &&& 31)).toInt_lt
  have c := (i <<< ((0 : Int32) &&& 31)).le_toInt
  have d := i.toInt_lt
  have e := i.le_toInt
  apply own_eqI; omega
theorem own_shr0 {i : Int32} : (i >>> ((0 : Int32) &&& 31)) = i := by
  have a := c_ishr i 0 0 (by decide)
  apply own_eqI; omega
theorem own_shr1 (i : Int32) : (i >>> ((1 : Int32) &&& 31)).toInt = i.toInt / 2 := by
  have a := c_ishr i 1 1 (by decide)
  omega
theorem own_hlf {z : Int32} (h0 : 0 ≤ z.toInt) (h1 : z.toInt ≤ 1000) : ((z + z) >>> ((1 : Int32) &&& 31)) = z := by
  apply own_eqI; rw [own_shr1, own_addI (by omega) h1 (by omega) h1]; omega
theorem own_dbl {z : Int32} (h0 : 0 ≤ z.toInt) (h1 : z.toInt ≤ 1000) : (z <<< ((1 : Int32) &&& 31)) = z + z := by
  apply own_eqI; rw [own_shl1 h0 h1, own_addI (by omega) h1 (by omega) h1]; omega
theorem own_hb {p zz : Int32} (h0 : 0 ≤ p.toInt) (h1 : 2 * p.toInt + 1 < zz.toInt) (h2 : zz.toInt ≤ 1000) : (¬ (p <<< ((1 : Int32) &&& 31)) < 0) ∧ (p <<< ((1 : Int32) &&& 31)) < zz ∧ (¬ ((p <<< ((1 : Int32) &&& 31)) + 1) < 0) ∧ ((p <<< ((1 : Int32) &&& 31)) + 1) < zz ∧ p < (zz >>> ((1 : Int32) &&& 31)) := by
  have a := own_shl1 h0 (by omega)
  have b := own_inc (i := (p <<< ((1 : Int32) &&& 31))) (by omega) (by omega)
  have c := own_shr1 zz
  simp only [Int32.lt_iff_toInt_lt, own_z0]
  rw [b, a, c]
  omega
theorem own_ix {p : Int32} (h0 : 0 ≤ p.toInt) (h1 : p.toInt ≤ 400) : ((p <<< ((1 : Int32) &&& 31))).toNatClampNeg = 2 * p.toNatClampNeg ∧ ((p <<< ((1 : Int32) &&& 31)) + (1 : Int32)).toNatClampNeg = 2 * p.toNatClampNeg + 1 := by
  have a := own_shl1 h0 (by omega)
  have b := own_inc (i := (p <<< ((1 : Int32) &&& 31))) (by omega) (by omega)
  simp only [own_tn]
  rw [b, a]
  omega
theorem own_n_snoc {xs : List Int32} {x n : Int32} (h : n = own_n xs) (hl : xs.length < 8) : n + 1 = own_n (xs ++ [x]) := by
  have l : (xs ++ [x]).length = xs.length + 1 := by rw [List.length_append, List.length_singleton]
  subst h
  have a := own_nI (cs := xs) (by omega)
  have b := own_nI (cs := xs ++ [x]) (by omega)
  apply own_eqI
  rw [own_inc (by omega) (by omega), a, b, l]; omega
theorem own_n_snoc2 {xs : List Int32} {x y n : Int32} (h : n = own_n xs) (hl : xs.length < 7) : n + 2 = own_n (xs ++ [x, y]) := by
  have l : (xs ++ [x, y]).length = xs.length + 2 := by rw [List.length_append]; rfl
  have a := own_nI (cs := xs) (by omega)
  have b := own_nI (cs := xs ++ [x, y]) (by omega)
  have z2 : (2 : Int32).toInt = 2 := by decide
  subst h
  apply own_eqI
  rw [own_addI (by omega) (by omega) (by omega) (by omega), a, b, l, z2]; omega
theorem own_getD_snoc (L : List Int32) (x : Int32) (i : Nat) : (L ++ [x]).getD i 0 = if i = L.length then x else L.getD i 0 := by
  rw [List.getD_eq_getElem?_getD, List.getD_eq_getElem?_getD, List.getElem?_append]
  by_cases h : i < L.length
  · rw [if_pos h, if_neg (by omega)]
  · rw [if_neg h]
    by_cases h2 : i = L.length
    · rw [if_pos h2, h2, Nat.sub_self]; rfl
    · rw [if_neg h2, List.getElem?_eq_none (by rw [List.length_singleton]; omega), List.getElem?_eq_none (by omega)]
theorem own_u_cons (x : Int32) (t : List Int32) : own_u (x :: t) = own_lo x :: own_hi x :: own_u t := rfl
theorem own_u_snoc (ys : List Int32) (x : Int32) : own_u (ys ++ [x]) = own_u ys ++ [own_lo x] ++ [own_hi x] := by
  induction ys with
  | nil => rfl
  | cons y t ih => rw [List.cons_append, own_u_cons, ih, own_u_cons]; rfl
theorem own_u_len (ys : List Int32) : (own_u ys).length = 2 * ys.length := by
  induction ys with
  | nil => rfl
  | cons y t ih => rw [own_u_cons, List.length_cons, List.length_cons, List.length_cons, ih]; omega
theorem own_lat_len (ys : List Int32) : (own_lat ys).length = ys.length := by unfold own_lat; rw [List.length_map]
theorem own_put_snoc {L ys : List Int32} {j x : Int32} (h0 : 0 ≤ j.toInt) (h1 : j.toInt ≤ 400) (hl : ys.length = j.toNatClampNeg) (hL : ∀ i, (own_u ys).getD i 0 = L.getD i 0) : ∀ i, (own_u (ys ++ [x])).getD i 0 = (own_put L j x).getD i 0 := by
  intro i
  unfold own_put
  rw [own_u_snoc, own_getD_snoc, own_getD_snoc, List.length_append, List.length_singleton, own_u_len, own_s_getD, own_s_getD, (own_ix h0 h1).1, (own_ix h0 h1).2, hl, hL]
theorem own_lat_sn {L xs : List Int32} {n x : Int32} (hn : xs.length = n.toNatClampNeg) (hL : ∀ i, (own_lat xs).getD i 0 = L.getD i 0) : ∀ i, (own_lat (xs ++ [x])).getD i 0 = (own_s L n (own_B x)).getD i 0 := by
  intro i
  have e : own_lat (xs ++ [x]) = own_lat xs ++ [own_B x] := by unfold own_lat; rw [List.map_append]; rfl
  rw [e, own_getD_snoc, own_s_getD, own_lat_len, hn, hL]
theorem own_s_sn {L xs : List Int32} {n x : Int32} (hn : xs.length = n.toNatClampNeg) (hL : ∀ i, xs.getD i 0 = L.getD i 0) : ∀ i, (xs ++ [x]).getD i 0 = (own_s L n x).getD i 0 := by
  intro i
  rw [own_getD_snoc, own_s_getD, hn, hL]
theorem own_take_succ {L : List Int32} {k : Nat} (h : k < L.length) : L.take (k + 1) = L.take k ++ [L.getD k 0] := by
  rw [List.take_add_one, List.getD_eq_getElem?_getD, List.getElem?_eq_getElem h]; rfl
-- loops
def own_uiI (cs ss : List Int32) (so dq i : Int32) (ly : List Int32) : Prop := so.toInt = i.toInt ∧ dq.toInt = cs.length + i.toInt ∧ 0 ≤ i.toInt ∧ i.toInt ≤ ss.length ∧ ∀ q, (own_u (cs ++ ss.take i.toInt.toNat)).getD q 0 = ly.getD q 0
def own_mu (ss : List Int32) (i : Int32) : Nat := ((ss.length : Int) - i.toInt).toNat
theorem own_ui0 {cs ss ly : List Int32} {p4 : Int32} (hp : p4 = own_n cs) (hc : cs.length ≤ 8) (h : ∀ q, (own_u cs).getD q 0 = ly.getD q 0) : own_uiI cs ss (0 : Int32) p4 (0 : Int32) ly := by
  refine ⟨rfl, by rw [hp, own_nI hc, own_z0]; omega, by decide, by rw [own_z0]; omega, ?_⟩
  intro q
  show (own_u (cs ++ ss.take 0)).getD q 0 = _
  rw [List.take_zero, List.append_nil]; exact h q
theorem own_ltn {i n : Int32} {ss : List Int32} (hn : n = own_n ss) (hs : ss.length ≤ 8) : i < n ↔ i.toInt < ss.length := by
  rw [Int32.lt_iff_toInt_lt, hn, own_nI hs]
theorem own_uiB {cs ss ly : List Int32} {so dq i p5 z1 zz : Int32} (I : own_uiI cs ss so dq i ly) (c : i < p5) (hp5 : p5 = own_n ss) (hl : cs.length + ss.length ≤ 8) (hz : 2 * ((cs.length : Int) + ss.length) ≤ zz.toInt) (hzz : zz.toInt ≤ 100) (hz1 : (ss.length : Int) ≤ z1.toInt) :
    (¬ (so < (0 : Int32))) ∧ so < z1 ∧ (¬ (dq <<< ((1 : Int32) &&& 31)) < 0) ∧ (dq <<< ((1 : Int32) &&& 31)) < zz ∧ (¬ ((dq <<< ((1 : Int32) &&& 31)) + 1) < 0) ∧ ((dq <<< ((1 : Int32) &&& 31)) + 1) < zz := by
  obtain ⟨a, b, d, e, f⟩ := I
  have c' := (own_ltn hp5 (by omega)).mp c
  have h := own_hb (p := dq) (zz := zz) (by omega) (by omega) (by omega)
  refine ⟨by rw [Int32.lt_iff_toInt_lt, own_z0]; omega, by rw [Int32.lt_iff_toInt_lt]; omega, h.1, h.2.1, h.2.2.1, h.2.2.2.1⟩
theorem own_uiS {cs ss ly lx : List Int32} {so dq i p5 : Int32} (I : own_uiI cs ss so dq i ly) (c : i < p5) (hp5 : p5 = own_n ss) (hl : cs.length + ss.length ≤ 8) (hs : ∀ q, q < ss.length → (lx.getD q 0) &&& (255 : Int32) = ss.getD q 0) :
    own_uiI cs ss (so + (1 : Int32)) (dq + (1 : Int32)) (i + (1 : Int32)) (own_put ly dq ((own_g lx so) &&& (255 : Int32))) := by
  obtain ⟨a, b, d, e, f⟩ := I
  have c' := (own_ltn hp5 (by omega)).mp c
  have i1 := own_inc (i := i) (by omega) (by omega)
  have v : (own_g lx so) &&& (255 : Int32) = ss.getD i.toInt.toNat 0 := by
    unfold own_g; rw [own_tn, a]; exact hs _ (by omega)
  refine ⟨by rw [own_inc (by omega) (by omega), i1]; omega, by rw [own_inc (by omega) (by omega), i1]; omega, by rw [i1]; omega, by rw [i1]; omega, ?_⟩
  rw [i1, show (i.toInt + 1).toNat = i.toInt.toNat + 1 by omega, own_take_succ (by omega), v, ← List.append_assoc]
  refine own_put_snoc (by omega) (by omega) ?_ f
  rw [List.length_append, List.length_take, own_tn]; omega
theorem own_uiE {cs ss ly : List Int32} {so dq i p5 : Int32} (I : own_uiI cs ss so dq i ly) (c : ¬ (i < p5)) (hp5 : p5 = own_n ss) (hl : cs.length + ss.length ≤ 8) : ∀ q, (own_u (cs ++ ss)).getD q 0 = ly.getD q 0 := by
  obtain ⟨a, b, d, e, f⟩ := I
  have c' : ¬ i.toInt < ss.length := fun h => c ((own_ltn hp5 (by omega)).mpr h)
  intro q
  have g := f q
  rw [List.take_of_length_le (by omega)] at g
  exact g
theorem own_muS {ss : List Int32} {i p5 : Int32} (h0 : 0 ≤ i.toInt) (c : i < p5) (hp5 : p5 = own_n ss) (hl : ss.length ≤ 8) : own_mu ss (i + (1 : Int32)) < own_mu ss i := by
  have c' := (own_ltn hp5 hl).mp c
  unfold own_mu
  rw [own_inc (by omega) (by omega)]; omega
theorem own_i2c {x : Int32} (h : own_ch x) : x.toUInt32.toUInt16.toUInt32.toInt32 = x := by
  have a := c_i2c x
  obtain ⟨h0, h1⟩ := h
  apply Int32.toInt_inj.mp; omega
theorem own_narc {x : Int32} (h : own_ch x) : nar .char x = x := own_i2c h
theorem own_lom (x : Int32) : (own_lo x &&& 255).toInt = x.toInt % 256 := by
  have a := c_ishr x 0 0 (by decide)
  have b := c_i2b (x >>> ((0 : Int32) &&& 31))
  have c : own_lo x = (x >>> ((0 : Int32) &&& 31)).toInt8.toInt32.toInt8.toInt32 := rfl
  have d := c_i2b (x >>> ((0 : Int32) &&& 31)).toInt8.toInt32
  have m := c_mask (own_lo x) 255 8 (by decide) (by decide)
  rw [c] at m ⊢
  omega
theorem own_him (x : Int32) : (own_hi x &&& 255).toInt = (x.toInt / 256) % 256 := by
  have a := c_ishr x 8 8 (by decide)
  have b := c_i2b (x >>> ((8 : Int32) &&& 31))
  have c : own_hi x = (x >>> ((8 : Int32) &&& 31)).toInt8.toInt32.toInt8.toInt32 := rfl
  have d := c_i2b (x >>> ((8 : Int32) &&& 31)).toInt8.toInt32
  have m := c_mask (own_hi x) 255 8 (by decide) (by decide)
  rw [c] at m ⊢
  omega
theorem own_cmp {x l u : Int32} (h : own_ch x) (hl : l.toInt = x.toInt % 256) (hu : u.toInt = (x.toInt / 256) % 256) : nar .char ((l <<< ((0 : Int32) &&& 31)) ||| (u <<< ((8 : Int32) &&& 31))).toUInt32.toUInt16.toUInt32.toInt32 = x := by
  obtain ⟨h0, h1⟩ := h
  have s1 := c_ishl l 0 0 (by decide)
  have s2 := c_ishl u 8 8 (by decide)
  have r1 := (l <<< ((0 : Int32) &&& 31)).toInt_lt
  have r1' := (l <<< ((0 : Int32) &&& 31)).le_toInt
  have r2 := (u <<< ((8 : Int32) &&& 31)).toInt_lt
  have r2' := (u <<< ((8 : Int32) &&& 31)).le_toInt
  have e1 : (l <<< ((0 : Int32) &&& 31)).toInt = x.toInt % 256 := by omega
  have e2 : (u <<< ((8 : Int32) &&& 31)).toInt = x.toInt / 256 * 256 := by omega
  have o := c_or' (l <<< ((0 : Int32) &&& 31)) (u <<< ((8 : Int32) &&& 31)) 8 (by decide) 256 (by decide) (by omega) (by omega) (by omega)
  have r3 := ((l <<< ((0 : Int32) &&& 31)) ||| (u <<< ((8 : Int32) &&& 31))).toInt_lt
  have r3' := ((l <<< ((0 : Int32) &&& 31)) ||| (u <<< ((8 : Int32) &&& 31))).le_toInt
  have e3 : ((l <<< ((0 : Int32) &&& 31)) ||| (u <<< ((8 : Int32) &&& 31))) = x := Int32.toInt_inj.mp (by omega)
  rw [e3, own_i2c ⟨h0, h1⟩, own_narc ⟨h0, h1⟩]
theorem own_Bm {x : Int32} (h : own_ch x) (q : ¬ (255 : Int32) < x) : own_B x &&& 255 = x := by
  rw [Int32.lt_iff_toInt_lt] at q
  have z : (255 : Int32).toInt = 255 := by decide
  have b := c_i2b x
  have c : own_B x = x.toInt8.toInt32.toInt8.toInt32 := rfl
  have d := c_i2b x.toInt8.toInt32
  have m := c_mask (own_B x) 255 8 (by decide) (by decide)
  obtain ⟨h0, h1⟩ := h
  apply Int32.toInt_inj.mp
  rw [c] at m ⊢
  omega
theorem own_lo0 : own_lo 0 = 0 := by decide
theorem own_hi0 : own_hi 0 = 0 := by decide
theorem own_u_get (xs : List Int32) : ∀ i, (own_u xs).getD (2 * i) 0 = own_lo (xs.getD i 0) ∧ (own_u xs).getD (2 * i + 1) 0 = own_hi (xs.getD i 0) := by
  induction xs with
  | nil => intro i; exact ⟨by rw [List.getD_nil, own_lo0]; rfl, by rw [List.getD_nil, own_hi0]; rfl⟩
  | cons x t ih =>
    intro i
    cases i with
    | zero => exact ⟨rfl, rfl⟩
    | succ i =>
      rw [own_u_cons, show 2 * (i + 1) = 2 * i + 1 + 1 by omega, show 2 * i + 1 + 1 + 1 = (2 * i + 1) + 1 + 1 by omega, List.getD_cons_succ, List.getD_cons_succ, List.getD_cons_succ, List.getD_cons_succ, List.getD_cons_succ]
      exact ih i
theorem own_B0 : own_B 0 = 0 := by decide
theorem own_lat_get (xs : List Int32) (i : Nat) : (own_lat xs).getD i 0 = own_B (xs.getD i 0) := by
  unfold own_lat
  rw [List.getD_eq_getElem?_getD, List.getD_eq_getElem?_getD, List.getElem?_map]
  cases xs[i]? with
  | none => exact own_B0.symm
  | some x => rfl
theorem own_g_all {xs : List Int32} {P : Int32 → Prop} (hx : ∀ x ∈ xs, P x) (h0 : P 0) (p : Int32) : P (own_g xs p) := by
  unfold own_g
  rw [List.getD_eq_getElem?_getD]
  cases h : xs[p.toNatClampNeg]? with
  | none => exact h0
  | some x => exact hx x (List.mem_of_getElem? h)
theorem own_clL {xs : List Int32} {p : Int32} (hx : ∀ x ∈ xs, own_ch x) (hy : ∀ x ∈ xs, ¬ ((255 : Int32) < x)) : (nar .char ((own_g (own_lat xs) p) &&& (255 : Int32)).toUInt32.toUInt16.toUInt32.toInt32) = own_g xs p := by
  have e : own_g (own_lat xs) p = own_B (own_g xs p) := own_lat_get _ _
  have c := own_g_all hx (⟨by decide, by decide⟩ : own_ch 0) p
  rw [e, own_Bm c (own_g_all hy (by decide) p), own_i2c c, own_narc c]
theorem own_cx {x : Int32} (h : own_ch x) : nar .char ((((own_lo x) &&& (255 : Int32)) <<< ((0 : Int32) &&& 31)) ||| (((own_hi x) &&& (255 : Int32)) <<< ((8 : Int32) &&& 31))).toUInt32.toUInt16.toUInt32.toInt32 = x := own_cmp h (own_lom _) (own_him _)
def own_tw (xs : List Int32) : List Int32 := xs.takeWhile fun x => decide (¬ ((255 : Int32) < x))
theorem own_tw_cons_n {x : Int32} {t : List Int32} (h : ¬ ((255 : Int32) < x)) : own_tw (x :: t) = x :: own_tw t := by
  unfold own_tw; rw [List.takeWhile_cons, if_pos (decide_eq_true h)]
theorem own_tw_cons_w {x : Int32} {t : List Int32} (h : (255 : Int32) < x) : own_tw (x :: t) = [] := by
  unfold own_tw; rw [List.takeWhile_cons, if_neg (by simp [h])]
theorem own_tw_all {xs : List Int32} (h : ∀ x ∈ xs, ¬ ((255 : Int32) < x)) : own_tw xs = xs := by
  induction xs with
  | nil => rfl
  | cons x t ih => rw [own_tw_cons_n (h x (List.mem_cons_self ..)), ih (fun y hy => h y (List.mem_cons_of_mem _ hy))]
theorem own_tw_nar (xs : List Int32) : ∀ x ∈ own_tw xs, ¬ ((255 : Int32) < x) := by
  induction xs with
  | nil => exact nofun
  | cons y t ih =>
    by_cases h : (255 : Int32) < y
    · rw [own_tw_cons_w h]; exact nofun
    · rw [own_tw_cons_n h]; intro x hx
      rcases List.mem_cons.mp hx with rfl | hx
      · exact h
      · exact ih x hx
theorem own_tw_at {xs : List Int32} : ∀ {k : Nat}, (∀ x ∈ xs.take k, ¬ ((255 : Int32) < x)) → k < xs.length → (255 : Int32) < xs.getD k 0 → own_tw xs = xs.take k := by
  induction xs with
  | nil => intro k _ h _; exact absurd h (Nat.not_lt_zero _)
  | cons x t ih =>
    intro k h hk hw
    cases k with
    | zero => rw [own_tw_cons_w (show (255 : Int32) < x from hw)]; rfl
    | succ k =>
      rw [List.take_succ_cons] at h ⊢
      rw [own_tw_cons_n (h x (List.mem_cons_self ..)), ih (fun y hy => h y (List.mem_cons_of_mem _ hy)) (by rw [List.length_cons] at hk; omega) (by rw [List.getD_cons_succ] at hw; exact hw)]
theorem own_tw_le (xs : List Int32) : (own_tw xs).length ≤ xs.length := by
  induction xs with
  | nil => exact Nat.le_refl _
  | cons y t ih =>
    by_cases h : (255 : Int32) < y
    · rw [own_tw_cons_w h]; exact Nat.zero_le _
    · rw [own_tw_cons_n h, List.length_cons, List.length_cons]; omega
theorem own_tw_eq {xs : List Int32} (h : (own_tw xs).length = xs.length) : own_tw xs = xs := by
  induction xs with
  | nil => rfl
  | cons y t ih =>
    by_cases q : (255 : Int32) < y
    · rw [own_tw_cons_w q] at h; cases h
    · rw [own_tw_cons_n q] at h ⊢; rw [ih (by rw [List.length_cons, List.length_cons] at h; omega)]
theorem own_tw_wide {xs : List Int32} (h : (own_tw xs).length < xs.length) : (255 : Int32) < xs.getD (own_tw xs).length 0 := by
  induction xs with
  | nil => exact absurd h (Nat.not_lt_zero _)
  | cons y t ih =>
    by_cases q : (255 : Int32) < y
    · rw [own_tw_cons_w q]; exact q
    · rw [own_tw_cons_n q] at h ⊢; rw [List.length_cons, List.getD_cons_succ]; exact ih (by rw [List.length_cons, List.length_cons] at h; omega)
theorem own_twN {xs : List Int32} {p : Int32} (h : own_n (own_tw xs) = p) (hp : p = own_n xs) (hl : xs.length ≤ 8) : own_tw xs = xs := by
  have a := own_nI hl
  have b := own_nI (cs := own_tw xs) (Nat.le_trans (own_tw_le xs) hl)
  rw [h, hp, a] at b
  exact own_tw_eq (by omega)
theorem own_twW {xs : List Int32} {p : Int32} (h : ¬ (own_n (own_tw xs) = p)) (hp : p = own_n xs) (hl : xs.length ≤ 8) : (own_tw xs).length < xs.length := by
  have c := own_tw_le xs
  rcases Nat.lt_or_ge (own_tw xs).length xs.length with q | q
  · exact q
  · exact absurd (by rw [own_tw_eq (Nat.le_antisymm c q), hp]) h
def own_cmI (xs : List Int32) (sq dq i : Int32) (ly : List Int32) : Prop := sq.toInt = i.toInt ∧ dq.toInt = i.toInt ∧ 0 ≤ i.toInt ∧ i.toInt ≤ xs.length ∧ (∀ x ∈ xs.take i.toInt.toNat, ¬ ((255 : Int32) < x)) ∧ ∀ q, (own_lat (xs.take i.toInt.toNat)).getD q 0 = ly.getD q 0
theorem own_cm0 (xs : List Int32) : own_cmI xs (0 : Int32) (0 : Int32) (0 : Int32) [] := by
  refine ⟨rfl, rfl, by decide, by rw [own_z0]; omega, ?_, fun _ => rfl⟩
  intro x hx
  rw [own_z0] at hx; exact absurd hx (by simp)
theorem own_cmB {xs ly : List Int32} {sq dq i p5 z : Int32} (I : own_cmI xs sq dq i ly) (c : i < p5) (hp5 : p5 = own_n xs) (hl : xs.length ≤ 8) (hz : z = own_n xs) : (¬ (sq < (0 : Int32))) ∧ sq < p5 ∧ (¬ (dq < (0 : Int32))) ∧ dq < z := by
  obtain ⟨a, b, d, e, f⟩ := I
  have c' := (own_ltn hp5 hl).mp c
  have n := own_nI hl
  simp only [Int32.lt_iff_toInt_lt, own_z0, hz, hp5, n]
  omega
theorem own_cmS {xs ly : List Int32} {sq dq i p5 : Int32} (I : own_cmI xs sq dq i ly) (c : i < p5) (hp5 : p5 = own_n xs) (hl : xs.length ≤ 8) (w : ¬ ((255 : Int32) < (own_g xs sq))) : own_cmI xs (sq + (1 : Int32)) (dq + (1 : Int32)) (i + (1 : Int32)) (own_s ly dq (nar .byte (own_g xs sq).toInt8.toInt32)) := by
  obtain ⟨a, b, d, e, f, g⟩ := I
  have c' := (own_ltn hp5 hl).mp c
  have i1 := own_inc (i := i) (by omega) (by omega)
  have v : own_g xs sq = xs.getD i.toInt.toNat 0 := by unfold own_g; rw [own_tn, a]
  have t := own_take_succ (L := xs) (k := i.toInt.toNat) (by omega)
  rw [v] at w ⊢
  refine ⟨by rw [own_inc (by omega) (by omega), i1]; omega, by rw [own_inc (by omega) (by omega), i1]; omega, by rw [i1]; omega, by rw [i1]; omega, ?_, ?_⟩
  · rw [i1, show (i.toInt + 1).toNat = i.toInt.toNat + 1 by omega, t]
    intro x hx
    rcases List.mem_append.mp hx with h | h
    · exact f x h
    · rw [List.mem_singleton.mp h]; exact w
  · rw [i1, show (i.toInt + 1).toNat = i.toInt.toNat + 1 by omega, t]
    refine own_lat_sn ?_ g
    rw [List.length_take, own_tn]; omega
theorem own_cmE {xs ly : List Int32} {sq dq i p5 : Int32} (I : own_cmI xs sq dq i ly) (c : ¬ (i < p5)) (hp5 : p5 = own_n xs) (hl : xs.length ≤ 8) : p5 = own_n (own_tw xs) ∧ ∀ q, (own_lat (own_tw xs)).getD q 0 = ly.getD q 0 := by
  obtain ⟨a, b, d, e, f, g⟩ := I
  have c' : ¬ i.toInt < xs.length := fun h => c ((own_ltn hp5 hl).mpr h)
  rw [List.take_of_length_le (by omega)] at f
  rw [own_tw_all f]
  refine ⟨hp5, fun q => ?_⟩
  have g' := g q
  rw [List.take_of_length_le (by omega)] at g'
  exact g'
theorem own_cmW {xs ly : List Int32} {sq dq i p5 : Int32} (I : own_cmI xs sq dq i ly) (c : i < p5) (hp5 : p5 = own_n xs) (hl : xs.length ≤ 8) (w : (255 : Int32) < (own_g xs sq)) : i = own_n (own_tw xs) ∧ ∀ q, (own_lat (own_tw xs)).getD q 0 = ly.getD q 0 := by
  obtain ⟨a, b, d, e, f, g⟩ := I
  have c' := (own_ltn hp5 hl).mp c
  have v : own_g xs sq = xs.getD i.toInt.toNat 0 := by unfold own_g; rw [own_tn, a]
  rw [v] at w
  have t := own_tw_at f (by omega) w
  rw [t]
  refine ⟨own_eqI ?_, g⟩
  rw [own_nI (by rw [List.length_take]; omega), List.length_take]; omega
theorem own_tb0 (xs : List Int32) : own_uiI [] xs (0 : Int32) (0 : Int32) (0 : Int32) [] := own_ui0 rfl (by decide) (fun _ => rfl)
theorem own_tbS {ss ly : List Int32} {so i p5 : Int32} (I : own_uiI [] ss so i i ly) (c : i < p5) (hp5 : p5 = own_n ss) (hl : ss.length ≤ 8) : own_uiI [] ss (so + (1 : Int32)) (i + (1 : Int32)) (i + (1 : Int32)) (own_put ly i (own_g ss so)) := by
  obtain ⟨a, b, d, e, f⟩ := I
  have c' := (own_ltn hp5 hl).mp c
  have i1 := own_inc (i := i) (by omega) (by omega)
  have v : own_g ss so = ss.getD i.toInt.toNat 0 := by unfold own_g; rw [own_tn, a]
  refine ⟨by rw [own_inc (by omega) (by omega), i1]; omega, by rw [i1]; simp, by rw [i1]; omega, by rw [i1]; omega, ?_⟩
  rw [i1, show (i.toInt + 1).toNat = i.toInt.toNat + 1 by omega, own_take_succ (by omega), v, ← List.append_assoc]
  refine own_put_snoc (by omega) (by omega) ?_ f
  rw [List.nil_append, List.length_take, own_tn]; omega
-- growth
theorem own_gr0 {p2 z : Int32} (c : (0 : Int32) < (p2 - (z >>> ((0 : Int32) &&& 31)))) (h0 : 0 ≤ z.toInt) (h1 : z.toInt ≤ 20) (h2 : p2.toInt ≤ z.toInt + 2) (h3 : p2.toInt ≤ 9) (h4 : 0 ≤ p2.toInt) :
    (¬ ((z + (2 : Int32)) < ((p2 <<< ((0 : Int32) &&& 31)) - z))) ∧ ((0 : Int32) < (z + (z + (2 : Int32)))) ∧ (¬ ((2147483639 : Int32) < (z + (z + (2 : Int32))))) ∧ (¬ ((z + (z + (2 : Int32))) = (2147483647 : Int32))) ∧ ((((z + (z + (2 : Int32))) >>> ((0 : Int32) &&& 31)) <<< ((0 : Int32) &&& 31)) = (z + (z + (2 : Int32)))) ∧ (¬ ((z + (z + (2 : Int32))) = z)) ∧ (¬ ((z + (z + (2 : Int32))) < z)) ∧ (¬ ((z + (z + (2 : Int32))) < (0 : Int32))) ∧ (z + (z + (2 : Int32))).toNatClampNeg ≤ 40 ∧ z.toNatClampNeg ≤ (z + (z + (2 : Int32))).toNatClampNeg ∧ p2.toInt ≤ (z + (z + (2 : Int32))).toInt ∧ (z + (z + (2 : Int32))).toInt ≤ 20 := by
  rw [own_shr0, own_shl0, own_shl0]
  rw [own_shr0] at c
  have z2 : (2 : Int32).toInt = 2 := by decide
  have a := own_addI (i := z) (j := 2) (by omega) (by omega) (by omega) (by omega)
  have b := own_addI (i := z) (j := z + 2) (by omega) (by omega) (by omega) (by omega)
  have s := own_subI (i := p2) (j := z) (by omega) (by omega) (by omega) (by omega)
  rw [Int32.lt_iff_toInt_lt, s, own_z0] at c
  have m1 : (2147483639 : Int32).toInt = 2147483639 := by decide
  have m2 : (2147483647 : Int32).toInt = 2147483647 := by decide
  simp only [Int32.lt_iff_toInt_lt, ← Int32.toInt_inj, own_tn, own_z0, m1, m2, a, b, s, z2, true_and]
  omega
theorem own_gr1 {p2 z : Int32} (c : (0 : Int32) < (p2 - ((z + z) >>> ((1 : Int32) &&& 31)))) (h0 : 0 ≤ z.toInt) (h1 : z.toInt ≤ 20) (h2 : p2.toInt ≤ z.toInt + 2) (h3 : p2.toInt ≤ 9) (h4 : 0 ≤ p2.toInt) :
    (¬ (((z + z) + (4 : Int32)) < ((p2 <<< ((1 : Int32) &&& 31)) - (z + z)))) ∧ ((0 : Int32) < ((z + z) + ((z + z) + (4 : Int32)))) ∧ (¬ ((2147483639 : Int32) < ((z + z) + ((z + z) + (4 : Int32))))) ∧ (¬ (((z + z) + ((z + z) + (4 : Int32))) = (2147483647 : Int32))) ∧ (((((z + z) + ((z + z) + (4 : Int32))) >>> ((1 : Int32) &&& 31)) <<< ((1 : Int32) &&& 31)) = ((z + (z + (2 : Int32))) + (z + (z + (2 : Int32))))) ∧ (¬ (((z + (z + (2 : Int32))) + (z + (z + (2 : Int32)))) = (z + z))) ∧ (¬ (((z + (z + (2 : Int32))) + (z + (z + (2 : Int32)))) < (z + z))) ∧ (¬ (((z + (z + (2 : Int32))) + (z + (z + (2 : Int32)))) < (0 : Int32))) ∧ ((z + (z + (2 : Int32))) + (z + (z + (2 : Int32)))).toNatClampNeg ≤ 40 ∧ (z + z).toNatClampNeg ≤ ((z + (z + (2 : Int32))) + (z + (z + (2 : Int32)))).toNatClampNeg ∧ p2.toInt ≤ (z + (z + (2 : Int32))).toInt ∧ (z + (z + (2 : Int32))).toInt ≤ 20 := by
  rw [own_hlf h0 (by omega)] at c
  have z2 : (2 : Int32).toInt = 2 := by decide
  have z4 : (4 : Int32).toInt = 4 := by decide
  have s := own_subI (i := p2) (j := z) (by omega) (by omega) (by omega) (by omega)
  rw [Int32.lt_iff_toInt_lt, s, own_z0] at c
  have zz := own_addI (i := z) (j := z) (by omega) (by omega) (by omega) (by omega)
  have a := own_addI (i := z) (j := 2) (by omega) (by omega) (by omega) (by omega)
  have b := own_addI (i := z) (j := z + 2) (by omega) (by omega) (by omega) (by omega)
  have a4 := own_addI (i := z + z) (j := 4) (by omega) (by omega) (by omega) (by omega)
  have b4 := own_addI (i := z + z) (j := z + z + 4) (by omega) (by omega) (by omega) (by omega)
  have bb := own_addI (i := z + (z + 2)) (j := z + (z + 2)) (by omega) (by omega) (by omega) (by omega)
  have l := own_shl1 (i := p2) h4 (by omega)
  have d := own_subI (i := (p2 <<< ((1 : Int32) &&& 31))) (j := z + z) (by omega) (by omega) (by omega) (by omega)
  have e := own_shr1 ((z + z) + ((z + z) + (4 : Int32)))
  have f := own_shl1 (i := (((z + z) + ((z + z) + (4 : Int32))) >>> ((1 : Int32) &&& 31))) (by omega) (by omega)
  have m1 : (2147483639 : Int32).toInt = 2147483639 := by decide
  have m2 : (2147483647 : Int32).toInt = 2147483647 := by decide
  simp only [Int32.lt_iff_toInt_lt, ← Int32.toInt_inj, own_tn, own_z0, m1, m2, d, l, f, e, bb, b4, a4, b, a, zz, z2, z4]
  omega
theorem own_msz {w v N n : Nat} (xp : ∀ o : Nat, o < N → ¬ (o = v) → ¬ (o = w)) (hv : n ≤ v) (hN : n ≤ N) : n ≤ w := by
  by_cases h : w < N
  · by_cases q : w = v
    · rw [q]; exact hv
    · exact absurd rfl (xp w h q)
  · omega
theorem own_mm {w v N : Nat} {ws : List Nat} (xp : ∀ o : Nat, o < N → ¬ (o = v) → ¬ (o = w)) (hv : v ∈ ws) : w ∈ ws ∨ N ≤ w := by
  by_cases h : w < N
  · by_cases q : w = v
    · rw [q]; exact Or.inl hv
    · exact absurd rfl (xp w h q)
  · exact Or.inr (by omega)
theorem own_nB {n : Int32} {xs : List Int32} (h : n = own_n xs) (hl : xs.length ≤ 8) : 0 ≤ n.toInt ∧ n.toInt ≤ 8 := by rw [h, own_nI hl]; omega
theorem own_nn {p : Int32} (h : ¬ (p < (0 : Int32))) : 0 ≤ p.toInt := by rw [Int32.lt_iff_toInt_lt, own_z0] at h; omega
theorem own_nlt {p : Int32} (h : 0 ≤ p.toInt) : ¬ (p < (0 : Int32)) := by rw [Int32.lt_iff_toInt_lt, own_z0]; omega
theorem own_lt {a b : Int32} : a < b ↔ a.toInt < b.toInt := Int32.lt_iff_toInt_lt
theorem own_hbn {p n : Int32} (hn : 0 ≤ n.toInt) (hn' : n.toInt ≤ 40) (h0 : ¬ (p < (0 : Int32))) (h1 : p < n) : (¬ (p <<< ((1 : Int32) &&& 31)) < 0) ∧ (p <<< ((1 : Int32) &&& 31)) < n + n ∧ (¬ ((p <<< ((1 : Int32) &&& 31)) + 1) < 0) ∧ ((p <<< ((1 : Int32) &&& 31)) + 1) < n + n ∧ p < ((n + n) >>> ((1 : Int32) &&& 31)) := by
  have a := own_nn h0
  rw [own_lt] at h1
  have b := own_addI (i := n) (j := n) (by omega) (by omega) (by omega) (by omega)
  exact own_hb a (by omega) (by omega)
theorem own_gU1 {xs : List Int32} {p : Int32} (hl : xs.length ≤ 8) (h0 : ¬ (p < (0 : Int32))) (h1 : p < own_n xs) : own_g (own_u xs) (p <<< ((1 : Int32) &&& 31)) = own_lo (own_g xs p) := by
  have a := own_nn h0
  have b := (own_ltn rfl hl).mp h1
  have i := own_ix a (by omega)
  show (own_u xs).getD (p <<< ((1 : Int32) &&& 31)).toNatClampNeg 0 = own_lo (xs.getD p.toNatClampNeg 0)
  rw [i.1]; exact (own_u_get _ _).1
theorem own_gU2 {xs : List Int32} {p : Int32} (hl : xs.length ≤ 8) (h0 : ¬ (p < (0 : Int32))) (h1 : p < own_n xs) : own_g (own_u xs) ((p <<< ((1 : Int32) &&& 31)) + (1 : Int32)) = own_hi (own_g xs p) := by
  have a := own_nn h0
  have b := (own_ltn rfl hl).mp h1
  have i := own_ix a (by omega)
  show (own_u xs).getD ((p <<< ((1 : Int32) &&& 31)) + (1 : Int32)).toNatClampNeg 0 = own_hi (xs.getD p.toNatClampNeg 0)
  rw [i.2]; exact (own_u_get _ _).2
theorem own_clU {xs : List Int32} {p : Int32} (hx : ∀ x ∈ xs, own_ch x) (hl : xs.length ≤ 8) (h0 : ¬ (p < (0 : Int32))) (h1 : p < own_n xs) : (nar .char (nar .char ((((own_g (own_u xs) (p <<< ((1 : Int32) &&& 31))) &&& (255 : Int32)) <<< ((0 : Int32) &&& 31)) ||| (((own_g (own_u xs) ((p <<< ((1 : Int32) &&& 31)) + (1 : Int32))) &&& (255 : Int32)) <<< ((8 : Int32) &&& 31))).toUInt32.toUInt16.toUInt32.toInt32)) = own_g xs p := by
  have c := own_g_all hx (⟨by decide, by decide⟩ : own_ch 0) p
  rw [own_gU1 hl h0 h1, own_gU2 hl h0 h1, own_cx c]; exact own_narc c
theorem own_asym {a b : Int32} (h : ¬ (a < b)) (q : ¬ (b < a)) : a = b := by
  rw [own_lt] at h q; exact own_eqI (by omega)
theorem own_ng0 {p z : Int32} (c : ¬ ((0 : Int32) < (p - (z >>> ((0 : Int32) &&& 31))))) (h0 : 0 ≤ z.toInt) (h1 : z.toInt ≤ 20) (h3 : p.toInt ≤ 9) (h4 : 0 ≤ p.toInt) : p.toInt ≤ z.toInt := by
  rw [own_shr0, own_lt, own_z0, own_subI (by omega) (by omega) (by omega) (by omega)] at c; omega
theorem own_ng1 {p z : Int32} (c : ¬ ((0 : Int32) < (p - ((z + z) >>> ((1 : Int32) &&& 31))))) (h0 : 0 ≤ z.toInt) (h1 : z.toInt ≤ 20) (h3 : p.toInt ≤ 9) (h4 : 0 ≤ p.toInt) : p.toInt ≤ z.toInt := by
  rw [own_hlf h0 (by omega), own_lt, own_z0, own_subI (by omega) (by omega) (by omega) (by omega)] at c; omega
theorem own_hzl {xs : List Int32} {z : Int32} (h : (xs.length : Int) ≤ z.toInt) : ∀ i, z.toNatClampNeg ≤ i → (own_lat xs).getD i 0 = 0 := by
  intro i hi
  rw [own_tn] at hi
  rw [List.getD_eq_getElem?_getD, List.getElem?_eq_none (by rw [own_lat_len]; omega)]; rfl
theorem own_hzu {xs : List Int32} {z : Int32} (h : (xs.length : Int) ≤ z.toInt) (h1 : z.toInt ≤ 20) : ∀ i, (z + z).toNatClampNeg ≤ i → (own_u xs).getD i 0 = 0 := by
  intro i hi
  rw [own_tn, own_addI (by omega) (by omega) (by omega) (by omega)] at hi
  rw [List.getD_eq_getElem?_getD, List.getElem?_eq_none (by rw [own_u_len]; omega)]; rfl
theorem own_cbo {cs ss : List Int32} {p4 p5 zz : Int32} (h4 : p4 = own_n cs) (h5 : p5 = own_n ss) (hl : cs.length + ss.length ≤ 8) (hz : 2 * ((cs.length : Int) + ss.length) ≤ zz.toInt) (hzz : zz.toInt ≤ 100) : (¬ ((((zz >>> ((1 : Int32) &&& 31)) ||| p4) ||| p5) < (0 : Int32))) ∧ ¬ (((zz >>> ((1 : Int32) &&& 31)) - p4) < p5) := by
  have a := own_nI (cs := cs) (by omega)
  have b := own_nI (cs := ss) (by omega)
  rw [← h4] at a
  rw [← h5] at b
  have e := own_shr1 zz
  have o := c_or0 (zz >>> ((1 : Int32) &&& 31)) p4 (by omega) (by omega)
  have o2 := c_or0 ((zz >>> ((1 : Int32) &&& 31)) ||| p4) p5 (by omega) (by omega)
  have s := own_subI (i := (zz >>> ((1 : Int32) &&& 31))) (j := p4) (by omega) (by omega) (by omega) (by omega)
  rw [own_lt, own_lt, own_z0, s]
  omega
theorem own_all_snoc {P : Int32 → Prop} {xs : List Int32} {x : Int32} (h : ∀ y ∈ xs, P y) (q : P x) : ∀ y ∈ xs ++ [x], P y := by
  intro y hy
  rcases List.mem_append.mp hy with h1 | h1
  · exact h y h1
  · rw [List.mem_singleton.mp h1]; exact q
theorem own_all_snoc2 {P : Int32 → Prop} {xs : List Int32} {x y : Int32} (h : ∀ y ∈ xs, P y) (q : P x) (r : P y) : ∀ z ∈ xs ++ [x, y], P z := by
  intro z hz
  rcases List.mem_append.mp hz with h1 | h1
  · exact h z h1
  · rcases List.mem_cons.mp h1 with h2 | h2
    · rw [h2]; exact q
    · rw [List.mem_singleton.mp h2]; exact r
def own_ls (y : Int32) : Prop := 0 ≤ y.toInt ∧ y.toInt ≤ 127
theorem own_lsc {y : Int32} (h : own_ls y) : own_ch y := ⟨h.1, by have := h.2; omega⟩
theorem own_lsn {y : Int32} (h : own_ls y) : ¬ ((255 : Int32) < y) := by
  have z : (255 : Int32).toInt = 255 := by decide
  have := h.2; rw [own_lt, z]; omega
theorem own_lsB {y : Int32} (h : own_ls y) : own_B y = y := by
  obtain ⟨h0, h1⟩ := h
  have b := c_i2b y
  have c : own_B y = y.toInt8.toInt32.toInt8.toInt32 := rfl
  have d := c_i2b y.toInt8.toInt32
  apply own_eqI
  rw [c]; omega
theorem own_lsM {y : Int32} (h : own_ls y) : y &&& (255 : Int32) = y := by
  obtain ⟨h0, h1⟩ := h
  have m := c_mask y 255 8 (by decide) (by decide)
  apply own_eqI; omega
theorem own_app2 (L : List Int32) (x y : Int32) : L ++ [x, y] = L ++ [x] ++ [y] := by rw [List.append_assoc]; rfl
theorem own_lat_sn2 {L xs : List Int32} {n x y : Int32} (hn : n = own_n xs) (hl : xs.length < 7) (hL : ∀ i, (own_lat xs).getD i 0 = L.getD i 0) (hx : own_ls x) (hy : own_ls y) : ∀ i, (own_lat (xs ++ [x, y])).getD i 0 = (own_s (own_s L n x) (n + (1 : Int32)) y).getD i 0 := by
  have a := own_ntn (cs := xs) (by omega)
  have b := own_n_snoc (x := x) hn (by omega)
  have c := own_ntn (cs := xs ++ [x]) (by rw [List.length_append, List.length_singleton]; omega)
  rw [own_app2]
  have e := own_lat_sn (x := x) (n := n) (by rw [hn]; exact a.symm) hL
  rw [own_lsB hx] at e
  have f := own_lat_sn (x := y) (n := n + 1) (by rw [b]; exact c.symm) e
  rw [own_lsB hy] at f
  exact f
theorem own_ss2 {y0 y1 : Int32} (h0 : own_ls y0) (h1 : own_ls y1) : ∀ q, q < [y0, y1].length → ([y0, y1].getD q 0) &&& (255 : Int32) = [y0, y1].getD q 0 := by
  intro q hq
  match q, hq with
  | 0, _ => exact own_lsM h0
  | 1, _ => exact own_lsM h1
theorem own_ssx {xs : List Int32} (hx : ∀ x ∈ xs, own_ch x) (hy : ∀ x ∈ xs, ¬ ((255 : Int32) < x)) : ∀ q, q < xs.length → ((own_lat xs).getD q 0) &&& (255 : Int32) = xs.getD q 0 := by
  intro q hq
  have e : xs[q]? = some xs[q] := List.getElem?_eq_getElem hq
  have g : xs.getD q 0 = xs[q] := by rw [List.getD_eq_getElem?_getD, e]; rfl
  rw [own_lat_get, g]
  exact own_Bm (hx _ (List.getElem_mem hq)) (hy _ (List.getElem_mem hq))

def Str (Z : State) (h : Heap) (a v : Addr) (xs : List Int32) : Prop := xs.length ≤ 8 ∧ (∀ x ∈ xs, own_ch x) ∧ Exa Z h a "java/lang/String" ∧ Fld Z h a "java/lang/String" "value" "[B" (.ref v) ∧ ∃ k n, n = own_n xs ∧ ((Fld Z h a "java/lang/String" "coder" "B" (.int 0) ∧ (∀ x ∈ xs, ¬ ((255 : Int32) < x)) ∧ Arv Z h v k .byte n (own_vl (own_lat xs)) (.int 0)) ∨ (Fld Z h a "java/lang/String" "coder" "B" (.int 1) ∧ Arv Z h v k .byte (n + n) (own_vl (own_u xs)) (.int 0)))
section
variable {Z : State} {h h' : Heap} {a v : Addr} {xs : List Int32} {ws : List Addr}
theorem Str_exa (F : Str Z h a v xs) : Exa Z h a "java/lang/String" := F.2.2.1
theorem Str_lt0 (F : Str Z h a v xs) : a < h.size := F.2.2.1.lt
theorem Str_lt1 (F : Str Z h a v xs) : v < h.size := by
  obtain ⟨-, -, -, -, k, n, -, ⟨-, -, V⟩ | ⟨-, V⟩⟩ := F <;> exact V.lt
theorem Str_ext (F : Str Z h a v xs) (E : Ext h h') : Str Z h' a v xs := by
  obtain ⟨h1, h2, h3, h4, k, n, h5, ⟨f, g, V⟩ | ⟨f, V⟩⟩ := F
  · exact ⟨h1, h2, h3.ext E, h4.ext E, k, n, h5, Or.inl ⟨f.ext E, g, V.ext E⟩⟩
  · exact ⟨h1, h2, h3.ext E, h4.ext E, k, n, h5, Or.inr ⟨f.ext E, V.ext E⟩⟩
theorem Str_keep (F : Str Z h a v xs) (K : Keep h h' ws) (q : a ∉ ws) (r : v ∉ ws) : Str Z h' a v xs := by
  obtain ⟨h1, h2, h3, h4, k, n, h5, ⟨f, g, V⟩ | ⟨f, V⟩⟩ := F
  · exact ⟨h1, h2, h3.keep K, h4.keep K q, k, n, h5, Or.inl ⟨f.keep K q, g, V.keep K r⟩⟩
  · exact ⟨h1, h2, h3.keep K, h4.keep K q, k, n, h5, Or.inr ⟨f.keep K q, V.keep K r⟩⟩
end
theorem d23_0 : decode jdk_42_method_154_code 0 = .ok (.getstatic 38, 3) := by decide +kernel
theorem d23_3 : decode jdk_42_method_154_code 3 = .ok (.ifCond .eq 14, 3) := by decide +kernel
theorem d23_6 : decode jdk_42_method_154_code 6 = .ok (.aload_n 0, 1) := by decide +kernel
theorem d23_7 : decode jdk_42_method_154_code 7 = .ok (.getfield 15, 3) := by decide +kernel
theorem d23_10 : decode jdk_42_method_154_code 10 = .ok (.ifCond .ne 7, 3) := by decide +kernel
theorem d23_13 : decode jdk_42_method_154_code 13 = .ok (.iconst 1, 1) := by decide +kernel
theorem d23_14 : decode jdk_42_method_154_code 14 = .ok (.goto 4, 3) := by decide +kernel
theorem d23_18 : decode jdk_42_method_154_code 18 = .ok (.ireturn, 1) := by decide +kernel
def Fisl0  : Int32 := (1 : Int32)
theorem Fisl0_l0   : Fisl0  = (1 : Int32) := rfl
theorem ef_isl0 (m : MethodId) (a1 : Addr) : entryFrame m #[(.ref a1)] 1 = mkF m 0 #[.val (.ref a1)] [] := by first | (simp [entryFrame, mkF, argsToLocals, Value.category]; done) | rfl
def Q_isl0 (Z : State) (a1 : Addr) (cs_ : Int32) (fm : Value) (h0 : Heap) (n0 : Nat) (v : Option Value) (h : Heap) (L : List Loc) : Prop := v = some (.int (Fisl0 )) ∧ Fr n0 L ∧ h = h0
set_option maxRecDepth 65536 in
set_option maxHeartbeats 40000000 in
theorem rmisl0 (l : Launch) (Z : State) (a0 : Array Value) (hw : ∀ d ∈ tables_1, d.before a0 Z = true) (ws : List Jvm.Cond) (a1 : Addr) (cs_ : Int32) (fm : Value) (h0 : Heap) (n0 : Nat) (hF : FX Z h0 cs_ fm) (Fc_a1 : Fld Z h0 a1 "java/lang/String" "coder" "B" (.int (0 : Int32))) :
    MetFree l (⟨"java/lang/String", "isLatin1", "()Z"⟩ : MethodName) (head1 (Jvm.Cond.code (⟨"java/lang/String", "isLatin1", "()Z"⟩ : MethodName) jdk_42_method_154_code 1 (some .boolean) :: ws) ({ frames := 0, cells := 0, slots := 0, locals := 0 } : Room)) (fun a U => a = #[(.ref a1)] ∧ Z.Warmed39 U.vm ∧ U.heap = h0) (fun _ _ _ _ _ => True) (fun _ U o U' => ∃ v L, o = .returned v ∧ Q_isl0 Z a1 cs_ fm h0 n0 v U'.heap L ∧ FrameEnd U o U' L ({ frames := 0, cells := 0, slots := 0, locals := 0 } : Room).cells ({ frames := 0, cells := 0, slots := 0, locals := 0 } : Room).slots) := by
  refine met_of (Ls := #[.val (.ref a1)]) (plainFor_of_name (by first | (simp [plainName, overriddenIn]; done) | decide +kernel)) (fun m => ef_isl0 m a1) ?_
  intro p e s m below meth c T0 C X0 e0
  obtain ⟨S_cs, hcs, S_fm, hfm, S_ad, S_hi, S_lo⟩ := id hF
  have N0 := Fr.nil n0
  refine g_getS (pc' := 3) C X0 d23_0 (host := "") (Or.inl (wq hw 44 rfl)) Via.refl e0 S_cs rfl (fun T1 X1 e1 => ?_)
  refine g_ifN (pc' := 6) C X1 d23_3 (feq hcs).1 rfl ?_
  refine g_aloadN (pc' := 7) C X1 d23_6 rfl rfl rfl ?_
  refine g_getF (pc' := 10) C X1 d23_7 (host := "") (Or.inl (wq hw 26 rfl)) Via.refl e1 Fc_a1 rfl (fun T2 X2 e2 => ?_)
  refine g_ifN (pc' := 13) C X2 d23_10 (teq (show (0 : Int32) = (0 : Int32) from (by decide))).2 rfl ?_
  refine g_iconst (pc' := 14) (v := (1 : Int32)) C X2 d23_13 rfl rfl ?_
  refine g_goto (pc' := 18) C X2 d23_14 (by decide) (by decide) ?_
  exact g_retN C X2 (by simp) d23_18 (by decide) (by decide) ⟨congrArg (fun z => some (Value.int z)) (Fisl0_l0  ).symm, N0, e2⟩
theorem d23_17 : decode jdk_42_method_154_code 17 = .ok (.iconst 0, 1) := by decide +kernel
def Fisl1  : Int32 := (0 : Int32)
theorem Fisl1_l0   : Fisl1  = (0 : Int32) := rfl
theorem ef_isl1 (m : MethodId) (a1 : Addr) : entryFrame m #[(.ref a1)] 1 = mkF m 0 #[.val (.ref a1)] [] := by first | (simp [entryFrame, mkF, argsToLocals, Value.category]; done) | rfl
def Q_isl1 (Z : State) (a1 : Addr) (cs_ : Int32) (fm : Value) (h0 : Heap) (n0 : Nat) (v : Option Value) (h : Heap) (L : List Loc) : Prop := v = some (.int (Fisl1 )) ∧ Fr n0 L ∧ h = h0
set_option maxRecDepth 65536 in
set_option maxHeartbeats 40000000 in
theorem rmisl1 (l : Launch) (Z : State) (a0 : Array Value) (hw : ∀ d ∈ tables_1, d.before a0 Z = true) (ws : List Jvm.Cond) (a1 : Addr) (cs_ : Int32) (fm : Value) (h0 : Heap) (n0 : Nat) (hF : FX Z h0 cs_ fm) (Fc_a1 : Fld Z h0 a1 "java/lang/String" "coder" "B" (.int (1 : Int32))) :
    MetFree l (⟨"java/lang/String", "isLatin1", "()Z"⟩ : MethodName) (head1 (Jvm.Cond.code (⟨"java/lang/String", "isLatin1", "()Z"⟩ : MethodName) jdk_42_method_154_code 1 (some .boolean) :: ws) ({ frames := 0, cells := 0, slots := 0, locals := 0 } : Room)) (fun a U => a = #[(.ref a1)] ∧ Z.Warmed39 U.vm ∧ U.heap = h0) (fun _ _ _ _ _ => True) (fun _ U o U' => ∃ v L, o = .returned v ∧ Q_isl1 Z a1 cs_ fm h0 n0 v U'.heap L ∧ FrameEnd U o U' L ({ frames := 0, cells := 0, slots := 0, locals := 0 } : Room).cells ({ frames := 0, cells := 0, slots := 0, locals := 0 } : Room).slots) := by
  refine met_of (Ls := #[.val (.ref a1)]) (plainFor_of_name (by first | (simp [plainName, overriddenIn]; done) | decide +kernel)) (fun m => ef_isl1 m a1) ?_
  intro p e s m below meth c T0 C X0 e0
  obtain ⟨S_cs, hcs, S_fm, hfm, S_ad, S_hi, S_lo⟩ := id hF
  have N0 := Fr.nil n0
  refine g_getS (pc' := 3) C X0 d23_0 (host := "") (Or.inl (wq hw 44 rfl)) Via.refl e0 S_cs rfl (fun T1 X1 e1 => ?_)
  refine g_ifN (pc' := 6) C X1 d23_3 (feq hcs).1 rfl ?_
  refine g_aloadN (pc' := 7) C X1 d23_6 rfl rfl rfl ?_
  refine g_getF (pc' := 10) C X1 d23_7 (host := "") (Or.inl (wq hw 26 rfl)) Via.refl e1 Fc_a1 rfl (fun T2 X2 e2 => ?_)
  refine g_ifY (pc' := 17) C X2 d23_10 (feq (show ¬ ((1 : Int32) = (0 : Int32)) from (by decide))).2 (by decide) (by decide) ?_
  refine g_iconst (pc' := 18) (v := (0 : Int32)) C X2 d23_17 rfl rfl ?_
  exact g_retN C X2 (by simp) d23_18 (by decide) (by decide) ⟨congrArg (fun z => some (Value.int z)) (Fisl1_l0  ).symm, N0, e2⟩
theorem d7_0 : decode jdk_42_method_152_code 0 = .ok (.getstatic 38, 3) := by decide +kernel
theorem d7_3 : decode jdk_42_method_152_code 3 = .ok (.ifCond .eq 10, 3) := by decide +kernel
theorem d7_6 : decode jdk_42_method_152_code 6 = .ok (.aload_n 0, 1) := by decide +kernel
theorem d7_7 : decode jdk_42_method_152_code 7 = .ok (.getfield 15, 3) := by decide +kernel
theorem d7_10 : decode jdk_42_method_152_code 10 = .ok (.goto 4, 3) := by decide +kernel
theorem d7_14 : decode jdk_42_method_152_code 14 = .ok (.ireturn, 1) := by decide +kernel
def Fcod0  : Int32 := (0 : Int32)
theorem Fcod0_l0   : Fcod0  = (0 : Int32) := rfl
theorem ef_cod0 (m : MethodId) (a1 : Addr) : entryFrame m #[(.ref a1)] 1 = mkF m 0 #[.val (.ref a1)] [] := by first | (simp [entryFrame, mkF, argsToLocals, Value.category]; done) | rfl
def Q_cod0 (Z : State) (a1 : Addr) (cs_ : Int32) (fm : Value) (h0 : Heap) (n0 : Nat) (v : Option Value) (h : Heap) (L : List Loc) : Prop := v = some (.int (Fcod0 )) ∧ Fr n0 L ∧ h = h0
set_option maxRecDepth 65536 in
set_option maxHeartbeats 40000000 in
theorem rmcod0 (l : Launch) (Z : State) (a0 : Array Value) (hw : ∀ d ∈ tables_1, d.before a0 Z = true) (ws : List Jvm.Cond) (a1 : Addr) (cs_ : Int32) (fm : Value) (h0 : Heap) (n0 : Nat) (hF : FX Z h0 cs_ fm) (Fc_a1 : Fld Z h0 a1 "java/lang/String" "coder" "B" (.int (0 : Int32))) :
    MetFree l (⟨"java/lang/String", "coder", "()B"⟩ : MethodName) (head1 (Jvm.Cond.code (⟨"java/lang/String", "coder", "()B"⟩ : MethodName) jdk_42_method_152_code 1 (some .byte) :: ws) ({ frames := 0, cells := 0, slots := 0, locals := 0 } : Room)) (fun a U => a = #[(.ref a1)] ∧ Z.Warmed39 U.vm ∧ U.heap = h0) (fun _ _ _ _ _ => True) (fun _ U o U' => ∃ v L, o = .returned v ∧ Q_cod0 Z a1 cs_ fm h0 n0 v U'.heap L ∧ FrameEnd U o U' L ({ frames := 0, cells := 0, slots := 0, locals := 0 } : Room).cells ({ frames := 0, cells := 0, slots := 0, locals := 0 } : Room).slots) := by
  refine met_of (Ls := #[.val (.ref a1)]) (plainFor_of_name (by first | (simp [plainName, overriddenIn]; done) | decide +kernel)) (fun m => ef_cod0 m a1) ?_
  intro p e s m below meth c T0 C X0 e0
  obtain ⟨S_cs, hcs, S_fm, hfm, S_ad, S_hi, S_lo⟩ := id hF
  have N0 := Fr.nil n0
  refine g_getS (pc' := 3) C X0 d7_0 (host := "") (Or.inl (wq hw 44 rfl)) Via.refl e0 S_cs rfl (fun T1 X1 e1 => ?_)
  refine g_ifN (pc' := 6) C X1 d7_3 (feq hcs).1 rfl ?_
  refine g_aloadN (pc' := 7) C X1 d7_6 rfl rfl rfl ?_
  refine g_getF (pc' := 10) C X1 d7_7 (host := "") (Or.inl (wq hw 26 rfl)) Via.refl e1 Fc_a1 rfl (fun T2 X2 e2 => ?_)
  refine g_goto (pc' := 14) C X2 d7_10 (by decide) (by decide) ?_
  exact g_retN C X2 (by simp) d7_14 (by decide) (by decide) ⟨congrArg (fun z => some (Value.int z)) (Fcod0_l0  ).symm, N0, e2⟩
def Fcod1  : Int32 := (1 : Int32)
theorem Fcod1_l0   : Fcod1  = (1 : Int32) := rfl
theorem ef_cod1 (m : MethodId) (a1 : Addr) : entryFrame m #[(.ref a1)] 1 = mkF m 0 #[.val (.ref a1)] [] := by first | (simp [entryFrame, mkF, argsToLocals, Value.category]; done) | rfl
def Q_cod1 (Z : State) (a1 : Addr) (cs_ : Int32) (fm : Value) (h0 : Heap) (n0 : Nat) (v : Option Value) (h : Heap) (L : List Loc) : Prop := v = some (.int (Fcod1 )) ∧ Fr n0 L ∧ h = h0
set_option maxRecDepth 65536 in
set_option maxHeartbeats 40000000 in
theorem rmcod1 (l : Launch) (Z : State) (a0 : Array Value) (hw : ∀ d ∈ tables_1, d.before a0 Z = true) (ws : List Jvm.Cond) (a1 : Addr) (cs_ : Int32) (fm : Value) (h0 : Heap) (n0 : Nat) (hF : FX Z h0 cs_ fm) (Fc_a1 : Fld Z h0 a1 "java/lang/String" "coder" "B" (.int (1 : Int32))) :
    MetFree l (⟨"java/lang/String", "coder", "()B"⟩ : MethodName) (head1 (Jvm.Cond.code (⟨"java/lang/String", "coder", "()B"⟩ : MethodName) jdk_42_method_152_code 1 (some .byte) :: ws) ({ frames := 0, cells := 0, slots := 0, locals := 0 } : Room)) (fun a U => a = #[(.ref a1)] ∧ Z.Warmed39 U.vm ∧ U.heap = h0) (fun _ _ _ _ _ => True) (fun _ U o U' => ∃ v L, o = .returned v ∧ Q_cod1 Z a1 cs_ fm h0 n0 v U'.heap L ∧ FrameEnd U o U' L ({ frames := 0, cells := 0, slots := 0, locals := 0 } : Room).cells ({ frames := 0, cells := 0, slots := 0, locals := 0 } : Room).slots) := by
  refine met_of (Ls := #[.val (.ref a1)]) (plainFor_of_name (by first | (simp [plainName, overriddenIn]; done) | decide +kernel)) (fun m => ef_cod1 m a1) ?_
  intro p e s m below meth c T0 C X0 e0
  obtain ⟨S_cs, hcs, S_fm, hfm, S_ad, S_hi, S_lo⟩ := id hF
  have N0 := Fr.nil n0
  refine g_getS (pc' := 3) C X0 d7_0 (host := "") (Or.inl (wq hw 44 rfl)) Via.refl e0 S_cs rfl (fun T1 X1 e1 => ?_)
  refine g_ifN (pc' := 6) C X1 d7_3 (feq hcs).1 rfl ?_
  refine g_aloadN (pc' := 7) C X1 d7_6 rfl rfl rfl ?_
  refine g_getF (pc' := 10) C X1 d7_7 (host := "") (Or.inl (wq hw 26 rfl)) Via.refl e1 Fc_a1 rfl (fun T2 X2 e2 => ?_)
  refine g_goto (pc' := 14) C X2 d7_10 (by decide) (by decide) ?_
  exact g_retN C X2 (by simp) d7_14 (by decide) (by decide) ⟨congrArg (fun z => some (Value.int z)) (Fcod1_l0  ).symm, N0, e2⟩
theorem d6_0 : decode jdk_42_method_54_code 0 = .ok (.aload_n 0, 1) := by decide +kernel
theorem d6_1 : decode jdk_42_method_54_code 1 = .ok (.getfield 9, 3) := by decide +kernel
theorem d6_4 : decode jdk_42_method_54_code 4 = .ok (.arraylength, 1) := by decide +kernel
theorem d6_5 : decode jdk_42_method_54_code 5 = .ok (.aload_n 0, 1) := by decide +kernel
theorem d6_6 : decode jdk_42_method_54_code 6 = .ok (.invokevirtual 335, 3) := by decide +kernel
theorem pd_5 : parseMethodDescriptor "()B" = some ⟨[], some .byte⟩ := by decide +kernel
theorem d6_9 : decode jdk_42_method_54_code 9 = .ok (.ishr, 1) := by decide +kernel
theorem d6_10 : decode jdk_42_method_54_code 10 = .ok (.ireturn, 1) := by decide +kernel
theorem ef_sl (m : MethodId) (a1 : Addr) : entryFrame m #[(.ref a1)] 1 = mkF m 0 #[.val (.ref a1)] [] := by first | (simp [entryFrame, mkF, argsToLocals, Value.category]; done) | rfl
def Q_sl (Z : State) (a1 : Addr) (v1_ : Addr) (xs : List Int32) (cs_ : Int32) (fm : Value) (h0 : Heap) (n0 : Nat) (v : Option Value) (h : Heap) (L : List Loc) : Prop := v = some (.int (own_n xs)) ∧ Fr n0 L ∧ h = h0
set_option maxRecDepth 65536 in
set_option maxHeartbeats 40000000 in
theorem rmsl (l : Launch) (Z : State) (a0 : Array Value) (hw : ∀ d ∈ tables_1, d.before a0 Z = true) (ws : List Jvm.Cond) (a1 : Addr) (v1_ : Addr) (xs : List Int32) (cs_ : Int32) (fm : Value) (h0 : Heap) (n0 : Nat) (hF : FX Z h0 cs_ fm) (hStr : Str Z h0 a1 v1_ xs) :
    MetFree l (⟨"java/lang/String", "length", "()I"⟩ : MethodName) (head1 (Jvm.Cond.code (⟨"java/lang/String", "length", "()I"⟩ : MethodName) jdk_42_method_54_code 1 (some .int) :: ws) ({ frames := 1, cells := 0, slots := 0, locals := 13 } : Room)) (fun a U => a = #[(.ref a1)] ∧ Z.Warmed39 U.vm ∧ U.heap = h0) (fun _ _ _ _ _ => True) (fun _ U o U' => ∃ v L, o = .returned v ∧ Q_sl Z a1 v1_ xs cs_ fm h0 n0 v U'.heap L ∧ FrameEnd U o U' L ({ frames := 1, cells := 0, slots := 0, locals := 13 } : Room).cells ({ frames := 1, cells := 0, slots := 0, locals := 13 } : Room).slots) := by
  refine met_of (Ls := #[.val (.ref a1)]) (plainFor_of_name (by first | (simp [plainName, overriddenIn]; done) | decide +kernel)) (fun m => ef_sl m a1) ?_
  intro p e s m below meth c T0 C X0 e0
  obtain ⟨S_cs, hcs, S_fm, hfm, S_ad, S_hi, S_lo⟩ := id hF
  have N0 := Fr.nil n0
  rcases hStr with ⟨hl_a1, hx_a1, E_a1, Fv_a1, k_a1, n, hne, ⟨Fc_a1, hy_a1, V_v1_⟩ | ⟨Fc_a1, V_v1_⟩⟩
  · have hnB := own_nB hne hl_a1
    refine g_aloadN (pc' := 1) C X0 d6_0 rfl rfl rfl ?_
    refine g_getF (pc' := 4) C X0 d6_1 (host := "") (Or.inl (wq hw 25 rfl)) Via.refl e0 Fv_a1 rfl (fun T1 X1 e1 => ?_)
    refine g_len (pc' := 5) C X1 d6_4 e1 V_v1_ rfl ?_
    refine g_aloadN (pc' := 6) C X1 d6_5 rfl rfl rfl ?_
    refine g_callV (b := a1) (z := (⟨"java/lang/String", "coder", "()B"⟩ : MethodName)) (y := (⟨"java/lang/String", "coder", "()B"⟩ : MethodName)) (argsL := []) (st := [(.int n)]) (pc' := 9) C X1 d6_6 (wq hw 39 rfl) (wq hw 40 rfl) (notFace_of_selects (args := #[]) (mvT C.hZ (wq hw 42 rfl))) (wq hw 42 rfl) (wq hw 41 rfl) (wq hw 8 rfl) (wq hw 43 rfl) (by decide) (rmcod0 l Z a0 hw [] a1 cs_ fm h0 n0 hF Fc_a1) (W := 1) (by decide) (by decide) (ce := 0) (sl := 0) rfl rfl (by decide) (by decide) rfl E_a1 e1 rfl pd_5 rfl (Nat.le_refl _) rfl (fun rv2 T2 L2 X2 Q2 => ?_)
    obtain ⟨q2, Nq2, e2⟩ := Q2
    have N2 := Fr.app N0 Nq2
    rw [Fcod0_l0 ] at q2
    subst q2
    show Go p.tables e below _ (T2.setTop (mkF m 9 #[.val (.ref a1)] [(.int (0 : Int32)), (.int n)]))
    refine g_ishr (pc' := 10) C X2 d6_9 rfl ?_
    exact g_retI C X2 d6_10 (by decide) (by decide) ⟨(congrArg (fun z => some (Value.int z)) (own_shr0.trans hne)), N2, e2⟩
  · have hnB := own_nB hne hl_a1
    refine g_aloadN (pc' := 1) C X0 d6_0 rfl rfl rfl ?_
    refine g_getF (pc' := 4) C X0 d6_1 (host := "") (Or.inl (wq hw 25 rfl)) Via.refl e0 Fv_a1 rfl (fun T3 X3 e3 => ?_)
    refine g_len (pc' := 5) C X3 d6_4 e3 V_v1_ rfl ?_
    refine g_aloadN (pc' := 6) C X3 d6_5 rfl rfl rfl ?_
    refine g_callV (b := a1) (z := (⟨"java/lang/String", "coder", "()B"⟩ : MethodName)) (y := (⟨"java/lang/String", "coder", "()B"⟩ : MethodName)) (argsL := []) (st := [(.int (n + n))]) (pc' := 9) C X3 d6_6 (wq hw 39 rfl) (wq hw 40 rfl) (notFace_of_selects (args := #[]) (mvT C.hZ (wq hw 42 rfl))) (wq hw 42 rfl) (wq hw 41 rfl) (wq hw 8 rfl) (wq hw 43 rfl) (by decide) (rmcod1 l Z a0 hw [] a1 cs_ fm h0 n0 hF Fc_a1) (W := 1) (by decide) (by decide) (ce := 0) (sl := 0) rfl rfl (by decide) (by decide) rfl E_a1 e3 rfl pd_5 rfl (Nat.le_refl _) rfl (fun rv4 T4 L4 X4 Q4 => ?_)
    obtain ⟨q4, Nq4, e4⟩ := Q4
    have N4 := Fr.app N0 Nq4
    rw [Fcod1_l0 ] at q4
    subst q4
    show Go p.tables e below _ (T4.setTop (mkF m 9 #[.val (.ref a1)] [(.int (1 : Int32)), (.int (n + n))]))
    refine g_ishr (pc' := 10) C X4 d6_9 rfl ?_
    exact g_retI C X4 d6_10 (by decide) (by decide) ⟨(congrArg (fun z => some (Value.int z)) ((own_hlf hnB.1 (by omega)).trans hne)), N4, e4⟩
theorem d22_0 : decode jdk_42_method_56_code 0 = .ok (.aload_n 0, 1) := by decide +kernel
theorem d22_1 : decode jdk_42_method_56_code 1 = .ok (.invokevirtual 492, 3) := by decide +kernel
theorem pd_6 : parseMethodDescriptor "()Z" = some ⟨[], some .boolean⟩ := by decide +kernel
theorem d22_4 : decode jdk_42_method_56_code 4 = .ok (.ifCond .eq 12, 3) := by decide +kernel
theorem d22_7 : decode jdk_42_method_56_code 7 = .ok (.aload_n 0, 1) := by decide +kernel
theorem d22_8 : decode jdk_42_method_56_code 8 = .ok (.getfield 9, 3) := by decide +kernel
theorem d22_11 : decode jdk_42_method_56_code 11 = .ok (.iload_n 1, 1) := by decide +kernel
theorem d22_12 : decode jdk_42_method_56_code 12 = .ok (.invokestatic 495, 3) := by decide +kernel
theorem d22_15 : decode jdk_42_method_56_code 15 = .ok (.ireturn, 1) := by decide +kernel
theorem d22_16 : decode jdk_42_method_56_code 16 = .ok (.aload_n 0, 1) := by decide +kernel
theorem d22_17 : decode jdk_42_method_56_code 17 = .ok (.getfield 9, 3) := by decide +kernel
theorem d22_20 : decode jdk_42_method_56_code 20 = .ok (.iload_n 1, 1) := by decide +kernel
theorem d22_21 : decode jdk_42_method_56_code 21 = .ok (.invokestatic 498, 3) := by decide +kernel
theorem d22_24 : decode jdk_42_method_56_code 24 = .ok (.ireturn, 1) := by decide +kernel
theorem ef_sca (m : MethodId) (a1 : Addr) (p2 : Int32) : entryFrame m #[(.ref a1), (.int p2)] 2 = mkF m 0 #[.val (.ref a1), .val (.int p2)] [] := by first | (simp [entryFrame, mkF, argsToLocals, Value.category]; done) | rfl
def Q_sca (Z : State) (a1 : Addr) (p2 : Int32) (v1_ : Addr) (xs : List Int32) (cs_ : Int32) (fm : Value) (h0 : Heap) (n0 : Nat) (v : Option Value) (h : Heap) (L : List Loc) : Prop := v = some (.int (own_g xs p2)) ∧ Fr n0 L ∧ h = h0
set_option maxRecDepth 65536 in
set_option maxHeartbeats 40000000 in
theorem rmsca (l : Launch) (Z : State) (a0 : Array Value) (hw : ∀ d ∈ tables_1, d.before a0 Z = true) (ws : List Jvm.Cond) (a1 : Addr) (p2 : Int32) (v1_ : Addr) (xs : List Int32) (cs_ : Int32) (fm : Value) (h0 : Heap) (n0 : Nat) (hF : FX Z h0 cs_ fm) (hStr : Str Z h0 a1 v1_ xs) (hi0 : ¬ (p2 < (0 : Int32))) (hi1 : p2 < own_n xs) :
    MetFree l (⟨"java/lang/String", "charAt", "(I)C"⟩ : MethodName) (head1 (Jvm.Cond.code (⟨"java/lang/String", "charAt", "(I)C"⟩ : MethodName) jdk_42_method_56_code 2 (some .char) :: ws) ({ frames := 4, cells := 0, slots := 0, locals := 53 } : Room)) (fun a U => a = #[(.ref a1), (.int p2)] ∧ Z.Warmed39 U.vm ∧ U.heap = h0) (fun _ _ _ _ _ => True) (fun _ U o U' => ∃ v L, o = .returned v ∧ Q_sca Z a1 p2 v1_ xs cs_ fm h0 n0 v U'.heap L ∧ FrameEnd U o U' L ({ frames := 4, cells := 0, slots := 0, locals := 53 } : Room).cells ({ frames := 4, cells := 0, slots := 0, locals := 53 } : Room).slots) := by
  refine met_of (Ls := #[.val (.ref a1), .val (.int p2)]) (plainFor_of_name (by first | (simp [plainName, overriddenIn]; done) | decide +kernel)) (fun m => ef_sca m a1 p2) ?_
  intro p e s m below meth c T0 C X0 e0
  obtain ⟨S_cs, hcs, S_fm, hfm, S_ad, S_hi, S_lo⟩ := id hF
  have N0 := Fr.nil n0
  rcases hStr with ⟨hl_a1, hx_a1, E_a1, Fv_a1, k_a1, n, hne, ⟨Fc_a1, hy_a1, V_v1_⟩ | ⟨Fc_a1, V_v1_⟩⟩
  · have hnB := own_nB hne hl_a1
    have hi1n : p2 < n := by rw [hne]; exact hi1
    have hb_ := own_hbn (n := n) (p := p2) hnB.1 (by omega) hi0 hi1n
    refine g_aloadN (pc' := 1) C X0 d22_0 rfl rfl rfl ?_
    refine g_callV (b := a1) (z := (⟨"java/lang/String", "isLatin1", "()Z"⟩ : MethodName)) (y := (⟨"java/lang/String", "isLatin1", "()Z"⟩ : MethodName)) (argsL := []) (st := []) (pc' := 4) C X0 d22_1 (wq hw 125 rfl) (wq hw 126 rfl) (notFace_of_selects (args := #[]) (mvT C.hZ (wq hw 128 rfl))) (wq hw 128 rfl) (wq hw 127 rfl) (wq hw 8 rfl) (wq hw 129 rfl) (by decide) (rmisl0 l Z a0 hw [] a1 cs_ fm h0 n0 hF Fc_a1) (W := 0) (by decide) (by decide) (ce := 0) (sl := 0) rfl rfl (by decide) (by decide) rfl E_a1 e0 rfl pd_6 rfl (Nat.le_refl _) rfl (fun rv1 T1 L1 X1 Q1 => ?_)
    obtain ⟨q1, Nq1, e1⟩ := Q1
    have N1 := Fr.app N0 Nq1
    rw [Fisl0_l0 ] at q1
    subst q1
    show Go p.tables e below _ (T1.setTop (mkF m 4 #[.val (.ref a1), .val (.int p2)] [(.int (1 : Int32))]))
    refine g_ifN (pc' := 7) C X1 d22_4 (feq (show ¬ ((1 : Int32) = (0 : Int32)) from (by decide))).1 rfl ?_
    refine g_aloadN (pc' := 8) C X1 d22_7 rfl rfl rfl ?_
    refine g_getF (pc' := 11) C X1 d22_8 (host := "") (Or.inl (wq hw 25 rfl)) Via.refl e1 Fv_a1 rfl (fun T2 X2 e2 => ?_)
    refine g_iloadN (pc' := 12) C X2 d22_11 rfl rfl ?_
    refine g_callS (y := (⟨"java/lang/StringLatin1", "charAt", "([BI)C"⟩ : MethodName)) (argsL := [(.ref v1_), (.int p2)]) (st := []) (pc' := 15) C X2 d22_12 (wq hw 130 rfl) (wq hw 131 rfl) (wq hw 132 rfl) (wq hw 133 rfl) (by decide) (rmlca l Z a0 hw [] v1_ p2 k_a1 n (own_lat xs) cs_ fm h0 n0 hF V_v1_ hi0 hi1n) (W := 0) (by decide) (by decide) (ce := 0) (sl := 0) rfl rfl (by decide) (by decide) rfl e2 rfl pd_4 rfl (Nat.le_refl _) rfl (fun rv3 T3 L3 X3 Q3 => ?_)
    obtain ⟨q3, Nq3, e3⟩ := Q3
    have N3 := Fr.app N1 Nq3
    rw [Flca_l0 p2 (own_lat xs)] at q3
    subst q3
    show Go p.tables e below _ (T3.setTop (mkF m 15 #[.val (.ref a1), .val (.int p2)] [(.int (nar .char ((own_g (own_lat xs) p2) &&& (255 : Int32)).toUInt32.toUInt16.toUInt32.toInt32))]))
    exact g_retN C X3 (by simp) d22_15 (by decide) (by decide) ⟨(congrArg (fun z => some (Value.int z)) ((congrArg (nar .char) (own_clL hx_a1 hy_a1)).trans (own_narc (own_g_all hx_a1 (⟨by decide, by decide⟩ : own_ch 0) p2)))), N3, e3⟩
  · have hnB := own_nB hne hl_a1
    have hi1n : p2 < n := by rw [hne]; exact hi1
    have hb_ := own_hbn (n := n) (p := p2) hnB.1 (by omega) hi0 hi1n
    refine g_aloadN (pc' := 1) C X0 d22_0 rfl rfl rfl ?_
    refine g_callV (b := a1) (z := (⟨"java/lang/String", "isLatin1", "()Z"⟩ : MethodName)) (y := (⟨"java/lang/String", "isLatin1", "()Z"⟩ : MethodName)) (argsL := []) (st := []) (pc' := 4) C X0 d22_1 (wq hw 125 rfl) (wq hw 126 rfl) (notFace_of_selects (args := #[]) (mvT C.hZ (wq hw 128 rfl))) (wq hw 128 rfl) (wq hw 127 rfl) (wq hw 8 rfl) (wq hw 129 rfl) (by decide) (rmisl1 l Z a0 hw [] a1 cs_ fm h0 n0 hF Fc_a1) (W := 0) (by decide) (by decide) (ce := 0) (sl := 0) rfl rfl (by decide) (by decide) rfl E_a1 e0 rfl pd_6 rfl (Nat.le_refl _) rfl (fun rv4 T4 L4 X4 Q4 => ?_)
    obtain ⟨q4, Nq4, e4⟩ := Q4
    have N4 := Fr.app N0 Nq4
    rw [Fisl1_l0 ] at q4
    subst q4
    show Go p.tables e below _ (T4.setTop (mkF m 4 #[.val (.ref a1), .val (.int p2)] [(.int (0 : Int32))]))
    refine g_ifY (pc' := 16) C X4 d22_4 (teq (show (0 : Int32) = (0 : Int32) from (by decide))).1 (by decide) (by decide) ?_
    refine g_aloadN (pc' := 17) C X4 d22_16 rfl rfl rfl ?_
    refine g_getF (pc' := 20) C X4 d22_17 (host := "") (Or.inl (wq hw 25 rfl)) Via.refl e4 Fv_a1 rfl (fun T5 X5 e5 => ?_)
    refine g_iloadN (pc' := 21) C X5 d22_20 rfl rfl ?_
    refine g_callS (y := (⟨"java/lang/StringUTF16", "charAt", "([BI)C"⟩ : MethodName)) (argsL := [(.ref v1_), (.int p2)]) (st := []) (pc' := 24) C X5 d22_21 (wq hw 244 rfl) (wq hw 245 rfl) (wq hw 112 rfl) (wq hw 246 rfl) (by decide) (rmuca l Z a0 hw [] v1_ p2 k_a1 (n + n) (own_u xs) cs_ fm h0 n0 hF V_v1_ hb_.1 hb_.2.1 hb_.2.2.1 hb_.2.2.2.1 hi0 hb_.2.2.2.2) (W := 0) (by decide) (by decide) (ce := 0) (sl := 0) rfl rfl (by decide) (by decide) rfl e5 rfl pd_4 rfl (Nat.le_refl _) rfl (fun rv6 T6 L6 X6 Q6 => ?_)
    obtain ⟨q6, Nq6, e6⟩ := Q6
    have N6 := Fr.app N4 Nq6
    rw [Fuca_l0 p2 (own_u xs)] at q6
    subst q6
    show Go p.tables e below _ (T6.setTop (mkF m 24 #[.val (.ref a1), .val (.int p2)] [(.int (nar .char (nar .char ((((own_g (own_u xs) (p2 <<< ((1 : Int32) &&& 31))) &&& (255 : Int32)) <<< ((0 : Int32) &&& 31)) ||| (((own_g (own_u xs) ((p2 <<< ((1 : Int32) &&& 31)) + (1 : Int32))) &&& (255 : Int32)) <<< ((8 : Int32) &&& 31))).toUInt32.toUInt16.toUInt32.toInt32)))]))
    exact g_retN C X6 (by simp) d22_24 (by decide) (by decide) ⟨(congrArg (fun z => some (Value.int z)) ((congrArg (nar .char) (own_clU hx_a1 hl_a1 hi0 hi1)).trans (own_narc (own_g_all hx_a1 (⟨by decide, by decide⟩ : own_ch 0) p2)))), N6, e6⟩
def Bld (Z : State) (h : Heap) (b v : Addr) (z : Int32) (xs : List Int32) : Prop := xs.length ≤ 8 ∧ (∀ x ∈ xs, own_ch x) ∧ Exa Z h b "java/lang/StringBuilder" ∧ Fld Z h b "java/lang/AbstractStringBuilder" "value" "[B" (.ref v) ∧ Fld Z h b "java/lang/AbstractStringBuilder" "maybeLatin1" "Z" (.int 0) ∧ Exa Z h v "[B" ∧ ((xs.length : Int) ≤ z.toInt ∧ z.toInt ≤ 20) ∧ ∃ k n, n = own_n xs ∧ Fld Z h b "java/lang/AbstractStringBuilder" "count" "I" (.int n) ∧ ((Fld Z h b "java/lang/AbstractStringBuilder" "coder" "B" (.int 0) ∧ (∀ x ∈ xs, ¬ ((255 : Int32) < x)) ∧ Arv Z h v k .byte z (own_vl (own_lat xs)) (.int 0)) ∨ (Fld Z h b "java/lang/AbstractStringBuilder" "coder" "B" (.int 1) ∧ Arv Z h v k .byte (z + z) (own_vl (own_u xs)) (.int 0)))
section
variable {Z : State} {h h' : Heap} {b v : Addr} {z : Int32} {xs : List Int32} {ws : List Addr}
theorem Bld_exa (F : Bld Z h b v z xs) : Exa Z h b "java/lang/StringBuilder" := F.2.2.1
theorem Bld_lt0 (F : Bld Z h b v z xs) : b < h.size := F.2.2.1.lt
theorem Bld_lt1 (F : Bld Z h b v z xs) : v < h.size := F.2.2.2.2.2.1.lt
theorem Bld_pl0 (F : Bld Z h b v z xs) : ∃ c : Cell, h[b]? = some c ∧ c.vm.isStatics = false := by
  obtain ⟨c_, _, h1_, _, _, h2_, _⟩ := F.2.2.1
  exact ⟨c_, h1_, h2_⟩
theorem Bld_pl1 (F : Bld Z h b v z xs) : ∃ c : Cell, h[v]? = some c ∧ c.vm.isStatics = false := by
  obtain ⟨c_, _, h1_, _, _, h2_, _⟩ := F.2.2.2.2.2.1
  exact ⟨c_, h1_, h2_⟩
theorem Bld_ext (F : Bld Z h b v z xs) (E : Ext h h') : Bld Z h' b v z xs := by
  obtain ⟨h1, h2, h3, h4, h5, hE, hz, k, n, h6, h7, ⟨f, g, V⟩ | ⟨f, V⟩⟩ := F
  · exact ⟨h1, h2, h3.ext E, h4.ext E, h5.ext E, hE.ext E, hz, k, n, h6, h7.ext E, Or.inl ⟨f.ext E, g, V.ext E⟩⟩
  · exact ⟨h1, h2, h3.ext E, h4.ext E, h5.ext E, hE.ext E, hz, k, n, h6, h7.ext E, Or.inr ⟨f.ext E, V.ext E⟩⟩
theorem Bld_keep (F : Bld Z h b v z xs) (K : Keep h h' ws) (q : b ∉ ws) (r : v ∉ ws) : Bld Z h' b v z xs := by
  obtain ⟨h1, h2, h3, h4, h5, hE, hz, k, n, h6, h7, ⟨f, g, V⟩ | ⟨f, V⟩⟩ := F
  · exact ⟨h1, h2, h3.keep K, h4.keep K q, h5.keep K q, hE.keep K, hz, k, n, h6, h7.keep K q, Or.inl ⟨f.keep K q, g, V.keep K r⟩⟩
  · exact ⟨h1, h2, h3.keep K, h4.keep K q, h5.keep K q, hE.keep K, hz, k, n, h6, h7.keep K q, Or.inr ⟨f.keep K q, V.keep K r⟩⟩
end
theorem d9_0 : decode jdk_68_method_2_code 0 = .ok (.aload_n 0, 1) := by decide +kernel
theorem d9_1 : decode jdk_68_method_2_code 1 = .ok (.invokespecial 3, 3) := by decide +kernel
theorem d9_4 : decode jdk_68_method_2_code 4 = .ok (.getstatic 18, 3) := by decide +kernel
theorem d9_7 : decode jdk_68_method_2_code 7 = .ok (.ifCond .eq 18, 3) := by decide +kernel
theorem d9_10 : decode jdk_68_method_2_code 10 = .ok (.aload_n 0, 1) := by decide +kernel
theorem d9_11 : decode jdk_68_method_2_code 11 = .ok (.iload_n 1, 1) := by decide +kernel
theorem d9_12 : decode jdk_68_method_2_code 12 = .ok (.newarray .byte, 2) := by decide +kernel
theorem d9_14 : decode jdk_68_method_2_code 14 = .ok (.putfield 15, 3) := by decide +kernel
theorem d9_17 : decode jdk_68_method_2_code 17 = .ok (.aload_n 0, 1) := by decide +kernel
theorem d9_18 : decode jdk_68_method_2_code 18 = .ok (.iconst 0, 1) := by decide +kernel
theorem d9_19 : decode jdk_68_method_2_code 19 = .ok (.putfield 22, 3) := by decide +kernel
theorem d9_22 : decode jdk_68_method_2_code 22 = .ok (.goto 16, 3) := by decide +kernel
theorem d9_38 : decode jdk_68_method_2_code 38 = .ok (.return_, 1) := by decide +kernel
theorem ef_abi (m : MethodId) (a1 : Addr) (p2 : Int32) : entryFrame m #[(.ref a1), (.int p2)] 2 = mkF m 0 #[.val (.ref a1), .val (.int p2)] [] := by first | (simp [entryFrame, mkF, argsToLocals, Value.category]; done) | rfl
def Q_abi (Z : State) (a1 : Addr) (p2 : Int32) (cs_ : Int32) (fm : Value) (h0 : Heap) (n0 : Nat) (vr : Option Value) (h : Heap) (L : List Loc) : Prop := ∃ w : Addr, ∃ kw : ClassId, (vr = none) ∧ (Fr n0 L) ∧ (Keep h0 h [a1]) ∧ (h0.size ≤ w) ∧ (n0 ≤ w) ∧ (Exa Z h a1 "java/lang/StringBuilder") ∧ (Fld Z h a1 "java/lang/AbstractStringBuilder" "value" "[B" (.ref w)) ∧ (Fld Z h a1 "java/lang/AbstractStringBuilder" "maybeLatin1" "Z" (.int (0 : Int32))) ∧ (Fld Z h a1 "java/lang/AbstractStringBuilder" "count" "I" (.int (0 : Int32))) ∧ (Fld Z h a1 "java/lang/AbstractStringBuilder" "coder" "B" (.int (0 : Int32))) ∧ (Arv Z h w kw .byte p2 (own_vl []) (.int (0 : Int32))) ∧ (Exa Z h w "[B")
set_option maxRecDepth 65536 in
set_option maxHeartbeats 40000000 in
theorem rmabi (l : Launch) (Z : State) (a0 : Array Value) (hw : ∀ d ∈ tables_1, d.before a0 Z = true) (ws : List Jvm.Cond) (a1 : Addr) (p2 : Int32) (cs_ : Int32) (fm : Value) (h0 : Heap) (n0 : Nat) (Z0 : n0 ≤ h0.size) (hF : FX Z h0 cs_ fm) (E_a1 : Exa Z h0 a1 "java/lang/StringBuilder") (Fv_a1 : Fld Z h0 a1 "java/lang/AbstractStringBuilder" "value" "[B" .null) (Fm_a1 : Fld Z h0 a1 "java/lang/AbstractStringBuilder" "maybeLatin1" "Z" (.int (0 : Int32))) (Fn_a1 : Fld Z h0 a1 "java/lang/AbstractStringBuilder" "count" "I" (.int (0 : Int32))) (Fc_a1 : Fld Z h0 a1 "java/lang/AbstractStringBuilder" "coder" "B" (.int (0 : Int32))) (gn_a1 : n0 ≤ a1) (hp0 : ¬ (p2 < (0 : Int32))) (hcp : p2.toNatClampNeg ≤ 8) :
    MetFree l (⟨"java/lang/AbstractStringBuilder", "<init>", "(I)V"⟩ : MethodName) (head1 (Jvm.Cond.code (⟨"java/lang/AbstractStringBuilder", "<init>", "(I)V"⟩ : MethodName) jdk_68_method_2_code 2 none :: ws) ({ frames := 1, cells := 1, slots := 8, locals := 12 } : Room)) (fun a U => a = #[(.ref a1), (.int p2)] ∧ Z.Warmed39 U.vm ∧ U.heap = h0) (fun _ _ _ _ _ => True) (fun _ U o U' => ∃ v L, o = .returned v ∧ Q_abi Z a1 p2 cs_ fm h0 n0 v U'.heap L ∧ FrameEnd U o U' L ({ frames := 1, cells := 1, slots := 8, locals := 12 } : Room).cells ({ frames := 1, cells := 1, slots := 8, locals := 12 } : Room).slots) := by
  refine met_of (Ls := #[.val (.ref a1), .val (.int p2)]) (plainFor_of_name (by first | (simp [plainName, overriddenIn]; done) | decide +kernel)) (fun m => ef_abi m a1 p2) ?_
  intro p e s m below meth c T0 C X0 e0
  obtain ⟨S_cs, hcs, S_fm, hfm, S_ad, S_hi, S_lo⟩ := id hF
  have N0 := Fr.nil n0
  have K0 : Keep h0 h0 [a1] := Keep.refl h0 _
  refine g_aloadN (pc' := 1) C X0 d9_0 rfl rfl rfl ?_
  refine g_initO (W := 0) (pc' := 4) C X0 d9_1 (wq hw 54 rfl) (wq hw 17 rfl) (wq hw 18 rfl) e0 rfl (by decide) (Nat.le_refl _) (by decide) rfl (fun T1 X1 e1 => ?_)
  refine g_getS (pc' := 7) C X1 d9_4 (host := "") (Or.inl (wq hw 55 rfl)) Via.refl e1 S_cs rfl (fun T2 X2 e2 => ?_)
  refine g_ifN (pc' := 10) C X2 d9_7 (feq hcs).1 rfl ?_
  refine g_aloadN (pc' := 11) C X2 d9_10 rfl rfl rfl ?_
  refine g_iloadN (pc' := 12) C X2 d9_11 rfl rfl ?_
  refine g_newPE (pc' := 14) (cap := 8) (ad := "[B") C X2 (by decide) d9_12 (wq hw 20 rfl) e2 hp0 hcp (by decide) (ce := 1) (sl := 8) rfl rfl (by decide) (by decide) rfl (fun T3 h3 b3 ck3 g3 X3 e3 E3 V3 A3 => ?_)
  have ne3_4 : ¬ (a1 = b3) := Nat.ne_of_lt (Nat.lt_of_lt_of_le E_a1.lt (Nat.le_of_eq g3.symm))
  have FX_3 := FX_ext hF E3
  have E_a1_3 := E_a1.ext E3
  have Fv_a1_3 := Fv_a1.ext E3
  have Fm_a1_3 := Fm_a1.ext E3
  have Fn_a1_3 := Fn_a1.ext E3
  have Fc_a1_3 := Fc_a1.ext E3
  have gn_b3 : n0 ≤ b3 := Nat.le_trans Z0 (Nat.le_of_eq g3.symm)
  have Z3 := Nat.le_trans Z0 E3.1
  have sz_b3 : h0.size ≤ b3 := Nat.le_trans K0.1 (Nat.le_of_eq g3.symm)
  have K3 := K0.ext E3
  refine g_putF (pc' := 17) C X3 d9_14 (host := "") (Or.inl (wq hw 56 rfl)) Via.refl e3 Fv_a1_3 E_a1_3 (Or.inl (wq hw 57 rfl)) (wq hw 32 rfl) (ty := (.array .byte)) (by decide) rfl rfl rfl (fun T5 h5 X5 e5 W5 => ?_)
  have F5 := Fv_a1_3.same W5
  have FX_5 := FX_wr FX_3 W5
  have E_a1_5 := E_a1_3.wr W5
  have Fm_a1_5 := Fm_a1_3.other W5 (Or.inr (slot_ne (Or.inl (wq hw 280 rfl)) (Or.inl (wq hw 57 rfl)) (by decide) (t := .boolean) (t' := (.array .byte)) (by decide) (by decide)))
  have Fn_a1_5 := Fn_a1_3.other W5 (Or.inr (slot_ne (Or.inl (wq hw 87 rfl)) (Or.inl (wq hw 57 rfl)) (by decide) (t := .int) (t' := (.array .byte)) (by decide) (by decide)))
  have Fc_a1_5 := Fc_a1_3.other W5 (Or.inr (slot_ne (Or.inl (wq hw 59 rfl)) (Or.inl (wq hw 57 rfl)) (by decide) (t := .byte) (t' := (.array .byte)) (by decide) (by decide)))
  have A3_5 := A3.wr W5
  have V3_5 := V3.other W5 (Ne.symm ne3_4)
  have Z5 := Nat.le_trans Z3 (Nat.le_of_eq W5.size.symm)
  have N5 := Fr.snoc X5 N0 gn_a1
  have K5 := K3.wr W5 (Or.inl (List.mem_of_getElem? (i := 0) rfl))
  refine g_aloadN (pc' := 18) C X5 d9_17 rfl rfl rfl ?_
  refine g_iconst (pc' := 19) (v := (0 : Int32)) C X5 d9_18 rfl rfl ?_
  refine g_putFN (pc' := 22) (v' := (.int (0 : Int32))) C X5 d9_19 (wq hw 58 rfl) Via.refl e5 Fc_a1_5 E_a1_5 (Or.inl (wq hw 59 rfl)) (wq hw 32 rfl) (ty := .byte) (by decide) rfl (by decide) rfl (fun T6 h6 X6 e6 W6 => ?_)
  have F6 := Fc_a1_5.same W6
  have FX_6 := FX_wr FX_5 W6
  have E_a1_6 := E_a1_5.wr W6
  have Fm_a1_6 := Fm_a1_5.other W6 (Or.inr (slot_ne (Or.inl (wq hw 280 rfl)) (Or.inl (wq hw 59 rfl)) (by decide) (t := .boolean) (t' := .byte) (by decide) (by decide)))
  have Fn_a1_6 := Fn_a1_5.other W6 (Or.inr (slot_ne (Or.inl (wq hw 87 rfl)) (Or.inl (wq hw 59 rfl)) (by decide) (t := .int) (t' := .byte) (by decide) (by decide)))
  have A3_6 := A3_5.wr W6
  have V3_6 := V3_5.other W6 (Ne.symm ne3_4)
  have F5_6 := F5.other W6 (Or.inr (slot_ne (Or.inl (wq hw 57 rfl)) (Or.inl (wq hw 59 rfl)) (by decide) (t := (.array .byte)) (t' := .byte) (by decide) (by decide)))
  have Z6 := Nat.le_trans Z5 (Nat.le_of_eq W6.size.symm)
  have N6 := Fr.snoc X6 N5 gn_a1
  have K6 := K5.wr W6 (Or.inl (List.mem_of_getElem? (i := 0) rfl))
  refine g_goto (pc' := 38) C X6 d9_22 (by decide) (by decide) ?_
  exact g_retV C X6 d9_38 (by decide) (by decide) ⟨b3, ck3, rfl, N6, (by rw [e6]; exact K6), sz_b3, gn_b3, (by rw [e6]; exact E_a1_6), (by rw [e6]; exact F5_6), (by rw [e6]; exact Fm_a1_6), (by rw [e6]; exact Fn_a1_6), (by rw [e6]; exact F6), (by rw [e6]; exact V3_6), (by rw [e6]; exact A3_6)⟩
theorem own_c20 {p : Int32} (h : ¬ (p < (0 : Int32))) (q : p.toNatClampNeg ≤ 8) : (([] : List Int32).length : Int) ≤ p.toInt ∧ p.toInt ≤ 20 := by
  have := own_nn h
  rw [own_tn] at q
  exact ⟨this, by omega⟩
theorem d8_0 : decode jdk_67_method_2_code 0 = .ok (.aload_n 0, 1) := by decide +kernel
theorem d8_1 : decode jdk_67_method_2_code 1 = .ok (.iload_n 1, 1) := by decide +kernel
theorem d8_2 : decode jdk_67_method_2_code 2 = .ok (.invokespecial 1, 3) := by decide +kernel
theorem pd_7 : parseMethodDescriptor "(I)V" = some ⟨[.int], none⟩ := by decide +kernel
theorem d8_5 : decode jdk_67_method_2_code 5 = .ok (.return_, 1) := by decide +kernel
theorem ef_sbi (m : MethodId) (a1 : Addr) (p2 : Int32) : entryFrame m #[(.ref a1), (.int p2)] 2 = mkF m 0 #[.val (.ref a1), .val (.int p2)] [] := by first | (simp [entryFrame, mkF, argsToLocals, Value.category]; done) | rfl
def Q_sbi (Z : State) (a1 : Addr) (p2 : Int32) (cs_ : Int32) (fm : Value) (h0 : Heap) (n0 : Nat) (vr : Option Value) (h : Heap) (L : List Loc) : Prop := ∃ w : Addr, (vr = none) ∧ (Fr n0 L) ∧ (Keep h0 h [a1]) ∧ (h0.size ≤ w) ∧ (n0 ≤ w) ∧ (Bld Z h a1 w p2 [])
set_option maxRecDepth 65536 in
set_option maxHeartbeats 40000000 in
theorem rmsbi (l : Launch) (Z : State) (a0 : Array Value) (hw : ∀ d ∈ tables_1, d.before a0 Z = true) (ws : List Jvm.Cond) (a1 : Addr) (p2 : Int32) (cs_ : Int32) (fm : Value) (h0 : Heap) (n0 : Nat) (Z0 : n0 ≤ h0.size) (hF : FX Z h0 cs_ fm) (E_a1 : Exa Z h0 a1 "java/lang/StringBuilder") (Fv_a1 : Fld Z h0 a1 "java/lang/AbstractStringBuilder" "value" "[B" .null) (Fm_a1 : Fld Z h0 a1 "java/lang/AbstractStringBuilder" "maybeLatin1" "Z" (.int (0 : Int32))) (Fn_a1 : Fld Z h0 a1 "java/lang/AbstractStringBuilder" "count" "I" (.int (0 : Int32))) (Fc_a1 : Fld Z h0 a1 "java/lang/AbstractStringBuilder" "coder" "B" (.int (0 : Int32))) (gn_a1 : n0 ≤ a1) (hp0 : ¬ (p2 < (0 : Int32))) (hcp : p2.toNatClampNeg ≤ 8) :
    MetFree l (⟨"java/lang/StringBuilder", "<init>", "(I)V"⟩ : MethodName) (head1 (Jvm.Cond.code (⟨"java/lang/StringBuilder", "<init>", "(I)V"⟩ : MethodName) jdk_67_method_2_code 2 none :: ws) ({ frames := 2, cells := 1, slots := 8, locals := 25 } : Room)) (fun a U => a = #[(.ref a1), (.int p2)] ∧ Z.Warmed39 U.vm ∧ U.heap = h0) (fun _ _ _ _ _ => True) (fun _ U o U' => ∃ v L, o = .returned v ∧ Q_sbi Z a1 p2 cs_ fm h0 n0 v U'.heap L ∧ FrameEnd U o U' L ({ frames := 2, cells := 1, slots := 8, locals := 25 } : Room).cells ({ frames := 2, cells := 1, slots := 8, locals := 25 } : Room).slots) := by
  refine met_of (Ls := #[.val (.ref a1), .val (.int p2)]) (plainFor_of_name (by first | (simp [plainName, overriddenIn]; done) | decide +kernel)) (fun m => ef_sbi m a1 p2) ?_
  intro p e s m below meth c T0 C X0 e0
  obtain ⟨S_cs, hcs, S_fm, hfm, S_ad, S_hi, S_lo⟩ := id hF
  have N0 := Fr.nil n0
  have K0 : Keep h0 h0 [a1] := Keep.refl h0 _
  refine g_aloadN (pc' := 1) C X0 d8_0 rfl rfl rfl ?_
  refine g_iloadN (pc' := 2) C X0 d8_1 rfl rfl ?_
  refine g_callI (b := a1) (y := (⟨"java/lang/AbstractStringBuilder", "<init>", "(I)V"⟩ : MethodName)) (argsL := [(.int p2)]) (st := []) (pc' := 5) C X0 rfl d8_2 (wq hw 48 rfl) (wq hw 49 rfl) (wq hw 52 rfl) (wq hw 53 rfl) (by decide) (rmabi l Z a0 hw [] a1 p2 cs_ fm h0 n0 Z0 hF E_a1 Fv_a1 Fm_a1 Fn_a1 Fc_a1 gn_a1 hp0 hcp) (W := 0) (by decide) (by decide) (ce := 1) (sl := 8) rfl rfl (by decide) (by decide) rfl e0 rfl pd_7 rfl (Nat.le_refl _) rfl (fun rv1 T1 L1 X1 Q1 => ?_)
  obtain ⟨w1, kw1, q1, Nq1, Kq1, sz1_w, gn_w1, P1_0, P1_1, P1_2, P1_3, P1_4, P1_5, P1_6⟩ := Q1
  have N1 := Fr.app N0 Nq1
  have ne1_2 : ¬ (a1 = w1) := Nat.ne_of_lt (Nat.lt_of_lt_of_le E_a1.lt sz1_w)
  have FX_1 := FX_keep hF Kq1 ((allS (by obtain ⟨c_, _, h1_, _, _, h2_, _⟩ := E_a1; exact ⟨c_, h1_, h2_⟩) all0))
  have Z1 := Nat.le_trans Z0 Kq1.1
  have sz_w1 := Nat.le_trans K0.1 sz1_w
  have K1 := K0.trans Kq1 (allS (Or.inl (List.mem_of_getElem? (i := 0) rfl)) all0)
  subst q1
  show Go p.tables e below _ (T1.setTop (mkF m 5 #[.val (.ref a1), .val (.int p2)] []))
  exact g_retV C X1 d8_5 (by decide) (by decide) ⟨w1, rfl, N1, K1, sz_w1, gn_w1, ⟨by decide, nofun, P1_0, P1_1, P1_2, P1_6, own_c20 hp0 hcp, _, _, rfl, P1_3, Or.inl ⟨P1_4, nofun, P1_5⟩⟩⟩
theorem d35_0 : decode jdk_29_method_65_code 0 = .ok (.iload_n 0, 1) := by decide +kernel
theorem d35_1 : decode jdk_29_method_65_code 1 = .ok (.iload_n 1, 1) := by decide +kernel
theorem d35_2 : decode jdk_29_method_65_code 2 = .ok (.if_icmp .lt 7, 3) := by decide +kernel
theorem d35_9 : decode jdk_29_method_65_code 9 = .ok (.iload_n 1, 1) := by decide +kernel
theorem d35_10 : decode jdk_29_method_65_code 10 = .ok (.ireturn, 1) := by decide +kernel
theorem d35_5 : decode jdk_29_method_65_code 5 = .ok (.iload_n 0, 1) := by decide +kernel
theorem d35_6 : decode jdk_29_method_65_code 6 = .ok (.goto 4, 3) := by decide +kernel
theorem ef_mxg (m : MethodId) (p1 : Int32) (p2 : Int32) : entryFrame m #[(.int p1), (.int p2)] 2 = mkF m 0 #[.val (.int p1), .val (.int p2)] [] := by first | (simp [entryFrame, mkF, argsToLocals, Value.category]; done) | rfl
def Q_mxg (Z : State) (p1 : Int32) (p2 : Int32) (cs_ : Int32) (fm : Value) (h0 : Heap) (n0 : Nat) (v : Option Value) (h : Heap) (L : List Loc) : Prop := v = some (.int p2) ∧ Fr n0 L ∧ h = h0
set_option maxRecDepth 65536 in
set_option maxHeartbeats 40000000 in
theorem rmmxg (l : Launch) (Z : State) (a0 : Array Value) (hw : ∀ d ∈ tables_1, d.before a0 Z = true) (ws : List Jvm.Cond) (p1 : Int32) (p2 : Int32) (cs_ : Int32) (fm : Value) (h0 : Heap) (n0 : Nat) (hF : FX Z h0 cs_ fm) (hg : ¬ (p2 < p1)) :
    MetFree l (⟨"java/lang/Math", "max", "(II)I"⟩ : MethodName) (head1 (Jvm.Cond.code (⟨"java/lang/Math", "max", "(II)I"⟩ : MethodName) jdk_29_method_65_code 2 (some .int) :: ws) ({ frames := 0, cells := 0, slots := 0, locals := 0 } : Room)) (fun a U => a = #[(.int p1), (.int p2)] ∧ Z.Warmed39 U.vm ∧ U.heap = h0) (fun _ _ _ _ _ => True) (fun _ U o U' => ∃ v L, o = .returned v ∧ Q_mxg Z p1 p2 cs_ fm h0 n0 v U'.heap L ∧ FrameEnd U o U' L ({ frames := 0, cells := 0, slots := 0, locals := 0 } : Room).cells ({ frames := 0, cells := 0, slots := 0, locals := 0 } : Room).slots) := by
  refine met_of (Ls := #[.val (.int p1), .val (.int p2)]) (Jvm.Free.JP.mathPlain rfl (by decide +kernel)) (fun m => ef_mxg m p1 p2) ?_
  intro p e s m below meth c T0 C X0 e0
  obtain ⟨S_cs, hcs, S_fm, hfm, S_ad, S_hi, S_lo⟩ := id hF
  have N0 := Fr.nil n0
  refine g_iloadN (pc' := 1) C X0 d35_0 rfl rfl ?_
  refine g_iloadN (pc' := 2) C X0 d35_1 rfl rfl ?_
  by_cases c1 : p1 < p2
  · refine g_icmpY (pc' := 9) C X0 d35_2 (tlt c1).1 (by decide) (by decide) ?_
    refine g_iloadN (pc' := 10) C X0 d35_9 rfl rfl ?_
    exact g_retI C X0 d35_10 (by decide) (by decide) ⟨rfl, N0, e0⟩
  · refine g_icmpN (pc' := 5) C X0 d35_2 (flt c1).1 rfl ?_
    refine g_iloadN (pc' := 6) C X0 d35_5 rfl rfl ?_
    refine g_goto (pc' := 10) C X0 d35_6 (by decide) (by decide) ?_
    exact g_retI C X0 d35_10 (by decide) (by decide) ⟨(congrArg (fun z => some (Value.int z)) (own_asym c1 hg)), N0, e0⟩
theorem d37_0 : decode jdk_29_method_69_code 0 = .ok (.iload_n 0, 1) := by decide +kernel
theorem d37_1 : decode jdk_29_method_69_code 1 = .ok (.iload_n 1, 1) := by decide +kernel
theorem d37_2 : decode jdk_29_method_69_code 2 = .ok (.if_icmp .gt 7, 3) := by decide +kernel
theorem d37_9 : decode jdk_29_method_69_code 9 = .ok (.iload_n 1, 1) := by decide +kernel
theorem d37_10 : decode jdk_29_method_69_code 10 = .ok (.ireturn, 1) := by decide +kernel
theorem d37_5 : decode jdk_29_method_69_code 5 = .ok (.iload_n 0, 1) := by decide +kernel
theorem d37_6 : decode jdk_29_method_69_code 6 = .ok (.goto 4, 3) := by decide +kernel
def Fmn (p1 : Int32) (p2 : Int32) : Int32 := (if p2 < p1 then p2 else p1)
theorem Fmn_l0 (p1 : Int32) (p2 : Int32) (h0 : p2 < p1) : Fmn p1 p2 = p2 := by
  unfold Fmn; rw [if_pos h0]
theorem Fmn_l1 (p1 : Int32) (p2 : Int32) (h0 : ¬ (p2 < p1)) : Fmn p1 p2 = p1 := by
  unfold Fmn; rw [if_neg h0]
theorem ef_mn (m : MethodId) (p1 : Int32) (p2 : Int32) : entryFrame m #[(.int p1), (.int p2)] 2 = mkF m 0 #[.val (.int p1), .val (.int p2)] [] := by first | (simp [entryFrame, mkF, argsToLocals, Value.category]; done) | rfl
def Q_mn (Z : State) (p1 : Int32) (p2 : Int32) (cs_ : Int32) (fm : Value) (h0 : Heap) (n0 : Nat) (v : Option Value) (h : Heap) (L : List Loc) : Prop := v = some (.int (Fmn p1 p2)) ∧ Fr n0 L ∧ h = h0
set_option maxRecDepth 65536 in
set_option maxHeartbeats 40000000 in
theorem rmmn (l : Launch) (Z : State) (a0 : Array Value) (hw : ∀ d ∈ tables_1, d.before a0 Z = true) (ws : List Jvm.Cond) (p1 : Int32) (p2 : Int32) (cs_ : Int32) (fm : Value) (h0 : Heap) (n0 : Nat) (hF : FX Z h0 cs_ fm) :
    MetFree l (⟨"java/lang/Math", "min", "(II)I"⟩ : MethodName) (head1 (Jvm.Cond.code (⟨"java/lang/Math", "min", "(II)I"⟩ : MethodName) jdk_29_method_69_code 2 (some .int) :: ws) ({ frames := 0, cells := 0, slots := 0, locals := 0 } : Room)) (fun a U => a = #[(.int p1), (.int p2)] ∧ Z.Warmed39 U.vm ∧ U.heap = h0) (fun _ _ _ _ _ => True) (fun _ U o U' => ∃ v L, o = .returned v ∧ Q_mn Z p1 p2 cs_ fm h0 n0 v U'.heap L ∧ FrameEnd U o U' L ({ frames := 0, cells := 0, slots := 0, locals := 0 } : Room).cells ({ frames := 0, cells := 0, slots := 0, locals := 0 } : Room).slots) := by
  refine met_of (Ls := #[.val (.int p1), .val (.int p2)]) (Jvm.Free.JP.mathPlain rfl (by decide +kernel)) (fun m => ef_mn m p1 p2) ?_
  intro p e s m below meth c T0 C X0 e0
  obtain ⟨S_cs, hcs, S_fm, hfm, S_ad, S_hi, S_lo⟩ := id hF
  have N0 := Fr.nil n0
  refine g_iloadN (pc' := 1) C X0 d37_0 rfl rfl ?_
  refine g_iloadN (pc' := 2) C X0 d37_1 rfl rfl ?_
  by_cases c1 : p2 < p1
  · refine g_icmpY (pc' := 9) C X0 d37_2 (tlt c1).2.2.1 (by decide) (by decide) ?_
    refine g_iloadN (pc' := 10) C X0 d37_9 rfl rfl ?_
    exact g_retI C X0 d37_10 (by decide) (by decide) ⟨congrArg (fun z => some (Value.int z)) (Fmn_l0 p1 p2 c1).symm, N0, e0⟩
  · refine g_icmpN (pc' := 5) C X0 d37_2 (flt c1).2.2.1 rfl ?_
    refine g_iloadN (pc' := 6) C X0 d37_5 rfl rfl ?_
    refine g_goto (pc' := 10) C X0 d37_6 (by decide) (by decide) ?_
    exact g_retI C X0 d37_10 (by decide) (by decide) ⟨congrArg (fun z => some (Value.int z)) (Fmn_l1 p1 p2 c1).symm, N0, e0⟩
theorem d34_0 : decode jdk_48_method_27_code 0 = .ok (.iload_n 0, 1) := by decide +kernel
theorem d34_1 : decode jdk_48_method_27_code 1 = .ok (.iload_n 1, 1) := by decide +kernel
theorem d34_2 : decode jdk_48_method_27_code 2 = .ok (.iload_n 2, 1) := by decide +kernel
theorem d34_3 : decode jdk_48_method_27_code 3 = .ok (.invokestatic 194, 3) := by decide +kernel
theorem pd_8 : parseMethodDescriptor "(II)I" = some ⟨[.int, .int], some .int⟩ := by decide +kernel
theorem d34_6 : decode jdk_48_method_27_code 6 = .ok (.iadd, 1) := by decide +kernel
theorem d34_7 : decode jdk_48_method_27_code 7 = .ok (.istore_n 3, 1) := by decide +kernel
theorem d34_8 : decode jdk_48_method_27_code 8 = .ok (.iconst 0, 1) := by decide +kernel
theorem d34_9 : decode jdk_48_method_27_code 9 = .ok (.iload_n 3, 1) := by decide +kernel
theorem d34_10 : decode jdk_48_method_27_code 10 = .ok (.if_icmp .ge 11, 3) := by decide +kernel
theorem d34_13 : decode jdk_48_method_27_code 13 = .ok (.iload_n 3, 1) := by decide +kernel
theorem d34_14 : decode jdk_48_method_27_code 14 = .ok (.ldc 200, 2) := by decide +kernel
theorem d34_16 : decode jdk_48_method_27_code 16 = .ok (.if_icmp .gt 5, 3) := by decide +kernel
theorem d34_19 : decode jdk_48_method_27_code 19 = .ok (.iload_n 3, 1) := by decide +kernel
theorem d34_20 : decode jdk_48_method_27_code 20 = .ok (.ireturn, 1) := by decide +kernel
def Fnlg (p1 : Int32) (p3 : Int32) : Int32 := (p1 + p3)
theorem Fnlg_l0 (p1 : Int32) (p3 : Int32)  : Fnlg p1 p3 = (p1 + p3) := rfl
theorem ef_nlg (m : MethodId) (p1 : Int32) (p2 : Int32) (p3 : Int32) : entryFrame m #[(.int p1), (.int p2), (.int p3)] 4 = mkF m 0 #[.val (.int p1), .val (.int p2), .val (.int p3), .unset] [] := by first | (simp [entryFrame, mkF, argsToLocals, Value.category]; done) | rfl
def Q_nlg (Z : State) (p1 : Int32) (p2 : Int32) (p3 : Int32) (cs_ : Int32) (fm : Value) (h0 : Heap) (n0 : Nat) (v : Option Value) (h : Heap) (L : List Loc) : Prop := v = some (.int (Fnlg p1 p3)) ∧ Fr n0 L ∧ h = h0
set_option maxRecDepth 65536 in
set_option maxHeartbeats 40000000 in
theorem rmnlg (l : Launch) (Z : State) (a0 : Array Value) (hw : ∀ d ∈ tables_1, d.before a0 Z = true) (ws : List Jvm.Cond) (p1 : Int32) (p2 : Int32) (p3 : Int32) (cs_ : Int32) (fm : Value) (h0 : Heap) (n0 : Nat) (hF : FX Z h0 cs_ fm) (hg : ¬ (p3 < p2)) (hs0 : (0 : Int32) < (p1 + p3)) (hs1 : ¬ ((2147483639 : Int32) < (p1 + p3))) :
    MetFree l (⟨"jdk/internal/util/ArraysSupport", "newLength", "(III)I"⟩ : MethodName) (head1 (Jvm.Cond.code (⟨"jdk/internal/util/ArraysSupport", "newLength", "(III)I"⟩ : MethodName) jdk_48_method_27_code 4 (some .int) :: ws) ({ frames := 1, cells := 0, slots := 0, locals := 14 } : Room)) (fun a U => a = #[(.int p1), (.int p2), (.int p3)] ∧ Z.Warmed39 U.vm ∧ U.heap = h0) (fun _ _ _ _ _ => True) (fun _ U o U' => ∃ v L, o = .returned v ∧ Q_nlg Z p1 p2 p3 cs_ fm h0 n0 v U'.heap L ∧ FrameEnd U o U' L ({ frames := 1, cells := 0, slots := 0, locals := 14 } : Room).cells ({ frames := 1, cells := 0, slots := 0, locals := 14 } : Room).slots) := by
  refine met_of (Ls := #[.val (.int p1), .val (.int p2), .val (.int p3), .unset]) (plainFor_of_name (by first | (simp [plainName, overriddenIn]; done) | decide +kernel)) (fun m => ef_nlg m p1 p2 p3) ?_
  intro p e s m below meth c T0 C X0 e0
  obtain ⟨S_cs, hcs, S_fm, hfm, S_ad, S_hi, S_lo⟩ := id hF
  have N0 := Fr.nil n0
  refine g_iloadN (pc' := 1) C X0 d34_0 rfl rfl ?_
  refine g_iloadN (pc' := 2) C X0 d34_1 rfl rfl ?_
  refine g_iloadN (pc' := 3) C X0 d34_2 rfl rfl ?_
  refine g_callS (y := (⟨"java/lang/Math", "max", "(II)I"⟩ : MethodName)) (argsL := [(.int p2), (.int p3)]) (st := [(.int p1)]) (pc' := 6) C X0 d34_3 (wq hw 188 rfl) (wq hw 189 rfl) (wq hw 190 rfl) (wq hw 191 rfl) (by decide) (rmmxg l Z a0 hw [] p2 p3 cs_ fm h0 n0 hF hg) (W := 1) (by decide) (by decide) (ce := 0) (sl := 0) rfl rfl (by decide) (by decide) rfl e0 rfl pd_8 rfl (Nat.le_refl _) rfl (fun rv1 T1 L1 X1 Q1 => ?_)
  obtain ⟨q1, Nq1, e1⟩ := Q1
  have N1 := Fr.app N0 Nq1
  subst q1
  show Go p.tables e below _ (T1.setTop (mkF m 6 #[.val (.int p1), .val (.int p2), .val (.int p3), .unset] [(.int p3), (.int p1)]))
  refine g_iadd (pc' := 7) C X1 d34_6 rfl ?_
  refine g_istoreN (pc' := 8) (Ls' := #[.val (.int p1), .val (.int p2), .val (.int p3), .val (.int (p1 + p3))]) C X1 d34_7 rfl rfl ?_
  refine g_iconst (pc' := 9) (v := (0 : Int32)) C X1 d34_8 rfl rfl ?_
  refine g_iloadN (pc' := 10) C X1 d34_9 rfl rfl ?_
  refine g_icmpN (pc' := 13) C X1 d34_10 (tlt hs0).2.1 rfl ?_
  refine g_iloadN (pc' := 14) C X1 d34_13 rfl rfl ?_
  refine g_ldc (pc' := 16) (v := (2147483639 : Int32)) C X1 d34_14 (wq hw 192 rfl) rfl ?_
  refine g_icmpN (pc' := 19) C X1 d34_16 (flt hs1).2.2.1 rfl ?_
  refine g_iloadN (pc' := 20) C X1 d34_19 rfl rfl ?_
  exact g_retI C X1 d34_20 (by decide) (by decide) ⟨congrArg (fun z => some (Value.int z)) (Fnlg_l0 p1 p3 ).symm, N1, e1⟩
theorem d33_0 : decode jdk_68_method_10_code 0 = .ok (.aload_n 0, 1) := by decide +kernel
theorem d33_1 : decode jdk_68_method_10_code 1 = .ok (.getfield 15, 3) := by decide +kernel
theorem d33_4 : decode jdk_68_method_10_code 4 = .ok (.arraylength, 1) := by decide +kernel
theorem d33_5 : decode jdk_68_method_10_code 5 = .ok (.istore_n 2, 1) := by decide +kernel
theorem d33_6 : decode jdk_68_method_10_code 6 = .ok (.iload_n 1, 1) := by decide +kernel
theorem d33_7 : decode jdk_68_method_10_code 7 = .ok (.aload_n 0, 1) := by decide +kernel
theorem d33_8 : decode jdk_68_method_10_code 8 = .ok (.getfield 22, 3) := by decide +kernel
theorem d33_11 : decode jdk_68_method_10_code 11 = .ok (.ishl, 1) := by decide +kernel
theorem d33_12 : decode jdk_68_method_10_code 12 = .ok (.istore_n 3, 1) := by decide +kernel
theorem d33_13 : decode jdk_68_method_10_code 13 = .ok (.iload_n 3, 1) := by decide +kernel
theorem d33_14 : decode jdk_68_method_10_code 14 = .ok (.iload_n 2, 1) := by decide +kernel
theorem d33_15 : decode jdk_68_method_10_code 15 = .ok (.isub, 1) := by decide +kernel
theorem d33_16 : decode jdk_68_method_10_code 16 = .ok (.istore 4, 2) := by decide +kernel
theorem d33_18 : decode jdk_68_method_10_code 18 = .ok (.iload_n 2, 1) := by decide +kernel
theorem d33_19 : decode jdk_68_method_10_code 19 = .ok (.iload 4, 2) := by decide +kernel
theorem d33_21 : decode jdk_68_method_10_code 21 = .ok (.iload_n 2, 1) := by decide +kernel
theorem d33_22 : decode jdk_68_method_10_code 22 = .ok (.iconst 2, 1) := by decide +kernel
theorem d33_23 : decode jdk_68_method_10_code 23 = .ok (.aload_n 0, 1) := by decide +kernel
theorem d33_24 : decode jdk_68_method_10_code 24 = .ok (.getfield 22, 3) := by decide +kernel
theorem d33_27 : decode jdk_68_method_10_code 27 = .ok (.ishl, 1) := by decide +kernel
theorem d33_28 : decode jdk_68_method_10_code 28 = .ok (.iadd, 1) := by decide +kernel
theorem d33_29 : decode jdk_68_method_10_code 29 = .ok (.invokestatic 114, 3) := by decide +kernel
theorem pd_9 : parseMethodDescriptor "(III)I" = some ⟨[.int, .int, .int], some .int⟩ := by decide +kernel
theorem d33_32 : decode jdk_68_method_10_code 32 = .ok (.istore 5, 2) := by decide +kernel
theorem d33_34 : decode jdk_68_method_10_code 34 = .ok (.iload 5, 2) := by decide +kernel
theorem d33_36 : decode jdk_68_method_10_code 36 = .ok (.ldc 39, 2) := by decide +kernel
theorem d33_38 : decode jdk_68_method_10_code 38 = .ok (.if_icmp .ne 13, 3) := by decide +kernel
theorem d33_51 : decode jdk_68_method_10_code 51 = .ok (.iload 5, 2) := by decide +kernel
theorem d33_53 : decode jdk_68_method_10_code 53 = .ok (.aload_n 0, 1) := by decide +kernel
theorem d33_54 : decode jdk_68_method_10_code 54 = .ok (.getfield 22, 3) := by decide +kernel
theorem d33_57 : decode jdk_68_method_10_code 57 = .ok (.ishr, 1) := by decide +kernel
theorem d33_58 : decode jdk_68_method_10_code 58 = .ok (.ireturn, 1) := by decide +kernel
def Fncp0 (z : Int32) : Int32 := ((z + (z + (2 : Int32))) >>> ((0 : Int32) &&& 31))
theorem Fncp0_l0 (z : Int32)  : Fncp0 z = ((z + (z + (2 : Int32))) >>> ((0 : Int32) &&& 31)) := rfl
theorem ef_ncp0 (m : MethodId) (a1 : Addr) (p2 : Int32) : entryFrame m #[(.ref a1), (.int p2)] 6 = mkF m 0 #[.val (.ref a1), .val (.int p2), .unset, .unset, .unset, .unset] [] := by first | (simp [entryFrame, mkF, argsToLocals, Value.category]; done) | rfl
def Q_ncp0 (Z : State) (a1 : Addr) (p2 : Int32) (v1_ : Addr) (k1 : ClassId) (z : Int32) (lx : List Int32) (cs_ : Int32) (fm : Value) (h0 : Heap) (n0 : Nat) (v : Option Value) (h : Heap) (L : List Loc) : Prop := v = some (.int (Fncp0 z)) ∧ Fr n0 L ∧ h = h0
set_option maxRecDepth 65536 in
set_option maxHeartbeats 40000000 in
theorem rmncp0 (l : Launch) (Z : State) (a0 : Array Value) (hw : ∀ d ∈ tables_1, d.before a0 Z = true) (ws : List Jvm.Cond) (a1 : Addr) (p2 : Int32) (v1_ : Addr) (k1 : ClassId) (z : Int32) (lx : List Int32) (cs_ : Int32) (fm : Value) (h0 : Heap) (n0 : Nat) (hF : FX Z h0 cs_ fm) (Fv_a1 : Fld Z h0 a1 "java/lang/AbstractStringBuilder" "value" "[B" (.ref v1_)) (Fc_a1 : Fld Z h0 a1 "java/lang/AbstractStringBuilder" "coder" "B" (.int (0 : Int32))) (V_b : Arv Z h0 v1_ k1 .byte z (own_vl lx) (.int (0 : Int32))) (hg0 : ¬ ((z + (2 : Int32)) < ((p2 <<< ((0 : Int32) &&& 31)) - z))) (hg1 : (0 : Int32) < (z + (z + (2 : Int32)))) (hg2 : ¬ ((2147483639 : Int32) < (z + (z + (2 : Int32))))) (hg3 : ¬ ((z + (z + (2 : Int32))) = (2147483647 : Int32))) :
    MetFree l (⟨"java/lang/AbstractStringBuilder", "newCapacity", "(I)I"⟩ : MethodName) (head1 (Jvm.Cond.code (⟨"java/lang/AbstractStringBuilder", "newCapacity", "(I)I"⟩ : MethodName) jdk_68_method_10_code 6 (some .int) :: ws) ({ frames := 2, cells := 0, slots := 0, locals := 29 } : Room)) (fun a U => a = #[(.ref a1), (.int p2)] ∧ Z.Warmed39 U.vm ∧ U.heap = h0) (fun _ _ _ _ _ => True) (fun _ U o U' => ∃ v L, o = .returned v ∧ Q_ncp0 Z a1 p2 v1_ k1 z lx cs_ fm h0 n0 v U'.heap L ∧ FrameEnd U o U' L ({ frames := 2, cells := 0, slots := 0, locals := 29 } : Room).cells ({ frames := 2, cells := 0, slots := 0, locals := 29 } : Room).slots) := by
  refine met_of (Ls := #[.val (.ref a1), .val (.int p2), .unset, .unset, .unset, .unset]) (plainFor_of_name (by first | (simp [plainName, overriddenIn]; done) | decide +kernel)) (fun m => ef_ncp0 m a1 p2) ?_
  intro p e s m below meth c T0 C X0 e0
  obtain ⟨S_cs, hcs, S_fm, hfm, S_ad, S_hi, S_lo⟩ := id hF
  have N0 := Fr.nil n0
  refine g_aloadN (pc' := 1) C X0 d33_0 rfl rfl rfl ?_
  refine g_getF (pc' := 4) C X0 d33_1 (host := "") (Or.inl (wq hw 56 rfl)) Via.refl e0 Fv_a1 rfl (fun T1 X1 e1 => ?_)
  refine g_len (pc' := 5) C X1 d33_4 e1 V_b rfl ?_
  refine g_istoreN (pc' := 6) (Ls' := #[.val (.ref a1), .val (.int p2), .val (.int z), .unset, .unset, .unset]) C X1 d33_5 rfl rfl ?_
  refine g_iloadN (pc' := 7) C X1 d33_6 rfl rfl ?_
  refine g_aloadN (pc' := 8) C X1 d33_7 rfl rfl rfl ?_
  refine g_getF (pc' := 11) C X1 d33_8 (host := "") (Or.inl (wq hw 58 rfl)) Via.refl e1 Fc_a1 rfl (fun T2 X2 e2 => ?_)
  refine g_ishl (pc' := 12) C X2 d33_11 rfl ?_
  refine g_istoreN (pc' := 13) (Ls' := #[.val (.ref a1), .val (.int p2), .val (.int z), .val (.int (p2 <<< ((0 : Int32) &&& 31))), .unset, .unset]) C X2 d33_12 rfl rfl ?_
  refine g_iloadN (pc' := 14) C X2 d33_13 rfl rfl ?_
  refine g_iloadN (pc' := 15) C X2 d33_14 rfl rfl ?_
  refine g_isub (pc' := 16) C X2 d33_15 rfl ?_
  refine g_istore (pc' := 18) (Ls' := #[.val (.ref a1), .val (.int p2), .val (.int z), .val (.int (p2 <<< ((0 : Int32) &&& 31))), .val (.int ((p2 <<< ((0 : Int32) &&& 31)) - z)), .unset]) C X2 d33_16 rfl rfl ?_
  refine g_iloadN (pc' := 19) C X2 d33_18 rfl rfl ?_
  refine g_iload (pc' := 21) C X2 d33_19 rfl rfl ?_
  refine g_iloadN (pc' := 22) C X2 d33_21 rfl rfl ?_
  refine g_iconst (pc' := 23) (v := (2 : Int32)) C X2 d33_22 rfl rfl ?_
  refine g_aloadN (pc' := 24) C X2 d33_23 rfl rfl rfl ?_
  refine g_getF (pc' := 27) C X2 d33_24 (host := "") (Or.inl (wq hw 58 rfl)) Via.refl e2 Fc_a1 rfl (fun T3 X3 e3 => ?_)
  refine g_ishl (pc' := 28) C X3 d33_27 rfl ?_
  refine own_cast (congrArg (fun z_c => T3.setTop (mkF m 28 #[.val (.ref a1), .val (.int p2), .val (.int z), .val (.int (p2 <<< ((0 : Int32) &&& 31))), .val (.int ((p2 <<< ((0 : Int32) &&& 31)) - z)), .unset] (.int z_c :: [(.int z), (.int ((p2 <<< ((0 : Int32) &&& 31)) - z)), (.int z)]))) (show ((2 : Int32) <<< ((0 : Int32) &&& 31)) = (2 : Int32) from by decide)) ?_
  refine g_iadd (pc' := 29) C X3 d33_28 rfl ?_
  refine g_callS (y := (⟨"jdk/internal/util/ArraysSupport", "newLength", "(III)I"⟩ : MethodName)) (argsL := [(.int z), (.int ((p2 <<< ((0 : Int32) &&& 31)) - z)), (.int (z + (2 : Int32)))]) (st := []) (pc' := 32) C X3 d33_29 (wq hw 184 rfl) (wq hw 185 rfl) (wq hw 186 rfl) (wq hw 187 rfl) (by decide) (rmnlg l Z a0 hw [] z ((p2 <<< ((0 : Int32) &&& 31)) - z) (z + (2 : Int32)) cs_ fm h0 n0 hF hg0 hg1 hg2) (W := 0) (by decide) (by decide) (ce := 0) (sl := 0) rfl rfl (by decide) (by decide) rfl e3 rfl pd_9 rfl (Nat.le_refl _) rfl (fun rv4 T4 L4 X4 Q4 => ?_)
  obtain ⟨q4, Nq4, e4⟩ := Q4
  have N4 := Fr.app N0 Nq4
  rw [Fnlg_l0 z (z + (2 : Int32))] at q4
  subst q4
  show Go p.tables e below _ (T4.setTop (mkF m 32 #[.val (.ref a1), .val (.int p2), .val (.int z), .val (.int (p2 <<< ((0 : Int32) &&& 31))), .val (.int ((p2 <<< ((0 : Int32) &&& 31)) - z)), .unset] [(.int (z + (z + (2 : Int32))))]))
  refine g_istore (pc' := 34) (Ls' := #[.val (.ref a1), .val (.int p2), .val (.int z), .val (.int (p2 <<< ((0 : Int32) &&& 31))), .val (.int ((p2 <<< ((0 : Int32) &&& 31)) - z)), .val (.int (z + (z + (2 : Int32))))]) C X4 d33_32 rfl rfl ?_
  refine g_iload (pc' := 36) C X4 d33_34 rfl rfl ?_
  refine g_ldc (pc' := 38) (v := (2147483647 : Int32)) C X4 d33_36 (wq hw 193 rfl) rfl ?_
  refine g_icmpY (pc' := 51) C X4 d33_38 (feq hg3).2 (by decide) (by decide) ?_
  refine g_iload (pc' := 53) C X4 d33_51 rfl rfl ?_
  refine g_aloadN (pc' := 54) C X4 d33_53 rfl rfl rfl ?_
  refine g_getF (pc' := 57) C X4 d33_54 (host := "") (Or.inl (wq hw 58 rfl)) Via.refl e4 Fc_a1 rfl (fun T5 X5 e5 => ?_)
  refine g_ishr (pc' := 58) C X5 d33_57 rfl ?_
  exact g_retI C X5 d33_58 (by decide) (by decide) ⟨congrArg (fun z => some (Value.int z)) (Fncp0_l0 z ).symm, N4, e5⟩
def Fncp1 (z : Int32) : Int32 := (((z + z) + ((z + z) + (4 : Int32))) >>> ((1 : Int32) &&& 31))
theorem Fncp1_l0 (z : Int32)  : Fncp1 z = (((z + z) + ((z + z) + (4 : Int32))) >>> ((1 : Int32) &&& 31)) := rfl
theorem ef_ncp1 (m : MethodId) (a1 : Addr) (p2 : Int32) : entryFrame m #[(.ref a1), (.int p2)] 6 = mkF m 0 #[.val (.ref a1), .val (.int p2), .unset, .unset, .unset, .unset] [] := by first | (simp [entryFrame, mkF, argsToLocals, Value.category]; done) | rfl
def Q_ncp1 (Z : State) (a1 : Addr) (p2 : Int32) (v1_ : Addr) (k1 : ClassId) (z : Int32) (lx : List Int32) (cs_ : Int32) (fm : Value) (h0 : Heap) (n0 : Nat) (v : Option Value) (h : Heap) (L : List Loc) : Prop := v = some (.int (Fncp1 z)) ∧ Fr n0 L ∧ h = h0
set_option maxRecDepth 65536 in
set_option maxHeartbeats 40000000 in
theorem rmncp1 (l : Launch) (Z : State) (a0 : Array Value) (hw : ∀ d ∈ tables_1, d.before a0 Z = true) (ws : List Jvm.Cond) (a1 : Addr) (p2 : Int32) (v1_ : Addr) (k1 : ClassId) (z : Int32) (lx : List Int32) (cs_ : Int32) (fm : Value) (h0 : Heap) (n0 : Nat) (hF : FX Z h0 cs_ fm) (Fv_a1 : Fld Z h0 a1 "java/lang/AbstractStringBuilder" "value" "[B" (.ref v1_)) (Fc_a1 : Fld Z h0 a1 "java/lang/AbstractStringBuilder" "coder" "B" (.int (1 : Int32))) (V_b : Arv Z h0 v1_ k1 .byte (z + z) (own_vl lx) (.int (0 : Int32))) (hg0 : ¬ (((z + z) + (4 : Int32)) < ((p2 <<< ((1 : Int32) &&& 31)) - (z + z)))) (hg1 : (0 : Int32) < ((z + z) + ((z + z) + (4 : Int32)))) (hg2 : ¬ ((2147483639 : Int32) < ((z + z) + ((z + z) + (4 : Int32))))) (hg3 : ¬ (((z + z) + ((z + z) + (4 : Int32))) = (2147483647 : Int32))) :
    MetFree l (⟨"java/lang/AbstractStringBuilder", "newCapacity", "(I)I"⟩ : MethodName) (head1 (Jvm.Cond.code (⟨"java/lang/AbstractStringBuilder", "newCapacity", "(I)I"⟩ : MethodName) jdk_68_method_10_code 6 (some .int) :: ws) ({ frames := 2, cells := 0, slots := 0, locals := 29 } : Room)) (fun a U => a = #[(.ref a1), (.int p2)] ∧ Z.Warmed39 U.vm ∧ U.heap = h0) (fun _ _ _ _ _ => True) (fun _ U o U' => ∃ v L, o = .returned v ∧ Q_ncp1 Z a1 p2 v1_ k1 z lx cs_ fm h0 n0 v U'.heap L ∧ FrameEnd U o U' L ({ frames := 2, cells := 0, slots := 0, locals := 29 } : Room).cells ({ frames := 2, cells := 0, slots := 0, locals := 29 } : Room).slots) := by
  refine met_of (Ls := #[.val (.ref a1), .val (.int p2), .unset, .unset, .unset, .unset]) (plainFor_of_name (by first | (simp [plainName, overriddenIn]; done) | decide +kernel)) (fun m => ef_ncp1 m a1 p2) ?_
  intro p e s m below meth c T0 C X0 e0
  obtain ⟨S_cs, hcs, S_fm, hfm, S_ad, S_hi, S_lo⟩ := id hF
  have N0 := Fr.nil n0
  refine g_aloadN (pc' := 1) C X0 d33_0 rfl rfl rfl ?_
  refine g_getF (pc' := 4) C X0 d33_1 (host := "") (Or.inl (wq hw 56 rfl)) Via.refl e0 Fv_a1 rfl (fun T1 X1 e1 => ?_)
  refine g_len (pc' := 5) C X1 d33_4 e1 V_b rfl ?_
  refine g_istoreN (pc' := 6) (Ls' := #[.val (.ref a1), .val (.int p2), .val (.int (z + z)), .unset, .unset, .unset]) C X1 d33_5 rfl rfl ?_
  refine g_iloadN (pc' := 7) C X1 d33_6 rfl rfl ?_
  refine g_aloadN (pc' := 8) C X1 d33_7 rfl rfl rfl ?_
  refine g_getF (pc' := 11) C X1 d33_8 (host := "") (Or.inl (wq hw 58 rfl)) Via.refl e1 Fc_a1 rfl (fun T2 X2 e2 => ?_)
  refine g_ishl (pc' := 12) C X2 d33_11 rfl ?_
  refine g_istoreN (pc' := 13) (Ls' := #[.val (.ref a1), .val (.int p2), .val (.int (z + z)), .val (.int (p2 <<< ((1 : Int32) &&& 31))), .unset, .unset]) C X2 d33_12 rfl rfl ?_
  refine g_iloadN (pc' := 14) C X2 d33_13 rfl rfl ?_
  refine g_iloadN (pc' := 15) C X2 d33_14 rfl rfl ?_
  refine g_isub (pc' := 16) C X2 d33_15 rfl ?_
  refine g_istore (pc' := 18) (Ls' := #[.val (.ref a1), .val (.int p2), .val (.int (z + z)), .val (.int (p2 <<< ((1 : Int32) &&& 31))), .val (.int ((p2 <<< ((1 : Int32) &&& 31)) - (z + z))), .unset]) C X2 d33_16 rfl rfl ?_
  refine g_iloadN (pc' := 19) C X2 d33_18 rfl rfl ?_
  refine g_iload (pc' := 21) C X2 d33_19 rfl rfl ?_
  refine g_iloadN (pc' := 22) C X2 d33_21 rfl rfl ?_
  refine g_iconst (pc' := 23) (v := (2 : Int32)) C X2 d33_22 rfl rfl ?_
  refine g_aloadN (pc' := 24) C X2 d33_23 rfl rfl rfl ?_
  refine g_getF (pc' := 27) C X2 d33_24 (host := "") (Or.inl (wq hw 58 rfl)) Via.refl e2 Fc_a1 rfl (fun T3 X3 e3 => ?_)
  refine g_ishl (pc' := 28) C X3 d33_27 rfl ?_
  refine own_cast (congrArg (fun z_c => T3.setTop (mkF m 28 #[.val (.ref a1), .val (.int p2), .val (.int (z + z)), .val (.int (p2 <<< ((1 : Int32) &&& 31))), .val (.int ((p2 <<< ((1 : Int32) &&& 31)) - (z + z))), .unset] (.int z_c :: [(.int (z + z)), (.int ((p2 <<< ((1 : Int32) &&& 31)) - (z + z))), (.int (z + z))]))) (show ((2 : Int32) <<< ((1 : Int32) &&& 31)) = (4 : Int32) from by decide)) ?_
  refine g_iadd (pc' := 29) C X3 d33_28 rfl ?_
  refine g_callS (y := (⟨"jdk/internal/util/ArraysSupport", "newLength", "(III)I"⟩ : MethodName)) (argsL := [(.int (z + z)), (.int ((p2 <<< ((1 : Int32) &&& 31)) - (z + z))), (.int ((z + z) + (4 : Int32)))]) (st := []) (pc' := 32) C X3 d33_29 (wq hw 184 rfl) (wq hw 185 rfl) (wq hw 186 rfl) (wq hw 187 rfl) (by decide) (rmnlg l Z a0 hw [] (z + z) ((p2 <<< ((1 : Int32) &&& 31)) - (z + z)) ((z + z) + (4 : Int32)) cs_ fm h0 n0 hF hg0 hg1 hg2) (W := 0) (by decide) (by decide) (ce := 0) (sl := 0) rfl rfl (by decide) (by decide) rfl e3 rfl pd_9 rfl (Nat.le_refl _) rfl (fun rv4 T4 L4 X4 Q4 => ?_)
  obtain ⟨q4, Nq4, e4⟩ := Q4
  have N4 := Fr.app N0 Nq4
  rw [Fnlg_l0 (z + z) ((z + z) + (4 : Int32))] at q4
  subst q4
  show Go p.tables e below _ (T4.setTop (mkF m 32 #[.val (.ref a1), .val (.int p2), .val (.int (z + z)), .val (.int (p2 <<< ((1 : Int32) &&& 31))), .val (.int ((p2 <<< ((1 : Int32) &&& 31)) - (z + z))), .unset] [(.int ((z + z) + ((z + z) + (4 : Int32))))]))
  refine g_istore (pc' := 34) (Ls' := #[.val (.ref a1), .val (.int p2), .val (.int (z + z)), .val (.int (p2 <<< ((1 : Int32) &&& 31))), .val (.int ((p2 <<< ((1 : Int32) &&& 31)) - (z + z))), .val (.int ((z + z) + ((z + z) + (4 : Int32))))]) C X4 d33_32 rfl rfl ?_
  refine g_iload (pc' := 36) C X4 d33_34 rfl rfl ?_
  refine g_ldc (pc' := 38) (v := (2147483647 : Int32)) C X4 d33_36 (wq hw 193 rfl) rfl ?_
  refine g_icmpY (pc' := 51) C X4 d33_38 (feq hg3).2 (by decide) (by decide) ?_
  refine g_iload (pc' := 53) C X4 d33_51 rfl rfl ?_
  refine g_aloadN (pc' := 54) C X4 d33_53 rfl rfl rfl ?_
  refine g_getF (pc' := 57) C X4 d33_54 (host := "") (Or.inl (wq hw 58 rfl)) Via.refl e4 Fc_a1 rfl (fun T5 X5 e5 => ?_)
  refine g_ishr (pc' := 58) C X5 d33_57 rfl ?_
  exact g_retI C X5 d33_58 (by decide) (by decide) ⟨congrArg (fun z => some (Value.int z)) (Fncp1_l0 z ).symm, N4, e5⟩
theorem own_hl {k : Nat} {v : Value} : (0 : Int32).toNatClampNeg + k ≤ (own_vl [] ++ List.replicate k v).length := by
  show 0 + k ≤ _
  rw [List.length_append, List.length_replicate]; omega
theorem own_cpv {Z : State} {h : Heap} {w : Addr} {k : ClassId} {ty : FieldType} {n : Int32} {lx : List Int32} {N : Nat} (hz : ∀ i, N ≤ i → lx.getD i 0 = 0)
    (A : Arv Z h w k ty n ((own_vl [] ++ List.replicate N (Value.int (0 : Int32))).take (0 : Int32).toNatClampNeg ++ (List.range N).map (fun i => (own_vl lx).getD ((0 : Int32).toNatClampNeg + i) (Value.int (0 : Int32))) ++ (own_vl [] ++ List.replicate N (Value.int (0 : Int32))).drop ((0 : Int32).toNatClampNeg + N)) (Value.int (0 : Int32))) : Arv Z h w k ty n (own_vl lx) (Value.int (0 : Int32)) := by
  refine A.pad fun i => ?_
  have z0 : (0 : Int32).toNatClampNeg = 0 := rfl
  have e0 : own_vl [] ++ List.replicate N (Value.int 0) = List.replicate N (Value.int 0) := rfl
  rw [z0, e0, List.take_zero, List.nil_append, Nat.zero_add, List.drop_replicate, Nat.sub_self, List.replicate_zero, List.append_nil, own_vl_getD, List.getD_eq_getElem?_getD (l := List.map (fun i => (own_vl lx).getD (0 + i) (Value.int 0)) (List.range N)), List.getElem?_map]
  by_cases q : i < N
  · rw [List.getElem?_range q]
    show _ = (own_vl lx).getD (0 + i) (Value.int 0)
    rw [Nat.zero_add, own_vl_getD]
  · rw [List.getElem?_eq_none (by rw [List.length_range]; omega), hz i (by omega)]; rfl
theorem own_sub0 (a : Int32) : a - (0 : Int32) = a := Int32.sub_zero a
theorem own_za (k : Nat) : (0 : Int32).toNatClampNeg + k = k := Nat.zero_add _
theorem own_cap2 {a b : Int32} (h0 : ¬ (a - (0 : Int32)) < (0 : Int32)) (h : (a - (0 : Int32)) < (b - (0 : Int32))) : (a - (0 : Int32)).toNatClampNeg ≤ b.toNatClampNeg := by
  rw [own_sub0, own_sub0, own_lt] at h
  rw [own_sub0, own_tn, own_tn]; omega
theorem d36_0 : decode jdk_65_method_121_code 0 = .ok (.iload_n 1, 1) := by decide +kernel
theorem d36_1 : decode jdk_65_method_121_code 1 = .ok (.aload_n 0, 1) := by decide +kernel
theorem d36_2 : decode jdk_65_method_121_code 2 = .ok (.arraylength, 1) := by decide +kernel
theorem d36_3 : decode jdk_65_method_121_code 3 = .ok (.if_icmp .ne 11, 3) := by decide +kernel
theorem d36_14 : decode jdk_65_method_121_code 14 = .ok (.iload_n 1, 1) := by decide +kernel
theorem d36_15 : decode jdk_65_method_121_code 15 = .ok (.newarray .byte, 2) := by decide +kernel
theorem d36_17 : decode jdk_65_method_121_code 17 = .ok (.astore_n 2, 1) := by decide +kernel
theorem d36_18 : decode jdk_65_method_121_code 18 = .ok (.aload_n 0, 1) := by decide +kernel
theorem d36_19 : decode jdk_65_method_121_code 19 = .ok (.iconst 0, 1) := by decide +kernel
theorem d36_20 : decode jdk_65_method_121_code 20 = .ok (.aload_n 2, 1) := by decide +kernel
theorem d36_21 : decode jdk_65_method_121_code 21 = .ok (.iconst 0, 1) := by decide +kernel
theorem d36_22 : decode jdk_65_method_121_code 22 = .ok (.aload_n 0, 1) := by decide +kernel
theorem d36_23 : decode jdk_65_method_121_code 23 = .ok (.arraylength, 1) := by decide +kernel
theorem d36_24 : decode jdk_65_method_121_code 24 = .ok (.iload_n 1, 1) := by decide +kernel
theorem d36_25 : decode jdk_65_method_121_code 25 = .ok (.invokestatic 304, 3) := by decide +kernel
theorem d36_28 : decode jdk_65_method_121_code 28 = .ok (.invokestatic 150, 3) := by decide +kernel
theorem d36_31 : decode jdk_65_method_121_code 31 = .ok (.aload_n 2, 1) := by decide +kernel
theorem d36_32 : decode jdk_65_method_121_code 32 = .ok (.areturn, 1) := by decide +kernel
theorem ef_cpo (m : MethodId) (a1 : Addr) (p2 : Int32) : entryFrame m #[(.ref a1), (.int p2)] 3 = mkF m 0 #[.val (.ref a1), .val (.int p2), .unset] [] := by first | (simp [entryFrame, mkF, argsToLocals, Value.category]; done) | rfl
def Q_cpo (Z : State) (a1 : Addr) (p2 : Int32) (k1 : ClassId) (z1 : Int32) (lx : List Int32) (cs_ : Int32) (fm : Value) (h0 : Heap) (n0 : Nat) (vr : Option Value) (h : Heap) (L : List Loc) : Prop := ∃ w : Addr, ∃ kw : ClassId, (vr = some (.ref w)) ∧ (Fr n0 L) ∧ (Keep h0 h []) ∧ (h0.size ≤ w) ∧ (n0 ≤ w) ∧ (Arv Z h w kw .byte p2 (own_vl lx) (.int (0 : Int32))) ∧ (Exa Z h w "[B")
set_option maxRecDepth 65536 in
set_option maxHeartbeats 40000000 in
theorem rmcpo (l : Launch) (Z : State) (a0 : Array Value) (hw : ∀ d ∈ tables_1, d.before a0 Z = true) (ws : List Jvm.Cond) (a1 : Addr) (p2 : Int32) (k1 : ClassId) (z1 : Int32) (lx : List Int32) (cs_ : Int32) (fm : Value) (h0 : Heap) (n0 : Nat) (Z0 : n0 ≤ h0.size) (hF : FX Z h0 cs_ fm) (V_b : Arv Z h0 a1 k1 .byte z1 (own_vl lx) (.int (0 : Int32))) (hq0 : ¬ (p2 = z1)) (hq1 : ¬ (p2 < z1)) (hq2 : ¬ (p2 < (0 : Int32))) (hq3 : p2.toNatClampNeg ≤ 40) (hq4 : z1.toNatClampNeg ≤ p2.toNatClampNeg) (hq5 : ¬ (z1 < (0 : Int32))) (hzr : ∀ i, z1.toNatClampNeg ≤ i → lx.getD i 0 = 0) :
    MetFree l (⟨"java/util/Arrays", "copyOf", "([BI)[B"⟩ : MethodName) (head1 (Jvm.Cond.code (⟨"java/util/Arrays", "copyOf", "([BI)[B"⟩ : MethodName) jdk_65_method_121_code 3 (some (.array .byte)) :: ws) ({ frames := 1, cells := 1, slots := 40, locals := 40 } : Room)) (fun a U => a = #[(.ref a1), (.int p2)] ∧ Z.Warmed39 U.vm ∧ U.heap = h0) (fun _ _ _ _ _ => True) (fun _ U o U' => ∃ v L, o = .returned v ∧ Q_cpo Z a1 p2 k1 z1 lx cs_ fm h0 n0 v U'.heap L ∧ FrameEnd U o U' L ({ frames := 1, cells := 1, slots := 40, locals := 40 } : Room).cells ({ frames := 1, cells := 1, slots := 40, locals := 40 } : Room).slots) := by
  refine met_of (Ls := #[.val (.ref a1), .val (.int p2), .unset]) (plainFor_of_name (by first | (simp [plainName, overriddenIn]; done) | decide +kernel)) (fun m => ef_cpo m a1 p2) ?_
  intro p e s m below meth c T0 C X0 e0
  obtain ⟨S_cs, hcs, S_fm, hfm, S_ad, S_hi, S_lo⟩ := id hF
  have N0 := Fr.nil n0
  have K0 : Keep h0 h0 [] := Keep.refl h0 _
  refine g_iloadN (pc' := 1) C X0 d36_0 rfl rfl ?_
  refine g_aloadN (pc' := 2) C X0 d36_1 rfl rfl rfl ?_
  refine g_len (pc' := 3) C X0 d36_2 e0 V_b rfl ?_
  refine g_icmpY (pc' := 14) C X0 d36_3 (feq hq0).2 (by decide) (by decide) ?_
  refine g_iloadN (pc' := 15) C X0 d36_14 rfl rfl ?_
  refine g_newPE (pc' := 17) (cap := 40) (ad := "[B") C X0 (by decide) d36_15 (wq hw 20 rfl) e0 hq2 hq3 (by decide) (ce := 1) (sl := 40) rfl rfl (by decide) (by decide) rfl (fun T1 h1 b1 ck1 g1 X1 e1 E1 V1 A1 => ?_)
  have ne1_2 : ¬ (a1 = b1) := Nat.ne_of_lt (Nat.lt_of_lt_of_le V_b.lt (Nat.le_of_eq g1.symm))
  have FX_1 := FX_ext hF E1
  have V_b_1 := V_b.ext E1
  have gn_b1 : n0 ≤ b1 := Nat.le_trans Z0 (Nat.le_of_eq g1.symm)
  have Z1 := Nat.le_trans Z0 E1.1
  have sz_b1 : h0.size ≤ b1 := Nat.le_trans K0.1 (Nat.le_of_eq g1.symm)
  have K1 := K0.ext E1
  refine g_astoreN (pc' := 18) (Ls' := #[.val (.ref a1), .val (.int p2), .val (.ref b1)]) C X1 d36_17 rfl rfl rfl ?_
  refine g_aloadN (pc' := 19) C X1 d36_18 rfl rfl rfl ?_
  refine g_iconst (pc' := 20) (v := (0 : Int32)) C X1 d36_19 rfl rfl ?_
  refine g_aloadN (pc' := 21) C X1 d36_20 rfl rfl rfl ?_
  refine g_iconst (pc' := 22) (v := (0 : Int32)) C X1 d36_21 rfl rfl ?_
  refine g_aloadN (pc' := 23) C X1 d36_22 rfl rfl rfl ?_
  refine g_len (pc' := 24) C X1 d36_23 e1 V_b_1 rfl ?_
  refine g_iloadN (pc' := 25) C X1 d36_24 rfl rfl ?_
  refine g_callS (y := (⟨"java/lang/Math", "min", "(II)I"⟩ : MethodName)) (argsL := [(.int z1), (.int p2)]) (st := [(.int (0 : Int32)), (.ref b1), (.int (0 : Int32)), (.ref a1)]) (pc' := 28) C X1 d36_25 (wq hw 197 rfl) (wq hw 198 rfl) (wq hw 190 rfl) (wq hw 199 rfl) (by decide) (rmmn l Z a0 hw [] z1 p2 cs_ fm h1 n0 FX_1) (W := 4) (by decide) (by decide) (ce := 1) (sl := 40) rfl rfl (by decide) (by decide) rfl e1 rfl pd_8 rfl (Nat.le_refl _) rfl (fun rv3 T3 L3 X3 Q3 => ?_)
  obtain ⟨q3, Nq3, e3⟩ := Q3
  have N3 := Fr.app N0 Nq3
  rw [Fmn_l1 z1 p2 hq1] at q3
  subst q3
  show Go p.tables e below _ (T3.setTop (mkF m 28 #[.val (.ref a1), .val (.int p2), .val (.ref b1)] [(.int z1), (.int (0 : Int32)), (.ref b1), (.int (0 : Int32)), (.ref a1)]))
  refine g_cp (W := 0) (pc' := 31) C X3 d36_28 (wq hw 200 rfl) (wq hw 177 rfl) (wq hw 175 rfl) (wq hw 176 rfl) e3 V_b_1 (V1.pad (pad_rep _ _ (z1).toNatClampNeg)) rfl (by decide) (by decide) hq5 (Nat.le_of_eq (own_za _)) (Nat.le_trans (Nat.le_of_eq (own_za _)) hq4) rfl own_hl N3 gn_b1 rfl (by decide) (Nat.le_refl _) (by decide) rfl (fun T4 h4 L4 X4 e4 N4 Kq4 A4 => ?_)
  have V4 : Arv Z h4 b1 ck1 .byte p2 (own_vl lx) (.int (0 : Int32)) := own_cpv hzr A4
  have FX_4 := FX_keep FX_1 Kq4 ((allS (by obtain ⟨c_, A_, _⟩ := V1; exact ⟨c_, A_.1, A_.plain⟩) all0))
  have V_b_4 := V_b_1.keep Kq4 (ninS ne1_2 nin0)
  have A1_4 := A1.keep Kq4
  have Z4 := Nat.le_trans Z1 Kq4.1
  have K4 := K1.trans Kq4 (allS (Or.inr sz_b1) all0)
  refine g_aloadN (pc' := 32) C X4 d36_31 rfl rfl rfl ?_
  exact g_retA C X4 rfl rfl rfl d36_32 (by decide) (by decide) ⟨b1, ck1, rfl, N4, (by rw [e4]; exact K4), sz_b1, gn_b1, (by rw [e4]; exact V4), (by rw [e4]; exact A1_4)⟩
theorem d29_0 : decode jdk_68_method_9_code 0 = .ok (.aload_n 0, 1) := by decide +kernel
theorem d29_1 : decode jdk_68_method_9_code 1 = .ok (.getfield 15, 3) := by decide +kernel
theorem d29_4 : decode jdk_68_method_9_code 4 = .ok (.arraylength, 1) := by decide +kernel
theorem d29_5 : decode jdk_68_method_9_code 5 = .ok (.aload_n 0, 1) := by decide +kernel
theorem d29_6 : decode jdk_68_method_9_code 6 = .ok (.getfield 22, 3) := by decide +kernel
theorem d29_9 : decode jdk_68_method_9_code 9 = .ok (.ishr, 1) := by decide +kernel
theorem d29_10 : decode jdk_68_method_9_code 10 = .ok (.istore_n 2, 1) := by decide +kernel
theorem d29_11 : decode jdk_68_method_9_code 11 = .ok (.iload_n 1, 1) := by decide +kernel
theorem d29_12 : decode jdk_68_method_9_code 12 = .ok (.iload_n 2, 1) := by decide +kernel
theorem d29_13 : decode jdk_68_method_9_code 13 = .ok (.isub, 1) := by decide +kernel
theorem d29_14 : decode jdk_68_method_9_code 14 = .ok (.ifCond .le 24, 3) := by decide +kernel
theorem d29_17 : decode jdk_68_method_9_code 17 = .ok (.aload_n 0, 1) := by decide +kernel
theorem d29_18 : decode jdk_68_method_9_code 18 = .ok (.aload_n 0, 1) := by decide +kernel
theorem d29_19 : decode jdk_68_method_9_code 19 = .ok (.getfield 15, 3) := by decide +kernel
theorem d29_22 : decode jdk_68_method_9_code 22 = .ok (.aload_n 0, 1) := by decide +kernel
theorem d29_23 : decode jdk_68_method_9_code 23 = .ok (.iload_n 1, 1) := by decide +kernel
theorem d29_24 : decode jdk_68_method_9_code 24 = .ok (.invokevirtual 104, 3) := by decide +kernel
theorem pd_10 : parseMethodDescriptor "(I)I" = some ⟨[.int], some .int⟩ := by decide +kernel
theorem d29_27 : decode jdk_68_method_9_code 27 = .ok (.aload_n 0, 1) := by decide +kernel
theorem d29_28 : decode jdk_68_method_9_code 28 = .ok (.getfield 22, 3) := by decide +kernel
theorem d29_31 : decode jdk_68_method_9_code 31 = .ok (.ishl, 1) := by decide +kernel
theorem d29_32 : decode jdk_68_method_9_code 32 = .ok (.invokestatic 108, 3) := by decide +kernel
theorem pd_11 : parseMethodDescriptor "([BI)[B" = some ⟨[(.array .byte), .int], some (.array .byte)⟩ := by decide +kernel
theorem d29_35 : decode jdk_68_method_9_code 35 = .ok (.putfield 15, 3) := by decide +kernel
theorem d29_38 : decode jdk_68_method_9_code 38 = .ok (.return_, 1) := by decide +kernel
theorem ef_ens0 (m : MethodId) (a1 : Addr) (p2 : Int32) : entryFrame m #[(.ref a1), (.int p2)] 3 = mkF m 0 #[.val (.ref a1), .val (.int p2), .unset] [] := by first | (simp [entryFrame, mkF, argsToLocals, Value.category]; done) | rfl
def Q_ens0 (Z : State) (a1 : Addr) (p2 : Int32) (v1_ : Addr) (k1 : ClassId) (z : Int32) (lx : List Int32) (n : Int32) (cs_ : Int32) (fm : Value) (h0 : Heap) (n0 : Nat) (vr : Option Value) (h : Heap) (L : List Loc) : Prop := ∃ w : Addr, ∃ kw : ClassId, ∃ z2 : Int32, (vr = none) ∧ (Fr n0 L) ∧ (Keep h0 h [a1]) ∧ (Fld Z h a1 "java/lang/AbstractStringBuilder" "value" "[B" (.ref w)) ∧ (Fld Z h a1 "java/lang/AbstractStringBuilder" "maybeLatin1" "Z" (.int (0 : Int32))) ∧ (Fld Z h a1 "java/lang/AbstractStringBuilder" "count" "I" (.int n)) ∧ (Fld Z h a1 "java/lang/AbstractStringBuilder" "coder" "B" (.int (0 : Int32))) ∧ (Exa Z h w "[B") ∧ (Arv Z h w kw .byte z2 (own_vl lx) (.int (0 : Int32))) ∧ (∀ o : Addr, o < h0.size → ¬ (o = v1_) → ¬ (o = w)) ∧ (n0 ≤ w) ∧ (¬ (a1 = w)) ∧ (p2.toInt ≤ z2.toInt) ∧ (z2.toInt ≤ 20)
set_option maxRecDepth 65536 in
set_option maxHeartbeats 40000000 in
theorem rmens0 (l : Launch) (Z : State) (a0 : Array Value) (hw : ∀ d ∈ tables_1, d.before a0 Z = true) (ws : List Jvm.Cond) (a1 : Addr) (p2 : Int32) (v1_ : Addr) (k1 : ClassId) (z : Int32) (lx : List Int32) (n : Int32) (cs_ : Int32) (fm : Value) (h0 : Heap) (n0 : Nat) (Z0 : n0 ≤ h0.size) (hF : FX Z h0 cs_ fm) (E_a1 : Exa Z h0 a1 "java/lang/StringBuilder") (Fv_a1 : Fld Z h0 a1 "java/lang/AbstractStringBuilder" "value" "[B" (.ref v1_)) (Fm_a1 : Fld Z h0 a1 "java/lang/AbstractStringBuilder" "maybeLatin1" "Z" (.int (0 : Int32))) (Fn_a1 : Fld Z h0 a1 "java/lang/AbstractStringBuilder" "count" "I" (.int n)) (Fc_a1 : Fld Z h0 a1 "java/lang/AbstractStringBuilder" "coder" "B" (.int (0 : Int32))) (E_v1_ : Exa Z h0 v1_ "[B") (V_b : Arv Z h0 v1_ k1 .byte z (own_vl lx) (.int (0 : Int32))) (gn_a1 : n0 ≤ a1) (gn_v1_ : n0 ≤ v1_) (ne1v : ¬ (a1 = v1_)) (hz0 : 0 ≤ z.toInt) (hz1 : z.toInt ≤ 20) (hn2 : p2.toInt ≤ z.toInt + 2) (hn9 : p2.toInt ≤ 9) (hn0 : 0 ≤ p2.toInt) (hzr : ∀ i, z.toNatClampNeg ≤ i → lx.getD i 0 = 0) :
    MetFree l (⟨"java/lang/AbstractStringBuilder", "ensureCapacityInternal", "(I)V"⟩ : MethodName) (head1 (Jvm.Cond.code (⟨"java/lang/AbstractStringBuilder", "ensureCapacityInternal", "(I)V"⟩ : MethodName) jdk_68_method_9_code 3 none :: ws) ({ frames := 3, cells := 1, slots := 40, locals := 55 } : Room)) (fun a U => a = #[(.ref a1), (.int p2)] ∧ Z.Warmed39 U.vm ∧ U.heap = h0) (fun _ _ _ _ _ => True) (fun _ U o U' => ∃ v L, o = .returned v ∧ Q_ens0 Z a1 p2 v1_ k1 z lx n cs_ fm h0 n0 v U'.heap L ∧ FrameEnd U o U' L ({ frames := 3, cells := 1, slots := 40, locals := 55 } : Room).cells ({ frames := 3, cells := 1, slots := 40, locals := 55 } : Room).slots) := by
  refine met_of (Ls := #[.val (.ref a1), .val (.int p2), .unset]) (plainFor_of_name (by first | (simp [plainName, overriddenIn]; done) | decide +kernel)) (fun m => ef_ens0 m a1 p2) ?_
  intro p e s m below meth c T0 C X0 e0
  obtain ⟨S_cs, hcs, S_fm, hfm, S_ad, S_hi, S_lo⟩ := id hF
  have N0 := Fr.nil n0
  have K0 : Keep h0 h0 [a1] := Keep.refl h0 _
  refine g_aloadN (pc' := 1) C X0 d29_0 rfl rfl rfl ?_
  refine g_getF (pc' := 4) C X0 d29_1 (host := "") (Or.inl (wq hw 56 rfl)) Via.refl e0 Fv_a1 rfl (fun T1 X1 e1 => ?_)
  refine g_len (pc' := 5) C X1 d29_4 e1 V_b rfl ?_
  refine g_aloadN (pc' := 6) C X1 d29_5 rfl rfl rfl ?_
  refine g_getF (pc' := 9) C X1 d29_6 (host := "") (Or.inl (wq hw 58 rfl)) Via.refl e1 Fc_a1 rfl (fun T2 X2 e2 => ?_)
  refine g_ishr (pc' := 10) C X2 d29_9 rfl ?_
  refine g_istoreN (pc' := 11) (Ls' := #[.val (.ref a1), .val (.int p2), .val (.int (z >>> ((0 : Int32) &&& 31)))]) C X2 d29_10 rfl rfl ?_
  refine g_iloadN (pc' := 12) C X2 d29_11 rfl rfl ?_
  refine g_iloadN (pc' := 13) C X2 d29_12 rfl rfl ?_
  refine g_isub (pc' := 14) C X2 d29_13 rfl ?_
  by_cases c3 : (0 : Int32) < (p2 - (z >>> ((0 : Int32) &&& 31)))
  · refine g_ifN (pc' := 17) C X2 d29_14 (tlt c3).2.2.2 rfl ?_
    have hgr := own_gr0 c3 hz0 hz1 hn2 hn9 hn0
    have hzn : ¬ (z < (0 : Int32)) := own_nlt (hz0)
    refine g_aloadN (pc' := 18) C X2 d29_17 rfl rfl rfl ?_
    refine g_aloadN (pc' := 19) C X2 d29_18 rfl rfl rfl ?_
    refine g_getF (pc' := 22) C X2 d29_19 (host := "") (Or.inl (wq hw 56 rfl)) Via.refl e2 Fv_a1 rfl (fun T4 X4 e4 => ?_)
    refine g_aloadN (pc' := 23) C X4 d29_22 rfl rfl rfl ?_
    refine g_iloadN (pc' := 24) C X4 d29_23 rfl rfl ?_
    refine g_callQ (b := a1) (y := (⟨"java/lang/AbstractStringBuilder", "newCapacity", "(I)I"⟩ : MethodName)) (argsL := [(.int p2)]) (st := [(.ref v1_), (.ref a1)]) (pc' := 27) C X4 d29_24 (wq hw 179 rfl) (wq hw 180 rfl) (wq hw 181 rfl) (wq hw 52 rfl) (wq hw 182 rfl) (wq hw 183 rfl) (by decide) (rmncp0 l Z a0 hw [] a1 p2 v1_ k1 z lx cs_ fm h0 n0 hF Fv_a1 Fc_a1 V_b hgr.1 hgr.2.1 hgr.2.2.1 hgr.2.2.2.1) (W := 2) (by decide) (by decide) (ce := 0) (sl := 0) rfl rfl (by decide) (by decide) rfl E_a1 e4 rfl pd_10 rfl (Nat.le_refl _) rfl (fun rv5 T5 L5 X5 Q5 => ?_)
    obtain ⟨q5, Nq5, e5⟩ := Q5
    have N5 := Fr.app N0 Nq5
    rw [Fncp0_l0 z] at q5
    subst q5
    show Go p.tables e below _ (T5.setTop (mkF m 27 #[.val (.ref a1), .val (.int p2), .val (.int (z >>> ((0 : Int32) &&& 31)))] [(.int ((z + (z + (2 : Int32))) >>> ((0 : Int32) &&& 31))), (.ref v1_), (.ref a1)]))
    refine g_aloadN (pc' := 28) C X5 d29_27 rfl rfl rfl ?_
    refine g_getF (pc' := 31) C X5 d29_28 (host := "") (Or.inl (wq hw 58 rfl)) Via.refl e5 Fc_a1 rfl (fun T6 X6 e6 => ?_)
    refine g_ishl (pc' := 32) C X6 d29_31 rfl ?_
    refine own_cast (show T6.setTop (mkF m 32 #[.val (.ref a1), .val (.int p2), .val (.int (z >>> ((0 : Int32) &&& 31)))] [(.int (((z + (z + (2 : Int32))) >>> ((0 : Int32) &&& 31)) <<< ((0 : Int32) &&& 31))), (.ref v1_), (.ref a1)]) = T6.setTop (mkF m 32 #[.val (.ref a1), .val (.int p2), .val (.int (z >>> ((0 : Int32) &&& 31)))] [(.int (z + (z + (2 : Int32)))), (.ref v1_), (.ref a1)]) from by rw [hgr.2.2.2.2.1]) ?_
    refine g_callS (y := (⟨"java/util/Arrays", "copyOf", "([BI)[B"⟩ : MethodName)) (argsL := [(.ref v1_), (.int (z + (z + (2 : Int32))))]) (st := [(.ref a1)]) (pc' := 35) C X6 d29_32 (wq hw 194 rfl) (wq hw 195 rfl) (wq hw 95 rfl) (wq hw 196 rfl) (by decide) (rmcpo l Z a0 hw [] v1_ (z + (z + (2 : Int32))) k1 z lx cs_ fm h0 n0 Z0 hF V_b hgr.2.2.2.2.2.1 hgr.2.2.2.2.2.2.1 hgr.2.2.2.2.2.2.2.1 hgr.2.2.2.2.2.2.2.2.1 hgr.2.2.2.2.2.2.2.2.2.1 hzn hzr) (W := 1) (by decide) (by decide) (ce := 1) (sl := 40) rfl rfl (by decide) (by decide) rfl e6 rfl pd_11 rfl (Nat.le_refl _) rfl (fun rv7 T7 L7 X7 Q7 => ?_)
    obtain ⟨w7, kw7, q7, Nq7, Kq7, sz7_w, gn_w7, P7_0, P7_1⟩ := Q7
    have N7 := Fr.app N5 Nq7
    have ne7_8 : ¬ (a1 = w7) := Nat.ne_of_lt (Nat.lt_of_lt_of_le E_a1.lt sz7_w)
    have ne7_9 : ¬ (v1_ = w7) := Nat.ne_of_lt (Nat.lt_of_lt_of_le E_v1_.lt sz7_w)
    have FX_7 := FX_keep hF Kq7 (fun _ q => nomatch q)
    have E_a1_7 := E_a1.keep Kq7
    have Fv_a1_7 := Fv_a1.keep Kq7 nin0
    have Fm_a1_7 := Fm_a1.keep Kq7 nin0
    have Fn_a1_7 := Fn_a1.keep Kq7 nin0
    have Fc_a1_7 := Fc_a1.keep Kq7 nin0
    have E_v1__7 := E_v1_.keep Kq7
    have V_b_7 := V_b.keep Kq7 nin0
    have Z7 := Nat.le_trans Z0 Kq7.1
    have sz_w7 := Nat.le_trans K0.1 sz7_w
    have K7 := K0.trans Kq7 all0
    subst q7
    show Go p.tables e below _ (T7.setTop (mkF m 35 #[.val (.ref a1), .val (.int p2), .val (.int (z >>> ((0 : Int32) &&& 31)))] [(.ref w7), (.ref a1)]))
    refine g_putF (pc' := 38) C X7 d29_35 (host := "") (Or.inl (wq hw 56 rfl)) Via.refl rfl Fv_a1_7 E_a1_7 (Or.inl (wq hw 57 rfl)) (wq hw 32 rfl) (ty := (.array .byte)) (by decide) rfl rfl rfl (fun T10 h10 X10 e10 W10 => ?_)
    have F10 := Fv_a1_7.same W10
    have FX_10 := FX_wr FX_7 W10
    have E_a1_10 := E_a1_7.wr W10
    have Fm_a1_10 := Fm_a1_7.other W10 (Or.inr (slot_ne (Or.inl (wq hw 280 rfl)) (Or.inl (wq hw 57 rfl)) (by decide) (t := .boolean) (t' := (.array .byte)) (by decide) (by decide)))
    have Fn_a1_10 := Fn_a1_7.other W10 (Or.inr (slot_ne (Or.inl (wq hw 87 rfl)) (Or.inl (wq hw 57 rfl)) (by decide) (t := .int) (t' := (.array .byte)) (by decide) (by decide)))
    have Fc_a1_10 := Fc_a1_7.other W10 (Or.inr (slot_ne (Or.inl (wq hw 59 rfl)) (Or.inl (wq hw 57 rfl)) (by decide) (t := .byte) (t' := (.array .byte)) (by decide) (by decide)))
    have E_v1__10 := E_v1__7.wr W10
    have V_b_10 := V_b_7.other W10 (Ne.symm ne1v)
    have P7_0_10 := P7_0.other W10 (Ne.symm ne7_8)
    have P7_1_10 := P7_1.wr W10
    have Z10 := Nat.le_trans Z7 (Nat.le_of_eq W10.size.symm)
    have N10 := Fr.snoc X10 N7 gn_a1
    have K10 := K7.wr W10 (Or.inl (List.mem_of_getElem? (i := 0) rfl))
    exact g_retV C X10 d29_38 (by decide) (by decide) ⟨w7, kw7, (z + (z + (2 : Int32))), rfl, N10, (by rw [e10]; exact K10), (by rw [e10]; exact F10), (by rw [e10]; exact Fm_a1_10), (by rw [e10]; exact Fn_a1_10), (by rw [e10]; exact Fc_a1_10), (by rw [e10]; exact P7_1_10), (by rw [e10]; exact P7_0_10), fun _ l _ => Nat.ne_of_lt (Nat.lt_of_lt_of_le l sz_w7), gn_w7, ne7_8, hgr.2.2.2.2.2.2.2.2.2.2.1, hgr.2.2.2.2.2.2.2.2.2.2.2⟩
  · refine g_ifY (pc' := 38) C X2 d29_14 (flt c3).2.2.2 (by decide) (by decide) ?_
    exact g_retV C X2 d29_38 (by decide) (by decide) ⟨v1_, k1, z, rfl, N0, (by rw [e2]; exact K0), (by rw [e2]; exact Fv_a1), (by rw [e2]; exact Fm_a1), (by rw [e2]; exact Fn_a1), (by rw [e2]; exact Fc_a1), (by rw [e2]; exact E_v1_), (by rw [e2]; exact V_b), fun _ _ q => q, gn_v1_, ne1v, own_ng0 c3 hz0 hz1 hn9 hn0, hz1⟩
theorem ef_ens1 (m : MethodId) (a1 : Addr) (p2 : Int32) : entryFrame m #[(.ref a1), (.int p2)] 3 = mkF m 0 #[.val (.ref a1), .val (.int p2), .unset] [] := by first | (simp [entryFrame, mkF, argsToLocals, Value.category]; done) | rfl
def Q_ens1 (Z : State) (a1 : Addr) (p2 : Int32) (v1_ : Addr) (k1 : ClassId) (z : Int32) (lx : List Int32) (n : Int32) (cs_ : Int32) (fm : Value) (h0 : Heap) (n0 : Nat) (vr : Option Value) (h : Heap) (L : List Loc) : Prop := ∃ w : Addr, ∃ kw : ClassId, ∃ z2 : Int32, (vr = none) ∧ (Fr n0 L) ∧ (Keep h0 h [a1]) ∧ (Fld Z h a1 "java/lang/AbstractStringBuilder" "value" "[B" (.ref w)) ∧ (Fld Z h a1 "java/lang/AbstractStringBuilder" "maybeLatin1" "Z" (.int (0 : Int32))) ∧ (Fld Z h a1 "java/lang/AbstractStringBuilder" "count" "I" (.int n)) ∧ (Fld Z h a1 "java/lang/AbstractStringBuilder" "coder" "B" (.int (1 : Int32))) ∧ (Exa Z h w "[B") ∧ (Arv Z h w kw .byte (z2 + z2) (own_vl lx) (.int (0 : Int32))) ∧ (∀ o : Addr, o < h0.size → ¬ (o = v1_) → ¬ (o = w)) ∧ (n0 ≤ w) ∧ (¬ (a1 = w)) ∧ (p2.toInt ≤ z2.toInt) ∧ (z2.toInt ≤ 20)
set_option maxRecDepth 65536 in
set_option maxHeartbeats 40000000 in
theorem rmens1 (l : Launch) (Z : State) (a0 : Array Value) (hw : ∀ d ∈ tables_1, d.before a0 Z = true) (ws : List Jvm.Cond) (a1 : Addr) (p2 : Int32) (v1_ : Addr) (k1 : ClassId) (z : Int32) (lx : List Int32) (n : Int32) (cs_ : Int32) (fm : Value) (h0 : Heap) (n0 : Nat) (Z0 : n0 ≤ h0.size) (hF : FX Z h0 cs_ fm) (E_a1 : Exa Z h0 a1 "java/lang/StringBuilder") (Fv_a1 : Fld Z h0 a1 "java/lang/AbstractStringBuilder" "value" "[B" (.ref v1_)) (Fm_a1 : Fld Z h0 a1 "java/lang/AbstractStringBuilder" "maybeLatin1" "Z" (.int (0 : Int32))) (Fn_a1 : Fld Z h0 a1 "java/lang/AbstractStringBuilder" "count" "I" (.int n)) (Fc_a1 : Fld Z h0 a1 "java/lang/AbstractStringBuilder" "coder" "B" (.int (1 : Int32))) (E_v1_ : Exa Z h0 v1_ "[B") (V_b : Arv Z h0 v1_ k1 .byte (z + z) (own_vl lx) (.int (0 : Int32))) (gn_a1 : n0 ≤ a1) (gn_v1_ : n0 ≤ v1_) (ne1v : ¬ (a1 = v1_)) (hz0 : 0 ≤ z.toInt) (hz1 : z.toInt ≤ 20) (hn2 : p2.toInt ≤ z.toInt + 2) (hn9 : p2.toInt ≤ 9) (hn0 : 0 ≤ p2.toInt) (hzr : ∀ i, (z + z).toNatClampNeg ≤ i → lx.getD i 0 = 0) :
    MetFree l (⟨"java/lang/AbstractStringBuilder", "ensureCapacityInternal", "(I)V"⟩ : MethodName) (head1 (Jvm.Cond.code (⟨"java/lang/AbstractStringBuilder", "ensureCapacityInternal", "(I)V"⟩ : MethodName) jdk_68_method_9_code 3 none :: ws) ({ frames := 3, cells := 1, slots := 40, locals := 55 } : Room)) (fun a U => a = #[(.ref a1), (.int p2)] ∧ Z.Warmed39 U.vm ∧ U.heap = h0) (fun _ _ _ _ _ => True) (fun _ U o U' => ∃ v L, o = .returned v ∧ Q_ens1 Z a1 p2 v1_ k1 z lx n cs_ fm h0 n0 v U'.heap L ∧ FrameEnd U o U' L ({ frames := 3, cells := 1, slots := 40, locals := 55 } : Room).cells ({ frames := 3, cells := 1, slots := 40, locals := 55 } : Room).slots) := by
  refine met_of (Ls := #[.val (.ref a1), .val (.int p2), .unset]) (plainFor_of_name (by first | (simp [plainName, overriddenIn]; done) | decide +kernel)) (fun m => ef_ens1 m a1 p2) ?_
  intro p e s m below meth c T0 C X0 e0
  obtain ⟨S_cs, hcs, S_fm, hfm, S_ad, S_hi, S_lo⟩ := id hF
  have N0 := Fr.nil n0
  have K0 : Keep h0 h0 [a1] := Keep.refl h0 _
  refine g_aloadN (pc' := 1) C X0 d29_0 rfl rfl rfl ?_
  refine g_getF (pc' := 4) C X0 d29_1 (host := "") (Or.inl (wq hw 56 rfl)) Via.refl e0 Fv_a1 rfl (fun T1 X1 e1 => ?_)
  refine g_len (pc' := 5) C X1 d29_4 e1 V_b rfl ?_
  refine g_aloadN (pc' := 6) C X1 d29_5 rfl rfl rfl ?_
  refine g_getF (pc' := 9) C X1 d29_6 (host := "") (Or.inl (wq hw 58 rfl)) Via.refl e1 Fc_a1 rfl (fun T2 X2 e2 => ?_)
  refine g_ishr (pc' := 10) C X2 d29_9 rfl ?_
  refine g_istoreN (pc' := 11) (Ls' := #[.val (.ref a1), .val (.int p2), .val (.int ((z + z) >>> ((1 : Int32) &&& 31)))]) C X2 d29_10 rfl rfl ?_
  refine g_iloadN (pc' := 12) C X2 d29_11 rfl rfl ?_
  refine g_iloadN (pc' := 13) C X2 d29_12 rfl rfl ?_
  refine g_isub (pc' := 14) C X2 d29_13 rfl ?_
  by_cases c3 : (0 : Int32) < (p2 - ((z + z) >>> ((1 : Int32) &&& 31)))
  · refine g_ifN (pc' := 17) C X2 d29_14 (tlt c3).2.2.2 rfl ?_
    have hgr := own_gr1 c3 hz0 hz1 hn2 hn9 hn0
    have hzn : ¬ ((z + z) < (0 : Int32)) := own_nlt (by rw [own_addI (by omega) (by omega) (by omega) (by omega)]; omega)
    refine g_aloadN (pc' := 18) C X2 d29_17 rfl rfl rfl ?_
    refine g_aloadN (pc' := 19) C X2 d29_18 rfl rfl rfl ?_
    refine g_getF (pc' := 22) C X2 d29_19 (host := "") (Or.inl (wq hw 56 rfl)) Via.refl e2 Fv_a1 rfl (fun T4 X4 e4 => ?_)
    refine g_aloadN (pc' := 23) C X4 d29_22 rfl rfl rfl ?_
    refine g_iloadN (pc' := 24) C X4 d29_23 rfl rfl ?_
    refine g_callQ (b := a1) (y := (⟨"java/lang/AbstractStringBuilder", "newCapacity", "(I)I"⟩ : MethodName)) (argsL := [(.int p2)]) (st := [(.ref v1_), (.ref a1)]) (pc' := 27) C X4 d29_24 (wq hw 179 rfl) (wq hw 180 rfl) (wq hw 181 rfl) (wq hw 52 rfl) (wq hw 182 rfl) (wq hw 183 rfl) (by decide) (rmncp1 l Z a0 hw [] a1 p2 v1_ k1 z lx cs_ fm h0 n0 hF Fv_a1 Fc_a1 V_b hgr.1 hgr.2.1 hgr.2.2.1 hgr.2.2.2.1) (W := 2) (by decide) (by decide) (ce := 0) (sl := 0) rfl rfl (by decide) (by decide) rfl E_a1 e4 rfl pd_10 rfl (Nat.le_refl _) rfl (fun rv5 T5 L5 X5 Q5 => ?_)
    obtain ⟨q5, Nq5, e5⟩ := Q5
    have N5 := Fr.app N0 Nq5
    rw [Fncp1_l0 z] at q5
    subst q5
    show Go p.tables e below _ (T5.setTop (mkF m 27 #[.val (.ref a1), .val (.int p2), .val (.int ((z + z) >>> ((1 : Int32) &&& 31)))] [(.int (((z + z) + ((z + z) + (4 : Int32))) >>> ((1 : Int32) &&& 31))), (.ref v1_), (.ref a1)]))
    refine g_aloadN (pc' := 28) C X5 d29_27 rfl rfl rfl ?_
    refine g_getF (pc' := 31) C X5 d29_28 (host := "") (Or.inl (wq hw 58 rfl)) Via.refl e5 Fc_a1 rfl (fun T6 X6 e6 => ?_)
    refine g_ishl (pc' := 32) C X6 d29_31 rfl ?_
    refine own_cast (show T6.setTop (mkF m 32 #[.val (.ref a1), .val (.int p2), .val (.int ((z + z) >>> ((1 : Int32) &&& 31)))] [(.int ((((z + z) + ((z + z) + (4 : Int32))) >>> ((1 : Int32) &&& 31)) <<< ((1 : Int32) &&& 31))), (.ref v1_), (.ref a1)]) = T6.setTop (mkF m 32 #[.val (.ref a1), .val (.int p2), .val (.int ((z + z) >>> ((1 : Int32) &&& 31)))] [(.int ((z + (z + (2 : Int32))) + (z + (z + (2 : Int32))))), (.ref v1_), (.ref a1)]) from by rw [hgr.2.2.2.2.1]) ?_
    refine g_callS (y := (⟨"java/util/Arrays", "copyOf", "([BI)[B"⟩ : MethodName)) (argsL := [(.ref v1_), (.int ((z + (z + (2 : Int32))) + (z + (z + (2 : Int32)))))]) (st := [(.ref a1)]) (pc' := 35) C X6 d29_32 (wq hw 194 rfl) (wq hw 195 rfl) (wq hw 95 rfl) (wq hw 196 rfl) (by decide) (rmcpo l Z a0 hw [] v1_ ((z + (z + (2 : Int32))) + (z + (z + (2 : Int32)))) k1 (z + z) lx cs_ fm h0 n0 Z0 hF V_b hgr.2.2.2.2.2.1 hgr.2.2.2.2.2.2.1 hgr.2.2.2.2.2.2.2.1 hgr.2.2.2.2.2.2.2.2.1 hgr.2.2.2.2.2.2.2.2.2.1 hzn hzr) (W := 1) (by decide) (by decide) (ce := 1) (sl := 40) rfl rfl (by decide) (by decide) rfl e6 rfl pd_11 rfl (Nat.le_refl _) rfl (fun rv7 T7 L7 X7 Q7 => ?_)
    obtain ⟨w7, kw7, q7, Nq7, Kq7, sz7_w, gn_w7, P7_0, P7_1⟩ := Q7
    have N7 := Fr.app N5 Nq7
    have ne7_8 : ¬ (a1 = w7) := Nat.ne_of_lt (Nat.lt_of_lt_of_le E_a1.lt sz7_w)
    have ne7_9 : ¬ (v1_ = w7) := Nat.ne_of_lt (Nat.lt_of_lt_of_le E_v1_.lt sz7_w)
    have FX_7 := FX_keep hF Kq7 (fun _ q => nomatch q)
    have E_a1_7 := E_a1.keep Kq7
    have Fv_a1_7 := Fv_a1.keep Kq7 nin0
    have Fm_a1_7 := Fm_a1.keep Kq7 nin0
    have Fn_a1_7 := Fn_a1.keep Kq7 nin0
    have Fc_a1_7 := Fc_a1.keep Kq7 nin0
    have E_v1__7 := E_v1_.keep Kq7
    have V_b_7 := V_b.keep Kq7 nin0
    have Z7 := Nat.le_trans Z0 Kq7.1
    have sz_w7 := Nat.le_trans K0.1 sz7_w
    have K7 := K0.trans Kq7 all0
    subst q7
    show Go p.tables e below _ (T7.setTop (mkF m 35 #[.val (.ref a1), .val (.int p2), .val (.int ((z + z) >>> ((1 : Int32) &&& 31)))] [(.ref w7), (.ref a1)]))
    refine g_putF (pc' := 38) C X7 d29_35 (host := "") (Or.inl (wq hw 56 rfl)) Via.refl rfl Fv_a1_7 E_a1_7 (Or.inl (wq hw 57 rfl)) (wq hw 32 rfl) (ty := (.array .byte)) (by decide) rfl rfl rfl (fun T10 h10 X10 e10 W10 => ?_)
    have F10 := Fv_a1_7.same W10
    have FX_10 := FX_wr FX_7 W10
    have E_a1_10 := E_a1_7.wr W10
    have Fm_a1_10 := Fm_a1_7.other W10 (Or.inr (slot_ne (Or.inl (wq hw 280 rfl)) (Or.inl (wq hw 57 rfl)) (by decide) (t := .boolean) (t' := (.array .byte)) (by decide) (by decide)))
    have Fn_a1_10 := Fn_a1_7.other W10 (Or.inr (slot_ne (Or.inl (wq hw 87 rfl)) (Or.inl (wq hw 57 rfl)) (by decide) (t := .int) (t' := (.array .byte)) (by decide) (by decide)))
    have Fc_a1_10 := Fc_a1_7.other W10 (Or.inr (slot_ne (Or.inl (wq hw 59 rfl)) (Or.inl (wq hw 57 rfl)) (by decide) (t := .byte) (t' := (.array .byte)) (by decide) (by decide)))
    have E_v1__10 := E_v1__7.wr W10
    have V_b_10 := V_b_7.other W10 (Ne.symm ne1v)
    have P7_0_10 := P7_0.other W10 (Ne.symm ne7_8)
    have P7_1_10 := P7_1.wr W10
    have Z10 := Nat.le_trans Z7 (Nat.le_of_eq W10.size.symm)
    have N10 := Fr.snoc X10 N7 gn_a1
    have K10 := K7.wr W10 (Or.inl (List.mem_of_getElem? (i := 0) rfl))
    exact g_retV C X10 d29_38 (by decide) (by decide) ⟨w7, kw7, (z + (z + (2 : Int32))), rfl, N10, (by rw [e10]; exact K10), (by rw [e10]; exact F10), (by rw [e10]; exact Fm_a1_10), (by rw [e10]; exact Fn_a1_10), (by rw [e10]; exact Fc_a1_10), (by rw [e10]; exact P7_1_10), (by rw [e10]; exact P7_0_10), fun _ l _ => Nat.ne_of_lt (Nat.lt_of_lt_of_le l sz_w7), gn_w7, ne7_8, hgr.2.2.2.2.2.2.2.2.2.2.1, hgr.2.2.2.2.2.2.2.2.2.2.2⟩
  · refine g_ifY (pc' := 38) C X2 d29_14 (flt c3).2.2.2 (by decide) (by decide) ?_
    exact g_retV C X2 d29_38 (by decide) (by decide) ⟨v1_, k1, z, rfl, N0, (by rw [e2]; exact K0), (by rw [e2]; exact Fv_a1), (by rw [e2]; exact Fm_a1), (by rw [e2]; exact Fn_a1), (by rw [e2]; exact Fc_a1), (by rw [e2]; exact E_v1_), (by rw [e2]; exact V_b), fun _ _ q => q, gn_v1_, ne1v, own_ng1 c3 hz0 hz1 hn9 hn0, hz1⟩
theorem d16_0 : decode jdk_68_method_68_code 0 = .ok (.getstatic 18, 3) := by decide +kernel
theorem d16_3 : decode jdk_68_method_68_code 3 = .ok (.ifCond .eq 14, 3) := by decide +kernel
theorem d16_6 : decode jdk_68_method_68_code 6 = .ok (.aload_n 0, 1) := by decide +kernel
theorem d16_7 : decode jdk_68_method_68_code 7 = .ok (.getfield 22, 3) := by decide +kernel
theorem d16_10 : decode jdk_68_method_68_code 10 = .ok (.ifCond .ne 7, 3) := by decide +kernel
theorem d16_13 : decode jdk_68_method_68_code 13 = .ok (.iconst 1, 1) := by decide +kernel
theorem d16_14 : decode jdk_68_method_68_code 14 = .ok (.goto 4, 3) := by decide +kernel
theorem d16_18 : decode jdk_68_method_68_code 18 = .ok (.ireturn, 1) := by decide +kernel
def Fasl0  : Int32 := (1 : Int32)
theorem Fasl0_l0   : Fasl0  = (1 : Int32) := rfl
theorem ef_asl0 (m : MethodId) (a1 : Addr) : entryFrame m #[(.ref a1)] 1 = mkF m 0 #[.val (.ref a1)] [] := by first | (simp [entryFrame, mkF, argsToLocals, Value.category]; done) | rfl
def Q_asl0 (Z : State) (a1 : Addr) (cs_ : Int32) (fm : Value) (h0 : Heap) (n0 : Nat) (v : Option Value) (h : Heap) (L : List Loc) : Prop := v = some (.int (Fasl0 )) ∧ Fr n0 L ∧ h = h0
set_option maxRecDepth 65536 in
set_option maxHeartbeats 40000000 in
theorem rmasl0 (l : Launch) (Z : State) (a0 : Array Value) (hw : ∀ d ∈ tables_1, d.before a0 Z = true) (ws : List Jvm.Cond) (a1 : Addr) (cs_ : Int32) (fm : Value) (h0 : Heap) (n0 : Nat) (hF : FX Z h0 cs_ fm) (Fc_a1 : Fld Z h0 a1 "java/lang/AbstractStringBuilder" "coder" "B" (.int (0 : Int32))) :
    MetFree l (⟨"java/lang/AbstractStringBuilder", "isLatin1", "()Z"⟩ : MethodName) (head1 (Jvm.Cond.code (⟨"java/lang/AbstractStringBuilder", "isLatin1", "()Z"⟩ : MethodName) jdk_68_method_68_code 1 (some .boolean) :: ws) ({ frames := 0, cells := 0, slots := 0, locals := 0 } : Room)) (fun a U => a = #[(.ref a1)] ∧ Z.Warmed39 U.vm ∧ U.heap = h0) (fun _ _ _ _ _ => True) (fun _ U o U' => ∃ v L, o = .returned v ∧ Q_asl0 Z a1 cs_ fm h0 n0 v U'.heap L ∧ FrameEnd U o U' L ({ frames := 0, cells := 0, slots := 0, locals := 0 } : Room).cells ({ frames := 0, cells := 0, slots := 0, locals := 0 } : Room).slots) := by
  refine met_of (Ls := #[.val (.ref a1)]) (plainFor_of_name (by first | (simp [plainName, overriddenIn]; done) | decide +kernel)) (fun m => ef_asl0 m a1) ?_
  intro p e s m below meth c T0 C X0 e0
  obtain ⟨S_cs, hcs, S_fm, hfm, S_ad, S_hi, S_lo⟩ := id hF
  have N0 := Fr.nil n0
  refine g_getS (pc' := 3) C X0 d16_0 (host := "") (Or.inl (wq hw 55 rfl)) Via.refl e0 S_cs rfl (fun T1 X1 e1 => ?_)
  refine g_ifN (pc' := 6) C X1 d16_3 (feq hcs).1 rfl ?_
  refine g_aloadN (pc' := 7) C X1 d16_6 rfl rfl rfl ?_
  refine g_getF (pc' := 10) C X1 d16_7 (host := "") (Or.inl (wq hw 58 rfl)) Via.refl e1 Fc_a1 rfl (fun T2 X2 e2 => ?_)
  refine g_ifN (pc' := 13) C X2 d16_10 (teq (show (0 : Int32) = (0 : Int32) from (by decide))).2 rfl ?_
  refine g_iconst (pc' := 14) (v := (1 : Int32)) C X2 d16_13 rfl rfl ?_
  refine g_goto (pc' := 18) C X2 d16_14 (by decide) (by decide) ?_
  exact g_retN C X2 (by simp) d16_18 (by decide) (by decide) ⟨congrArg (fun z => some (Value.int z)) (Fasl0_l0  ).symm, N0, e2⟩
theorem d16_17 : decode jdk_68_method_68_code 17 = .ok (.iconst 0, 1) := by decide +kernel
def Fasl1  : Int32 := (0 : Int32)
theorem Fasl1_l0   : Fasl1  = (0 : Int32) := rfl
theorem ef_asl1 (m : MethodId) (a1 : Addr) : entryFrame m #[(.ref a1)] 1 = mkF m 0 #[.val (.ref a1)] [] := by first | (simp [entryFrame, mkF, argsToLocals, Value.category]; done) | rfl
def Q_asl1 (Z : State) (a1 : Addr) (cs_ : Int32) (fm : Value) (h0 : Heap) (n0 : Nat) (v : Option Value) (h : Heap) (L : List Loc) : Prop := v = some (.int (Fasl1 )) ∧ Fr n0 L ∧ h = h0
set_option maxRecDepth 65536 in
set_option maxHeartbeats 40000000 in
theorem rmasl1 (l : Launch) (Z : State) (a0 : Array Value) (hw : ∀ d ∈ tables_1, d.before a0 Z = true) (ws : List Jvm.Cond) (a1 : Addr) (cs_ : Int32) (fm : Value) (h0 : Heap) (n0 : Nat) (hF : FX Z h0 cs_ fm) (Fc_a1 : Fld Z h0 a1 "java/lang/AbstractStringBuilder" "coder" "B" (.int (1 : Int32))) :
    MetFree l (⟨"java/lang/AbstractStringBuilder", "isLatin1", "()Z"⟩ : MethodName) (head1 (Jvm.Cond.code (⟨"java/lang/AbstractStringBuilder", "isLatin1", "()Z"⟩ : MethodName) jdk_68_method_68_code 1 (some .boolean) :: ws) ({ frames := 0, cells := 0, slots := 0, locals := 0 } : Room)) (fun a U => a = #[(.ref a1)] ∧ Z.Warmed39 U.vm ∧ U.heap = h0) (fun _ _ _ _ _ => True) (fun _ U o U' => ∃ v L, o = .returned v ∧ Q_asl1 Z a1 cs_ fm h0 n0 v U'.heap L ∧ FrameEnd U o U' L ({ frames := 0, cells := 0, slots := 0, locals := 0 } : Room).cells ({ frames := 0, cells := 0, slots := 0, locals := 0 } : Room).slots) := by
  refine met_of (Ls := #[.val (.ref a1)]) (plainFor_of_name (by first | (simp [plainName, overriddenIn]; done) | decide +kernel)) (fun m => ef_asl1 m a1) ?_
  intro p e s m below meth c T0 C X0 e0
  obtain ⟨S_cs, hcs, S_fm, hfm, S_ad, S_hi, S_lo⟩ := id hF
  have N0 := Fr.nil n0
  refine g_getS (pc' := 3) C X0 d16_0 (host := "") (Or.inl (wq hw 55 rfl)) Via.refl e0 S_cs rfl (fun T1 X1 e1 => ?_)
  refine g_ifN (pc' := 6) C X1 d16_3 (feq hcs).1 rfl ?_
  refine g_aloadN (pc' := 7) C X1 d16_6 rfl rfl rfl ?_
  refine g_getF (pc' := 10) C X1 d16_7 (host := "") (Or.inl (wq hw 58 rfl)) Via.refl e1 Fc_a1 rfl (fun T2 X2 e2 => ?_)
  refine g_ifY (pc' := 17) C X2 d16_10 (feq (show ¬ ((1 : Int32) = (0 : Int32)) from (by decide))).2 (by decide) (by decide) ?_
  refine g_iconst (pc' := 18) (v := (0 : Int32)) C X2 d16_17 rfl rfl ?_
  exact g_retN C X2 (by simp) d16_18 (by decide) (by decide) ⟨congrArg (fun z => some (Value.int z)) (Fasl1_l0  ).symm, N0, e2⟩
theorem d40_0 : decode jdk_43_method_3_code 0 = .ok (.iload_n 0, 1) := by decide +kernel
theorem d40_1 : decode jdk_43_method_3_code 1 = .ok (.sipush 255, 3) := by decide +kernel
theorem d40_4 : decode jdk_43_method_3_code 4 = .ok (.if_icmp .gt 7, 3) := by decide +kernel
theorem d40_11 : decode jdk_43_method_3_code 11 = .ok (.iconst 0, 1) := by decide +kernel
theorem d40_12 : decode jdk_43_method_3_code 12 = .ok (.ireturn, 1) := by decide +kernel
theorem d40_7 : decode jdk_43_method_3_code 7 = .ok (.iconst 1, 1) := by decide +kernel
theorem d40_8 : decode jdk_43_method_3_code 8 = .ok (.goto 4, 3) := by decide +kernel
def Fcan (p1 : Int32) : Int32 := (if (255 : Int32) < p1 then (0 : Int32) else (1 : Int32))
theorem Fcan_l0 (p1 : Int32) (h0 : (255 : Int32) < p1) : Fcan p1 = (0 : Int32) := by
  unfold Fcan; rw [if_pos h0]
theorem Fcan_l1 (p1 : Int32) (h0 : ¬ ((255 : Int32) < p1)) : Fcan p1 = (1 : Int32) := by
  unfold Fcan; rw [if_neg h0]
theorem ef_can (m : MethodId) (p1 : Int32) : entryFrame m #[(.int p1)] 1 = mkF m 0 #[.val (.int p1)] [] := by first | (simp [entryFrame, mkF, argsToLocals, Value.category]; done) | rfl
def Q_can (Z : State) (p1 : Int32) (cs_ : Int32) (fm : Value) (h0 : Heap) (n0 : Nat) (v : Option Value) (h : Heap) (L : List Loc) : Prop := v = some (.int (Fcan p1)) ∧ Fr n0 L ∧ h = h0
set_option maxRecDepth 65536 in
set_option maxHeartbeats 40000000 in
theorem rmcan (l : Launch) (Z : State) (a0 : Array Value) (hw : ∀ d ∈ tables_1, d.before a0 Z = true) (ws : List Jvm.Cond) (p1 : Int32) (cs_ : Int32) (fm : Value) (h0 : Heap) (n0 : Nat) (hF : FX Z h0 cs_ fm) :
    MetFree l (⟨"java/lang/StringLatin1", "canEncode", "(C)Z"⟩ : MethodName) (head1 (Jvm.Cond.code (⟨"java/lang/StringLatin1", "canEncode", "(C)Z"⟩ : MethodName) jdk_43_method_3_code 1 (some .boolean) :: ws) ({ frames := 0, cells := 0, slots := 0, locals := 0 } : Room)) (fun a U => a = #[(.int p1)] ∧ Z.Warmed39 U.vm ∧ U.heap = h0) (fun _ _ _ _ _ => True) (fun _ U o U' => ∃ v L, o = .returned v ∧ Q_can Z p1 cs_ fm h0 n0 v U'.heap L ∧ FrameEnd U o U' L ({ frames := 0, cells := 0, slots := 0, locals := 0 } : Room).cells ({ frames := 0, cells := 0, slots := 0, locals := 0 } : Room).slots) := by
  refine met_of (Ls := #[.val (.int p1)]) (plainFor_of_name (by first | (simp [plainName, overriddenIn]; done) | decide +kernel)) (fun m => ef_can m p1) ?_
  intro p e s m below meth c T0 C X0 e0
  obtain ⟨S_cs, hcs, S_fm, hfm, S_ad, S_hi, S_lo⟩ := id hF
  have N0 := Fr.nil n0
  refine g_iloadN (pc' := 1) C X0 d40_0 rfl rfl ?_
  refine g_sipush (pc' := 4) (v := (255 : Int32)) C X0 d40_1 rfl rfl ?_
  by_cases c1 : (255 : Int32) < p1
  · refine g_icmpY (pc' := 11) C X0 d40_4 (tlt c1).2.2.1 (by decide) (by decide) ?_
    refine g_iconst (pc' := 12) (v := (0 : Int32)) C X0 d40_11 rfl rfl ?_
    exact g_retN C X0 (by simp) d40_12 (by decide) (by decide) ⟨congrArg (fun z => some (Value.int z)) (Fcan_l0 p1 c1).symm, N0, e0⟩
  · refine g_icmpN (pc' := 7) C X0 d40_4 (flt c1).2.2.1 rfl ?_
    refine g_iconst (pc' := 8) (v := (1 : Int32)) C X0 d40_7 rfl rfl ?_
    refine g_goto (pc' := 12) C X0 d40_8 (by decide) (by decide) ?_
    exact g_retN C X0 (by simp) d40_12 (by decide) (by decide) ⟨congrArg (fun z => some (Value.int z)) (Fcan_l1 p1 c1).symm, N0, e0⟩
theorem d46_0 : decode jdk_52_method_3_code 0 = .ok (.iload_n 0, 1) := by decide +kernel
theorem d46_1 : decode jdk_52_method_3_code 1 = .ok (.ifCond .ge 11, 3) := by decide +kernel
theorem d46_12 : decode jdk_52_method_3_code 12 = .ok (.iload_n 0, 1) := by decide +kernel
theorem d46_13 : decode jdk_52_method_3_code 13 = .ok (.ldc 20, 2) := by decide +kernel
theorem d46_15 : decode jdk_52_method_3_code 15 = .ok (.if_icmp .lt 40, 3) := by decide +kernel
theorem d46_55 : decode jdk_52_method_3_code 55 = .ok (.iload_n 0, 1) := by decide +kernel
theorem d46_56 : decode jdk_52_method_3_code 56 = .ok (.iconst 1, 1) := by decide +kernel
theorem d46_57 : decode jdk_52_method_3_code 57 = .ok (.ishl, 1) := by decide +kernel
theorem d46_58 : decode jdk_52_method_3_code 58 = .ok (.ireturn, 1) := by decide +kernel
def Fnbl (p1 : Int32) : Int32 := (p1 <<< ((1 : Int32) &&& 31))
theorem Fnbl_l0 (p1 : Int32)  : Fnbl p1 = (p1 <<< ((1 : Int32) &&& 31)) := rfl
theorem ef_nbl (m : MethodId) (p1 : Int32) : entryFrame m #[(.int p1)] 1 = mkF m 0 #[.val (.int p1)] [] := by first | (simp [entryFrame, mkF, argsToLocals, Value.category]; done) | rfl
def Q_nbl (Z : State) (p1 : Int32) (cs_ : Int32) (fm : Value) (h0 : Heap) (n0 : Nat) (v : Option Value) (h : Heap) (L : List Loc) : Prop := v = some (.int (Fnbl p1)) ∧ Fr n0 L ∧ h = h0
set_option maxRecDepth 65536 in
set_option maxHeartbeats 40000000 in
theorem rmnbl (l : Launch) (Z : State) (a0 : Array Value) (hw : ∀ d ∈ tables_1, d.before a0 Z = true) (ws : List Jvm.Cond) (p1 : Int32) (cs_ : Int32) (fm : Value) (h0 : Heap) (n0 : Nat) (hF : FX Z h0 cs_ fm) (hd0 : ¬ (p1 < (0 : Int32))) (hd1 : p1 < (1073741823 : Int32)) :
    MetFree l (⟨"java/lang/StringUTF16", "newBytesLength", "(I)I"⟩ : MethodName) (head1 (Jvm.Cond.code (⟨"java/lang/StringUTF16", "newBytesLength", "(I)I"⟩ : MethodName) jdk_52_method_3_code 1 (some .int) :: ws) ({ frames := 0, cells := 0, slots := 0, locals := 0 } : Room)) (fun a U => a = #[(.int p1)] ∧ Z.Warmed39 U.vm ∧ U.heap = h0) (fun _ _ _ _ _ => True) (fun _ U o U' => ∃ v L, o = .returned v ∧ Q_nbl Z p1 cs_ fm h0 n0 v U'.heap L ∧ FrameEnd U o U' L ({ frames := 0, cells := 0, slots := 0, locals := 0 } : Room).cells ({ frames := 0, cells := 0, slots := 0, locals := 0 } : Room).slots) := by
  refine met_of (Ls := #[.val (.int p1)]) (plainFor_of_name (by first | (simp [plainName, overriddenIn]; done) | decide +kernel)) (fun m => ef_nbl m p1) ?_
  intro p e s m below meth c T0 C X0 e0
  obtain ⟨S_cs, hcs, S_fm, hfm, S_ad, S_hi, S_lo⟩ := id hF
  have N0 := Fr.nil n0
  refine g_iloadN (pc' := 1) C X0 d46_0 rfl rfl ?_
  refine g_ifY (pc' := 12) C X0 d46_1 (flt hd0).2.1 (by decide) (by decide) ?_
  refine g_iloadN (pc' := 13) C X0 d46_12 rfl rfl ?_
  refine g_ldc (pc' := 15) (v := (1073741823 : Int32)) C X0 d46_13 (wq hw 234 rfl) rfl ?_
  refine g_icmpY (pc' := 55) C X0 d46_15 (tlt hd1).1 (by decide) (by decide) ?_
  refine g_iloadN (pc' := 56) C X0 d46_55 rfl rfl ?_
  refine g_iconst (pc' := 57) (v := (1 : Int32)) C X0 d46_56 rfl rfl ?_
  refine g_ishl (pc' := 58) C X0 d46_57 rfl ?_
  exact g_retI C X0 d46_58 (by decide) (by decide) ⟨congrArg (fun z => some (Value.int z)) (Fnbl_l0 p1 ).symm, N0, e0⟩
theorem d45_0 : decode jdk_52_method_2_code 0 = .ok (.iload_n 0, 1) := by decide +kernel
theorem d45_1 : decode jdk_52_method_2_code 1 = .ok (.invokestatic 11, 3) := by decide +kernel
theorem d45_4 : decode jdk_52_method_2_code 4 = .ok (.newarray .byte, 2) := by decide +kernel
theorem d45_6 : decode jdk_52_method_2_code 6 = .ok (.areturn, 1) := by decide +kernel
theorem ef_nbf (m : MethodId) (p1 : Int32) : entryFrame m #[(.int p1)] 1 = mkF m 0 #[.val (.int p1)] [] := by first | (simp [entryFrame, mkF, argsToLocals, Value.category]; done) | rfl
def Q_nbf (Z : State) (p1 : Int32) (cs_ : Int32) (fm : Value) (h0 : Heap) (n0 : Nat) (vr : Option Value) (h : Heap) (L : List Loc) : Prop := ∃ w : Addr, ∃ kw : ClassId, (vr = some (.ref w)) ∧ (Fr n0 L) ∧ (Keep h0 h []) ∧ (h0.size ≤ w) ∧ (n0 ≤ w) ∧ (Arv Z h w kw .byte (p1 + p1) (own_vl []) (.int (0 : Int32))) ∧ (Exa Z h w "[B")
set_option maxRecDepth 65536 in
set_option maxHeartbeats 40000000 in
theorem rmnbf (l : Launch) (Z : State) (a0 : Array Value) (hw : ∀ d ∈ tables_1, d.before a0 Z = true) (ws : List Jvm.Cond) (p1 : Int32) (cs_ : Int32) (fm : Value) (h0 : Heap) (n0 : Nat) (Z0 : n0 ≤ h0.size) (hF : FX Z h0 cs_ fm) (hd0 : ¬ (p1 < (0 : Int32))) (hd1 : p1 < (1073741823 : Int32)) (hd2 : (p1 <<< ((1 : Int32) &&& 31)) = (p1 + p1)) (hd3 : ¬ ((p1 + p1) < (0 : Int32))) (hd4 : (p1 + p1).toNatClampNeg ≤ 40) :
    MetFree l (⟨"java/lang/StringUTF16", "newBytesFor", "(I)[B"⟩ : MethodName) (head1 (Jvm.Cond.code (⟨"java/lang/StringUTF16", "newBytesFor", "(I)[B"⟩ : MethodName) jdk_52_method_2_code 1 (some (.array .byte)) :: ws) ({ frames := 1, cells := 1, slots := 40, locals := 12 } : Room)) (fun a U => a = #[(.int p1)] ∧ Z.Warmed39 U.vm ∧ U.heap = h0) (fun _ _ _ _ _ => True) (fun _ U o U' => ∃ v L, o = .returned v ∧ Q_nbf Z p1 cs_ fm h0 n0 v U'.heap L ∧ FrameEnd U o U' L ({ frames := 1, cells := 1, slots := 40, locals := 12 } : Room).cells ({ frames := 1, cells := 1, slots := 40, locals := 12 } : Room).slots) := by
  refine met_of (Ls := #[.val (.int p1)]) (plainFor_of_name (by first | (simp [plainName, overriddenIn]; done) | decide +kernel)) (fun m => ef_nbf m p1) ?_
  intro p e s m below meth c T0 C X0 e0
  obtain ⟨S_cs, hcs, S_fm, hfm, S_ad, S_hi, S_lo⟩ := id hF
  have N0 := Fr.nil n0
  have K0 : Keep h0 h0 [] := Keep.refl h0 _
  refine g_iloadN (pc' := 1) C X0 d45_0 rfl rfl ?_
  refine g_callS (y := (⟨"java/lang/StringUTF16", "newBytesLength", "(I)I"⟩ : MethodName)) (argsL := [(.int p1)]) (st := []) (pc' := 4) C X0 d45_1 (wq hw 231 rfl) (wq hw 232 rfl) (wq hw 112 rfl) (wq hw 233 rfl) (by decide) (rmnbl l Z a0 hw [] p1 cs_ fm h0 n0 hF hd0 hd1) (W := 0) (by decide) (by decide) (ce := 0) (sl := 0) rfl rfl (by decide) (by decide) rfl e0 rfl pd_10 rfl (Nat.le_refl _) rfl (fun rv1 T1 L1 X1 Q1 => ?_)
  obtain ⟨q1, Nq1, e1⟩ := Q1
  have N1 := Fr.app N0 Nq1
  rw [Fnbl_l0 p1] at q1
  subst q1
  show Go p.tables e below _ (T1.setTop (mkF m 4 #[.val (.int p1)] [(.int (p1 <<< ((1 : Int32) &&& 31)))]))
  refine own_cast (show T1.setTop (mkF m 4 #[.val (.int p1)] [(.int (p1 <<< ((1 : Int32) &&& 31)))]) = T1.setTop (mkF m 4 #[.val (.int p1)] [(.int (p1 + p1))]) from by rw [hd2]) ?_
  refine g_newPE (pc' := 6) (cap := 40) (ad := "[B") C X1 (by decide) d45_4 (wq hw 20 rfl) e1 hd3 hd4 (by decide) (ce := 1) (sl := 40) rfl rfl (by decide) (by decide) rfl (fun T2 h2 b2 ck2 g2 X2 e2 E2 V2 A2 => ?_)
  have FX_2 := FX_ext hF E2
  have gn_b2 : n0 ≤ b2 := Nat.le_trans Z0 (Nat.le_of_eq g2.symm)
  have Z2 := Nat.le_trans Z0 E2.1
  have sz_b2 : h0.size ≤ b2 := Nat.le_trans K0.1 (Nat.le_of_eq g2.symm)
  have K2 := K0.ext E2
  exact g_retA C X2 rfl rfl rfl d45_6 (by decide) (by decide) ⟨b2, ck2, rfl, N1, (by rw [e2]; exact K2), sz_b2, gn_b2, (by rw [e2]; exact V2), (by rw [e2]; exact A2)⟩
theorem own_nbf {z : Int32} (h0 : 0 ≤ z.toInt) (h1 : z.toInt ≤ 20) : (¬ (z < (0 : Int32))) ∧ z < (1073741823 : Int32) ∧ (z <<< ((1 : Int32) &&& 31)) = (z + z) ∧ (¬ ((z + z) < (0 : Int32))) ∧ (z + z).toNatClampNeg ≤ 40 ∧ (z + z).toInt = 2 * z.toInt := by
  have a := own_addI (i := z) (j := z) (by omega) (by omega) (by omega) (by omega)
  have m : (1073741823 : Int32).toInt = 1073741823 := by decide
  refine ⟨own_nlt h0, by rw [own_lt, m]; omega, own_dbl h0 (by omega), own_nlt (by omega), by rw [own_tn]; omega, by omega⟩
theorem d57_0 : decode jdk_41_method_13_code 0 = .ok (.iload_n 2, 1) := by decide +kernel
theorem d57_1 : decode jdk_41_method_13_code 1 = .ok (.iload_n 0, 1) := by decide +kernel
theorem d57_2 : decode jdk_41_method_13_code 2 = .ok (.ior, 1) := by decide +kernel
theorem d57_3 : decode jdk_41_method_13_code 3 = .ok (.iload_n 1, 1) := by decide +kernel
theorem d57_4 : decode jdk_41_method_13_code 4 = .ok (.ior, 1) := by decide +kernel
theorem d57_5 : decode jdk_41_method_13_code 5 = .ok (.ifCond .lt 10, 3) := by decide +kernel
theorem d57_8 : decode jdk_41_method_13_code 8 = .ok (.iload_n 1, 1) := by decide +kernel
theorem d57_9 : decode jdk_41_method_13_code 9 = .ok (.iload_n 2, 1) := by decide +kernel
theorem d57_10 : decode jdk_41_method_13_code 10 = .ok (.iload_n 0, 1) := by decide +kernel
theorem d57_11 : decode jdk_41_method_13_code 11 = .ok (.isub, 1) := by decide +kernel
theorem d57_12 : decode jdk_41_method_13_code 12 = .ok (.if_icmp .le 11, 3) := by decide +kernel
theorem d57_23 : decode jdk_41_method_13_code 23 = .ok (.iload_n 0, 1) := by decide +kernel
theorem d57_24 : decode jdk_41_method_13_code 24 = .ok (.ireturn, 1) := by decide +kernel
def Fpfs (p1 : Int32) : Int32 := p1
theorem Fpfs_l0 (p1 : Int32)  : Fpfs p1 = p1 := rfl
theorem ef_pfs (m : MethodId) (p1 : Int32) (p2 : Int32) (p3 : Int32) (u4 : Value) (hu4 : u4.category = 1) : entryFrame m #[(.int p1), (.int p2), (.int p3), u4] 4 = mkF m 0 #[.val (.int p1), .val (.int p2), .val (.int p3), .val u4] [] := by cases u4 <;> first | (simp [entryFrame, mkF, argsToLocals, Value.category]; done) | rfl | (simp [Value.category] at hu4; done)
def Q_pfs (Z : State) (p1 : Int32) (p2 : Int32) (p3 : Int32) (u4 : Value) (cs_ : Int32) (fm : Value) (h0 : Heap) (n0 : Nat) (v : Option Value) (h : Heap) (L : List Loc) : Prop := v = some (.int (Fpfs p1)) ∧ Fr n0 L ∧ h = h0
set_option maxRecDepth 65536 in
set_option maxHeartbeats 40000000 in
theorem rmpfs (l : Launch) (Z : State) (a0 : Array Value) (hw : ∀ d ∈ tables_1, d.before a0 Z = true) (ws : List Jvm.Cond) (p1 : Int32) (p2 : Int32) (p3 : Int32) (u4 : Value) (cs_ : Int32) (fm : Value) (h0 : Heap) (n0 : Nat) (hF : FX Z h0 cs_ fm) (hc0 : ¬ (((p3 ||| p1) ||| p2) < (0 : Int32))) (hc1 : ¬ ((p3 - p1) < p2)) (hu4 : u4.category = 1) :
    MetFree l (⟨"jdk/internal/util/Preconditions", "checkFromIndexSize", "(IIILjava/util/function/BiFunction;)I"⟩ : MethodName) (head1 (Jvm.Cond.code (⟨"jdk/internal/util/Preconditions", "checkFromIndexSize", "(IIILjava/util/function/BiFunction;)I"⟩ : MethodName) jdk_41_method_13_code 4 (some .int) :: ws) ({ frames := 0, cells := 0, slots := 0, locals := 0 } : Room)) (fun a U => a = #[(.int p1), (.int p2), (.int p3), u4] ∧ Z.Warmed39 U.vm ∧ U.heap = h0) (fun _ _ _ _ _ => True) (fun _ U o U' => ∃ v L, o = .returned v ∧ Q_pfs Z p1 p2 p3 u4 cs_ fm h0 n0 v U'.heap L ∧ FrameEnd U o U' L ({ frames := 0, cells := 0, slots := 0, locals := 0 } : Room).cells ({ frames := 0, cells := 0, slots := 0, locals := 0 } : Room).slots) := by
  refine met_of (Ls := #[.val (.int p1), .val (.int p2), .val (.int p3), .val u4]) (plainFor_of_name (by first | (simp [plainName, overriddenIn]; done) | decide +kernel)) (fun m => ef_pfs m p1 p2 p3 u4 hu4) ?_
  intro p e s m below meth c T0 C X0 e0
  obtain ⟨S_cs, hcs, S_fm, hfm, S_ad, S_hi, S_lo⟩ := id hF
  have N0 := Fr.nil n0
  refine g_iloadN (pc' := 1) C X0 d57_0 rfl rfl ?_
  refine g_iloadN (pc' := 2) C X0 d57_1 rfl rfl ?_
  refine g_ior (pc' := 3) C X0 d57_2 rfl ?_
  refine g_iloadN (pc' := 4) C X0 d57_3 rfl rfl ?_
  refine g_ior (pc' := 5) C X0 d57_4 rfl ?_
  refine g_ifN (pc' := 8) C X0 d57_5 (flt hc0).1 rfl ?_
  refine g_iloadN (pc' := 9) C X0 d57_8 rfl rfl ?_
  refine g_iloadN (pc' := 10) C X0 d57_9 rfl rfl ?_
  refine g_iloadN (pc' := 11) C X0 d57_10 rfl rfl ?_
  refine g_isub (pc' := 12) C X0 d57_11 rfl ?_
  refine g_icmpY (pc' := 23) C X0 d57_12 (flt hc1).2.2.2 (by decide) (by decide) ?_
  refine g_iloadN (pc' := 24) C X0 d57_23 rfl rfl ?_
  exact g_retI C X0 d57_24 (by decide) (by decide) ⟨congrArg (fun z => some (Value.int z)) (Fpfs_l0 p1 ).symm, N0, e0⟩
theorem d56_0 : decode jdk_42_method_157_code 0 = .ok (.iload_n 0, 1) := by decide +kernel
theorem d56_1 : decode jdk_42_method_157_code 1 = .ok (.iload_n 1, 1) := by decide +kernel
theorem d56_2 : decode jdk_42_method_157_code 2 = .ok (.iload_n 2, 1) := by decide +kernel
theorem d56_3 : decode jdk_42_method_157_code 3 = .ok (.getstatic 1053, 3) := by decide +kernel
theorem d56_6 : decode jdk_42_method_157_code 6 = .ok (.invokestatic 1065, 3) := by decide +kernel
theorem pd_12 : parseMethodDescriptor "(IIILjava/util/function/BiFunction;)I" = some ⟨[.int, .int, .int, (.object "java/util/function/BiFunction")], some .int⟩ := by decide +kernel
theorem d56_9 : decode jdk_42_method_157_code 9 = .ok (.ireturn, 1) := by decide +kernel
def Fsbo (p1 : Int32) : Int32 := p1
theorem Fsbo_l0 (p1 : Int32)  : Fsbo p1 = p1 := rfl
theorem ef_sbo (m : MethodId) (p1 : Int32) (p2 : Int32) (p3 : Int32) : entryFrame m #[(.int p1), (.int p2), (.int p3)] 3 = mkF m 0 #[.val (.int p1), .val (.int p2), .val (.int p3)] [] := by first | (simp [entryFrame, mkF, argsToLocals, Value.category]; done) | rfl
def Q_sbo (Z : State) (p1 : Int32) (p2 : Int32) (p3 : Int32) (cs_ : Int32) (fm : Value) (h0 : Heap) (n0 : Nat) (v : Option Value) (h : Heap) (L : List Loc) : Prop := v = some (.int (Fsbo p1)) ∧ Fr n0 L ∧ h = h0
set_option maxRecDepth 65536 in
set_option maxHeartbeats 40000000 in
theorem rmsbo (l : Launch) (Z : State) (a0 : Array Value) (hw : ∀ d ∈ tables_1, d.before a0 Z = true) (ws : List Jvm.Cond) (p1 : Int32) (p2 : Int32) (p3 : Int32) (cs_ : Int32) (fm : Value) (h0 : Heap) (n0 : Nat) (hF : FX Z h0 cs_ fm) (hc0 : ¬ (((p3 ||| p1) ||| p2) < (0 : Int32))) (hc1 : ¬ ((p3 - p1) < p2)) :
    MetFree l (⟨"java/lang/String", "checkBoundsOffCount", "(III)I"⟩ : MethodName) (head1 (Jvm.Cond.code (⟨"java/lang/String", "checkBoundsOffCount", "(III)I"⟩ : MethodName) jdk_42_method_157_code 3 (some .int) :: ws) ({ frames := 1, cells := 0, slots := 0, locals := 15 } : Room)) (fun a U => a = #[(.int p1), (.int p2), (.int p3)] ∧ Z.Warmed39 U.vm ∧ U.heap = h0) (fun _ _ _ _ _ => True) (fun _ U o U' => ∃ v L, o = .returned v ∧ Q_sbo Z p1 p2 p3 cs_ fm h0 n0 v U'.heap L ∧ FrameEnd U o U' L ({ frames := 1, cells := 0, slots := 0, locals := 15 } : Room).cells ({ frames := 1, cells := 0, slots := 0, locals := 15 } : Room).slots) := by
  refine met_of (Ls := #[.val (.int p1), .val (.int p2), .val (.int p3)]) (plainFor_of_name (by first | (simp [plainName, overriddenIn]; done) | decide +kernel)) (fun m => ef_sbo m p1 p2 p3) ?_
  intro p e s m below meth c T0 C X0 e0
  obtain ⟨S_cs, hcs, S_fm, hfm, S_ad, S_hi, S_lo⟩ := id hF
  have N0 := Fr.nil n0
  refine g_iloadN (pc' := 1) C X0 d56_0 rfl rfl ?_
  refine g_iloadN (pc' := 2) C X0 d56_1 rfl rfl ?_
  refine g_iloadN (pc' := 3) C X0 d56_2 rfl rfl ?_
  refine g_getS (pc' := 6) C X0 d56_3 (host := "") (Or.inl (wq hw 137 rfl)) Via.refl e0 S_fm rfl (fun T1 X1 e1 => ?_)
  refine g_callS (y := (⟨"jdk/internal/util/Preconditions", "checkFromIndexSize", "(IIILjava/util/function/BiFunction;)I"⟩ : MethodName)) (argsL := [(.int p1), (.int p2), (.int p3), fm]) (st := []) (pc' := 9) C X1 d56_6 (wq hw 272 rfl) (wq hw 273 rfl) (wq hw 138 rfl) (wq hw 274 rfl) (by decide) (rmpfs l Z a0 hw [] p1 p2 p3 fm cs_ fm h0 n0 hF hc0 hc1 hfm) (W := 0) (by decide) (by decide) (ce := 0) (sl := 0) rfl rfl (by decide) (by decide) rfl e1 rfl pd_12 rfl (Nat.le_refl _) rfl (fun rv2 T2 L2 X2 Q2 => ?_)
  obtain ⟨q2, Nq2, e2⟩ := Q2
  have N2 := Fr.app N0 Nq2
  rw [Fpfs_l0 p1] at q2
  subst q2
  show Go p.tables e below _ (T2.setTop (mkF m 9 #[.val (.int p1), .val (.int p2), .val (.int p3)] [(.int p1)]))
  exact g_retI C X2 d56_9 (by decide) (by decide) ⟨congrArg (fun z => some (Value.int z)) (Fsbo_l0 p1 ).symm, N2, e2⟩
theorem d55_0 : decode jdk_52_method_94_code 0 = .ok (.iload_n 0, 1) := by decide +kernel
theorem d55_1 : decode jdk_52_method_94_code 1 = .ok (.iload_n 1, 1) := by decide +kernel
theorem d55_2 : decode jdk_52_method_94_code 2 = .ok (.aload_n 2, 1) := by decide +kernel
theorem d55_3 : decode jdk_52_method_94_code 3 = .ok (.invokestatic 48, 3) := by decide +kernel
theorem d55_6 : decode jdk_52_method_94_code 6 = .ok (.invokestatic 419, 3) := by decide +kernel
theorem d55_9 : decode jdk_52_method_94_code 9 = .ok (.pop, 1) := by decide +kernel
theorem d55_10 : decode jdk_52_method_94_code 10 = .ok (.return_, 1) := by decide +kernel
theorem ef_ubo (m : MethodId) (p1 : Int32) (p2 : Int32) (a3 : Addr) : entryFrame m #[(.int p1), (.int p2), (.ref a3)] 3 = mkF m 0 #[.val (.int p1), .val (.int p2), .val (.ref a3)] [] := by first | (simp [entryFrame, mkF, argsToLocals, Value.category]; done) | rfl
def Q_ubo (Z : State) (p1 : Int32) (p2 : Int32) (a3 : Addr) (k1 : ClassId) (z1 : Int32) (lx : List Int32) (cs_ : Int32) (fm : Value) (h0 : Heap) (n0 : Nat) (v : Option Value) (h : Heap) (L : List Loc) : Prop := v = none ∧ Fr n0 L ∧ h = h0
set_option maxRecDepth 65536 in
set_option maxHeartbeats 40000000 in
theorem rmubo (l : Launch) (Z : State) (a0 : Array Value) (hw : ∀ d ∈ tables_1, d.before a0 Z = true) (ws : List Jvm.Cond) (p1 : Int32) (p2 : Int32) (a3 : Addr) (k1 : ClassId) (z1 : Int32) (lx : List Int32) (cs_ : Int32) (fm : Value) (h0 : Heap) (n0 : Nat) (hF : FX Z h0 cs_ fm) (V_b : Arv Z h0 a3 k1 .byte z1 (own_vl lx) (.int (0 : Int32))) (hc0 : ¬ ((((z1 >>> ((1 : Int32) &&& 31)) ||| p1) ||| p2) < (0 : Int32))) (hc1 : ¬ (((z1 >>> ((1 : Int32) &&& 31)) - p1) < p2)) :
    MetFree l (⟨"java/lang/StringUTF16", "checkBoundsOffCount", "(II[B)V"⟩ : MethodName) (head1 (Jvm.Cond.code (⟨"java/lang/StringUTF16", "checkBoundsOffCount", "(II[B)V"⟩ : MethodName) jdk_52_method_94_code 3 none :: ws) ({ frames := 2, cells := 0, slots := 0, locals := 29 } : Room)) (fun a U => a = #[(.int p1), (.int p2), (.ref a3)] ∧ Z.Warmed39 U.vm ∧ U.heap = h0) (fun _ _ _ _ _ => True) (fun _ U o U' => ∃ v L, o = .returned v ∧ Q_ubo Z p1 p2 a3 k1 z1 lx cs_ fm h0 n0 v U'.heap L ∧ FrameEnd U o U' L ({ frames := 2, cells := 0, slots := 0, locals := 29 } : Room).cells ({ frames := 2, cells := 0, slots := 0, locals := 29 } : Room).slots) := by
  refine met_of (Ls := #[.val (.int p1), .val (.int p2), .val (.ref a3)]) (plainFor_of_name (by first | (simp [plainName, overriddenIn]; done) | decide +kernel)) (fun m => ef_ubo m p1 p2 a3) ?_
  intro p e s m below meth c T0 C X0 e0
  obtain ⟨S_cs, hcs, S_fm, hfm, S_ad, S_hi, S_lo⟩ := id hF
  have N0 := Fr.nil n0
  refine g_iloadN (pc' := 1) C X0 d55_0 rfl rfl ?_
  refine g_iloadN (pc' := 2) C X0 d55_1 rfl rfl ?_
  refine g_aloadN (pc' := 3) C X0 d55_2 rfl rfl rfl ?_
  refine g_callS (y := (⟨"java/lang/StringUTF16", "length", "([B)I"⟩ : MethodName)) (argsL := [(.ref a3)]) (st := [(.int p2), (.int p1)]) (pc' := 6) C X0 d55_3 (wq hw 250 rfl) (wq hw 251 rfl) (wq hw 112 rfl) (wq hw 252 rfl) (by decide) (rmul l Z a0 hw [] a3 k1 z1 lx cs_ fm h0 n0 hF V_b) (W := 2) (by decide) (by decide) (ce := 0) (sl := 0) rfl rfl (by decide) (by decide) rfl e0 rfl pd_2 rfl (Nat.le_refl _) rfl (fun rv1 T1 L1 X1 Q1 => ?_)
  obtain ⟨q1, Nq1, e1⟩ := Q1
  have N1 := Fr.app N0 Nq1
  rw [Ful_l0 z1] at q1
  subst q1
  show Go p.tables e below _ (T1.setTop (mkF m 6 #[.val (.int p1), .val (.int p2), .val (.ref a3)] [(.int (z1 >>> ((1 : Int32) &&& 31))), (.int p2), (.int p1)]))
  refine g_callS (y := (⟨"java/lang/String", "checkBoundsOffCount", "(III)I"⟩ : MethodName)) (argsL := [(.int p1), (.int p2), (.int (z1 >>> ((1 : Int32) &&& 31)))]) (st := []) (pc' := 9) C X1 d55_6 (wq hw 269 rfl) (wq hw 270 rfl) (wq hw 8 rfl) (wq hw 271 rfl) (by decide) (rmsbo l Z a0 hw [] p1 p2 (z1 >>> ((1 : Int32) &&& 31)) cs_ fm h0 n0 hF hc0 hc1) (W := 0) (by decide) (by decide) (ce := 0) (sl := 0) rfl rfl (by decide) (by decide) rfl e1 rfl pd_9 rfl (Nat.le_refl _) rfl (fun rv2 T2 L2 X2 Q2 => ?_)
  obtain ⟨q2, Nq2, e2⟩ := Q2
  have N2 := Fr.app N1 Nq2
  rw [Fsbo_l0 p1] at q2
  subst q2
  show Go p.tables e below _ (T2.setTop (mkF m 9 #[.val (.int p1), .val (.int p2), .val (.ref a3)] [(.int p1)]))
  refine g_pop (pc' := 10) C X2 d55_9 rfl rfl ?_
  exact g_retV C X2 d55_10 (by decide) (by decide) ⟨rfl, N2, e2⟩
theorem d54_0 : decode jdk_52_method_86_code 0 = .ok (.iload_n 3, 1) := by decide +kernel
theorem d54_1 : decode jdk_52_method_86_code 1 = .ok (.iload 4, 2) := by decide +kernel
theorem d54_3 : decode jdk_52_method_86_code 3 = .ok (.aload_n 2, 1) := by decide +kernel
theorem d54_4 : decode jdk_52_method_86_code 4 = .ok (.invokestatic 173, 3) := by decide +kernel
theorem pd_13 : parseMethodDescriptor "(II[B)V" = some ⟨[.int, .int, (.array .byte)], none⟩ := by decide +kernel
theorem d54_7 : decode jdk_52_method_86_code 7 = .ok (.iconst 0, 1) := by decide +kernel
theorem d54_8 : decode jdk_52_method_86_code 8 = .ok (.istore 5, 2) := by decide +kernel
theorem d54_10 : decode jdk_52_method_86_code 10 = .ok (.iload 5, 2) := by decide +kernel
theorem d54_12 : decode jdk_52_method_86_code 12 = .ok (.iload 4, 2) := by decide +kernel
theorem d54_14 : decode jdk_52_method_86_code 14 = .ok (.if_icmp .ge 27, 3) := by decide +kernel
theorem d54_17 : decode jdk_52_method_86_code 17 = .ok (.aload_n 2, 1) := by decide +kernel
theorem d54_18 : decode jdk_52_method_86_code 18 = .ok (.iload_n 3, 1) := by decide +kernel
theorem d54_19 : decode jdk_52_method_86_code 19 = .ok (.iinc 3 1, 3) := by decide +kernel
theorem d54_22 : decode jdk_52_method_86_code 22 = .ok (.aload_n 0, 1) := by decide +kernel
theorem d54_23 : decode jdk_52_method_86_code 23 = .ok (.iload_n 1, 1) := by decide +kernel
theorem d54_24 : decode jdk_52_method_86_code 24 = .ok (.iinc 1 1, 3) := by decide +kernel
theorem d54_27 : decode jdk_52_method_86_code 27 = .ok (.baload, 1) := by decide +kernel
theorem d54_28 : decode jdk_52_method_86_code 28 = .ok (.sipush 255, 3) := by decide +kernel
theorem d54_31 : decode jdk_52_method_86_code 31 = .ok (.iand, 1) := by decide +kernel
theorem d54_32 : decode jdk_52_method_86_code 32 = .ok (.invokestatic 111, 3) := by decide +kernel
theorem pd_14 : parseMethodDescriptor "([BII)V" = some ⟨[(.array .byte), .int, .int], none⟩ := by decide +kernel
theorem d54_35 : decode jdk_52_method_86_code 35 = .ok (.iinc 5 1, 3) := by decide +kernel
theorem d54_38 : decode jdk_52_method_86_code 38 = .ok (.goto (-28), 3) := by decide +kernel
theorem d54_41 : decode jdk_52_method_86_code 41 = .ok (.return_, 1) := by decide +kernel
theorem ef_ui (m : MethodId) (a1 : Addr) (a3 : Addr) (p4 : Int32) (p5 : Int32) : entryFrame m #[(.ref a1), (.int (0 : Int32)), (.ref a3), (.int p4), (.int p5)] 6 = mkF m 0 #[.val (.ref a1), .val (.int (0 : Int32)), .val (.ref a3), .val (.int p4), .val (.int p5), .unset] [] := by first | (simp [entryFrame, mkF, argsToLocals, Value.category]; done) | rfl
def Q_ui (Z : State) (a1 : Addr) (a3 : Addr) (p4 : Int32) (p5 : Int32) (k1 : ClassId) (z1 : Int32) (lx : List Int32) (k2 : ClassId) (zz : Int32) (cs : List Int32) (ss : List Int32) (cs_ : Int32) (fm : Value) (h0 : Heap) (n0 : Nat) (vr : Option Value) (h : Heap) (L : List Loc) : Prop := (vr = none) ∧ (Fr n0 L) ∧ (Keep h0 h [a3]) ∧ (Arv Z h a3 k2 .byte zz (own_vl (own_u (cs ++ ss))) (.int (0 : Int32)))
set_option maxRecDepth 65536 in
set_option maxHeartbeats 40000000 in
theorem rmui (l : Launch) (Z : State) (a0 : Array Value) (hw : ∀ d ∈ tables_1, d.before a0 Z = true) (ws : List Jvm.Cond) (a1 : Addr) (a3 : Addr) (p4 : Int32) (p5 : Int32) (k1 : ClassId) (z1 : Int32) (lx : List Int32) (k2 : ClassId) (zz : Int32) (cs : List Int32) (ss : List Int32) (cs_ : Int32) (fm : Value) (h0 : Heap) (n0 : Nat) (Z0 : n0 ≤ h0.size) (hF : FX Z h0 cs_ fm) (V_s : Arv Z h0 a1 k1 .byte z1 (own_vl lx) (.int (0 : Int32))) (V_d : Arv Z h0 a3 k2 .byte zz (own_vl (own_u cs)) (.int (0 : Int32))) (gn_a3 : n0 ≤ a3) (ne13 : ¬ (a1 = a3)) (hp4 : p4 = own_n cs) (hp5 : p5 = own_n ss) (hl : cs.length + ss.length ≤ 8) (hz : 2 * ((cs.length : Int) + ss.length) ≤ zz.toInt) (hzz : zz.toInt ≤ 100) (hz1 : (ss.length : Int) ≤ z1.toInt) (hss : ∀ q, q < ss.length → (lx.getD q 0) &&& (255 : Int32) = ss.getD q 0) :
    MetFree l (⟨"java/lang/StringUTF16", "inflate", "([BI[BII)V"⟩ : MethodName) (head1 (Jvm.Cond.code (⟨"java/lang/StringUTF16", "inflate", "([BI[BII)V"⟩ : MethodName) jdk_52_method_86_code 6 none :: ws) ({ frames := 3, cells := 0, slots := 0, locals := 43 } : Room)) (fun a U => a = #[(.ref a1), (.int (0 : Int32)), (.ref a3), (.int p4), (.int p5)] ∧ Z.Warmed39 U.vm ∧ U.heap = h0) (fun _ _ _ _ _ => True) (fun _ U o U' => ∃ v L, o = .returned v ∧ Q_ui Z a1 a3 p4 p5 k1 z1 lx k2 zz cs ss cs_ fm h0 n0 v U'.heap L ∧ FrameEnd U o U' L ({ frames := 3, cells := 0, slots := 0, locals := 43 } : Room).cells ({ frames := 3, cells := 0, slots := 0, locals := 43 } : Room).slots) := by
  refine met_of (Ls := #[.val (.ref a1), .val (.int (0 : Int32)), .val (.ref a3), .val (.int p4), .val (.int p5), .unset]) (plainFor_of_name (by first | (simp [plainName, overriddenIn]; done) | decide +kernel)) (fun m => ef_ui m a1 a3 p4 p5) ?_
  intro p e s m below meth c T0 C X0 e0
  obtain ⟨S_cs, hcs, S_fm, hfm, S_ad, S_hi, S_lo⟩ := id hF
  have N0 := Fr.nil n0
  have K0 : Keep h0 h0 [a3] := Keep.refl h0 _
  have hcb := own_cbo hp4 hp5 hl hz hzz
  refine g_iloadN (pc' := 1) C X0 d54_0 rfl rfl ?_
  refine g_iload (pc' := 3) C X0 d54_1 rfl rfl ?_
  refine g_aloadN (pc' := 4) C X0 d54_3 rfl rfl rfl ?_
  refine g_callS (y := (⟨"java/lang/StringUTF16", "checkBoundsOffCount", "(II[B)V"⟩ : MethodName)) (argsL := [(.int p4), (.int p5), (.ref a3)]) (st := []) (pc' := 7) C X0 d54_4 (wq hw 266 rfl) (wq hw 267 rfl) (wq hw 112 rfl) (wq hw 268 rfl) (by decide) (rmubo l Z a0 hw [] p4 p5 a3 k2 zz (own_u cs) cs_ fm h0 n0 hF V_d hcb.1 hcb.2) (W := 0) (by decide) (by decide) (ce := 0) (sl := 0) rfl rfl (by decide) (by decide) rfl e0 rfl pd_13 rfl (Nat.le_refl _) rfl (fun rv1 T1 L1 X1 Q1 => ?_)
  obtain ⟨q1, Nq1, e1⟩ := Q1
  have N1 := Fr.app N0 Nq1
  subst q1
  show Go p.tables e below _ (T1.setTop (mkF m 7 #[.val (.ref a1), .val (.int (0 : Int32)), .val (.ref a3), .val (.int p4), .val (.int p5), .unset] []))
  refine g_iconst (pc' := 8) (v := (0 : Int32)) C X1 d54_7 rfl rfl ?_
  refine g_istore (pc' := 10) (Ls' := #[.val (.ref a1), .val (.int (0 : Int32)), .val (.ref a3), .val (.int p4), .val (.int p5), .val (.int (0 : Int32))]) C X1 d54_8 rfl rfl ?_
  have JL : ∀ (r : Nat) (TJ : State) (HJ : Heap) (LJ : List Loc) (so : Int32) (dq : Int32) (i : Int32) (ly : List Int32), Stand p l e ({ frames := 3, cells := 0, slots := 0, locals := 43 } : Room) s m #[(.ref a1), (.int (0 : Int32)), (.ref a3), (.int p4), (.int p5)] below meth c TJ LJ 0 0 → TJ.heap = HJ → Fr n0 LJ → n0 ≤ HJ.size → Keep h0 HJ [a3] → FX Z HJ cs_ fm → Arv Z HJ a1 k1 .byte z1 (own_vl lx) (.int (0 : Int32)) → Arv Z HJ a3 k2 .byte zz (own_vl ly) (.int (0 : Int32)) → (own_uiI cs ss so dq i ly) → own_mu ss i = r → Go p.tables e below (End s (Q_ui Z a1 a3 p4 p5 k1 z1 lx k2 zz cs ss cs_ fm h0 n0) ({ frames := 3, cells := 0, slots := 0, locals := 43 } : Room).cells ({ frames := 3, cells := 0, slots := 0, locals := 43 } : Room).slots) (TJ.setTop (mkF m 10 #[.val (.ref a1), .val (.int so), .val (.ref a3), .val (.int dq), .val (.int p5), .val (.int i)] [])) := by
    intro r
    induction r using Nat.strongRecOn with
    | ind r ih =>
      intro TJ HJ LJ so dq i ly XJ eJ NJ ZJ KJ FXJ V_s_J V_d_J hI hmu
      subst hmu
      refine g_iload (pc' := 12) C XJ d54_10 rfl rfl ?_
      refine g_iload (pc' := 14) C XJ d54_12 rfl rfl ?_
      by_cases c2 : i < p5
      · refine g_icmpN (pc' := 17) C XJ d54_14 (tlt c2).2.1 rfl ?_
        have hbb := own_uiB hI c2 hp5 hl hz hzz hz1
        refine g_aloadN (pc' := 18) C XJ d54_17 rfl rfl rfl ?_
        refine g_iloadN (pc' := 19) C XJ d54_18 rfl rfl ?_
        refine g_iinc (pc' := 22) (Ls' := #[.val (.ref a1), .val (.int so), .val (.ref a3), .val (.int (dq + (1 : Int32))), .val (.int p5), .val (.int i)]) C XJ d54_19 rfl rfl rfl ?_
        refine g_aloadN (pc' := 23) C XJ d54_22 rfl rfl rfl ?_
        refine g_iloadN (pc' := 24) C XJ d54_23 rfl rfl ?_
        refine g_iinc (pc' := 27) (Ls' := #[.val (.ref a1), .val (.int (so + (1 : Int32))), .val (.ref a3), .val (.int (dq + (1 : Int32))), .val (.int p5), .val (.int i)]) C XJ d54_24 rfl rfl rfl ?_
        refine g_ldB (pc' := 28) (v := (.int (own_g lx so))) C XJ d54_27 eJ V_s_J ⟨hbb.1, hbb.2.1⟩ (own_vl_get _ _) rfl ?_
        refine g_sipush (pc' := 31) (v := (255 : Int32)) C XJ d54_28 rfl rfl ?_
        refine g_iand (pc' := 32) C XJ d54_31 rfl ?_
        refine g_callS (y := (⟨"java/lang/StringUTF16", "putChar", "([BII)V"⟩ : MethodName)) (argsL := [(.ref a3), (.int dq), (.int ((own_g lx so) &&& (255 : Int32)))]) (st := []) (pc' := 35) C XJ d54_32 (wq hw 235 rfl) (wq hw 236 rfl) (wq hw 112 rfl) (wq hw 237 rfl) (by decide) (rmupc l Z a0 hw [] a3 dq ((own_g lx so) &&& (255 : Int32)) k2 zz ly cs_ fm HJ n0 ZJ FXJ V_d_J hbb.2.2.1 hbb.2.2.2.1 hbb.2.2.2.2.1 hbb.2.2.2.2.2 gn_a3) (W := 0) (by decide) (by decide) (ce := 0) (sl := 0) rfl rfl (by decide) (by decide) rfl eJ rfl pd_14 rfl (Nat.le_refl _) rfl (fun rv3 T3 L3 X3 Q3 => ?_)
        obtain ⟨q3, Nq3, Kq3, P3_0⟩ := Q3
        have N3 := Fr.app NJ Nq3
        have FX_3 := FX_keep FXJ Kq3 ((allS (by obtain ⟨c_, A_, _⟩ := V_d_J; exact ⟨c_, A_.1, A_.plain⟩) all0))
        have V_s_J_3 := V_s_J.keep Kq3 (ninS ne13 nin0)
        have Z3 := Nat.le_trans ZJ Kq3.1
        have K3 := KJ.trans Kq3 (allS (Or.inl (List.mem_of_getElem? (i := 0) rfl)) all0)
        subst q3
        show Go p.tables e below _ (T3.setTop (mkF m 35 #[.val (.ref a1), .val (.int (so + (1 : Int32))), .val (.ref a3), .val (.int (dq + (1 : Int32))), .val (.int p5), .val (.int i)] []))
        refine g_iinc (pc' := 38) (Ls' := #[.val (.ref a1), .val (.int (so + (1 : Int32))), .val (.ref a3), .val (.int (dq + (1 : Int32))), .val (.int p5), .val (.int (i + (1 : Int32)))]) C X3 d54_35 rfl rfl rfl ?_
        refine g_goto (pc' := 10) C X3 d54_38 (by decide) (by decide) ?_
        exact ih _ (own_muS hI.2.2.1 c2 hp5 (by omega)) _ _ _ (so + (1 : Int32)) (dq + (1 : Int32)) (i + (1 : Int32)) (own_put ly dq ((own_g lx so) &&& (255 : Int32))) X3 rfl N3 Z3 K3 FX_3 V_s_J_3 P3_0 (own_uiS hI c2 hp5 hl hss) rfl
      · refine g_icmpY (pc' := 41) C XJ d54_14 (flt c2).2.1 (by decide) (by decide) ?_
        exact g_retV C XJ d54_41 (by decide) (by decide) ⟨rfl, NJ, (by rw [eJ]; exact KJ), (by rw [eJ]; exact own_pw V_d_J (own_uiE hI c2 hp5 hl))⟩
  exact JL _ _ _ _ (0 : Int32) p4 (0 : Int32) (own_u cs) X1 e1 N1 Z0 K0 hF V_s V_d (own_ui0 hp4 (by omega) (fun _ => rfl)) rfl
theorem d53_0 : decode jdk_43_method_50_code 0 = .ok (.aload_n 0, 1) := by decide +kernel
theorem d53_1 : decode jdk_43_method_50_code 1 = .ok (.iload_n 1, 1) := by decide +kernel
theorem d53_2 : decode jdk_43_method_50_code 2 = .ok (.aload_n 2, 1) := by decide +kernel
theorem d53_3 : decode jdk_43_method_50_code 3 = .ok (.iload_n 3, 1) := by decide +kernel
theorem d53_4 : decode jdk_43_method_50_code 4 = .ok (.iload 4, 2) := by decide +kernel
theorem d53_6 : decode jdk_43_method_50_code 6 = .ok (.invokestatic 240, 3) := by decide +kernel
theorem pd_15 : parseMethodDescriptor "([BI[BII)V" = some ⟨[(.array .byte), .int, (.array .byte), .int, .int], none⟩ := by decide +kernel
theorem d53_9 : decode jdk_43_method_50_code 9 = .ok (.return_, 1) := by decide +kernel
theorem ef_li (m : MethodId) (a1 : Addr) (a3 : Addr) (p4 : Int32) (p5 : Int32) : entryFrame m #[(.ref a1), (.int (0 : Int32)), (.ref a3), (.int p4), (.int p5)] 5 = mkF m 0 #[.val (.ref a1), .val (.int (0 : Int32)), .val (.ref a3), .val (.int p4), .val (.int p5)] [] := by first | (simp [entryFrame, mkF, argsToLocals, Value.category]; done) | rfl
def Q_li (Z : State) (a1 : Addr) (a3 : Addr) (p4 : Int32) (p5 : Int32) (k1 : ClassId) (z1 : Int32) (lx : List Int32) (k2 : ClassId) (zz : Int32) (cs : List Int32) (ss : List Int32) (cs_ : Int32) (fm : Value) (h0 : Heap) (n0 : Nat) (vr : Option Value) (h : Heap) (L : List Loc) : Prop := (vr = none) ∧ (Fr n0 L) ∧ (Keep h0 h [a3]) ∧ (Arv Z h a3 k2 .byte zz (own_vl (own_u (cs ++ ss))) (.int (0 : Int32)))
set_option maxRecDepth 65536 in
set_option maxHeartbeats 40000000 in
theorem rmli (l : Launch) (Z : State) (a0 : Array Value) (hw : ∀ d ∈ tables_1, d.before a0 Z = true) (ws : List Jvm.Cond) (a1 : Addr) (a3 : Addr) (p4 : Int32) (p5 : Int32) (k1 : ClassId) (z1 : Int32) (lx : List Int32) (k2 : ClassId) (zz : Int32) (cs : List Int32) (ss : List Int32) (cs_ : Int32) (fm : Value) (h0 : Heap) (n0 : Nat) (Z0 : n0 ≤ h0.size) (hF : FX Z h0 cs_ fm) (V_s : Arv Z h0 a1 k1 .byte z1 (own_vl lx) (.int (0 : Int32))) (V_d : Arv Z h0 a3 k2 .byte zz (own_vl (own_u cs)) (.int (0 : Int32))) (gn_a3 : n0 ≤ a3) (ne13 : ¬ (a1 = a3)) (hp4 : p4 = own_n cs) (hp5 : p5 = own_n ss) (hl : cs.length + ss.length ≤ 8) (hz : 2 * ((cs.length : Int) + ss.length) ≤ zz.toInt) (hzz : zz.toInt ≤ 100) (hz1 : (ss.length : Int) ≤ z1.toInt) (hss : ∀ q, q < ss.length → (lx.getD q 0) &&& (255 : Int32) = ss.getD q 0) :
    MetFree l (⟨"java/lang/StringLatin1", "inflate", "([BI[BII)V"⟩ : MethodName) (head1 (Jvm.Cond.code (⟨"java/lang/StringLatin1", "inflate", "([BI[BII)V"⟩ : MethodName) jdk_43_method_50_code 5 none :: ws) ({ frames := 4, cells := 0, slots := 0, locals := 60 } : Room)) (fun a U => a = #[(.ref a1), (.int (0 : Int32)), (.ref a3), (.int p4), (.int p5)] ∧ Z.Warmed39 U.vm ∧ U.heap = h0) (fun _ _ _ _ _ => True) (fun _ U o U' => ∃ v L, o = .returned v ∧ Q_li Z a1 a3 p4 p5 k1 z1 lx k2 zz cs ss cs_ fm h0 n0 v U'.heap L ∧ FrameEnd U o U' L ({ frames := 4, cells := 0, slots := 0, locals := 60 } : Room).cells ({ frames := 4, cells := 0, slots := 0, locals := 60 } : Room).slots) := by
  refine met_of (Ls := #[.val (.ref a1), .val (.int (0 : Int32)), .val (.ref a3), .val (.int p4), .val (.int p5)]) (plainFor_of_name (by first | (simp [plainName, overriddenIn]; done) | decide +kernel)) (fun m => ef_li m a1 a3 p4 p5) ?_
  intro p e s m below meth c T0 C X0 e0
  obtain ⟨S_cs, hcs, S_fm, hfm, S_ad, S_hi, S_lo⟩ := id hF
  have N0 := Fr.nil n0
  have K0 : Keep h0 h0 [a3] := Keep.refl h0 _
  refine g_aloadN (pc' := 1) C X0 d53_0 rfl rfl rfl ?_
  refine g_iloadN (pc' := 2) C X0 d53_1 rfl rfl ?_
  refine g_aloadN (pc' := 3) C X0 d53_2 rfl rfl rfl ?_
  refine g_iloadN (pc' := 4) C X0 d53_3 rfl rfl ?_
  refine g_iload (pc' := 6) C X0 d53_4 rfl rfl ?_
  refine g_callS (y := (⟨"java/lang/StringUTF16", "inflate", "([BI[BII)V"⟩ : MethodName)) (argsL := [(.ref a1), (.int (0 : Int32)), (.ref a3), (.int p4), (.int p5)]) (st := []) (pc' := 9) C X0 d53_6 (wq hw 263 rfl) (wq hw 264 rfl) (wq hw 112 rfl) (wq hw 265 rfl) (by decide) (rmui l Z a0 hw [] a1 a3 p4 p5 k1 z1 lx k2 zz cs ss cs_ fm h0 n0 Z0 hF V_s V_d gn_a3 ne13 hp4 hp5 hl hz hzz hz1 hss) (W := 0) (by decide) (by decide) (ce := 0) (sl := 0) rfl rfl (by decide) (by decide) rfl e0 rfl pd_15 rfl (Nat.le_refl _) rfl (fun rv1 T1 L1 X1 Q1 => ?_)
  obtain ⟨q1, Nq1, Kq1, P1_0⟩ := Q1
  have N1 := Fr.app N0 Nq1
  have FX_1 := FX_keep hF Kq1 ((allS (by obtain ⟨c_, A_, _⟩ := V_d; exact ⟨c_, A_.1, A_.plain⟩) all0))
  have V_s_1 := V_s.keep Kq1 (ninS ne13 nin0)
  have Z1 := Nat.le_trans Z0 Kq1.1
  have K1 := K0.trans Kq1 (allS (Or.inl (List.mem_of_getElem? (i := 0) rfl)) all0)
  subst q1
  show Go p.tables e below _ (T1.setTop (mkF m 9 #[.val (.ref a1), .val (.int (0 : Int32)), .val (.ref a3), .val (.int p4), .val (.int p5)] []))
  exact g_retV C X1 d53_9 (by decide) (by decide) ⟨rfl, N1, K1, P1_0⟩
theorem d52_0 : decode jdk_68_method_11_code 0 = .ok (.aload_n 0, 1) := by decide +kernel
theorem d52_1 : decode jdk_68_method_11_code 1 = .ok (.invokevirtual 83, 3) := by decide +kernel
theorem d52_4 : decode jdk_68_method_11_code 4 = .ok (.ifCond .ne 4, 3) := by decide +kernel
theorem d52_8 : decode jdk_68_method_11_code 8 = .ok (.aload_n 0, 1) := by decide +kernel
theorem d52_9 : decode jdk_68_method_11_code 9 = .ok (.getfield 15, 3) := by decide +kernel
theorem d52_12 : decode jdk_68_method_11_code 12 = .ok (.arraylength, 1) := by decide +kernel
theorem d52_13 : decode jdk_68_method_11_code 13 = .ok (.invokestatic 26, 3) := by decide +kernel
theorem pd_16 : parseMethodDescriptor "(I)[B" = some ⟨[.int], some (.array .byte)⟩ := by decide +kernel
theorem d52_16 : decode jdk_68_method_11_code 16 = .ok (.astore_n 1, 1) := by decide +kernel
theorem d52_17 : decode jdk_68_method_11_code 17 = .ok (.aload_n 0, 1) := by decide +kernel
theorem d52_18 : decode jdk_68_method_11_code 18 = .ok (.getfield 15, 3) := by decide +kernel
theorem d52_21 : decode jdk_68_method_11_code 21 = .ok (.iconst 0, 1) := by decide +kernel
theorem d52_22 : decode jdk_68_method_11_code 22 = .ok (.aload_n 1, 1) := by decide +kernel
theorem d52_23 : decode jdk_68_method_11_code 23 = .ok (.iconst 0, 1) := by decide +kernel
theorem d52_24 : decode jdk_68_method_11_code 24 = .ok (.aload_n 0, 1) := by decide +kernel
theorem d52_25 : decode jdk_68_method_11_code 25 = .ok (.getfield 79, 3) := by decide +kernel
theorem d52_28 : decode jdk_68_method_11_code 28 = .ok (.invokestatic 125, 3) := by decide +kernel
theorem d52_31 : decode jdk_68_method_11_code 31 = .ok (.aload_n 0, 1) := by decide +kernel
theorem d52_32 : decode jdk_68_method_11_code 32 = .ok (.aload_n 1, 1) := by decide +kernel
theorem d52_33 : decode jdk_68_method_11_code 33 = .ok (.putfield 15, 3) := by decide +kernel
theorem d52_36 : decode jdk_68_method_11_code 36 = .ok (.aload_n 0, 1) := by decide +kernel
theorem d52_37 : decode jdk_68_method_11_code 37 = .ok (.iconst 1, 1) := by decide +kernel
theorem d52_38 : decode jdk_68_method_11_code 38 = .ok (.putfield 22, 3) := by decide +kernel
theorem d52_41 : decode jdk_68_method_11_code 41 = .ok (.return_, 1) := by decide +kernel
theorem ef_inf (m : MethodId) (a1 : Addr) : entryFrame m #[(.ref a1)] 2 = mkF m 0 #[.val (.ref a1), .unset] [] := by first | (simp [entryFrame, mkF, argsToLocals, Value.category]; done) | rfl
def Q_inf (Z : State) (a1 : Addr) (v1_ : Addr) (k1 : ClassId) (z : Int32) (n : Int32) (xs : List Int32) (cs_ : Int32) (fm : Value) (h0 : Heap) (n0 : Nat) (vr : Option Value) (h : Heap) (L : List Loc) : Prop := ∃ w : Addr, ∃ kw : ClassId, (vr = none) ∧ (Fr n0 L) ∧ (Keep h0 h [a1]) ∧ (h0.size ≤ w) ∧ (n0 ≤ w) ∧ (Exa Z h a1 "java/lang/StringBuilder") ∧ (Fld Z h a1 "java/lang/AbstractStringBuilder" "value" "[B" (.ref w)) ∧ (Fld Z h a1 "java/lang/AbstractStringBuilder" "maybeLatin1" "Z" (.int (0 : Int32))) ∧ (Fld Z h a1 "java/lang/AbstractStringBuilder" "count" "I" (.int n)) ∧ (Fld Z h a1 "java/lang/AbstractStringBuilder" "coder" "B" (.int (1 : Int32))) ∧ (Arv Z h w kw .byte (z + z) (own_vl (own_u xs)) (.int (0 : Int32))) ∧ (Exa Z h w "[B")
set_option maxRecDepth 65536 in
set_option maxHeartbeats 40000000 in
theorem rminf (l : Launch) (Z : State) (a0 : Array Value) (hw : ∀ d ∈ tables_1, d.before a0 Z = true) (ws : List Jvm.Cond) (a1 : Addr) (v1_ : Addr) (k1 : ClassId) (z : Int32) (n : Int32) (xs : List Int32) (cs_ : Int32) (fm : Value) (h0 : Heap) (n0 : Nat) (Z0 : n0 ≤ h0.size) (hF : FX Z h0 cs_ fm) (E_a1 : Exa Z h0 a1 "java/lang/StringBuilder") (Fv_a1 : Fld Z h0 a1 "java/lang/AbstractStringBuilder" "value" "[B" (.ref v1_)) (Fm_a1 : Fld Z h0 a1 "java/lang/AbstractStringBuilder" "maybeLatin1" "Z" (.int (0 : Int32))) (Fn_a1 : Fld Z h0 a1 "java/lang/AbstractStringBuilder" "count" "I" (.int n)) (Fc_a1 : Fld Z h0 a1 "java/lang/AbstractStringBuilder" "coder" "B" (.int (0 : Int32))) (V_v : Arv Z h0 v1_ k1 .byte z (own_vl (own_lat xs)) (.int (0 : Int32))) (gn_a1 : n0 ≤ a1) (ne1v : ¬ (a1 = v1_)) (hx : ∀ x ∈ xs, own_ch x) (hy : ∀ x ∈ xs, ¬ ((255 : Int32) < x)) (hne : n = own_n xs) (hl : xs.length ≤ 8) (hlz : (xs.length : Int) ≤ z.toInt) (hz20 : z.toInt ≤ 20) :
    MetFree l (⟨"java/lang/AbstractStringBuilder", "inflate", "()V"⟩ : MethodName) (head1 (Jvm.Cond.code (⟨"java/lang/AbstractStringBuilder", "inflate", "()V"⟩ : MethodName) jdk_68_method_11_code 2 none :: ws) ({ frames := 5, cells := 1, slots := 40, locals := 76 } : Room)) (fun a U => a = #[(.ref a1)] ∧ Z.Warmed39 U.vm ∧ U.heap = h0) (fun _ _ _ _ _ => True) (fun _ U o U' => ∃ v L, o = .returned v ∧ Q_inf Z a1 v1_ k1 z n xs cs_ fm h0 n0 v U'.heap L ∧ FrameEnd U o U' L ({ frames := 5, cells := 1, slots := 40, locals := 76 } : Room).cells ({ frames := 5, cells := 1, slots := 40, locals := 76 } : Room).slots) := by
  refine met_of (Ls := #[.val (.ref a1), .unset]) (plainFor_of_name (by first | (simp [plainName, overriddenIn]; done) | decide +kernel)) (fun m => ef_inf m a1) ?_
  intro p e s m below meth c T0 C X0 e0
  obtain ⟨S_cs, hcs, S_fm, hfm, S_ad, S_hi, S_lo⟩ := id hF
  have N0 := Fr.nil n0
  have K0 : Keep h0 h0 [a1] := Keep.refl h0 _
  have hnb := own_nbf (z := z) (by omega) hz20
  refine g_aloadN (pc' := 1) C X0 d52_0 rfl rfl rfl ?_
  refine g_callV (b := a1) (z := (⟨"java/lang/AbstractStringBuilder", "isLatin1", "()Z"⟩ : MethodName)) (y := (⟨"java/lang/AbstractStringBuilder", "isLatin1", "()Z"⟩ : MethodName)) (argsL := []) (st := []) (pc' := 4) C X0 d52_1 (wq hw 210 rfl) (wq hw 89 rfl) (notFace_of_selects (args := #[]) (mvT C.hZ (wq hw 91 rfl))) (wq hw 91 rfl) (wq hw 90 rfl) (wq hw 52 rfl) (wq hw 92 rfl) (by decide) (rmasl0 l Z a0 hw [] a1 cs_ fm h0 n0 hF Fc_a1) (W := 0) (by decide) (by decide) (ce := 0) (sl := 0) rfl rfl (by decide) (by decide) rfl E_a1 e0 rfl pd_6 rfl (Nat.le_refl _) rfl (fun rv1 T1 L1 X1 Q1 => ?_)
  obtain ⟨q1, Nq1, e1⟩ := Q1
  have N1 := Fr.app N0 Nq1
  rw [Fasl0_l0 ] at q1
  subst q1
  show Go p.tables e below _ (T1.setTop (mkF m 4 #[.val (.ref a1), .unset] [(.int (1 : Int32))]))
  refine g_ifY (pc' := 8) C X1 d52_4 (feq (show ¬ ((1 : Int32) = (0 : Int32)) from (by decide))).2 (by decide) (by decide) ?_
  refine g_aloadN (pc' := 9) C X1 d52_8 rfl rfl rfl ?_
  refine g_getF (pc' := 12) C X1 d52_9 (host := "") (Or.inl (wq hw 56 rfl)) Via.refl e1 Fv_a1 rfl (fun T2 X2 e2 => ?_)
  refine g_len (pc' := 13) C X2 d52_12 e2 V_v rfl ?_
  refine g_callS (y := (⟨"java/lang/StringUTF16", "newBytesFor", "(I)[B"⟩ : MethodName)) (argsL := [(.int z)]) (st := []) (pc' := 16) C X2 d52_13 (wq hw 259 rfl) (wq hw 229 rfl) (wq hw 112 rfl) (wq hw 230 rfl) (by decide) (rmnbf l Z a0 hw [] z cs_ fm h0 n0 Z0 hF hnb.1 hnb.2.1 hnb.2.2.1 hnb.2.2.2.1 hnb.2.2.2.2.1) (W := 0) (by decide) (by decide) (ce := 1) (sl := 40) rfl rfl (by decide) (by decide) rfl e2 rfl pd_16 rfl (Nat.le_refl _) rfl (fun rv3 T3 L3 X3 Q3 => ?_)
  obtain ⟨w3, kw3, q3, Nq3, Kq3, sz3_w, gn_w3, P3_0, P3_1⟩ := Q3
  have N3 := Fr.app N1 Nq3
  have ne3_4 : ¬ (a1 = w3) := Nat.ne_of_lt (Nat.lt_of_lt_of_le E_a1.lt sz3_w)
  have ne3_5 : ¬ (v1_ = w3) := Nat.ne_of_lt (Nat.lt_of_lt_of_le V_v.lt sz3_w)
  have FX_3 := FX_keep hF Kq3 (fun _ q => nomatch q)
  have E_a1_3 := E_a1.keep Kq3
  have Fv_a1_3 := Fv_a1.keep Kq3 nin0
  have Fm_a1_3 := Fm_a1.keep Kq3 nin0
  have Fn_a1_3 := Fn_a1.keep Kq3 nin0
  have Fc_a1_3 := Fc_a1.keep Kq3 nin0
  have V_v_3 := V_v.keep Kq3 nin0
  have Z3 := Nat.le_trans Z0 Kq3.1
  have sz_w3 := Nat.le_trans K0.1 sz3_w
  have K3 := K0.trans Kq3 all0
  subst q3
  show Go p.tables e below _ (T3.setTop (mkF m 16 #[.val (.ref a1), .unset] [(.ref w3)]))
  refine g_astoreN (pc' := 17) (Ls' := #[.val (.ref a1), .val (.ref w3)]) C X3 d52_16 rfl rfl rfl ?_
  refine g_aloadN (pc' := 18) C X3 d52_17 rfl rfl rfl ?_
  refine g_getF (pc' := 21) C X3 d52_18 (host := "") (Or.inl (wq hw 56 rfl)) Via.refl rfl Fv_a1_3 rfl (fun T6 X6 e6 => ?_)
  refine g_iconst (pc' := 22) (v := (0 : Int32)) C X6 d52_21 rfl rfl ?_
  refine g_aloadN (pc' := 23) C X6 d52_22 rfl rfl rfl ?_
  refine g_iconst (pc' := 24) (v := (0 : Int32)) C X6 d52_23 rfl rfl ?_
  refine g_aloadN (pc' := 25) C X6 d52_24 rfl rfl rfl ?_
  refine g_getF (pc' := 28) C X6 d52_25 (host := "") (Or.inl (wq hw 86 rfl)) Via.refl e6 Fn_a1_3 rfl (fun T7 X7 e7 => ?_)
  have P3_0u : Arv Z T3.heap w3 kw3 .byte (z + z) (own_vl (own_u [])) (.int (0 : Int32)) := P3_0
  refine g_callS (y := (⟨"java/lang/StringLatin1", "inflate", "([BI[BII)V"⟩ : MethodName)) (argsL := [(.ref v1_), (.int (0 : Int32)), (.ref w3), (.int (0 : Int32)), (.int n)]) (st := []) (pc' := 31) C X7 d52_28 (wq hw 260 rfl) (wq hw 261 rfl) (wq hw 132 rfl) (wq hw 262 rfl) (by decide) (rmli l Z a0 hw [] v1_ w3 (0 : Int32) n k1 z (own_lat xs) kw3 (z + z) ([]) xs cs_ fm T3.heap n0 Z3 FX_3 V_v_3 P3_0u gn_w3 ne3_5 rfl hne (by rw [List.length_nil, Nat.zero_add]; exact hl) (by rw [hnb.2.2.2.2.2, List.length_nil]; omega) (by rw [hnb.2.2.2.2.2]; omega) hlz (own_ssx hx hy)) (W := 0) (by decide) (by decide) (ce := 1) (sl := 40) rfl rfl (by decide) (by decide) rfl e7 rfl pd_15 rfl (Nat.le_refl _) rfl (fun rv8 T8 L8 X8 Q8 => ?_)
  obtain ⟨q8, Nq8, Kq8, P8_0⟩ := Q8
  have N8 := Fr.app N3 Nq8
  have FX_8 := FX_keep FX_3 Kq8 ((allS (by obtain ⟨c_, A_, _⟩ := P3_0u; exact ⟨c_, A_.1, A_.plain⟩) all0))
  have E_a1_8 := E_a1_3.keep Kq8
  have Fv_a1_8 := Fv_a1_3.keep Kq8 (ninS ne3_4 nin0)
  have Fm_a1_8 := Fm_a1_3.keep Kq8 (ninS ne3_4 nin0)
  have Fn_a1_8 := Fn_a1_3.keep Kq8 (ninS ne3_4 nin0)
  have Fc_a1_8 := Fc_a1_3.keep Kq8 (ninS ne3_4 nin0)
  have V_v_8 := V_v_3.keep Kq8 (ninS ne3_5 nin0)
  have P3_1_8 := P3_1.keep Kq8
  have Z8 := Nat.le_trans Z3 Kq8.1
  have K8 := K3.trans Kq8 (allS (Or.inr sz_w3) all0)
  subst q8
  show Go p.tables e below _ (T8.setTop (mkF m 31 #[.val (.ref a1), .val (.ref w3)] []))
  refine g_aloadN (pc' := 32) C X8 d52_31 rfl rfl rfl ?_
  refine g_aloadN (pc' := 33) C X8 d52_32 rfl rfl rfl ?_
  refine g_putF (pc' := 36) C X8 d52_33 (host := "") (Or.inl (wq hw 56 rfl)) Via.refl rfl Fv_a1_8 E_a1_8 (Or.inl (wq hw 57 rfl)) (wq hw 32 rfl) (ty := (.array .byte)) (by decide) rfl rfl rfl (fun T9 h9 X9 e9 W9 => ?_)
  have F9 := Fv_a1_8.same W9
  have FX_9 := FX_wr FX_8 W9
  have E_a1_9 := E_a1_8.wr W9
  have Fm_a1_9 := Fm_a1_8.other W9 (Or.inr (slot_ne (Or.inl (wq hw 280 rfl)) (Or.inl (wq hw 57 rfl)) (by decide) (t := .boolean) (t' := (.array .byte)) (by decide) (by decide)))
  have Fn_a1_9 := Fn_a1_8.other W9 (Or.inr (slot_ne (Or.inl (wq hw 87 rfl)) (Or.inl (wq hw 57 rfl)) (by decide) (t := .int) (t' := (.array .byte)) (by decide) (by decide)))
  have Fc_a1_9 := Fc_a1_8.other W9 (Or.inr (slot_ne (Or.inl (wq hw 59 rfl)) (Or.inl (wq hw 57 rfl)) (by decide) (t := .byte) (t' := (.array .byte)) (by decide) (by decide)))
  have V_v_9 := V_v_8.other W9 (Ne.symm ne1v)
  have P3_1_9 := P3_1_8.wr W9
  have P8_0_9 := P8_0.other W9 (Ne.symm ne3_4)
  have Z9 := Nat.le_trans Z8 (Nat.le_of_eq W9.size.symm)
  have N9 := Fr.snoc X9 N8 gn_a1
  have K9 := K8.wr W9 (Or.inl (List.mem_of_getElem? (i := 0) rfl))
  refine g_aloadN (pc' := 37) C X9 d52_36 rfl rfl rfl ?_
  refine g_iconst (pc' := 38) (v := (1 : Int32)) C X9 d52_37 rfl rfl ?_
  refine g_putFN (pc' := 41) (v' := (.int (1 : Int32))) C X9 d52_38 (wq hw 58 rfl) Via.refl e9 Fc_a1_9 E_a1_9 (Or.inl (wq hw 59 rfl)) (wq hw 32 rfl) (ty := .byte) (by decide) rfl (by decide) rfl (fun T10 h10 X10 e10 W10 => ?_)
  have F10 := Fc_a1_9.same W10
  have FX_10 := FX_wr FX_9 W10
  have E_a1_10 := E_a1_9.wr W10
  have Fm_a1_10 := Fm_a1_9.other W10 (Or.inr (slot_ne (Or.inl (wq hw 280 rfl)) (Or.inl (wq hw 59 rfl)) (by decide) (t := .boolean) (t' := .byte) (by decide) (by decide)))
  have Fn_a1_10 := Fn_a1_9.other W10 (Or.inr (slot_ne (Or.inl (wq hw 87 rfl)) (Or.inl (wq hw 59 rfl)) (by decide) (t := .int) (t' := .byte) (by decide) (by decide)))
  have V_v_10 := V_v_9.other W10 (Ne.symm ne1v)
  have P3_1_10 := P3_1_9.wr W10
  have P8_0_10 := P8_0_9.other W10 (Ne.symm ne3_4)
  have F9_10 := F9.other W10 (Or.inr (slot_ne (Or.inl (wq hw 57 rfl)) (Or.inl (wq hw 59 rfl)) (by decide) (t := (.array .byte)) (t' := .byte) (by decide) (by decide)))
  have Z10 := Nat.le_trans Z9 (Nat.le_of_eq W10.size.symm)
  have N10 := Fr.snoc X10 N9 gn_a1
  have K10 := K9.wr W10 (Or.inl (List.mem_of_getElem? (i := 0) rfl))
  exact g_retV C X10 d52_41 (by decide) (by decide) ⟨w3, kw3, rfl, N10, (by rw [e10]; exact K10), sz_w3, gn_w3, (by rw [e10]; exact E_a1_10), (by rw [e10]; exact F9_10), (by rw [e10]; exact Fm_a1_10), (by rw [e10]; exact Fn_a1_10), (by rw [e10]; exact F10), (by rw [e10]; exact P8_0_10), (by rw [e10]; exact P3_1_10)⟩
theorem d52_7 : decode jdk_68_method_11_code 7 = .ok (.return_, 1) := by decide +kernel
theorem ef_inf1 (m : MethodId) (a1 : Addr) : entryFrame m #[(.ref a1)] 2 = mkF m 0 #[.val (.ref a1), .unset] [] := by first | (simp [entryFrame, mkF, argsToLocals, Value.category]; done) | rfl
def Q_inf1 (Z : State) (a1 : Addr) (cs_ : Int32) (fm : Value) (h0 : Heap) (n0 : Nat) (v : Option Value) (h : Heap) (L : List Loc) : Prop := v = none ∧ Fr n0 L ∧ h = h0
set_option maxRecDepth 65536 in
set_option maxHeartbeats 40000000 in
theorem rminf1 (l : Launch) (Z : State) (a0 : Array Value) (hw : ∀ d ∈ tables_1, d.before a0 Z = true) (ws : List Jvm.Cond) (a1 : Addr) (cs_ : Int32) (fm : Value) (h0 : Heap) (n0 : Nat) (hF : FX Z h0 cs_ fm) (E_a1 : Exa Z h0 a1 "java/lang/StringBuilder") (Fc_a1 : Fld Z h0 a1 "java/lang/AbstractStringBuilder" "coder" "B" (.int (1 : Int32))) :
    MetFree l (⟨"java/lang/AbstractStringBuilder", "inflate", "()V"⟩ : MethodName) (head1 (Jvm.Cond.code (⟨"java/lang/AbstractStringBuilder", "inflate", "()V"⟩ : MethodName) jdk_68_method_11_code 2 none :: ws) ({ frames := 1, cells := 0, slots := 0, locals := 12 } : Room)) (fun a U => a = #[(.ref a1)] ∧ Z.Warmed39 U.vm ∧ U.heap = h0) (fun _ _ _ _ _ => True) (fun _ U o U' => ∃ v L, o = .returned v ∧ Q_inf1 Z a1 cs_ fm h0 n0 v U'.heap L ∧ FrameEnd U o U' L ({ frames := 1, cells := 0, slots := 0, locals := 12 } : Room).cells ({ frames := 1, cells := 0, slots := 0, locals := 12 } : Room).slots) := by
  refine met_of (Ls := #[.val (.ref a1), .unset]) (plainFor_of_name (by first | (simp [plainName, overriddenIn]; done) | decide +kernel)) (fun m => ef_inf1 m a1) ?_
  intro p e s m below meth c T0 C X0 e0
  obtain ⟨S_cs, hcs, S_fm, hfm, S_ad, S_hi, S_lo⟩ := id hF
  have N0 := Fr.nil n0
  refine g_aloadN (pc' := 1) C X0 d52_0 rfl rfl rfl ?_
  refine g_callV (b := a1) (z := (⟨"java/lang/AbstractStringBuilder", "isLatin1", "()Z"⟩ : MethodName)) (y := (⟨"java/lang/AbstractStringBuilder", "isLatin1", "()Z"⟩ : MethodName)) (argsL := []) (st := []) (pc' := 4) C X0 d52_1 (wq hw 210 rfl) (wq hw 89 rfl) (notFace_of_selects (args := #[]) (mvT C.hZ (wq hw 91 rfl))) (wq hw 91 rfl) (wq hw 90 rfl) (wq hw 52 rfl) (wq hw 92 rfl) (by decide) (rmasl1 l Z a0 hw [] a1 cs_ fm h0 n0 hF Fc_a1) (W := 0) (by decide) (by decide) (ce := 0) (sl := 0) rfl rfl (by decide) (by decide) rfl E_a1 e0 rfl pd_6 rfl (Nat.le_refl _) rfl (fun rv1 T1 L1 X1 Q1 => ?_)
  obtain ⟨q1, Nq1, e1⟩ := Q1
  have N1 := Fr.app N0 Nq1
  rw [Fasl1_l0 ] at q1
  subst q1
  show Go p.tables e below _ (T1.setTop (mkF m 4 #[.val (.ref a1), .unset] [(.int (0 : Int32))]))
  refine g_ifN (pc' := 7) C X1 d52_4 (teq (show (0 : Int32) = (0 : Int32) from (by decide))).2 rfl ?_
  exact g_retV C X1 d52_7 (by decide) (by decide) ⟨rfl, N1, e1⟩
theorem d58_0 : decode jdk_52_method_71_code 0 = .ok (.iload_n 1, 1) := by decide +kernel
theorem d58_1 : decode jdk_52_method_71_code 1 = .ok (.aload_n 0, 1) := by decide +kernel
theorem d58_2 : decode jdk_52_method_71_code 2 = .ok (.invokestatic 67, 3) := by decide +kernel
theorem d58_5 : decode jdk_52_method_71_code 5 = .ok (.aload_n 0, 1) := by decide +kernel
theorem d58_6 : decode jdk_52_method_71_code 6 = .ok (.iload_n 1, 1) := by decide +kernel
theorem d58_7 : decode jdk_52_method_71_code 7 = .ok (.iload_n 2, 1) := by decide +kernel
theorem d58_8 : decode jdk_52_method_71_code 8 = .ok (.invokestatic 111, 3) := by decide +kernel
theorem d58_11 : decode jdk_52_method_71_code 11 = .ok (.return_, 1) := by decide +kernel
theorem ef_usb (m : MethodId) (a1 : Addr) (p2 : Int32) (p3 : Int32) : entryFrame m #[(.ref a1), (.int p2), (.int p3)] 3 = mkF m 0 #[.val (.ref a1), .val (.int p2), .val (.int p3)] [] := by first | (simp [entryFrame, mkF, argsToLocals, Value.category]; done) | rfl
def Q_usb (Z : State) (a1 : Addr) (p2 : Int32) (p3 : Int32) (k1 : ClassId) (z1 : Int32) (lx : List Int32) (cs_ : Int32) (fm : Value) (h0 : Heap) (n0 : Nat) (vr : Option Value) (h : Heap) (L : List Loc) : Prop := (vr = none) ∧ (Fr n0 L) ∧ (Keep h0 h [a1]) ∧ (Arv Z h a1 k1 .byte z1 (own_vl (own_put lx p2 p3)) (.int (0 : Int32)))
set_option maxRecDepth 65536 in
set_option maxHeartbeats 40000000 in
theorem rmusb (l : Launch) (Z : State) (a0 : Array Value) (hw : ∀ d ∈ tables_1, d.before a0 Z = true) (ws : List Jvm.Cond) (a1 : Addr) (p2 : Int32) (p3 : Int32) (k1 : ClassId) (z1 : Int32) (lx : List Int32) (cs_ : Int32) (fm : Value) (h0 : Heap) (n0 : Nat) (Z0 : n0 ≤ h0.size) (hF : FX Z h0 cs_ fm) (V_b : Arv Z h0 a1 k1 .byte z1 (own_vl lx) (.int (0 : Int32))) (hb0 : ¬ ((p2 <<< ((1 : Int32) &&& 31)) < (0 : Int32))) (hb1 : (p2 <<< ((1 : Int32) &&& 31)) < z1) (hb2 : ¬ (((p2 <<< ((1 : Int32) &&& 31)) + (1 : Int32)) < (0 : Int32))) (hb3 : ((p2 <<< ((1 : Int32) &&& 31)) + (1 : Int32)) < z1) (hi0 : ¬ (p2 < (0 : Int32))) (hi1 : p2 < (z1 >>> ((1 : Int32) &&& 31))) (gn_a1 : n0 ≤ a1) :
    MetFree l (⟨"java/lang/StringUTF16", "putCharSB", "([BII)V"⟩ : MethodName) (head1 (Jvm.Cond.code (⟨"java/lang/StringUTF16", "putCharSB", "([BII)V"⟩ : MethodName) jdk_52_method_71_code 3 none :: ws) ({ frames := 3, cells := 0, slots := 0, locals := 40 } : Room)) (fun a U => a = #[(.ref a1), (.int p2), (.int p3)] ∧ Z.Warmed39 U.vm ∧ U.heap = h0) (fun _ _ _ _ _ => True) (fun _ U o U' => ∃ v L, o = .returned v ∧ Q_usb Z a1 p2 p3 k1 z1 lx cs_ fm h0 n0 v U'.heap L ∧ FrameEnd U o U' L ({ frames := 3, cells := 0, slots := 0, locals := 40 } : Room).cells ({ frames := 3, cells := 0, slots := 0, locals := 40 } : Room).slots) := by
  refine met_of (Ls := #[.val (.ref a1), .val (.int p2), .val (.int p3)]) (plainFor_of_name (by first | (simp [plainName, overriddenIn]; done) | decide +kernel)) (fun m => ef_usb m a1 p2 p3) ?_
  intro p e s m below meth c T0 C X0 e0
  obtain ⟨S_cs, hcs, S_fm, hfm, S_ad, S_hi, S_lo⟩ := id hF
  have N0 := Fr.nil n0
  have K0 : Keep h0 h0 [a1] := Keep.refl h0 _
  refine g_iloadN (pc' := 1) C X0 d58_0 rfl rfl ?_
  refine g_aloadN (pc' := 2) C X0 d58_1 rfl rfl rfl ?_
  refine g_callS (y := (⟨"java/lang/StringUTF16", "checkIndex", "(I[B)V"⟩ : MethodName)) (argsL := [(.int p2), (.ref a1)]) (st := []) (pc' := 5) C X0 d58_2 (wq hw 247 rfl) (wq hw 248 rfl) (wq hw 112 rfl) (wq hw 249 rfl) (by decide) (rmuci l Z a0 hw [] p2 a1 k1 z1 lx cs_ fm h0 n0 hF V_b hi0 hi1) (W := 0) (by decide) (by decide) (ce := 0) (sl := 0) rfl rfl (by decide) (by decide) rfl e0 rfl pd_3 rfl (Nat.le_refl _) rfl (fun rv1 T1 L1 X1 Q1 => ?_)
  obtain ⟨q1, Nq1, e1⟩ := Q1
  have N1 := Fr.app N0 Nq1
  subst q1
  show Go p.tables e below _ (T1.setTop (mkF m 5 #[.val (.ref a1), .val (.int p2), .val (.int p3)] []))
  refine g_aloadN (pc' := 6) C X1 d58_5 rfl rfl rfl ?_
  refine g_iloadN (pc' := 7) C X1 d58_6 rfl rfl ?_
  refine g_iloadN (pc' := 8) C X1 d58_7 rfl rfl ?_
  refine g_callS (y := (⟨"java/lang/StringUTF16", "putChar", "([BII)V"⟩ : MethodName)) (argsL := [(.ref a1), (.int p2), (.int p3)]) (st := []) (pc' := 11) C X1 d58_8 (wq hw 235 rfl) (wq hw 236 rfl) (wq hw 112 rfl) (wq hw 237 rfl) (by decide) (rmupc l Z a0 hw [] a1 p2 p3 k1 z1 lx cs_ fm h0 n0 Z0 hF V_b hb0 hb1 hb2 hb3 gn_a1) (W := 0) (by decide) (by decide) (ce := 0) (sl := 0) rfl rfl (by decide) (by decide) rfl e1 rfl pd_14 rfl (Nat.le_refl _) rfl (fun rv2 T2 L2 X2 Q2 => ?_)
  obtain ⟨q2, Nq2, Kq2, P2_0⟩ := Q2
  have N2 := Fr.app N1 Nq2
  have FX_2 := FX_keep hF Kq2 ((allS (by obtain ⟨c_, A_, _⟩ := V_b; exact ⟨c_, A_.1, A_.plain⟩) all0))
  have Z2 := Nat.le_trans Z0 Kq2.1
  have K2 := K0.trans Kq2 (allS (Or.inl (List.mem_of_getElem? (i := 0) rfl)) all0)
  subst q2
  show Go p.tables e below _ (T2.setTop (mkF m 11 #[.val (.ref a1), .val (.int p2), .val (.int p3)] []))
  exact g_retV C X2 d58_11 (by decide) (by decide) ⟨rfl, N2, K2, P2_0⟩
theorem own_nk1 {n : Int32} (h : 0 ≤ n.toInt ∧ n.toInt ≤ 8) : (n + (1 : Int32)).toInt = n.toInt + 1 := own_inc h.1 (by omega)
theorem own_nk2 {n : Int32} (h : 0 ≤ n.toInt ∧ n.toInt ≤ 8) : (n + (2 : Int32)).toInt = n.toInt + 2 := by
  have z : (2 : Int32).toInt = 2 := by decide
  rw [own_addI (by omega) (by omega) (by omega) (by omega), z]
theorem own_len_snoc {xs : List Int32} {x : Int32} (h : xs.length < 8) : (xs ++ [x]).length ≤ 8 := by rw [List.length_append, List.length_singleton]; omega
theorem own_len_snoc2 {xs : List Int32} {x y : Int32} (h : xs.length < 7) : (xs ++ [x, y]).length ≤ 8 := by rw [List.length_append]; show xs.length + 2 ≤ 8; omega
theorem d39_0 : decode jdk_68_method_31_code 0 = .ok (.aload_n 0, 1) := by decide +kernel
theorem d39_1 : decode jdk_68_method_31_code 1 = .ok (.aload_n 0, 1) := by decide +kernel
theorem d39_2 : decode jdk_68_method_31_code 2 = .ok (.getfield 79, 3) := by decide +kernel
theorem d39_5 : decode jdk_68_method_31_code 5 = .ok (.iconst 1, 1) := by decide +kernel
theorem d39_6 : decode jdk_68_method_31_code 6 = .ok (.iadd, 1) := by decide +kernel
theorem d39_7 : decode jdk_68_method_31_code 7 = .ok (.invokevirtual 100, 3) := by decide +kernel
theorem d39_10 : decode jdk_68_method_31_code 10 = .ok (.aload_n 0, 1) := by decide +kernel
theorem d39_11 : decode jdk_68_method_31_code 11 = .ok (.invokevirtual 83, 3) := by decide +kernel
theorem d39_14 : decode jdk_68_method_31_code 14 = .ok (.ifCond .eq 31, 3) := by decide +kernel
theorem d39_17 : decode jdk_68_method_31_code 17 = .ok (.iload_n 1, 1) := by decide +kernel
theorem d39_18 : decode jdk_68_method_31_code 18 = .ok (.invokestatic 191, 3) := by decide +kernel
theorem pd_17 : parseMethodDescriptor "(C)Z" = some ⟨[.char], some .boolean⟩ := by decide +kernel
theorem d39_21 : decode jdk_68_method_31_code 21 = .ok (.ifCond .eq 24, 3) := by decide +kernel
theorem d39_45 : decode jdk_68_method_31_code 45 = .ok (.aload_n 0, 1) := by decide +kernel
theorem d39_46 : decode jdk_68_method_31_code 46 = .ok (.invokevirtual 83, 3) := by decide +kernel
theorem d39_49 : decode jdk_68_method_31_code 49 = .ok (.ifCond .eq 7, 3) := by decide +kernel
theorem d39_52 : decode jdk_68_method_31_code 52 = .ok (.aload_n 0, 1) := by decide +kernel
theorem d39_53 : decode jdk_68_method_31_code 53 = .ok (.invokevirtual 195, 3) := by decide +kernel
theorem pd_18 : parseMethodDescriptor "()V" = some ⟨[], none⟩ := by decide +kernel
theorem d39_56 : decode jdk_68_method_31_code 56 = .ok (.aload_n 0, 1) := by decide +kernel
theorem d39_57 : decode jdk_68_method_31_code 57 = .ok (.getfield 15, 3) := by decide +kernel
theorem d39_60 : decode jdk_68_method_31_code 60 = .ok (.aload_n 0, 1) := by decide +kernel
theorem d39_61 : decode jdk_68_method_31_code 61 = .ok (.dup, 1) := by decide +kernel
theorem d39_62 : decode jdk_68_method_31_code 62 = .ok (.getfield 79, 3) := by decide +kernel
theorem d39_65 : decode jdk_68_method_31_code 65 = .ok (.dup_x1, 1) := by decide +kernel
theorem d39_66 : decode jdk_68_method_31_code 66 = .ok (.iconst 1, 1) := by decide +kernel
theorem d39_67 : decode jdk_68_method_31_code 67 = .ok (.iadd, 1) := by decide +kernel
theorem d39_68 : decode jdk_68_method_31_code 68 = .ok (.putfield 79, 3) := by decide +kernel
theorem d39_71 : decode jdk_68_method_31_code 71 = .ok (.iload_n 1, 1) := by decide +kernel
theorem d39_72 : decode jdk_68_method_31_code 72 = .ok (.invokestatic 197, 3) := by decide +kernel
theorem d39_75 : decode jdk_68_method_31_code 75 = .ok (.aload_n 0, 1) := by decide +kernel
theorem d39_76 : decode jdk_68_method_31_code 76 = .ok (.areturn, 1) := by decide +kernel
theorem d39_24 : decode jdk_68_method_31_code 24 = .ok (.aload_n 0, 1) := by decide +kernel
theorem d39_25 : decode jdk_68_method_31_code 25 = .ok (.getfield 15, 3) := by decide +kernel
theorem d39_28 : decode jdk_68_method_31_code 28 = .ok (.aload_n 0, 1) := by decide +kernel
theorem d39_29 : decode jdk_68_method_31_code 29 = .ok (.dup, 1) := by decide +kernel
theorem d39_30 : decode jdk_68_method_31_code 30 = .ok (.getfield 79, 3) := by decide +kernel
theorem d39_33 : decode jdk_68_method_31_code 33 = .ok (.dup_x1, 1) := by decide +kernel
theorem d39_34 : decode jdk_68_method_31_code 34 = .ok (.iconst 1, 1) := by decide +kernel
theorem d39_35 : decode jdk_68_method_31_code 35 = .ok (.iadd, 1) := by decide +kernel
theorem d39_36 : decode jdk_68_method_31_code 36 = .ok (.putfield 79, 3) := by decide +kernel
theorem d39_39 : decode jdk_68_method_31_code 39 = .ok (.iload_n 1, 1) := by decide +kernel
theorem d39_40 : decode jdk_68_method_31_code 40 = .ok (.i2b, 1) := by decide +kernel
theorem d39_41 : decode jdk_68_method_31_code 41 = .ok (.bastore, 1) := by decide +kernel
theorem d39_42 : decode jdk_68_method_31_code 42 = .ok (.goto 33, 3) := by decide +kernel
theorem ef_apa (m : MethodId) (a1 : Addr) (p2 : Int32) : entryFrame m #[(.ref a1), (.int p2)] 2 = mkF m 0 #[.val (.ref a1), .val (.int p2)] [] := by first | (simp [entryFrame, mkF, argsToLocals, Value.category]; done) | rfl
def Q_apa (Z : State) (a1 : Addr) (p2 : Int32) (v1_ : Addr) (z : Int32) (xs : List Int32) (cs_ : Int32) (fm : Value) (h0 : Heap) (n0 : Nat) (vr : Option Value) (h : Heap) (L : List Loc) : Prop := ∃ w : Addr, ∃ z2 : Int32, (vr = some (.ref a1)) ∧ (Fr n0 L) ∧ (Keep h0 h [a1, v1_]) ∧ (Bld Z h a1 w z2 (xs ++ [p2])) ∧ (∀ o : Addr, o < h0.size → ¬ (o = v1_) → ¬ (o = w)) ∧ (n0 ≤ w) ∧ (¬ (a1 = w))
set_option maxRecDepth 65536 in
set_option maxHeartbeats 40000000 in
theorem rmapa (l : Launch) (Z : State) (a0 : Array Value) (hw : ∀ d ∈ tables_1, d.before a0 Z = true) (ws : List Jvm.Cond) (a1 : Addr) (p2 : Int32) (v1_ : Addr) (z : Int32) (xs : List Int32) (cs_ : Int32) (fm : Value) (h0 : Heap) (n0 : Nat) (Z0 : n0 ≤ h0.size) (hF : FX Z h0 cs_ fm) (hB : Bld Z h0 a1 v1_ z xs) (hlt : xs.length < 8) (gn_a1 : n0 ≤ a1) (gn_v1_ : n0 ≤ v1_) (ne1v : ¬ (a1 = v1_)) (hp : own_ch p2) :
    MetFree l (⟨"java/lang/AbstractStringBuilder", "append", "(C)Ljava/lang/AbstractStringBuilder;"⟩ : MethodName) (head1 (Jvm.Cond.code (⟨"java/lang/AbstractStringBuilder", "append", "(C)Ljava/lang/AbstractStringBuilder;"⟩ : MethodName) jdk_68_method_31_code 2 (some (.object "java/lang/AbstractStringBuilder")) :: ws) ({ frames := 6, cells := 2, slots := 80, locals := 89 } : Room)) (fun a U => a = #[(.ref a1), (.int p2)] ∧ Z.Warmed39 U.vm ∧ U.heap = h0) (fun _ _ _ _ _ => True) (fun _ U o U' => ∃ v L, o = .returned v ∧ Q_apa Z a1 p2 v1_ z xs cs_ fm h0 n0 v U'.heap L ∧ FrameEnd U o U' L ({ frames := 6, cells := 2, slots := 80, locals := 89 } : Room).cells ({ frames := 6, cells := 2, slots := 80, locals := 89 } : Room).slots) := by
  refine met_of (Ls := #[.val (.ref a1), .val (.int p2)]) (plainFor_of_name (by first | (simp [plainName, overriddenIn]; done) | decide +kernel)) (fun m => ef_apa m a1 p2) ?_
  intro p e s m below meth c T0 C X0 e0
  obtain ⟨S_cs, hcs, S_fm, hfm, S_ad, S_hi, S_lo⟩ := id hF
  have N0 := Fr.nil n0
  have K0 : Keep h0 h0 [a1, v1_] := Keep.refl h0 _
  rcases hB with ⟨hl_a1, hx_a1, E_a1, Fv_a1, Fm_a1, E_v1_, hz_a1, k_a1, n, hne, Fn_a1, ⟨Fc_a1, hy_a1, V_v1_⟩ | ⟨Fc_a1, V_v1_⟩⟩
  · have hnB := own_nB hne hl_a1
    have hnL : n.toInt = (xs.length : Int) := by rw [hne, own_nI hl_a1]
    refine g_aloadN (pc' := 1) C X0 d39_0 rfl rfl rfl ?_
    refine g_aloadN (pc' := 2) C X0 d39_1 rfl rfl rfl ?_
    refine g_getF (pc' := 5) C X0 d39_2 (host := "") (Or.inl (wq hw 86 rfl)) Via.refl e0 Fn_a1 rfl (fun T1 X1 e1 => ?_)
    refine g_iconst (pc' := 6) (v := (1 : Int32)) C X1 d39_5 rfl rfl ?_
    refine g_iadd (pc' := 7) C X1 d39_6 rfl ?_
    have hin : (n + (1 : Int32)).toInt = n.toInt + 1 := own_nk1 hnB
    refine g_callQ (b := a1) (y := (⟨"java/lang/AbstractStringBuilder", "ensureCapacityInternal", "(I)V"⟩ : MethodName)) (argsL := [(.int (n + (1 : Int32)))]) (st := []) (pc' := 10) C X1 d39_7 (wq hw 153 rfl) (wq hw 154 rfl) (wq hw 155 rfl) (wq hw 52 rfl) (wq hw 156 rfl) (wq hw 157 rfl) (by decide) (rmens0 l Z a0 hw [] a1 (n + (1 : Int32)) v1_ k_a1 z (own_lat xs) n cs_ fm h0 n0 Z0 hF E_a1 Fv_a1 Fm_a1 Fn_a1 Fc_a1 E_v1_ V_v1_ gn_a1 gn_v1_ ne1v (by have := hz_a1.1; omega) hz_a1.2 (by have := hz_a1.1; omega) (by omega) (by omega) (own_hzl hz_a1.1)) (W := 0) (by decide) (by decide) (ce := 1) (sl := 40) rfl rfl (by decide) (by decide) rfl E_a1 e1 rfl pd_7 rfl (Nat.le_refl _) rfl (fun rv2 T2 L2 X2 Q2 => ?_)
    obtain ⟨w2, kw2, z22, q2, Nq2, Kq2, P2_0, P2_1, P2_2, P2_3, P2_4, P2_5, xp2_0, xp2_1, xp2_2, xp2_3, xp2_4⟩ := Q2
    have N2 := Fr.app N0 Nq2
    have gn_w2 := xp2_1
    have FX_2 := FX_keep hF Kq2 ((allS (by obtain ⟨c_, _, h1_, _, _, h2_, _⟩ := E_a1; exact ⟨c_, h1_, h2_⟩) all0))
    have E_a1_2 := E_a1.keep Kq2
    have E_v1__2 := E_v1_.keep Kq2
    have V_v1__2 := V_v1_.keep Kq2 (ninS (Ne.symm ne1v) nin0)
    have Z2 := Nat.le_trans Z0 Kq2.1
    have K2 := K0.trans Kq2 (allS (Or.inl (List.mem_of_getElem? (i := 0) rfl)) all0)
    subst q2
    show Go p.tables e below _ (T2.setTop (mkF m 10 #[.val (.ref a1), .val (.int p2)] []))
    have hcz : n.toInt + 1 ≤ z22.toInt := by rw [← hin]; exact xp2_3
    have hc20 : z22.toInt ≤ 20 := xp2_4
    have hn0_ : ¬ (n < (0 : Int32)) := own_nlt hnB.1
    have hnz_ : n < z22 := own_lt.mpr (by omega)
    have hbz_ := own_hbn (n := z22) (p := n) (by omega) (by omega) hn0_ hnz_
    have hlz_ : (xs.length : Int) ≤ z22.toInt := by omega
    refine g_aloadN (pc' := 11) C X2 d39_10 rfl rfl rfl ?_
    refine g_callV (b := a1) (z := (⟨"java/lang/AbstractStringBuilder", "isLatin1", "()Z"⟩ : MethodName)) (y := (⟨"java/lang/AbstractStringBuilder", "isLatin1", "()Z"⟩ : MethodName)) (argsL := []) (st := []) (pc' := 14) C X2 d39_11 (wq hw 210 rfl) (wq hw 89 rfl) (notFace_of_selects (args := #[]) (mvT C.hZ (wq hw 91 rfl))) (wq hw 91 rfl) (wq hw 90 rfl) (wq hw 52 rfl) (wq hw 92 rfl) (by decide) (rmasl0 l Z a0 hw [] a1 cs_ fm T2.heap n0 FX_2 P2_3) (W := 0) (by decide) (by decide) (ce := 1) (sl := 40) rfl rfl (by decide) (by decide) rfl E_a1_2 rfl rfl pd_6 rfl (Nat.le_refl _) rfl (fun rv3 T3 L3 X3 Q3 => ?_)
    obtain ⟨q3, Nq3, e3⟩ := Q3
    have N3 := Fr.app N2 Nq3
    rw [Fasl0_l0 ] at q3
    subst q3
    show Go p.tables e below _ (T3.setTop (mkF m 14 #[.val (.ref a1), .val (.int p2)] [(.int (1 : Int32))]))
    refine g_ifN (pc' := 17) C X3 d39_14 (feq (show ¬ ((1 : Int32) = (0 : Int32)) from (by decide))).1 rfl ?_
    refine g_iloadN (pc' := 18) C X3 d39_17 rfl rfl ?_
    refine g_callS (y := (⟨"java/lang/StringLatin1", "canEncode", "(C)Z"⟩ : MethodName)) (argsL := [(.int p2)]) (st := []) (pc' := 21) C X3 d39_18 (wq hw 211 rfl) (wq hw 212 rfl) (wq hw 132 rfl) (wq hw 213 rfl) (by decide) (rmcan l Z a0 hw [] p2 cs_ fm T2.heap n0 FX_2) (W := 0) (by decide) (by decide) (ce := 1) (sl := 40) rfl rfl (by decide) (by decide) rfl e3 rfl pd_17 rfl (Nat.le_refl _) rfl (fun rv4 T4 L4 X4 Q4 => ?_)
    obtain ⟨q4, Nq4, e4⟩ := Q4
    have N4 := Fr.app N3 Nq4
    by_cases c5 : (255 : Int32) < p2
    · rw [Fcan_l0 p2 c5] at q4
      subst q4
      show Go p.tables e below _ (T4.setTop (mkF m 21 #[.val (.ref a1), .val (.int p2)] [(.int (0 : Int32))]))
      refine g_ifY (pc' := 45) C X4 d39_21 (teq (show (0 : Int32) = (0 : Int32) from (by decide))).1 (by decide) (by decide) ?_
      refine g_aloadN (pc' := 46) C X4 d39_45 rfl rfl rfl ?_
      refine g_callV (b := a1) (z := (⟨"java/lang/AbstractStringBuilder", "isLatin1", "()Z"⟩ : MethodName)) (y := (⟨"java/lang/AbstractStringBuilder", "isLatin1", "()Z"⟩ : MethodName)) (argsL := []) (st := []) (pc' := 49) C X4 d39_46 (wq hw 210 rfl) (wq hw 89 rfl) (notFace_of_selects (args := #[]) (mvT C.hZ (wq hw 91 rfl))) (wq hw 91 rfl) (wq hw 90 rfl) (wq hw 52 rfl) (wq hw 92 rfl) (by decide) (rmasl0 l Z a0 hw [] a1 cs_ fm T2.heap n0 FX_2 P2_3) (W := 0) (by decide) (by decide) (ce := 1) (sl := 40) rfl rfl (by decide) (by decide) rfl E_a1_2 e4 rfl pd_6 rfl (Nat.le_refl _) rfl (fun rv6 T6 L6 X6 Q6 => ?_)
      obtain ⟨q6, Nq6, e6⟩ := Q6
      have N6 := Fr.app N4 Nq6
      rw [Fasl0_l0 ] at q6
      subst q6
      show Go p.tables e below _ (T6.setTop (mkF m 49 #[.val (.ref a1), .val (.int p2)] [(.int (1 : Int32))]))
      refine g_ifN (pc' := 52) C X6 d39_49 (feq (show ¬ ((1 : Int32) = (0 : Int32)) from (by decide))).1 rfl ?_
      refine g_aloadN (pc' := 53) C X6 d39_52 rfl rfl rfl ?_
      refine g_callQ (b := a1) (y := (⟨"java/lang/AbstractStringBuilder", "inflate", "()V"⟩ : MethodName)) (argsL := []) (st := []) (pc' := 56) C X6 d39_53 (wq hw 254 rfl) (wq hw 255 rfl) (wq hw 256 rfl) (wq hw 52 rfl) (wq hw 257 rfl) (wq hw 258 rfl) (by decide) (rminf l Z a0 hw [] a1 w2 kw2 z22 n xs cs_ fm T2.heap n0 Z2 FX_2 E_a1_2 P2_0 P2_1 P2_2 P2_3 P2_5 gn_a1 xp2_2 hx_a1 hy_a1 hne hl_a1 hlz_ hc20) (W := 0) (by decide) (by decide) (ce := 2) (sl := 80) rfl rfl (by decide) (by decide) rfl E_a1_2 e6 rfl pd_18 rfl (Nat.le_refl _) rfl (fun rv7 T7 L7 X7 Q7 => ?_)
      obtain ⟨w7, kw7, q7, Nq7, Kq7, sz7_w, gn_w7, P7_0, P7_1, P7_2, P7_3, P7_4, P7_5, P7_6⟩ := Q7
      have N7 := Fr.app N6 Nq7
      have ne7_8 : ¬ (a1 = w7) := Nat.ne_of_lt (Nat.lt_of_lt_of_le E_a1_2.lt sz7_w)
      have ne7_9 : ¬ (v1_ = w7) := Nat.ne_of_lt (Nat.lt_of_lt_of_le E_v1__2.lt sz7_w)
      have ne7_10 : ¬ (w2 = w7) := Nat.ne_of_lt (Nat.lt_of_lt_of_le P2_4.lt sz7_w)
      have FX_7 := FX_keep FX_2 Kq7 ((allS (by obtain ⟨c_, _, h1_, _, _, h2_, _⟩ := E_a1_2; exact ⟨c_, h1_, h2_⟩) all0))
      have E_v1__7 := E_v1__2.keep Kq7
      have V_v1__7 := V_v1__2.keep Kq7 (ninS (Ne.symm ne1v) nin0)
      have P2_4_7 := P2_4.keep Kq7
      have P2_5_7 := P2_5.keep Kq7 (ninS (Ne.symm xp2_2) nin0)
      have Z7 := Nat.le_trans Z2 Kq7.1
      have sz_w7 := Nat.le_trans K2.1 sz7_w
      have K7 := K2.trans Kq7 (allS (Or.inl (List.mem_of_getElem? (i := 0) rfl)) all0)
      subst q7
      show Go p.tables e below _ (T7.setTop (mkF m 56 #[.val (.ref a1), .val (.int p2)] []))
      refine g_aloadN (pc' := 57) C X7 d39_56 rfl rfl rfl ?_
      refine g_getF (pc' := 60) C X7 d39_57 (host := "") (Or.inl (wq hw 56 rfl)) Via.refl rfl P7_1 rfl (fun T11 X11 e11 => ?_)
      refine g_aloadN (pc' := 61) C X11 d39_60 rfl rfl rfl ?_
      refine g_dup (pc' := 62) C X11 d39_61 rfl rfl ?_
      refine g_getF (pc' := 65) C X11 d39_62 (host := "") (Or.inl (wq hw 86 rfl)) Via.refl e11 P7_3 rfl (fun T12 X12 e12 => ?_)
      refine g_dupX1 (pc' := 66) C X12 d39_65 rfl rfl rfl ?_
      refine g_iconst (pc' := 67) (v := (1 : Int32)) C X12 d39_66 rfl rfl ?_
      refine g_iadd (pc' := 68) C X12 d39_67 rfl ?_
      refine g_putF (pc' := 71) C X12 d39_68 (host := "") (Or.inl (wq hw 86 rfl)) Via.refl e12 P7_3 P7_0 (Or.inl (wq hw 87 rfl)) (wq hw 32 rfl) (ty := .int) (by decide) rfl rfl rfl (fun T13 h13 X13 e13 W13 => ?_)
      have F13 := P7_3.same W13
      have FX_13 := FX_wr FX_7 W13
      have E_v1__13 := E_v1__7.wr W13
      have V_v1__13 := V_v1__7.other W13 (Ne.symm ne1v)
      have P2_4_13 := P2_4_7.wr W13
      have P2_5_13 := P2_5_7.other W13 (Ne.symm xp2_2)
      have P7_0_13 := P7_0.wr W13
      have P7_1_13 := P7_1.other W13 (Or.inr (slot_ne (Or.inl (wq hw 57 rfl)) (Or.inl (wq hw 87 rfl)) (by decide) (t := (.array .byte)) (t' := .int) (by decide) (by decide)))
      have P7_2_13 := P7_2.other W13 (Or.inr (slot_ne (Or.inl (wq hw 280 rfl)) (Or.inl (wq hw 87 rfl)) (by decide) (t := .boolean) (t' := .int) (by decide) (by decide)))
      have P7_4_13 := P7_4.other W13 (Or.inr (slot_ne (Or.inl (wq hw 59 rfl)) (Or.inl (wq hw 87 rfl)) (by decide) (t := .byte) (t' := .int) (by decide) (by decide)))
      have P7_5_13 := P7_5.other W13 (Ne.symm ne7_8)
      have P7_6_13 := P7_6.wr W13
      have Z13 := Nat.le_trans Z7 (Nat.le_of_eq W13.size.symm)
      have N13 := Fr.snoc X13 N7 gn_a1
      have K13 := K7.wr W13 (Or.inl (List.mem_of_getElem? (i := 0) rfl))
      refine g_iloadN (pc' := 72) C X13 d39_71 rfl rfl ?_
      refine g_callS (y := (⟨"java/lang/StringUTF16", "putCharSB", "([BII)V"⟩ : MethodName)) (argsL := [(.ref w7), (.int n), (.int p2)]) (st := []) (pc' := 75) C X13 d39_72 (wq hw 275 rfl) (wq hw 276 rfl) (wq hw 112 rfl) (wq hw 277 rfl) (by decide) (rmusb l Z a0 hw [] w7 n p2 kw7 (z22 + z22) (own_u xs) cs_ fm h13 n0 Z13 FX_13 P7_5_13 hbz_.1 hbz_.2.1 hbz_.2.2.1 hbz_.2.2.2.1 hn0_ hbz_.2.2.2.2 gn_w7) (W := 0) (by decide) (by decide) (ce := 2) (sl := 80) rfl rfl (by decide) (by decide) rfl e13 rfl pd_14 rfl (Nat.le_refl _) rfl (fun rv14 T14 L14 X14 Q14 => ?_)
      obtain ⟨q14, Nq14, Kq14, P14_0⟩ := Q14
      have N14 := Fr.app N13 Nq14
      have FX_14 := FX_keep FX_13 Kq14 ((allS (by obtain ⟨c_, A_, _⟩ := P7_5_13; exact ⟨c_, A_.1, A_.plain⟩) all0))
      have E_v1__14 := E_v1__13.keep Kq14
      have V_v1__14 := V_v1__13.keep Kq14 (ninS ne7_9 nin0)
      have P2_4_14 := P2_4_13.keep Kq14
      have P2_5_14 := P2_5_13.keep Kq14 (ninS ne7_10 nin0)
      have P7_0_14 := P7_0_13.keep Kq14
      have P7_1_14 := P7_1_13.keep Kq14 (ninS ne7_8 nin0)
      have P7_2_14 := P7_2_13.keep Kq14 (ninS ne7_8 nin0)
      have P7_4_14 := P7_4_13.keep Kq14 (ninS ne7_8 nin0)
      have P7_6_14 := P7_6_13.keep Kq14
      have F13_14 := F13.keep Kq14 (ninS ne7_8 nin0)
      have Z14 := Nat.le_trans Z13 Kq14.1
      have K14 := K13.trans Kq14 (allS (Or.inr sz_w7) all0)
      subst q14
      show Go p.tables e below _ (T14.setTop (mkF m 75 #[.val (.ref a1), .val (.int p2)] []))
      refine g_aloadN (pc' := 76) C X14 d39_75 rfl rfl rfl ?_
      exact g_retA C X14 rfl rfl rfl d39_76 (by decide) (by decide) ⟨w7, z22, rfl, N14, K14, ⟨own_len_snoc hlt, own_all_snoc hx_a1 hp, P7_0_14, P7_1_14, P7_2_14, P7_6_14, ⟨by rw [List.length_append, List.length_singleton]; omega, hc20⟩, _, _, own_n_snoc hne hlt, F13_14, Or.inr ⟨P7_4_14, own_pw P14_0 (own_put_snoc (by omega) (by omega) (by rw [hne]; exact (own_ntn hl_a1).symm) (fun _ => rfl))⟩⟩, fun _ l _ => Nat.ne_of_lt (Nat.lt_of_lt_of_le l sz_w7), gn_w7, ne7_8⟩
    · rw [Fcan_l1 p2 c5] at q4
      subst q4
      show Go p.tables e below _ (T4.setTop (mkF m 21 #[.val (.ref a1), .val (.int p2)] [(.int (1 : Int32))]))
      refine g_ifN (pc' := 24) C X4 d39_21 (feq (show ¬ ((1 : Int32) = (0 : Int32)) from (by decide))).1 rfl ?_
      refine g_aloadN (pc' := 25) C X4 d39_24 rfl rfl rfl ?_
      refine g_getF (pc' := 28) C X4 d39_25 (host := "") (Or.inl (wq hw 56 rfl)) Via.refl e4 P2_0 rfl (fun T15 X15 e15 => ?_)
      refine g_aloadN (pc' := 29) C X15 d39_28 rfl rfl rfl ?_
      refine g_dup (pc' := 30) C X15 d39_29 rfl rfl ?_
      refine g_getF (pc' := 33) C X15 d39_30 (host := "") (Or.inl (wq hw 86 rfl)) Via.refl e15 P2_2 rfl (fun T16 X16 e16 => ?_)
      refine g_dupX1 (pc' := 34) C X16 d39_33 rfl rfl rfl ?_
      refine g_iconst (pc' := 35) (v := (1 : Int32)) C X16 d39_34 rfl rfl ?_
      refine g_iadd (pc' := 36) C X16 d39_35 rfl ?_
      refine g_putF (pc' := 39) C X16 d39_36 (host := "") (Or.inl (wq hw 86 rfl)) Via.refl e16 P2_2 E_a1_2 (Or.inl (wq hw 87 rfl)) (wq hw 32 rfl) (ty := .int) (by decide) rfl rfl rfl (fun T17 h17 X17 e17 W17 => ?_)
      have F17 := P2_2.same W17
      have FX_17 := FX_wr FX_2 W17
      have E_a1_17 := E_a1_2.wr W17
      have E_v1__17 := E_v1__2.wr W17
      have V_v1__17 := V_v1__2.other W17 (Ne.symm ne1v)
      have P2_0_17 := P2_0.other W17 (Or.inr (slot_ne (Or.inl (wq hw 57 rfl)) (Or.inl (wq hw 87 rfl)) (by decide) (t := (.array .byte)) (t' := .int) (by decide) (by decide)))
      have P2_1_17 := P2_1.other W17 (Or.inr (slot_ne (Or.inl (wq hw 280 rfl)) (Or.inl (wq hw 87 rfl)) (by decide) (t := .boolean) (t' := .int) (by decide) (by decide)))
      have P2_3_17 := P2_3.other W17 (Or.inr (slot_ne (Or.inl (wq hw 59 rfl)) (Or.inl (wq hw 87 rfl)) (by decide) (t := .byte) (t' := .int) (by decide) (by decide)))
      have P2_4_17 := P2_4.wr W17
      have P2_5_17 := P2_5.other W17 (Ne.symm xp2_2)
      have Z17 := Nat.le_trans Z2 (Nat.le_of_eq W17.size.symm)
      have N17 := Fr.snoc X17 N4 gn_a1
      have K17 := K2.wr W17 (Or.inl (List.mem_of_getElem? (i := 0) rfl))
      refine g_iloadN (pc' := 40) C X17 d39_39 rfl rfl ?_
      refine g_i2b (pc' := 41) C X17 d39_40 rfl ?_
      refine g_stB (pc' := 42) (i := n.toNatClampNeg) C X17 d39_41 e17 (P2_5_17.pad (pad_rep _ _ (n.toNatClampNeg + 1))) ⟨hn0_, hnz_⟩ rfl own_lts rfl (fun T18 h18 X18 e18 W18 V18q => ?_)
      have V18 : Arv Z h18 w2 kw2 .byte z22 (own_vl (own_s (own_lat xs) n (nar .byte p2.toInt8.toInt32))) (.int (0 : Int32)) := own_vl_set _ _ _ ▸ V18q
      have FX_18 := FX_wr FX_17 W18
      have E_a1_18 := E_a1_17.wr W18
      have E_v1__18 := E_v1__17.wr W18
      have P2_0_18 := P2_0_17.other W18 (Or.inl xp2_2)
      have P2_1_18 := P2_1_17.other W18 (Or.inl xp2_2)
      have P2_3_18 := P2_3_17.other W18 (Or.inl xp2_2)
      have P2_4_18 := P2_4_17.wr W18
      have F17_18 := F17.other W18 (Or.inl xp2_2)
      have Z18 := Nat.le_trans Z17 (Nat.le_of_eq W18.size.symm)
      have N18 := Fr.snoc X18 N17 gn_w2
      have K18 := K17.wr W18 (own_mm xp2_0 (List.mem_of_getElem? (i := 1) rfl))
      refine g_goto (pc' := 75) C X18 d39_42 (by decide) (by decide) ?_
      refine g_aloadN (pc' := 76) C X18 d39_75 rfl rfl rfl ?_
      exact g_retA C X18 rfl rfl rfl d39_76 (by decide) (by decide) ⟨w2, z22, rfl, N18, (by rw [e18]; exact K18), (by rw [e18]; exact ⟨own_len_snoc hlt, own_all_snoc hx_a1 hp, E_a1_18, P2_0_18, P2_1_18, P2_4_18, ⟨by rw [List.length_append, List.length_singleton]; omega, hc20⟩, _, _, own_n_snoc hne hlt, F17_18, Or.inl ⟨P2_3_18, own_all_snoc hy_a1 c5, own_pw V18 (own_lat_sn (by rw [hne]; exact (own_ntn hl_a1).symm) (fun _ => rfl))⟩⟩), xp2_0, xp2_1, xp2_2⟩
  · have hnB := own_nB hne hl_a1
    have hnL : n.toInt = (xs.length : Int) := by rw [hne, own_nI hl_a1]
    refine g_aloadN (pc' := 1) C X0 d39_0 rfl rfl rfl ?_
    refine g_aloadN (pc' := 2) C X0 d39_1 rfl rfl rfl ?_
    refine g_getF (pc' := 5) C X0 d39_2 (host := "") (Or.inl (wq hw 86 rfl)) Via.refl e0 Fn_a1 rfl (fun T19 X19 e19 => ?_)
    refine g_iconst (pc' := 6) (v := (1 : Int32)) C X19 d39_5 rfl rfl ?_
    refine g_iadd (pc' := 7) C X19 d39_6 rfl ?_
    have hin : (n + (1 : Int32)).toInt = n.toInt + 1 := own_nk1 hnB
    refine g_callQ (b := a1) (y := (⟨"java/lang/AbstractStringBuilder", "ensureCapacityInternal", "(I)V"⟩ : MethodName)) (argsL := [(.int (n + (1 : Int32)))]) (st := []) (pc' := 10) C X19 d39_7 (wq hw 153 rfl) (wq hw 154 rfl) (wq hw 155 rfl) (wq hw 52 rfl) (wq hw 156 rfl) (wq hw 157 rfl) (by decide) (rmens1 l Z a0 hw [] a1 (n + (1 : Int32)) v1_ k_a1 z (own_u xs) n cs_ fm h0 n0 Z0 hF E_a1 Fv_a1 Fm_a1 Fn_a1 Fc_a1 E_v1_ V_v1_ gn_a1 gn_v1_ ne1v (by have := hz_a1.1; omega) hz_a1.2 (by have := hz_a1.1; omega) (by omega) (by omega) (own_hzu hz_a1.1 hz_a1.2)) (W := 0) (by decide) (by decide) (ce := 1) (sl := 40) rfl rfl (by decide) (by decide) rfl E_a1 e19 rfl pd_7 rfl (Nat.le_refl _) rfl (fun rv20 T20 L20 X20 Q20 => ?_)
    obtain ⟨w20, kw20, z220, q20, Nq20, Kq20, P20_0, P20_1, P20_2, P20_3, P20_4, P20_5, xp20_0, xp20_1, xp20_2, xp20_3, xp20_4⟩ := Q20
    have N20 := Fr.app N0 Nq20
    have gn_w20 := xp20_1
    have FX_20 := FX_keep hF Kq20 ((allS (by obtain ⟨c_, _, h1_, _, _, h2_, _⟩ := E_a1; exact ⟨c_, h1_, h2_⟩) all0))
    have E_a1_20 := E_a1.keep Kq20
    have E_v1__20 := E_v1_.keep Kq20
    have V_v1__20 := V_v1_.keep Kq20 (ninS (Ne.symm ne1v) nin0)
    have Z20 := Nat.le_trans Z0 Kq20.1
    have K20 := K0.trans Kq20 (allS (Or.inl (List.mem_of_getElem? (i := 0) rfl)) all0)
    subst q20
    show Go p.tables e below _ (T20.setTop (mkF m 10 #[.val (.ref a1), .val (.int p2)] []))
    have hcz : n.toInt + 1 ≤ z220.toInt := by rw [← hin]; exact xp20_3
    have hc20 : z220.toInt ≤ 20 := xp20_4
    have hn0_ : ¬ (n < (0 : Int32)) := own_nlt hnB.1
    have hnz_ : n < z220 := own_lt.mpr (by omega)
    have hbz_ := own_hbn (n := z220) (p := n) (by omega) (by omega) hn0_ hnz_
    have hlz_ : (xs.length : Int) ≤ z220.toInt := by omega
    refine g_aloadN (pc' := 11) C X20 d39_10 rfl rfl rfl ?_
    refine g_callV (b := a1) (z := (⟨"java/lang/AbstractStringBuilder", "isLatin1", "()Z"⟩ : MethodName)) (y := (⟨"java/lang/AbstractStringBuilder", "isLatin1", "()Z"⟩ : MethodName)) (argsL := []) (st := []) (pc' := 14) C X20 d39_11 (wq hw 210 rfl) (wq hw 89 rfl) (notFace_of_selects (args := #[]) (mvT C.hZ (wq hw 91 rfl))) (wq hw 91 rfl) (wq hw 90 rfl) (wq hw 52 rfl) (wq hw 92 rfl) (by decide) (rmasl1 l Z a0 hw [] a1 cs_ fm T20.heap n0 FX_20 P20_3) (W := 0) (by decide) (by decide) (ce := 1) (sl := 40) rfl rfl (by decide) (by decide) rfl E_a1_20 rfl rfl pd_6 rfl (Nat.le_refl _) rfl (fun rv21 T21 L21 X21 Q21 => ?_)
    obtain ⟨q21, Nq21, e21⟩ := Q21
    have N21 := Fr.app N20 Nq21
    rw [Fasl1_l0 ] at q21
    subst q21
    show Go p.tables e below _ (T21.setTop (mkF m 14 #[.val (.ref a1), .val (.int p2)] [(.int (0 : Int32))]))
    refine g_ifY (pc' := 45) C X21 d39_14 (teq (show (0 : Int32) = (0 : Int32) from (by decide))).1 (by decide) (by decide) ?_
    refine g_aloadN (pc' := 46) C X21 d39_45 rfl rfl rfl ?_
    refine g_callV (b := a1) (z := (⟨"java/lang/AbstractStringBuilder", "isLatin1", "()Z"⟩ : MethodName)) (y := (⟨"java/lang/AbstractStringBuilder", "isLatin1", "()Z"⟩ : MethodName)) (argsL := []) (st := []) (pc' := 49) C X21 d39_46 (wq hw 210 rfl) (wq hw 89 rfl) (notFace_of_selects (args := #[]) (mvT C.hZ (wq hw 91 rfl))) (wq hw 91 rfl) (wq hw 90 rfl) (wq hw 52 rfl) (wq hw 92 rfl) (by decide) (rmasl1 l Z a0 hw [] a1 cs_ fm T20.heap n0 FX_20 P20_3) (W := 0) (by decide) (by decide) (ce := 1) (sl := 40) rfl rfl (by decide) (by decide) rfl E_a1_20 e21 rfl pd_6 rfl (Nat.le_refl _) rfl (fun rv22 T22 L22 X22 Q22 => ?_)
    obtain ⟨q22, Nq22, e22⟩ := Q22
    have N22 := Fr.app N21 Nq22
    rw [Fasl1_l0 ] at q22
    subst q22
    show Go p.tables e below _ (T22.setTop (mkF m 49 #[.val (.ref a1), .val (.int p2)] [(.int (0 : Int32))]))
    refine g_ifY (pc' := 56) C X22 d39_49 (teq (show (0 : Int32) = (0 : Int32) from (by decide))).1 (by decide) (by decide) ?_
    refine g_aloadN (pc' := 57) C X22 d39_56 rfl rfl rfl ?_
    refine g_getF (pc' := 60) C X22 d39_57 (host := "") (Or.inl (wq hw 56 rfl)) Via.refl e22 P20_0 rfl (fun T23 X23 e23 => ?_)
    refine g_aloadN (pc' := 61) C X23 d39_60 rfl rfl rfl ?_
    refine g_dup (pc' := 62) C X23 d39_61 rfl rfl ?_
    refine g_getF (pc' := 65) C X23 d39_62 (host := "") (Or.inl (wq hw 86 rfl)) Via.refl e23 P20_2 rfl (fun T24 X24 e24 => ?_)
    refine g_dupX1 (pc' := 66) C X24 d39_65 rfl rfl rfl ?_
    refine g_iconst (pc' := 67) (v := (1 : Int32)) C X24 d39_66 rfl rfl ?_
    refine g_iadd (pc' := 68) C X24 d39_67 rfl ?_
    refine g_putF (pc' := 71) C X24 d39_68 (host := "") (Or.inl (wq hw 86 rfl)) Via.refl e24 P20_2 E_a1_20 (Or.inl (wq hw 87 rfl)) (wq hw 32 rfl) (ty := .int) (by decide) rfl rfl rfl (fun T25 h25 X25 e25 W25 => ?_)
    have F25 := P20_2.same W25
    have FX_25 := FX_wr FX_20 W25
    have E_a1_25 := E_a1_20.wr W25
    have E_v1__25 := E_v1__20.wr W25
    have V_v1__25 := V_v1__20.other W25 (Ne.symm ne1v)
    have P20_0_25 := P20_0.other W25 (Or.inr (slot_ne (Or.inl (wq hw 57 rfl)) (Or.inl (wq hw 87 rfl)) (by decide) (t := (.array .byte)) (t' := .int) (by decide) (by decide)))
    have P20_1_25 := P20_1.other W25 (Or.inr (slot_ne (Or.inl (wq hw 280 rfl)) (Or.inl (wq hw 87 rfl)) (by decide) (t := .boolean) (t' := .int) (by decide) (by decide)))
    have P20_3_25 := P20_3.other W25 (Or.inr (slot_ne (Or.inl (wq hw 59 rfl)) (Or.inl (wq hw 87 rfl)) (by decide) (t := .byte) (t' := .int) (by decide) (by decide)))
    have P20_4_25 := P20_4.wr W25
    have P20_5_25 := P20_5.other W25 (Ne.symm xp20_2)
    have Z25 := Nat.le_trans Z20 (Nat.le_of_eq W25.size.symm)
    have N25 := Fr.snoc X25 N22 gn_a1
    have K25 := K20.wr W25 (Or.inl (List.mem_of_getElem? (i := 0) rfl))
    refine g_iloadN (pc' := 72) C X25 d39_71 rfl rfl ?_
    refine g_callS (y := (⟨"java/lang/StringUTF16", "putCharSB", "([BII)V"⟩ : MethodName)) (argsL := [(.ref w20), (.int n), (.int p2)]) (st := []) (pc' := 75) C X25 d39_72 (wq hw 275 rfl) (wq hw 276 rfl) (wq hw 112 rfl) (wq hw 277 rfl) (by decide) (rmusb l Z a0 hw [] w20 n p2 kw20 (z220 + z220) (own_u xs) cs_ fm h25 n0 Z25 FX_25 P20_5_25 hbz_.1 hbz_.2.1 hbz_.2.2.1 hbz_.2.2.2.1 hn0_ hbz_.2.2.2.2 gn_w20) (W := 0) (by decide) (by decide) (ce := 1) (sl := 40) rfl rfl (by decide) (by decide) rfl e25 rfl pd_14 rfl (Nat.le_refl _) rfl (fun rv26 T26 L26 X26 Q26 => ?_)
    obtain ⟨q26, Nq26, Kq26, P26_0⟩ := Q26
    have N26 := Fr.app N25 Nq26
    have FX_26 := FX_keep FX_25 Kq26 ((allS (by obtain ⟨c_, A_, _⟩ := P20_5_25; exact ⟨c_, A_.1, A_.plain⟩) all0))
    have E_a1_26 := E_a1_25.keep Kq26
    have E_v1__26 := E_v1__25.keep Kq26
    have P20_0_26 := P20_0_25.keep Kq26 (ninS xp20_2 nin0)
    have P20_1_26 := P20_1_25.keep Kq26 (ninS xp20_2 nin0)
    have P20_3_26 := P20_3_25.keep Kq26 (ninS xp20_2 nin0)
    have P20_4_26 := P20_4_25.keep Kq26
    have F25_26 := F25.keep Kq26 (ninS xp20_2 nin0)
    have Z26 := Nat.le_trans Z25 Kq26.1
    have K26 := K25.trans Kq26 (allS (own_mm xp20_0 (List.mem_of_getElem? (i := 1) rfl)) all0)
    subst q26
    show Go p.tables e below _ (T26.setTop (mkF m 75 #[.val (.ref a1), .val (.int p2)] []))
    refine g_aloadN (pc' := 76) C X26 d39_75 rfl rfl rfl ?_
    exact g_retA C X26 rfl rfl rfl d39_76 (by decide) (by decide) ⟨w20, z220, rfl, N26, K26, ⟨own_len_snoc hlt, own_all_snoc hx_a1 hp, E_a1_26, P20_0_26, P20_1_26, P20_4_26, ⟨by rw [List.length_append, List.length_singleton]; omega, hc20⟩, _, _, own_n_snoc hne hlt, F25_26, Or.inr ⟨P20_3_26, own_pw P26_0 (own_put_snoc (by omega) (by omega) (by rw [hne]; exact (own_ntn hl_a1).symm) (fun _ => rfl))⟩⟩, xp20_0, xp20_1, xp20_2⟩
theorem d38_0 : decode jdk_67_method_14_code 0 = .ok (.aload_n 0, 1) := by decide +kernel
theorem d38_1 : decode jdk_67_method_14_code 1 = .ok (.iload_n 1, 1) := by decide +kernel
theorem d38_2 : decode jdk_67_method_14_code 2 = .ok (.invokespecial 50, 3) := by decide +kernel
theorem pd_19 : parseMethodDescriptor "(C)Ljava/lang/AbstractStringBuilder;" = some ⟨[.char], some (.object "java/lang/AbstractStringBuilder")⟩ := by decide +kernel
theorem d38_5 : decode jdk_67_method_14_code 5 = .ok (.pop, 1) := by decide +kernel
theorem d38_6 : decode jdk_67_method_14_code 6 = .ok (.aload_n 0, 1) := by decide +kernel
theorem d38_7 : decode jdk_67_method_14_code 7 = .ok (.areturn, 1) := by decide +kernel
theorem ef_aps (m : MethodId) (a1 : Addr) (p2 : Int32) : entryFrame m #[(.ref a1), (.int p2)] 2 = mkF m 0 #[.val (.ref a1), .val (.int p2)] [] := by first | (simp [entryFrame, mkF, argsToLocals, Value.category]; done) | rfl
def Q_aps (Z : State) (a1 : Addr) (p2 : Int32) (v1_ : Addr) (z : Int32) (xs : List Int32) (cs_ : Int32) (fm : Value) (h0 : Heap) (n0 : Nat) (vr : Option Value) (h : Heap) (L : List Loc) : Prop := ∃ w : Addr, ∃ z2 : Int32, (vr = some (.ref a1)) ∧ (Fr n0 L) ∧ (Keep h0 h [a1, v1_]) ∧ (Bld Z h a1 w z2 (xs ++ [p2])) ∧ (∀ o : Addr, o < h0.size → ¬ (o = v1_) → ¬ (o = w)) ∧ (n0 ≤ w) ∧ (¬ (a1 = w))
set_option maxRecDepth 65536 in
set_option maxHeartbeats 40000000 in
theorem rmaps (l : Launch) (Z : State) (a0 : Array Value) (hw : ∀ d ∈ tables_1, d.before a0 Z = true) (ws : List Jvm.Cond) (a1 : Addr) (p2 : Int32) (v1_ : Addr) (z : Int32) (xs : List Int32) (cs_ : Int32) (fm : Value) (h0 : Heap) (n0 : Nat) (Z0 : n0 ≤ h0.size) (hF : FX Z h0 cs_ fm) (hB : Bld Z h0 a1 v1_ z xs) (hlt : xs.length < 8) (gn_a1 : n0 ≤ a1) (gn_v1_ : n0 ≤ v1_) (ne1v : ¬ (a1 = v1_)) (hp : own_ch p2) :
    MetFree l (⟨"java/lang/StringBuilder", "append", "(C)Ljava/lang/StringBuilder;"⟩ : MethodName) (head1 (Jvm.Cond.code (⟨"java/lang/StringBuilder", "append", "(C)Ljava/lang/StringBuilder;"⟩ : MethodName) jdk_67_method_14_code 2 (some (.object "java/lang/StringBuilder")) :: ws) ({ frames := 7, cells := 2, slots := 80, locals := 102 } : Room)) (fun a U => a = #[(.ref a1), (.int p2)] ∧ Z.Warmed39 U.vm ∧ U.heap = h0) (fun _ _ _ _ _ => True) (fun _ U o U' => ∃ v L, o = .returned v ∧ Q_aps Z a1 p2 v1_ z xs cs_ fm h0 n0 v U'.heap L ∧ FrameEnd U o U' L ({ frames := 7, cells := 2, slots := 80, locals := 102 } : Room).cells ({ frames := 7, cells := 2, slots := 80, locals := 102 } : Room).slots) := by
  refine met_of (Ls := #[.val (.ref a1), .val (.int p2)]) (plainFor_of_name (by first | (simp [plainName, overriddenIn]; done) | decide +kernel)) (fun m => ef_aps m a1 p2) ?_
  intro p e s m below meth c T0 C X0 e0
  obtain ⟨S_cs, hcs, S_fm, hfm, S_ad, S_hi, S_lo⟩ := id hF
  have N0 := Fr.nil n0
  have K0 : Keep h0 h0 [a1, v1_] := Keep.refl h0 _
  refine g_aloadN (pc' := 1) C X0 d38_0 rfl rfl rfl ?_
  refine g_iloadN (pc' := 2) C X0 d38_1 rfl rfl ?_
  refine g_callU (b := a1) (y := (⟨"java/lang/AbstractStringBuilder", "append", "(C)Ljava/lang/AbstractStringBuilder;"⟩ : MethodName)) (argsL := [(.int p2)]) (st := []) (pc' := 5) C X0 d38_2 (wq hw 206 rfl) (wq hw 207 rfl) (own_nface (wq hw 75 rfl) rfl rfl (State.Warmed39.refl _)) (wq hw 84 rfl) (by decide) (wq hw 52 rfl) (wq hw 209 rfl) (by decide) (rmapa l Z a0 hw [] a1 p2 v1_ z xs cs_ fm h0 n0 Z0 hF hB hlt gn_a1 gn_v1_ ne1v hp) (W := 0) (by decide) (by decide) (ce := 2) (sl := 80) rfl rfl (by decide) (by decide) rfl (Bld_exa hB) e0 rfl pd_19 rfl (Nat.le_refl _) rfl (fun rv1 T1 L1 X1 Q1 => ?_)
  obtain ⟨w1, z21, q1, Nq1, Kq1, P1_0, xp1_0, xp1_1, xp1_2⟩ := Q1
  have N1 := Fr.app N0 Nq1
  have gn_w1 := xp1_1
  have FX_1 := FX_keep hF Kq1 ((allS (Bld_pl0 hB) (allS (Bld_pl1 hB) all0)))
  have Z1 := Nat.le_trans Z0 Kq1.1
  have K1 := K0.trans Kq1 (allS (Or.inl (List.mem_of_getElem? (i := 0) rfl)) (allS (Or.inl (List.mem_of_getElem? (i := 1) rfl)) all0))
  subst q1
  show Go p.tables e below _ (T1.setTop (mkF m 5 #[.val (.ref a1), .val (.int p2)] [(.ref a1)]))
  refine g_pop (pc' := 6) C X1 d38_5 rfl rfl ?_
  refine g_aloadN (pc' := 7) C X1 d38_6 rfl rfl rfl ?_
  exact g_retA C X1 rfl rfl rfl d38_7 (by decide) (by decide) ⟨w1, z21, rfl, N1, K1, P1_0, xp1_0, xp1_1, xp1_2⟩
def Fsl2  : Int32 := (2 : Int32)
theorem Fsl2_l0   : Fsl2  = (2 : Int32) := rfl
theorem ef_sl2 (m : MethodId) (a1 : Addr) : entryFrame m #[(.ref a1)] 1 = mkF m 0 #[.val (.ref a1)] [] := by first | (simp [entryFrame, mkF, argsToLocals, Value.category]; done) | rfl
def Q_sl2 (Z : State) (a1 : Addr) (b2 : Addr) (kb : ClassId) (y0 : Int32) (y1 : Int32) (cs_ : Int32) (fm : Value) (h0 : Heap) (n0 : Nat) (v : Option Value) (h : Heap) (L : List Loc) : Prop := v = some (.int (Fsl2 )) ∧ Fr n0 L ∧ h = h0
set_option maxRecDepth 65536 in
set_option maxHeartbeats 40000000 in
theorem rmsl2 (l : Launch) (Z : State) (a0 : Array Value) (hw : ∀ d ∈ tables_1, d.before a0 Z = true) (ws : List Jvm.Cond) (a1 : Addr) (b2 : Addr) (kb : ClassId) (y0 : Int32) (y1 : Int32) (cs_ : Int32) (fm : Value) (h0 : Heap) (n0 : Nat) (hF : FX Z h0 cs_ fm) (E_a1 : Exa Z h0 a1 "java/lang/String") (Fv_a1 : Fld Z h0 a1 "java/lang/String" "value" "[B" (.ref b2)) (Fc_a1 : Fld Z h0 a1 "java/lang/String" "coder" "B" (.int (0 : Int32))) (V_l : Arv Z h0 b2 kb .byte (2 : Int32) [(.int y0), (.int y1)] (.int (0 : Int32))) :
    MetFree l (⟨"java/lang/String", "length", "()I"⟩ : MethodName) (head1 (Jvm.Cond.code (⟨"java/lang/String", "length", "()I"⟩ : MethodName) jdk_42_method_54_code 1 (some .int) :: ws) ({ frames := 1, cells := 0, slots := 0, locals := 13 } : Room)) (fun a U => a = #[(.ref a1)] ∧ Z.Warmed39 U.vm ∧ U.heap = h0) (fun _ _ _ _ _ => True) (fun _ U o U' => ∃ v L, o = .returned v ∧ Q_sl2 Z a1 b2 kb y0 y1 cs_ fm h0 n0 v U'.heap L ∧ FrameEnd U o U' L ({ frames := 1, cells := 0, slots := 0, locals := 13 } : Room).cells ({ frames := 1, cells := 0, slots := 0, locals := 13 } : Room).slots) := by
  refine met_of (Ls := #[.val (.ref a1)]) (plainFor_of_name (by first | (simp [plainName, overriddenIn]; done) | decide +kernel)) (fun m => ef_sl2 m a1) ?_
  intro p e s m below meth c T0 C X0 e0
  obtain ⟨S_cs, hcs, S_fm, hfm, S_ad, S_hi, S_lo⟩ := id hF
  have N0 := Fr.nil n0
  refine g_aloadN (pc' := 1) C X0 d6_0 rfl rfl rfl ?_
  refine g_getF (pc' := 4) C X0 d6_1 (host := "") (Or.inl (wq hw 25 rfl)) Via.refl e0 Fv_a1 rfl (fun T1 X1 e1 => ?_)
  refine g_len (pc' := 5) C X1 d6_4 e1 V_l rfl ?_
  refine g_aloadN (pc' := 6) C X1 d6_5 rfl rfl rfl ?_
  refine g_callV (b := a1) (z := (⟨"java/lang/String", "coder", "()B"⟩ : MethodName)) (y := (⟨"java/lang/String", "coder", "()B"⟩ : MethodName)) (argsL := []) (st := [(.int (2 : Int32))]) (pc' := 9) C X1 d6_6 (wq hw 39 rfl) (wq hw 40 rfl) (notFace_of_selects (args := #[]) (mvT C.hZ (wq hw 42 rfl))) (wq hw 42 rfl) (wq hw 41 rfl) (wq hw 8 rfl) (wq hw 43 rfl) (by decide) (rmcod0 l Z a0 hw [] a1 cs_ fm h0 n0 hF Fc_a1) (W := 1) (by decide) (by decide) (ce := 0) (sl := 0) rfl rfl (by decide) (by decide) rfl E_a1 e1 rfl pd_5 rfl (Nat.le_refl _) rfl (fun rv2 T2 L2 X2 Q2 => ?_)
  obtain ⟨q2, Nq2, e2⟩ := Q2
  have N2 := Fr.app N0 Nq2
  rw [Fcod0_l0 ] at q2
  subst q2
  show Go p.tables e below _ (T2.setTop (mkF m 9 #[.val (.ref a1)] [(.int (0 : Int32)), (.int (2 : Int32))]))
  refine g_ishr (pc' := 10) C X2 d6_9 rfl ?_
  refine own_cast (congrArg (fun z_c => T2.setTop (mkF m 10 #[.val (.ref a1)] (.int z_c :: []))) (show ((2 : Int32) >>> ((0 : Int32) &&& 31)) = (2 : Int32) from by decide)) ?_
  exact g_retI C X2 d6_10 (by decide) (by decide) ⟨congrArg (fun z => some (Value.int z)) (Fsl2_l0  ).symm, N2, e2⟩
theorem d31_0 : decode jdk_68_method_71_code 0 = .ok (.getstatic 18, 3) := by decide +kernel
theorem d31_3 : decode jdk_68_method_71_code 3 = .ok (.ifCond .eq 18, 3) := by decide +kernel
theorem d31_6 : decode jdk_68_method_71_code 6 = .ok (.aload_n 0, 1) := by decide +kernel
theorem d31_7 : decode jdk_68_method_71_code 7 = .ok (.getfield 22, 3) := by decide +kernel
theorem d31_10 : decode jdk_68_method_71_code 10 = .ok (.aload_n 1, 1) := by decide +kernel
theorem d31_11 : decode jdk_68_method_71_code 11 = .ok (.invokevirtual 40, 3) := by decide +kernel
theorem d31_14 : decode jdk_68_method_71_code 14 = .ok (.if_icmp .eq 7, 3) := by decide +kernel
theorem d31_21 : decode jdk_68_method_71_code 21 = .ok (.return_, 1) := by decide +kernel
theorem ef_iin0 (m : MethodId) (a1 : Addr) (a2 : Addr) : entryFrame m #[(.ref a1), (.ref a2)] 2 = mkF m 0 #[.val (.ref a1), .val (.ref a2)] [] := by first | (simp [entryFrame, mkF, argsToLocals, Value.category]; done) | rfl
def Q_iin0 (Z : State) (a1 : Addr) (a2 : Addr) (b2 : Addr) (cs_ : Int32) (fm : Value) (h0 : Heap) (n0 : Nat) (v : Option Value) (h : Heap) (L : List Loc) : Prop := v = none ∧ Fr n0 L ∧ h = h0
set_option maxRecDepth 65536 in
set_option maxHeartbeats 40000000 in
theorem rmiin0 (l : Launch) (Z : State) (a0 : Array Value) (hw : ∀ d ∈ tables_1, d.before a0 Z = true) (ws : List Jvm.Cond) (a1 : Addr) (a2 : Addr) (b2 : Addr) (cs_ : Int32) (fm : Value) (h0 : Heap) (n0 : Nat) (hF : FX Z h0 cs_ fm) (E_a1 : Exa Z h0 a1 "java/lang/StringBuilder") (Fc_a1 : Fld Z h0 a1 "java/lang/AbstractStringBuilder" "coder" "B" (.int (0 : Int32))) (E_a2 : Exa Z h0 a2 "java/lang/String") (Fv_a2 : Fld Z h0 a2 "java/lang/String" "value" "[B" (.ref b2)) (Fc_a2 : Fld Z h0 a2 "java/lang/String" "coder" "B" (.int (0 : Int32))) :
    MetFree l (⟨"java/lang/AbstractStringBuilder", "inflateIfNeededFor", "(Ljava/lang/String;)V"⟩ : MethodName) (head1 (Jvm.Cond.code (⟨"java/lang/AbstractStringBuilder", "inflateIfNeededFor", "(Ljava/lang/String;)V"⟩ : MethodName) jdk_68_method_71_code 2 none :: ws) ({ frames := 1, cells := 0, slots := 0, locals := 13 } : Room)) (fun a U => a = #[(.ref a1), (.ref a2)] ∧ Z.Warmed39 U.vm ∧ U.heap = h0) (fun _ _ _ _ _ => True) (fun _ U o U' => ∃ v L, o = .returned v ∧ Q_iin0 Z a1 a2 b2 cs_ fm h0 n0 v U'.heap L ∧ FrameEnd U o U' L ({ frames := 1, cells := 0, slots := 0, locals := 13 } : Room).cells ({ frames := 1, cells := 0, slots := 0, locals := 13 } : Room).slots) := by
  refine met_of (Ls := #[.val (.ref a1), .val (.ref a2)]) (plainFor_of_name (by first | (simp [plainName, overriddenIn]; done) | decide +kernel)) (fun m => ef_iin0 m a1 a2) ?_
  intro p e s m below meth c T0 C X0 e0
  obtain ⟨S_cs, hcs, S_fm, hfm, S_ad, S_hi, S_lo⟩ := id hF
  have N0 := Fr.nil n0
  refine g_getS (pc' := 3) C X0 d31_0 (host := "") (Or.inl (wq hw 55 rfl)) Via.refl e0 S_cs rfl (fun T1 X1 e1 => ?_)
  refine g_ifN (pc' := 6) C X1 d31_3 (feq hcs).1 rfl ?_
  refine g_aloadN (pc' := 7) C X1 d31_6 rfl rfl rfl ?_
  refine g_getF (pc' := 10) C X1 d31_7 (host := "") (Or.inl (wq hw 58 rfl)) Via.refl e1 Fc_a1 rfl (fun T2 X2 e2 => ?_)
  refine g_aloadN (pc' := 11) C X2 d31_10 rfl rfl rfl ?_
  refine g_callV (b := a2) (z := (⟨"java/lang/String", "coder", "()B"⟩ : MethodName)) (y := (⟨"java/lang/String", "coder", "()B"⟩ : MethodName)) (argsL := []) (st := [(.int (0 : Int32))]) (pc' := 14) C X2 d31_11 (wq hw 168 rfl) (wq hw 40 rfl) (notFace_of_selects (args := #[]) (mvT C.hZ (wq hw 42 rfl))) (wq hw 42 rfl) (wq hw 41 rfl) (wq hw 8 rfl) (wq hw 43 rfl) (by decide) (rmcod0 l Z a0 hw [] a2 cs_ fm h0 n0 hF Fc_a2) (W := 1) (by decide) (by decide) (ce := 0) (sl := 0) rfl rfl (by decide) (by decide) rfl E_a2 e2 rfl pd_5 rfl (Nat.le_refl _) rfl (fun rv3 T3 L3 X3 Q3 => ?_)
  obtain ⟨q3, Nq3, e3⟩ := Q3
  have N3 := Fr.app N0 Nq3
  rw [Fcod0_l0 ] at q3
  subst q3
  show Go p.tables e below _ (T3.setTop (mkF m 14 #[.val (.ref a1), .val (.ref a2)] [(.int (0 : Int32)), (.int (0 : Int32))]))
  refine g_icmpY (pc' := 21) C X3 d31_14 (teq (show (0 : Int32) = (0 : Int32) from (by decide))).1 (by decide) (by decide) ?_
  exact g_retV C X3 d31_21 (by decide) (by decide) ⟨rfl, N3, e3⟩
theorem d31_17 : decode jdk_68_method_71_code 17 = .ok (.aload_n 0, 1) := by decide +kernel
theorem d31_18 : decode jdk_68_method_71_code 18 = .ok (.invokevirtual 195, 3) := by decide +kernel
theorem ef_iin1 (m : MethodId) (a1 : Addr) (a2 : Addr) : entryFrame m #[(.ref a1), (.ref a2)] 2 = mkF m 0 #[.val (.ref a1), .val (.ref a2)] [] := by first | (simp [entryFrame, mkF, argsToLocals, Value.category]; done) | rfl
def Q_iin1 (Z : State) (a1 : Addr) (a2 : Addr) (b2 : Addr) (cs_ : Int32) (fm : Value) (h0 : Heap) (n0 : Nat) (v : Option Value) (h : Heap) (L : List Loc) : Prop := v = none ∧ Fr n0 L ∧ h = h0
set_option maxRecDepth 65536 in
set_option maxHeartbeats 40000000 in
theorem rmiin1 (l : Launch) (Z : State) (a0 : Array Value) (hw : ∀ d ∈ tables_1, d.before a0 Z = true) (ws : List Jvm.Cond) (a1 : Addr) (a2 : Addr) (b2 : Addr) (cs_ : Int32) (fm : Value) (h0 : Heap) (n0 : Nat) (hF : FX Z h0 cs_ fm) (E_a1 : Exa Z h0 a1 "java/lang/StringBuilder") (Fc_a1 : Fld Z h0 a1 "java/lang/AbstractStringBuilder" "coder" "B" (.int (1 : Int32))) (E_a2 : Exa Z h0 a2 "java/lang/String") (Fv_a2 : Fld Z h0 a2 "java/lang/String" "value" "[B" (.ref b2)) (Fc_a2 : Fld Z h0 a2 "java/lang/String" "coder" "B" (.int (0 : Int32))) :
    MetFree l (⟨"java/lang/AbstractStringBuilder", "inflateIfNeededFor", "(Ljava/lang/String;)V"⟩ : MethodName) (head1 (Jvm.Cond.code (⟨"java/lang/AbstractStringBuilder", "inflateIfNeededFor", "(Ljava/lang/String;)V"⟩ : MethodName) jdk_68_method_71_code 2 none :: ws) ({ frames := 2, cells := 0, slots := 0, locals := 25 } : Room)) (fun a U => a = #[(.ref a1), (.ref a2)] ∧ Z.Warmed39 U.vm ∧ U.heap = h0) (fun _ _ _ _ _ => True) (fun _ U o U' => ∃ v L, o = .returned v ∧ Q_iin1 Z a1 a2 b2 cs_ fm h0 n0 v U'.heap L ∧ FrameEnd U o U' L ({ frames := 2, cells := 0, slots := 0, locals := 25 } : Room).cells ({ frames := 2, cells := 0, slots := 0, locals := 25 } : Room).slots) := by
  refine met_of (Ls := #[.val (.ref a1), .val (.ref a2)]) (plainFor_of_name (by first | (simp [plainName, overriddenIn]; done) | decide +kernel)) (fun m => ef_iin1 m a1 a2) ?_
  intro p e s m below meth c T0 C X0 e0
  obtain ⟨S_cs, hcs, S_fm, hfm, S_ad, S_hi, S_lo⟩ := id hF
  have N0 := Fr.nil n0
  refine g_getS (pc' := 3) C X0 d31_0 (host := "") (Or.inl (wq hw 55 rfl)) Via.refl e0 S_cs rfl (fun T1 X1 e1 => ?_)
  refine g_ifN (pc' := 6) C X1 d31_3 (feq hcs).1 rfl ?_
  refine g_aloadN (pc' := 7) C X1 d31_6 rfl rfl rfl ?_
  refine g_getF (pc' := 10) C X1 d31_7 (host := "") (Or.inl (wq hw 58 rfl)) Via.refl e1 Fc_a1 rfl (fun T2 X2 e2 => ?_)
  refine g_aloadN (pc' := 11) C X2 d31_10 rfl rfl rfl ?_
  refine g_callV (b := a2) (z := (⟨"java/lang/String", "coder", "()B"⟩ : MethodName)) (y := (⟨"java/lang/String", "coder", "()B"⟩ : MethodName)) (argsL := []) (st := [(.int (1 : Int32))]) (pc' := 14) C X2 d31_11 (wq hw 168 rfl) (wq hw 40 rfl) (notFace_of_selects (args := #[]) (mvT C.hZ (wq hw 42 rfl))) (wq hw 42 rfl) (wq hw 41 rfl) (wq hw 8 rfl) (wq hw 43 rfl) (by decide) (rmcod0 l Z a0 hw [] a2 cs_ fm h0 n0 hF Fc_a2) (W := 1) (by decide) (by decide) (ce := 0) (sl := 0) rfl rfl (by decide) (by decide) rfl E_a2 e2 rfl pd_5 rfl (Nat.le_refl _) rfl (fun rv3 T3 L3 X3 Q3 => ?_)
  obtain ⟨q3, Nq3, e3⟩ := Q3
  have N3 := Fr.app N0 Nq3
  rw [Fcod0_l0 ] at q3
  subst q3
  show Go p.tables e below _ (T3.setTop (mkF m 14 #[.val (.ref a1), .val (.ref a2)] [(.int (0 : Int32)), (.int (1 : Int32))]))
  refine g_icmpN (pc' := 17) C X3 d31_14 (feq (show ¬ ((1 : Int32) = (0 : Int32)) from (by decide))).1 rfl ?_
  refine g_aloadN (pc' := 18) C X3 d31_17 rfl rfl rfl ?_
  refine g_callQ (b := a1) (y := (⟨"java/lang/AbstractStringBuilder", "inflate", "()V"⟩ : MethodName)) (argsL := []) (st := []) (pc' := 21) C X3 d31_18 (wq hw 254 rfl) (wq hw 255 rfl) (wq hw 256 rfl) (wq hw 52 rfl) (wq hw 257 rfl) (wq hw 258 rfl) (by decide) (rminf1 l Z a0 hw [] a1 cs_ fm h0 n0 hF E_a1 Fc_a1) (W := 0) (by decide) (by decide) (ce := 0) (sl := 0) rfl rfl (by decide) (by decide) rfl E_a1 e3 rfl pd_18 rfl (Nat.le_refl _) rfl (fun rv4 T4 L4 X4 Q4 => ?_)
  obtain ⟨q4, Nq4, e4⟩ := Q4
  have N4 := Fr.app N3 Nq4
  subst q4
  show Go p.tables e below _ (T4.setTop (mkF m 21 #[.val (.ref a1), .val (.ref a2)] []))
  exact g_retV C X4 d31_21 (by decide) (by decide) ⟨rfl, N4, e4⟩
theorem own_cp2 {Z : State} {h : Heap} {w : Addr} {k : ClassId} {ty : FieldType} {n : Int32} {lx : List Int32} {y0 y1 p : Int32} (h0 : 0 ≤ p.toInt) (h1 : p.toInt ≤ 1000)
    (A : Arv Z h w k ty n ((own_vl lx ++ List.replicate (p.toNatClampNeg + 2) (Value.int (0 : Int32))).take p.toNatClampNeg ++ [Value.int y0, Value.int y1] ++ (own_vl lx ++ List.replicate (p.toNatClampNeg + 2) (Value.int (0 : Int32))).drop (p.toNatClampNeg + 2)) (Value.int (0 : Int32))) : Arv Z h w k ty n (own_vl (own_s (own_s lx p y0) (p + (1 : Int32)) y1)) (Value.int (0 : Int32)) := by
  refine A.pad fun i => ?_
  have e1 : (p + (1 : Int32)).toNatClampNeg = p.toNatClampNeg + 1 := by rw [own_tn, own_inc h0 h1, own_tn]; omega
  rw [own_vl_getD, own_s_getD, own_s_getD, e1]
  generalize p.toNatClampNeg = P at A ⊢
  have L : (own_vl lx ++ List.replicate (P + 2) (Value.int 0)).getD i (Value.int 0) = Value.int (lx.getD i 0) := by
    rw [← own_vl_getD]
    rw [List.getD_eq_getElem?_getD, List.getD_eq_getElem?_getD, List.getElem?_append]
    by_cases q : i < (own_vl lx).length
    · rw [if_pos q]
    · rw [if_neg q, List.getElem?_replicate, List.getElem?_eq_none (Nat.le_of_not_lt q)]; split <;> rfl
  have len : P + 2 ≤ (own_vl lx ++ List.replicate (P + 2) (Value.int 0)).length := by rw [List.length_append, List.length_replicate]; omega
  generalize own_vl lx ++ List.replicate (P + 2) (Value.int 0) = M at L len ⊢
  have t : (M.take P).length = P := by rw [List.length_take]; omega
  have G : ∀ l : List Value, l.getD i (Value.int 0) = l[i]?.getD (Value.int 0) := fun l => List.getD_eq_getElem?_getD
  rw [G] at L
  rw [List.append_assoc, G, List.getElem?_append, t]
  by_cases q : i < P
  · rw [if_pos q, List.getElem?_take, if_pos q, L, if_neg (by omega), if_neg (by omega)]
  · rw [if_neg q]
    by_cases q0 : i = P
    · subst q0; rw [Nat.sub_self, if_neg (by omega), if_pos rfl]; rfl
    · by_cases q1 : i = P + 1
      · subst q1; rw [show P + 1 - P = 1 by omega, if_pos rfl]; rfl
      · rw [if_neg q1, if_neg q0, List.getElem?_append, if_neg (by show ¬ i - P < 2; omega)]
        show Value.int (lx.getD i 0) = ((M.drop (P + 2))[i - P - 2]?).getD (Value.int 0)
        rw [List.getElem?_drop, show P + 2 + (i - P - 2) = i by omega, L]
theorem d32_0 : decode jdk_42_method_147_code 0 = .ok (.aload_n 0, 1) := by decide +kernel
theorem d32_1 : decode jdk_42_method_147_code 1 = .ok (.invokevirtual 335, 3) := by decide +kernel
theorem d32_4 : decode jdk_42_method_147_code 4 = .ok (.iload_n 3, 1) := by decide +kernel
theorem d32_5 : decode jdk_42_method_147_code 5 = .ok (.if_icmp .ne 23, 3) := by decide +kernel
theorem d32_8 : decode jdk_42_method_147_code 8 = .ok (.aload_n 0, 1) := by decide +kernel
theorem d32_9 : decode jdk_42_method_147_code 9 = .ok (.getfield 9, 3) := by decide +kernel
theorem d32_12 : decode jdk_42_method_147_code 12 = .ok (.iconst 0, 1) := by decide +kernel
theorem d32_13 : decode jdk_42_method_147_code 13 = .ok (.aload_n 1, 1) := by decide +kernel
theorem d32_14 : decode jdk_42_method_147_code 14 = .ok (.iload_n 2, 1) := by decide +kernel
theorem d32_15 : decode jdk_42_method_147_code 15 = .ok (.iload_n 3, 1) := by decide +kernel
theorem d32_16 : decode jdk_42_method_147_code 16 = .ok (.ishl, 1) := by decide +kernel
theorem d32_17 : decode jdk_42_method_147_code 17 = .ok (.aload_n 0, 1) := by decide +kernel
theorem d32_18 : decode jdk_42_method_147_code 18 = .ok (.getfield 9, 3) := by decide +kernel
theorem d32_21 : decode jdk_42_method_147_code 21 = .ok (.arraylength, 1) := by decide +kernel
theorem d32_22 : decode jdk_42_method_147_code 22 = .ok (.invokestatic 212, 3) := by decide +kernel
theorem d32_25 : decode jdk_42_method_147_code 25 = .ok (.goto 18, 3) := by decide +kernel
theorem d32_43 : decode jdk_42_method_147_code 43 = .ok (.return_, 1) := by decide +kernel
theorem ef_gb0 (m : MethodId) (a1 : Addr) (a2 : Addr) (p3 : Int32) : entryFrame m #[(.ref a1), (.ref a2), (.int p3), (.int (0 : Int32))] 4 = mkF m 0 #[.val (.ref a1), .val (.ref a2), .val (.int p3), .val (.int (0 : Int32))] [] := by first | (simp [entryFrame, mkF, argsToLocals, Value.category]; done) | rfl
def Q_gb0 (Z : State) (a1 : Addr) (a2 : Addr) (p3 : Int32) (b2 : Addr) (kb : ClassId) (y0 : Int32) (y1 : Int32) (k1 : ClassId) (z1 : Int32) (lx : List Int32) (cs_ : Int32) (fm : Value) (h0 : Heap) (n0 : Nat) (vr : Option Value) (h : Heap) (L : List Loc) : Prop := (vr = none) ∧ (Fr n0 L) ∧ (Keep h0 h [a2]) ∧ (Arv Z h a2 k1 .byte z1 (own_vl (own_s (own_s lx p3 y0) (p3 + (1 : Int32)) y1)) (.int (0 : Int32)))
set_option maxRecDepth 65536 in
set_option maxHeartbeats 40000000 in
theorem rmgb0 (l : Launch) (Z : State) (a0 : Array Value) (hw : ∀ d ∈ tables_1, d.before a0 Z = true) (ws : List Jvm.Cond) (a1 : Addr) (a2 : Addr) (p3 : Int32) (b2 : Addr) (kb : ClassId) (y0 : Int32) (y1 : Int32) (k1 : ClassId) (z1 : Int32) (lx : List Int32) (cs_ : Int32) (fm : Value) (h0 : Heap) (n0 : Nat) (Z0 : n0 ≤ h0.size) (hF : FX Z h0 cs_ fm) (E_a1 : Exa Z h0 a1 "java/lang/String") (Fv_a1 : Fld Z h0 a1 "java/lang/String" "value" "[B" (.ref b2)) (Fc_a1 : Fld Z h0 a1 "java/lang/String" "coder" "B" (.int (0 : Int32))) (V_l : Arv Z h0 b2 kb .byte (2 : Int32) [(.int y0), (.int y1)] (.int (0 : Int32))) (V_b : Arv Z h0 a2 k1 .byte z1 (own_vl lx) (.int (0 : Int32))) (gn_a2 : n0 ≤ a2) (neb2 : ¬ (b2 = a2)) (ne12 : ¬ (a1 = a2)) (hg0 : ¬ (p3 < (0 : Int32))) (hg1 : p3.toInt ≤ 1000) (hg2 : p3.toNatClampNeg + 2 ≤ z1.toNatClampNeg) :
    MetFree l (⟨"java/lang/String", "getBytes", "([BIB)V"⟩ : MethodName) (head1 (Jvm.Cond.code (⟨"java/lang/String", "getBytes", "([BIB)V"⟩ : MethodName) jdk_42_method_147_code 4 none :: ws) ({ frames := 1, cells := 0, slots := 0, locals := 40 } : Room)) (fun a U => a = #[(.ref a1), (.ref a2), (.int p3), (.int (0 : Int32))] ∧ Z.Warmed39 U.vm ∧ U.heap = h0) (fun _ _ _ _ _ => True) (fun _ U o U' => ∃ v L, o = .returned v ∧ Q_gb0 Z a1 a2 p3 b2 kb y0 y1 k1 z1 lx cs_ fm h0 n0 v U'.heap L ∧ FrameEnd U o U' L ({ frames := 1, cells := 0, slots := 0, locals := 40 } : Room).cells ({ frames := 1, cells := 0, slots := 0, locals := 40 } : Room).slots) := by
  refine met_of (Ls := #[.val (.ref a1), .val (.ref a2), .val (.int p3), .val (.int (0 : Int32))]) (plainFor_of_name (by first | (simp [plainName, overriddenIn]; done) | decide +kernel)) (fun m => ef_gb0 m a1 a2 p3) ?_
  intro p e s m below meth c T0 C X0 e0
  obtain ⟨S_cs, hcs, S_fm, hfm, S_ad, S_hi, S_lo⟩ := id hF
  have N0 := Fr.nil n0
  have K0 : Keep h0 h0 [a2] := Keep.refl h0 _
  refine g_aloadN (pc' := 1) C X0 d32_0 rfl rfl rfl ?_
  refine g_callV (b := a1) (z := (⟨"java/lang/String", "coder", "()B"⟩ : MethodName)) (y := (⟨"java/lang/String", "coder", "()B"⟩ : MethodName)) (argsL := []) (st := []) (pc' := 4) C X0 d32_1 (wq hw 39 rfl) (wq hw 40 rfl) (notFace_of_selects (args := #[]) (mvT C.hZ (wq hw 42 rfl))) (wq hw 42 rfl) (wq hw 41 rfl) (wq hw 8 rfl) (wq hw 43 rfl) (by decide) (rmcod0 l Z a0 hw [] a1 cs_ fm h0 n0 hF Fc_a1) (W := 0) (by decide) (by decide) (ce := 0) (sl := 0) rfl rfl (by decide) (by decide) rfl E_a1 e0 rfl pd_5 rfl (Nat.le_refl _) rfl (fun rv1 T1 L1 X1 Q1 => ?_)
  obtain ⟨q1, Nq1, e1⟩ := Q1
  have N1 := Fr.app N0 Nq1
  rw [Fcod0_l0 ] at q1
  subst q1
  show Go p.tables e below _ (T1.setTop (mkF m 4 #[.val (.ref a1), .val (.ref a2), .val (.int p3), .val (.int (0 : Int32))] [(.int (0 : Int32))]))
  refine g_iloadN (pc' := 5) C X1 d32_4 rfl rfl ?_
  refine g_icmpN (pc' := 8) C X1 d32_5 (teq (show (0 : Int32) = (0 : Int32) from (by decide))).2 rfl ?_
  refine g_aloadN (pc' := 9) C X1 d32_8 rfl rfl rfl ?_
  refine g_getF (pc' := 12) C X1 d32_9 (host := "") (Or.inl (wq hw 25 rfl)) Via.refl e1 Fv_a1 rfl (fun T2 X2 e2 => ?_)
  refine g_iconst (pc' := 13) (v := (0 : Int32)) C X2 d32_12 rfl rfl ?_
  refine g_aloadN (pc' := 14) C X2 d32_13 rfl rfl rfl ?_
  refine g_iloadN (pc' := 15) C X2 d32_14 rfl rfl ?_
  refine g_iloadN (pc' := 16) C X2 d32_15 rfl rfl ?_
  refine g_ishl (pc' := 17) C X2 d32_16 rfl ?_
  refine own_cast (show T2.setTop (mkF m 17 #[.val (.ref a1), .val (.ref a2), .val (.int p3), .val (.int (0 : Int32))] [(.int (p3 <<< ((0 : Int32) &&& 31))), (.ref a2), (.int (0 : Int32)), (.ref b2)]) = T2.setTop (mkF m 17 #[.val (.ref a1), .val (.ref a2), .val (.int p3), .val (.int (0 : Int32))] [(.int p3), (.ref a2), (.int (0 : Int32)), (.ref b2)]) from by rw [own_shl0 (i := p3)]) ?_
  refine g_aloadN (pc' := 18) C X2 d32_17 rfl rfl rfl ?_
  refine g_getF (pc' := 21) C X2 d32_18 (host := "") (Or.inl (wq hw 25 rfl)) Via.refl e2 Fv_a1 rfl (fun T3 X3 e3 => ?_)
  refine g_len (pc' := 22) C X3 d32_21 e3 V_l rfl ?_
  refine g_cp (us := [(.int y0), (.int y1)]) (W := 0) (pc' := 25) C X3 d32_22 (wq hw 174 rfl) (wq hw 177 rfl) (wq hw 175 rfl) (wq hw 176 rfl) e3 V_l (V_b.pad (pad_rep _ _ (p3.toNatClampNeg + 2))) rfl (by decide) hg0 (by decide) (by decide) hg2 rfl (by rw [List.length_append, List.length_replicate]; exact Nat.le_add_left _ _) N1 gn_a2 rfl (by decide) (Nat.le_refl _) (by decide) rfl (fun T4 h4 L4 X4 e4 N4 Kq4 A4 => ?_)
  have V4 : Arv Z h4 a2 k1 .byte z1 (own_vl (own_s (own_s lx p3 y0) (p3 + (1 : Int32)) y1)) (.int (0 : Int32)) := own_cp2 (own_nn hg0) hg1 A4
  have FX_4 := FX_keep hF Kq4 ((allS (by obtain ⟨c_, A_, _⟩ := V_b; exact ⟨c_, A_.1, A_.plain⟩) all0))
  have E_a1_4 := E_a1.keep Kq4
  have Fv_a1_4 := Fv_a1.keep Kq4 (ninS ne12 nin0)
  have Fc_a1_4 := Fc_a1.keep Kq4 (ninS ne12 nin0)
  have V_l_4 := V_l.keep Kq4 (ninS neb2 nin0)
  have Z4 := Nat.le_trans Z0 Kq4.1
  have K4 := K0.trans Kq4 (allS (Or.inl (List.mem_of_getElem? (i := 0) rfl)) all0)
  refine g_goto (pc' := 43) C X4 d32_25 (by decide) (by decide) ?_
  exact g_retV C X4 d32_43 (by decide) (by decide) ⟨rfl, N4, (by rw [e4]; exact K4), (by rw [e4]; exact V4)⟩
theorem d32_28 : decode jdk_42_method_147_code 28 = .ok (.aload_n 0, 1) := by decide +kernel
theorem d32_29 : decode jdk_42_method_147_code 29 = .ok (.getfield 9, 3) := by decide +kernel
theorem d32_32 : decode jdk_42_method_147_code 32 = .ok (.iconst 0, 1) := by decide +kernel
theorem d32_33 : decode jdk_42_method_147_code 33 = .ok (.aload_n 1, 1) := by decide +kernel
theorem d32_34 : decode jdk_42_method_147_code 34 = .ok (.iload_n 2, 1) := by decide +kernel
theorem d32_35 : decode jdk_42_method_147_code 35 = .ok (.aload_n 0, 1) := by decide +kernel
theorem d32_36 : decode jdk_42_method_147_code 36 = .ok (.getfield 9, 3) := by decide +kernel
theorem d32_39 : decode jdk_42_method_147_code 39 = .ok (.arraylength, 1) := by decide +kernel
theorem d32_40 : decode jdk_42_method_147_code 40 = .ok (.invokestatic 106, 3) := by decide +kernel
theorem ef_gb1 (m : MethodId) (a1 : Addr) (a2 : Addr) (p3 : Int32) : entryFrame m #[(.ref a1), (.ref a2), (.int p3), (.int (1 : Int32))] 4 = mkF m 0 #[.val (.ref a1), .val (.ref a2), .val (.int p3), .val (.int (1 : Int32))] [] := by first | (simp [entryFrame, mkF, argsToLocals, Value.category]; done) | rfl
def Q_gb1 (Z : State) (a1 : Addr) (a2 : Addr) (p3 : Int32) (b2 : Addr) (kb : ClassId) (y0 : Int32) (y1 : Int32) (k2 : ClassId) (zz : Int32) (cs : List Int32) (cs_ : Int32) (fm : Value) (h0 : Heap) (n0 : Nat) (vr : Option Value) (h : Heap) (L : List Loc) : Prop := (vr = none) ∧ (Fr n0 L) ∧ (Keep h0 h [a2]) ∧ (Arv Z h a2 k2 .byte zz (own_vl (own_u (cs ++ [y0, y1]))) (.int (0 : Int32)))
set_option maxRecDepth 65536 in
set_option maxHeartbeats 40000000 in
theorem rmgb1 (l : Launch) (Z : State) (a0 : Array Value) (hw : ∀ d ∈ tables_1, d.before a0 Z = true) (ws : List Jvm.Cond) (a1 : Addr) (a2 : Addr) (p3 : Int32) (b2 : Addr) (kb : ClassId) (y0 : Int32) (y1 : Int32) (k2 : ClassId) (zz : Int32) (cs : List Int32) (cs_ : Int32) (fm : Value) (h0 : Heap) (n0 : Nat) (Z0 : n0 ≤ h0.size) (hF : FX Z h0 cs_ fm) (E_a1 : Exa Z h0 a1 "java/lang/String") (Fv_a1 : Fld Z h0 a1 "java/lang/String" "value" "[B" (.ref b2)) (Fc_a1 : Fld Z h0 a1 "java/lang/String" "coder" "B" (.int (0 : Int32))) (V_l : Arv Z h0 b2 kb .byte (2 : Int32) [(.int y0), (.int y1)] (.int (0 : Int32))) (V_b : Arv Z h0 a2 k2 .byte zz (own_vl (own_u cs)) (.int (0 : Int32))) (gn_a2 : n0 ≤ a2) (neb2 : ¬ (b2 = a2)) (ne12 : ¬ (a1 = a2)) (hy0 : own_ls y0) (hy1 : own_ls y1) (hp4 : p3 = own_n cs) (hl : cs.length + 2 ≤ 8) (hz : 2 * ((cs.length : Int) + 2) ≤ zz.toInt) (hzz : zz.toInt ≤ 100) :
    MetFree l (⟨"java/lang/String", "getBytes", "([BIB)V"⟩ : MethodName) (head1 (Jvm.Cond.code (⟨"java/lang/String", "getBytes", "([BIB)V"⟩ : MethodName) jdk_42_method_147_code 4 none :: ws) ({ frames := 5, cells := 0, slots := 0, locals := 76 } : Room)) (fun a U => a = #[(.ref a1), (.ref a2), (.int p3), (.int (1 : Int32))] ∧ Z.Warmed39 U.vm ∧ U.heap = h0) (fun _ _ _ _ _ => True) (fun _ U o U' => ∃ v L, o = .returned v ∧ Q_gb1 Z a1 a2 p3 b2 kb y0 y1 k2 zz cs cs_ fm h0 n0 v U'.heap L ∧ FrameEnd U o U' L ({ frames := 5, cells := 0, slots := 0, locals := 76 } : Room).cells ({ frames := 5, cells := 0, slots := 0, locals := 76 } : Room).slots) := by
  refine met_of (Ls := #[.val (.ref a1), .val (.ref a2), .val (.int p3), .val (.int (1 : Int32))]) (plainFor_of_name (by first | (simp [plainName, overriddenIn]; done) | decide +kernel)) (fun m => ef_gb1 m a1 a2 p3) ?_
  intro p e s m below meth c T0 C X0 e0
  obtain ⟨S_cs, hcs, S_fm, hfm, S_ad, S_hi, S_lo⟩ := id hF
  have N0 := Fr.nil n0
  have K0 : Keep h0 h0 [a2] := Keep.refl h0 _
  refine g_aloadN (pc' := 1) C X0 d32_0 rfl rfl rfl ?_
  refine g_callV (b := a1) (z := (⟨"java/lang/String", "coder", "()B"⟩ : MethodName)) (y := (⟨"java/lang/String", "coder", "()B"⟩ : MethodName)) (argsL := []) (st := []) (pc' := 4) C X0 d32_1 (wq hw 39 rfl) (wq hw 40 rfl) (notFace_of_selects (args := #[]) (mvT C.hZ (wq hw 42 rfl))) (wq hw 42 rfl) (wq hw 41 rfl) (wq hw 8 rfl) (wq hw 43 rfl) (by decide) (rmcod0 l Z a0 hw [] a1 cs_ fm h0 n0 hF Fc_a1) (W := 0) (by decide) (by decide) (ce := 0) (sl := 0) rfl rfl (by decide) (by decide) rfl E_a1 e0 rfl pd_5 rfl (Nat.le_refl _) rfl (fun rv1 T1 L1 X1 Q1 => ?_)
  obtain ⟨q1, Nq1, e1⟩ := Q1
  have N1 := Fr.app N0 Nq1
  rw [Fcod0_l0 ] at q1
  subst q1
  show Go p.tables e below _ (T1.setTop (mkF m 4 #[.val (.ref a1), .val (.ref a2), .val (.int p3), .val (.int (1 : Int32))] [(.int (0 : Int32))]))
  refine g_iloadN (pc' := 5) C X1 d32_4 rfl rfl ?_
  refine g_icmpY (pc' := 28) C X1 d32_5 (feq (show ¬ ((0 : Int32) = (1 : Int32)) from (by decide))).2 (by decide) (by decide) ?_
  refine g_aloadN (pc' := 29) C X1 d32_28 rfl rfl rfl ?_
  refine g_getF (pc' := 32) C X1 d32_29 (host := "") (Or.inl (wq hw 25 rfl)) Via.refl e1 Fv_a1 rfl (fun T2 X2 e2 => ?_)
  refine g_iconst (pc' := 33) (v := (0 : Int32)) C X2 d32_32 rfl rfl ?_
  refine g_aloadN (pc' := 34) C X2 d32_33 rfl rfl rfl ?_
  refine g_iloadN (pc' := 35) C X2 d32_34 rfl rfl ?_
  refine g_aloadN (pc' := 36) C X2 d32_35 rfl rfl rfl ?_
  refine g_getF (pc' := 39) C X2 d32_36 (host := "") (Or.inl (wq hw 25 rfl)) Via.refl e2 Fv_a1 rfl (fun T3 X3 e3 => ?_)
  refine g_len (pc' := 40) C X3 d32_39 e3 V_l rfl ?_
  refine g_callS (y := (⟨"java/lang/StringLatin1", "inflate", "([BI[BII)V"⟩ : MethodName)) (argsL := [(.ref b2), (.int (0 : Int32)), (.ref a2), (.int p3), (.int (2 : Int32))]) (st := []) (pc' := 43) C X3 d32_40 (wq hw 278 rfl) (wq hw 261 rfl) (wq hw 132 rfl) (wq hw 262 rfl) (by decide) (rmli l Z a0 hw [] b2 a2 p3 (2 : Int32) kb (2 : Int32) ([y0, y1]) k2 zz cs ([y0, y1]) cs_ fm h0 n0 Z0 hF V_l V_b gn_a2 neb2 hp4 rfl hl hz hzz (by show ((2 : Nat) : Int) ≤ (2 : Int32).toInt; decide) (own_ss2 hy0 hy1)) (W := 0) (by decide) (by decide) (ce := 0) (sl := 0) rfl rfl (by decide) (by decide) rfl e3 rfl pd_15 rfl (Nat.le_refl _) rfl (fun rv4 T4 L4 X4 Q4 => ?_)
  obtain ⟨q4, Nq4, Kq4, P4_0⟩ := Q4
  have N4 := Fr.app N1 Nq4
  have FX_4 := FX_keep hF Kq4 ((allS (by obtain ⟨c_, A_, _⟩ := V_b; exact ⟨c_, A_.1, A_.plain⟩) all0))
  have E_a1_4 := E_a1.keep Kq4
  have Fv_a1_4 := Fv_a1.keep Kq4 (ninS ne12 nin0)
  have Fc_a1_4 := Fc_a1.keep Kq4 (ninS ne12 nin0)
  have V_l_4 := V_l.keep Kq4 (ninS neb2 nin0)
  have Z4 := Nat.le_trans Z0 Kq4.1
  have K4 := K0.trans Kq4 (allS (Or.inl (List.mem_of_getElem? (i := 0) rfl)) all0)
  subst q4
  show Go p.tables e below _ (T4.setTop (mkF m 43 #[.val (.ref a1), .val (.ref a2), .val (.int p3), .val (.int (1 : Int32))] []))
  exact g_retV C X4 d32_43 (by decide) (by decide) ⟨rfl, N4, K4, P4_0⟩
theorem d30_0 : decode jdk_68_method_73_code 0 = .ok (.aload_n 0, 1) := by decide +kernel
theorem d30_1 : decode jdk_68_method_73_code 1 = .ok (.aload_n 2, 1) := by decide +kernel
theorem d30_2 : decode jdk_68_method_73_code 2 = .ok (.invokevirtual 397, 3) := by decide +kernel
theorem pd_20 : parseMethodDescriptor "(Ljava/lang/String;)V" = some ⟨[(.object "java/lang/String")], none⟩ := by decide +kernel
theorem d30_5 : decode jdk_68_method_73_code 5 = .ok (.aload_n 2, 1) := by decide +kernel
theorem d30_6 : decode jdk_68_method_73_code 6 = .ok (.aload_n 0, 1) := by decide +kernel
theorem d30_7 : decode jdk_68_method_73_code 7 = .ok (.getfield 15, 3) := by decide +kernel
theorem d30_10 : decode jdk_68_method_73_code 10 = .ok (.iload_n 1, 1) := by decide +kernel
theorem d30_11 : decode jdk_68_method_73_code 11 = .ok (.aload_n 0, 1) := by decide +kernel
theorem d30_12 : decode jdk_68_method_73_code 12 = .ok (.getfield 22, 3) := by decide +kernel
theorem d30_15 : decode jdk_68_method_73_code 15 = .ok (.invokevirtual 399, 3) := by decide +kernel
theorem pd_21 : parseMethodDescriptor "([BIB)V" = some ⟨[(.array .byte), .int, .byte], none⟩ := by decide +kernel
theorem d30_18 : decode jdk_68_method_73_code 18 = .ok (.return_, 1) := by decide +kernel
theorem ef_psa0 (m : MethodId) (a1 : Addr) (p2 : Int32) (a3 : Addr) : entryFrame m #[(.ref a1), (.int p2), (.ref a3)] 3 = mkF m 0 #[.val (.ref a1), .val (.int p2), .val (.ref a3)] [] := by first | (simp [entryFrame, mkF, argsToLocals, Value.category]; done) | rfl
def Q_psa0 (Z : State) (a1 : Addr) (p2 : Int32) (a3 : Addr) (v1_ : Addr) (b2 : Addr) (kb : ClassId) (y0 : Int32) (y1 : Int32) (k1 : ClassId) (z1 : Int32) (lx : List Int32) (cs_ : Int32) (fm : Value) (h0 : Heap) (n0 : Nat) (vr : Option Value) (h : Heap) (L : List Loc) : Prop := (vr = none) ∧ (Fr n0 L) ∧ (Keep h0 h [v1_]) ∧ (Arv Z h v1_ k1 .byte z1 (own_vl (own_s (own_s lx p2 y0) (p2 + (1 : Int32)) y1)) (.int (0 : Int32)))
set_option maxRecDepth 65536 in
set_option maxHeartbeats 40000000 in
theorem rmpsa0 (l : Launch) (Z : State) (a0 : Array Value) (hw : ∀ d ∈ tables_1, d.before a0 Z = true) (ws : List Jvm.Cond) (a1 : Addr) (p2 : Int32) (a3 : Addr) (v1_ : Addr) (b2 : Addr) (kb : ClassId) (y0 : Int32) (y1 : Int32) (k1 : ClassId) (z1 : Int32) (lx : List Int32) (cs_ : Int32) (fm : Value) (h0 : Heap) (n0 : Nat) (Z0 : n0 ≤ h0.size) (hF : FX Z h0 cs_ fm) (E_a1 : Exa Z h0 a1 "java/lang/StringBuilder") (Fv_a1 : Fld Z h0 a1 "java/lang/AbstractStringBuilder" "value" "[B" (.ref v1_)) (Fc_a1 : Fld Z h0 a1 "java/lang/AbstractStringBuilder" "coder" "B" (.int (0 : Int32))) (E_a3 : Exa Z h0 a3 "java/lang/String") (Fv_a3 : Fld Z h0 a3 "java/lang/String" "value" "[B" (.ref b2)) (Fc_a3 : Fld Z h0 a3 "java/lang/String" "coder" "B" (.int (0 : Int32))) (V_l : Arv Z h0 b2 kb .byte (2 : Int32) [(.int y0), (.int y1)] (.int (0 : Int32))) (V_b : Arv Z h0 v1_ k1 .byte z1 (own_vl lx) (.int (0 : Int32))) (hy0 : own_ls y0) (hy1 : own_ls y1) (gn_v1_ : n0 ≤ v1_) (neb2 : ¬ (b2 = v1_)) (ne3v : ¬ (a3 = v1_)) (hg0 : ¬ (p2 < (0 : Int32))) (hg1 : p2.toInt ≤ 1000) (hg2 : p2.toNatClampNeg + 2 ≤ z1.toNatClampNeg) :
    MetFree l (⟨"java/lang/AbstractStringBuilder", "putStringAt", "(ILjava/lang/String;)V"⟩ : MethodName) (head1 (Jvm.Cond.code (⟨"java/lang/AbstractStringBuilder", "putStringAt", "(ILjava/lang/String;)V"⟩ : MethodName) jdk_68_method_73_code 3 none :: ws) ({ frames := 2, cells := 0, slots := 0, locals := 55 } : Room)) (fun a U => a = #[(.ref a1), (.int p2), (.ref a3)] ∧ Z.Warmed39 U.vm ∧ U.heap = h0) (fun _ _ _ _ _ => True) (fun _ U o U' => ∃ v L, o = .returned v ∧ Q_psa0 Z a1 p2 a3 v1_ b2 kb y0 y1 k1 z1 lx cs_ fm h0 n0 v U'.heap L ∧ FrameEnd U o U' L ({ frames := 2, cells := 0, slots := 0, locals := 55 } : Room).cells ({ frames := 2, cells := 0, slots := 0, locals := 55 } : Room).slots) := by
  refine met_of (Ls := #[.val (.ref a1), .val (.int p2), .val (.ref a3)]) (plainFor_of_name (by first | (simp [plainName, overriddenIn]; done) | decide +kernel)) (fun m => ef_psa0 m a1 p2 a3) ?_
  intro p e s m below meth c T0 C X0 e0
  obtain ⟨S_cs, hcs, S_fm, hfm, S_ad, S_hi, S_lo⟩ := id hF
  have N0 := Fr.nil n0
  have K0 : Keep h0 h0 [v1_] := Keep.refl h0 _
  refine g_aloadN (pc' := 1) C X0 d30_0 rfl rfl rfl ?_
  refine g_aloadN (pc' := 2) C X0 d30_1 rfl rfl rfl ?_
  refine g_callQ (b := a1) (y := (⟨"java/lang/AbstractStringBuilder", "inflateIfNeededFor", "(Ljava/lang/String;)V"⟩ : MethodName)) (argsL := [(.ref a3)]) (st := []) (pc' := 5) C X0 d30_2 (wq hw 163 rfl) (wq hw 164 rfl) (wq hw 165 rfl) (wq hw 52 rfl) (wq hw 166 rfl) (wq hw 167 rfl) (by decide) (rmiin0 l Z a0 hw [] a1 a3 b2 cs_ fm h0 n0 hF E_a1 Fc_a1 E_a3 Fv_a3 Fc_a3) (W := 0) (by decide) (by decide) (ce := 0) (sl := 0) rfl rfl (by decide) (by decide) rfl E_a1 e0 rfl pd_20 rfl (Nat.le_refl _) rfl (fun rv1 T1 L1 X1 Q1 => ?_)
  obtain ⟨q1, Nq1, e1⟩ := Q1
  have N1 := Fr.app N0 Nq1
  subst q1
  show Go p.tables e below _ (T1.setTop (mkF m 5 #[.val (.ref a1), .val (.int p2), .val (.ref a3)] []))
  refine g_aloadN (pc' := 6) C X1 d30_5 rfl rfl rfl ?_
  refine g_aloadN (pc' := 7) C X1 d30_6 rfl rfl rfl ?_
  refine g_getF (pc' := 10) C X1 d30_7 (host := "") (Or.inl (wq hw 56 rfl)) Via.refl e1 Fv_a1 rfl (fun T2 X2 e2 => ?_)
  refine g_iloadN (pc' := 11) C X2 d30_10 rfl rfl ?_
  refine g_aloadN (pc' := 12) C X2 d30_11 rfl rfl rfl ?_
  refine g_getF (pc' := 15) C X2 d30_12 (host := "") (Or.inl (wq hw 58 rfl)) Via.refl e2 Fc_a1 rfl (fun T3 X3 e3 => ?_)
  refine g_callV (b := a3) (z := (⟨"java/lang/String", "getBytes", "([BIB)V"⟩ : MethodName)) (y := (⟨"java/lang/String", "getBytes", "([BIB)V"⟩ : MethodName)) (argsL := [(.ref v1_), (.int p2), (.int (0 : Int32))]) (st := []) (pc' := 18) C X3 d30_15 (wq hw 169 rfl) (wq hw 170 rfl) (notFace_of_selects (args := #[]) (mvT C.hZ (wq hw 172 rfl))) (wq hw 172 rfl) (wq hw 171 rfl) (wq hw 8 rfl) (wq hw 173 rfl) (by decide) (rmgb0 l Z a0 hw [] a3 v1_ p2 b2 kb y0 y1 k1 z1 lx cs_ fm h0 n0 Z0 hF E_a3 Fv_a3 Fc_a3 V_l V_b gn_v1_ neb2 ne3v hg0 hg1 hg2) (W := 0) (by decide) (by decide) (ce := 0) (sl := 0) rfl rfl (by decide) (by decide) rfl E_a3 e3 rfl pd_21 rfl (Nat.le_refl _) rfl (fun rv4 T4 L4 X4 Q4 => ?_)
  obtain ⟨q4, Nq4, Kq4, P4_0⟩ := Q4
  have N4 := Fr.app N1 Nq4
  have FX_4 := FX_keep hF Kq4 ((allS (by obtain ⟨c_, A_, _⟩ := V_b; exact ⟨c_, A_.1, A_.plain⟩) all0))
  have E_a1_4 := E_a1.keep Kq4
  have E_a3_4 := E_a3.keep Kq4
  have Fv_a3_4 := Fv_a3.keep Kq4 (ninS ne3v nin0)
  have Fc_a3_4 := Fc_a3.keep Kq4 (ninS ne3v nin0)
  have V_l_4 := V_l.keep Kq4 (ninS neb2 nin0)
  have Z4 := Nat.le_trans Z0 Kq4.1
  have K4 := K0.trans Kq4 (allS (Or.inl (List.mem_of_getElem? (i := 0) rfl)) all0)
  subst q4
  show Go p.tables e below _ (T4.setTop (mkF m 18 #[.val (.ref a1), .val (.int p2), .val (.ref a3)] []))
  exact g_retV C X4 d30_18 (by decide) (by decide) ⟨rfl, N4, K4, P4_0⟩
theorem ef_psa1 (m : MethodId) (a1 : Addr) (p2 : Int32) (a3 : Addr) : entryFrame m #[(.ref a1), (.int p2), (.ref a3)] 3 = mkF m 0 #[.val (.ref a1), .val (.int p2), .val (.ref a3)] [] := by first | (simp [entryFrame, mkF, argsToLocals, Value.category]; done) | rfl
def Q_psa1 (Z : State) (a1 : Addr) (p2 : Int32) (a3 : Addr) (v1_ : Addr) (b2 : Addr) (kb : ClassId) (y0 : Int32) (y1 : Int32) (k2 : ClassId) (zz : Int32) (cs : List Int32) (cs_ : Int32) (fm : Value) (h0 : Heap) (n0 : Nat) (vr : Option Value) (h : Heap) (L : List Loc) : Prop := (vr = none) ∧ (Fr n0 L) ∧ (Keep h0 h [v1_]) ∧ (Arv Z h v1_ k2 .byte zz (own_vl (own_u (cs ++ [y0, y1]))) (.int (0 : Int32)))
set_option maxRecDepth 65536 in
set_option maxHeartbeats 40000000 in
theorem rmpsa1 (l : Launch) (Z : State) (a0 : Array Value) (hw : ∀ d ∈ tables_1, d.before a0 Z = true) (ws : List Jvm.Cond) (a1 : Addr) (p2 : Int32) (a3 : Addr) (v1_ : Addr) (b2 : Addr) (kb : ClassId) (y0 : Int32) (y1 : Int32) (k2 : ClassId) (zz : Int32) (cs : List Int32) (cs_ : Int32) (fm : Value) (h0 : Heap) (n0 : Nat) (Z0 : n0 ≤ h0.size) (hF : FX Z h0 cs_ fm) (E_a1 : Exa Z h0 a1 "java/lang/StringBuilder") (Fv_a1 : Fld Z h0 a1 "java/lang/AbstractStringBuilder" "value" "[B" (.ref v1_)) (Fc_a1 : Fld Z h0 a1 "java/lang/AbstractStringBuilder" "coder" "B" (.int (1 : Int32))) (E_a3 : Exa Z h0 a3 "java/lang/String") (Fv_a3 : Fld Z h0 a3 "java/lang/String" "value" "[B" (.ref b2)) (Fc_a3 : Fld Z h0 a3 "java/lang/String" "coder" "B" (.int (0 : Int32))) (V_l : Arv Z h0 b2 kb .byte (2 : Int32) [(.int y0), (.int y1)] (.int (0 : Int32))) (V_b : Arv Z h0 v1_ k2 .byte zz (own_vl (own_u cs)) (.int (0 : Int32))) (hy0 : own_ls y0) (hy1 : own_ls y1) (gn_v1_ : n0 ≤ v1_) (neb2 : ¬ (b2 = v1_)) (ne3v : ¬ (a3 = v1_)) (hp4 : p2 = own_n cs) (hl : cs.length + 2 ≤ 8) (hz : 2 * ((cs.length : Int) + 2) ≤ zz.toInt) (hzz : zz.toInt ≤ 100) :
    MetFree l (⟨"java/lang/AbstractStringBuilder", "putStringAt", "(ILjava/lang/String;)V"⟩ : MethodName) (head1 (Jvm.Cond.code (⟨"java/lang/AbstractStringBuilder", "putStringAt", "(ILjava/lang/String;)V"⟩ : MethodName) jdk_68_method_73_code 3 none :: ws) ({ frames := 6, cells := 0, slots := 0, locals := 91 } : Room)) (fun a U => a = #[(.ref a1), (.int p2), (.ref a3)] ∧ Z.Warmed39 U.vm ∧ U.heap = h0) (fun _ _ _ _ _ => True) (fun _ U o U' => ∃ v L, o = .returned v ∧ Q_psa1 Z a1 p2 a3 v1_ b2 kb y0 y1 k2 zz cs cs_ fm h0 n0 v U'.heap L ∧ FrameEnd U o U' L ({ frames := 6, cells := 0, slots := 0, locals := 91 } : Room).cells ({ frames := 6, cells := 0, slots := 0, locals := 91 } : Room).slots) := by
  refine met_of (Ls := #[.val (.ref a1), .val (.int p2), .val (.ref a3)]) (plainFor_of_name (by first | (simp [plainName, overriddenIn]; done) | decide +kernel)) (fun m => ef_psa1 m a1 p2 a3) ?_
  intro p e s m below meth c T0 C X0 e0
  obtain ⟨S_cs, hcs, S_fm, hfm, S_ad, S_hi, S_lo⟩ := id hF
  have N0 := Fr.nil n0
  have K0 : Keep h0 h0 [v1_] := Keep.refl h0 _
  refine g_aloadN (pc' := 1) C X0 d30_0 rfl rfl rfl ?_
  refine g_aloadN (pc' := 2) C X0 d30_1 rfl rfl rfl ?_
  refine g_callQ (b := a1) (y := (⟨"java/lang/AbstractStringBuilder", "inflateIfNeededFor", "(Ljava/lang/String;)V"⟩ : MethodName)) (argsL := [(.ref a3)]) (st := []) (pc' := 5) C X0 d30_2 (wq hw 163 rfl) (wq hw 164 rfl) (wq hw 165 rfl) (wq hw 52 rfl) (wq hw 166 rfl) (wq hw 167 rfl) (by decide) (rmiin1 l Z a0 hw [] a1 a3 b2 cs_ fm h0 n0 hF E_a1 Fc_a1 E_a3 Fv_a3 Fc_a3) (W := 0) (by decide) (by decide) (ce := 0) (sl := 0) rfl rfl (by decide) (by decide) rfl E_a1 e0 rfl pd_20 rfl (Nat.le_refl _) rfl (fun rv1 T1 L1 X1 Q1 => ?_)
  obtain ⟨q1, Nq1, e1⟩ := Q1
  have N1 := Fr.app N0 Nq1
  subst q1
  show Go p.tables e below _ (T1.setTop (mkF m 5 #[.val (.ref a1), .val (.int p2), .val (.ref a3)] []))
  refine g_aloadN (pc' := 6) C X1 d30_5 rfl rfl rfl ?_
  refine g_aloadN (pc' := 7) C X1 d30_6 rfl rfl rfl ?_
  refine g_getF (pc' := 10) C X1 d30_7 (host := "") (Or.inl (wq hw 56 rfl)) Via.refl e1 Fv_a1 rfl (fun T2 X2 e2 => ?_)
  refine g_iloadN (pc' := 11) C X2 d30_10 rfl rfl ?_
  refine g_aloadN (pc' := 12) C X2 d30_11 rfl rfl rfl ?_
  refine g_getF (pc' := 15) C X2 d30_12 (host := "") (Or.inl (wq hw 58 rfl)) Via.refl e2 Fc_a1 rfl (fun T3 X3 e3 => ?_)
  refine g_callV (b := a3) (z := (⟨"java/lang/String", "getBytes", "([BIB)V"⟩ : MethodName)) (y := (⟨"java/lang/String", "getBytes", "([BIB)V"⟩ : MethodName)) (argsL := [(.ref v1_), (.int p2), (.int (1 : Int32))]) (st := []) (pc' := 18) C X3 d30_15 (wq hw 169 rfl) (wq hw 170 rfl) (notFace_of_selects (args := #[]) (mvT C.hZ (wq hw 172 rfl))) (wq hw 172 rfl) (wq hw 171 rfl) (wq hw 8 rfl) (wq hw 173 rfl) (by decide) (rmgb1 l Z a0 hw [] a3 v1_ p2 b2 kb y0 y1 k2 zz cs cs_ fm h0 n0 Z0 hF E_a3 Fv_a3 Fc_a3 V_l V_b gn_v1_ neb2 ne3v hy0 hy1 hp4 hl hz hzz) (W := 0) (by decide) (by decide) (ce := 0) (sl := 0) rfl rfl (by decide) (by decide) rfl E_a3 e3 rfl pd_21 rfl (Nat.le_refl _) rfl (fun rv4 T4 L4 X4 Q4 => ?_)
  obtain ⟨q4, Nq4, Kq4, P4_0⟩ := Q4
  have N4 := Fr.app N1 Nq4
  have FX_4 := FX_keep hF Kq4 ((allS (by obtain ⟨c_, A_, _⟩ := V_b; exact ⟨c_, A_.1, A_.plain⟩) all0))
  have E_a1_4 := E_a1.keep Kq4
  have E_a3_4 := E_a3.keep Kq4
  have Fv_a3_4 := Fv_a3.keep Kq4 (ninS ne3v nin0)
  have Fc_a3_4 := Fc_a3.keep Kq4 (ninS ne3v nin0)
  have V_l_4 := V_l.keep Kq4 (ninS neb2 nin0)
  have Z4 := Nat.le_trans Z0 Kq4.1
  have K4 := K0.trans Kq4 (allS (Or.inl (List.mem_of_getElem? (i := 0) rfl)) all0)
  subst q4
  show Go p.tables e below _ (T4.setTop (mkF m 18 #[.val (.ref a1), .val (.int p2), .val (.ref a3)] []))
  exact g_retV C X4 d30_18 (by decide) (by decide) ⟨rfl, N4, K4, P4_0⟩
theorem own_g2 {n z : Int32} (h0 : 0 ≤ n.toInt) (h : n.toInt + 2 ≤ z.toInt) : n.toNatClampNeg + 2 ≤ z.toNatClampNeg := by rw [own_tn, own_tn]; omega
theorem own_zz {z : Int32} {m : Int} (h0 : 0 ≤ m) (h : m + 2 ≤ z.toInt) (h1 : z.toInt ≤ 20) : 2 * (m + 2) ≤ (z + z).toInt ∧ (z + z).toInt ≤ 100 := by
  rw [own_addI (by omega) (by omega) (by omega) (by omega)]; omega
theorem d28_0 : decode jdk_68_method_22_code 0 = .ok (.aload_n 1, 1) := by decide +kernel
theorem d28_1 : decode jdk_68_method_22_code 1 = .ok (.ifnonnull 8, 3) := by decide +kernel
theorem d28_9 : decode jdk_68_method_22_code 9 = .ok (.aload_n 1, 1) := by decide +kernel
theorem d28_10 : decode jdk_68_method_22_code 10 = .ok (.invokevirtual 32, 3) := by decide +kernel
theorem pd_22 : parseMethodDescriptor "()I" = some ⟨[], some .int⟩ := by decide +kernel
theorem d28_13 : decode jdk_68_method_22_code 13 = .ok (.istore_n 2, 1) := by decide +kernel
theorem d28_14 : decode jdk_68_method_22_code 14 = .ok (.aload_n 0, 1) := by decide +kernel
theorem d28_15 : decode jdk_68_method_22_code 15 = .ok (.aload_n 0, 1) := by decide +kernel
theorem d28_16 : decode jdk_68_method_22_code 16 = .ok (.getfield 79, 3) := by decide +kernel
theorem d28_19 : decode jdk_68_method_22_code 19 = .ok (.iload_n 2, 1) := by decide +kernel
theorem d28_20 : decode jdk_68_method_22_code 20 = .ok (.iadd, 1) := by decide +kernel
theorem d28_21 : decode jdk_68_method_22_code 21 = .ok (.invokevirtual 100, 3) := by decide +kernel
theorem d28_24 : decode jdk_68_method_22_code 24 = .ok (.aload_n 0, 1) := by decide +kernel
theorem d28_25 : decode jdk_68_method_22_code 25 = .ok (.aload_n 0, 1) := by decide +kernel
theorem d28_26 : decode jdk_68_method_22_code 26 = .ok (.getfield 79, 3) := by decide +kernel
theorem d28_29 : decode jdk_68_method_22_code 29 = .ok (.aload_n 1, 1) := by decide +kernel
theorem d28_30 : decode jdk_68_method_22_code 30 = .ok (.invokevirtual 208, 3) := by decide +kernel
theorem pd_23 : parseMethodDescriptor "(ILjava/lang/String;)V" = some ⟨[.int, (.object "java/lang/String")], none⟩ := by decide +kernel
theorem d28_33 : decode jdk_68_method_22_code 33 = .ok (.aload_n 0, 1) := by decide +kernel
theorem d28_34 : decode jdk_68_method_22_code 34 = .ok (.dup, 1) := by decide +kernel
theorem d28_35 : decode jdk_68_method_22_code 35 = .ok (.getfield 79, 3) := by decide +kernel
theorem d28_38 : decode jdk_68_method_22_code 38 = .ok (.iload_n 2, 1) := by decide +kernel
theorem d28_39 : decode jdk_68_method_22_code 39 = .ok (.iadd, 1) := by decide +kernel
theorem d28_40 : decode jdk_68_method_22_code 40 = .ok (.putfield 79, 3) := by decide +kernel
theorem d28_43 : decode jdk_68_method_22_code 43 = .ok (.aload_n 0, 1) := by decide +kernel
theorem d28_44 : decode jdk_68_method_22_code 44 = .ok (.areturn, 1) := by decide +kernel
theorem ef_apA (m : MethodId) (a1 : Addr) (a2 : Addr) : entryFrame m #[(.ref a1), (.ref a2)] 3 = mkF m 0 #[.val (.ref a1), .val (.ref a2), .unset] [] := by first | (simp [entryFrame, mkF, argsToLocals, Value.category]; done) | rfl
def Q_apA (Z : State) (a1 : Addr) (a2 : Addr) (v1_ : Addr) (z : Int32) (xs : List Int32) (b2 : Addr) (kb : ClassId) (y0 : Int32) (y1 : Int32) (cs_ : Int32) (fm : Value) (h0 : Heap) (n0 : Nat) (vr : Option Value) (h : Heap) (L : List Loc) : Prop := ∃ w : Addr, ∃ z2 : Int32, (vr = some (.ref a1)) ∧ (Fr n0 L) ∧ (Keep h0 h [a1, v1_]) ∧ (Bld Z h a1 w z2 (xs ++ [y0, y1])) ∧ (∀ o : Addr, o < h0.size → ¬ (o = v1_) → ¬ (o = w)) ∧ (n0 ≤ w) ∧ (¬ (a1 = w))
set_option maxRecDepth 65536 in
set_option maxHeartbeats 40000000 in
theorem rmapA (l : Launch) (Z : State) (a0 : Array Value) (hw : ∀ d ∈ tables_1, d.before a0 Z = true) (ws : List Jvm.Cond) (a1 : Addr) (a2 : Addr) (v1_ : Addr) (z : Int32) (xs : List Int32) (b2 : Addr) (kb : ClassId) (y0 : Int32) (y1 : Int32) (cs_ : Int32) (fm : Value) (h0 : Heap) (n0 : Nat) (Z0 : n0 ≤ h0.size) (hF : FX Z h0 cs_ fm) (hB : Bld Z h0 a1 v1_ z xs) (E_a2 : Exa Z h0 a2 "java/lang/String") (Fv_a2 : Fld Z h0 a2 "java/lang/String" "value" "[B" (.ref b2)) (Fc_a2 : Fld Z h0 a2 "java/lang/String" "coder" "B" (.int (0 : Int32))) (V_l : Arv Z h0 b2 kb .byte (2 : Int32) [(.int y0), (.int y1)] (.int (0 : Int32))) (hlt : xs.length < 7) (gn_a1 : n0 ≤ a1) (gn_v1_ : n0 ≤ v1_) (ne1v : ¬ (a1 = v1_)) (hy0 : own_ls y0) (hy1 : own_ls y1) (nl1 : ¬ (a1 = a2)) (nl2 : ¬ (a1 = b2)) (nl3 : ¬ (v1_ = a2)) (nl4 : ¬ (v1_ = b2)) :
    MetFree l (⟨"java/lang/AbstractStringBuilder", "append", "(Ljava/lang/String;)Ljava/lang/AbstractStringBuilder;"⟩ : MethodName) (head1 (Jvm.Cond.code (⟨"java/lang/AbstractStringBuilder", "append", "(Ljava/lang/String;)Ljava/lang/AbstractStringBuilder;"⟩ : MethodName) jdk_68_method_22_code 3 (some (.object "java/lang/AbstractStringBuilder")) :: ws) ({ frames := 7, cells := 1, slots := 40, locals := 105 } : Room)) (fun a U => a = #[(.ref a1), (.ref a2)] ∧ Z.Warmed39 U.vm ∧ U.heap = h0) (fun _ _ _ _ _ => True) (fun _ U o U' => ∃ v L, o = .returned v ∧ Q_apA Z a1 a2 v1_ z xs b2 kb y0 y1 cs_ fm h0 n0 v U'.heap L ∧ FrameEnd U o U' L ({ frames := 7, cells := 1, slots := 40, locals := 105 } : Room).cells ({ frames := 7, cells := 1, slots := 40, locals := 105 } : Room).slots) := by
  refine met_of (Ls := #[.val (.ref a1), .val (.ref a2), .unset]) (plainFor_of_name (by first | (simp [plainName, overriddenIn]; done) | decide +kernel)) (fun m => ef_apA m a1 a2) ?_
  intro p e s m below meth c T0 C X0 e0
  obtain ⟨S_cs, hcs, S_fm, hfm, S_ad, S_hi, S_lo⟩ := id hF
  have N0 := Fr.nil n0
  have K0 : Keep h0 h0 [a1, v1_] := Keep.refl h0 _
  rcases hB with ⟨hl_a1, hx_a1, E_a1, Fv_a1, Fm_a1, E_v1_, hz_a1, k_a1, n, hne, Fn_a1, ⟨Fc_a1, hy_a1, V_v1_⟩ | ⟨Fc_a1, V_v1_⟩⟩
  · have hnB := own_nB hne hl_a1
    have hnL : n.toInt = (xs.length : Int) := by rw [hne, own_nI hl_a1]
    refine g_aloadN (pc' := 1) C X0 d28_0 rfl rfl rfl ?_
    refine g_ifnonnullY (pc' := 9) C X0 d28_1 (by decide) (by decide) ?_
    refine g_aloadN (pc' := 10) C X0 d28_9 rfl rfl rfl ?_
    refine g_callV (b := a2) (z := (⟨"java/lang/String", "length", "()I"⟩ : MethodName)) (y := (⟨"java/lang/String", "length", "()I"⟩ : MethodName)) (argsL := []) (st := []) (pc' := 13) C X0 d28_10 (wq hw 152 rfl) (wq hw 35 rfl) (notFace_of_selects (args := #[]) (mvT C.hZ (wq hw 37 rfl))) (wq hw 37 rfl) (wq hw 36 rfl) (wq hw 8 rfl) (wq hw 38 rfl) (by decide) (rmsl2 l Z a0 hw [] a2 b2 kb y0 y1 cs_ fm h0 n0 hF E_a2 Fv_a2 Fc_a2 V_l) (W := 0) (by decide) (by decide) (ce := 0) (sl := 0) rfl rfl (by decide) (by decide) rfl E_a2 e0 rfl pd_22 rfl (Nat.le_refl _) rfl (fun rv1 T1 L1 X1 Q1 => ?_)
    obtain ⟨q1, Nq1, e1⟩ := Q1
    have N1 := Fr.app N0 Nq1
    rw [Fsl2_l0 ] at q1
    subst q1
    show Go p.tables e below _ (T1.setTop (mkF m 13 #[.val (.ref a1), .val (.ref a2), .unset] [(.int (2 : Int32))]))
    refine g_istoreN (pc' := 14) (Ls' := #[.val (.ref a1), .val (.ref a2), .val (.int (2 : Int32))]) C X1 d28_13 rfl rfl ?_
    refine g_aloadN (pc' := 15) C X1 d28_14 rfl rfl rfl ?_
    refine g_aloadN (pc' := 16) C X1 d28_15 rfl rfl rfl ?_
    refine g_getF (pc' := 19) C X1 d28_16 (host := "") (Or.inl (wq hw 86 rfl)) Via.refl e1 Fn_a1 rfl (fun T2 X2 e2 => ?_)
    refine g_iloadN (pc' := 20) C X2 d28_19 rfl rfl ?_
    refine g_iadd (pc' := 21) C X2 d28_20 rfl ?_
    have hin : (n + (2 : Int32)).toInt = n.toInt + 2 := own_nk2 hnB
    refine g_callQ (b := a1) (y := (⟨"java/lang/AbstractStringBuilder", "ensureCapacityInternal", "(I)V"⟩ : MethodName)) (argsL := [(.int (n + (2 : Int32)))]) (st := []) (pc' := 24) C X2 d28_21 (wq hw 153 rfl) (wq hw 154 rfl) (wq hw 155 rfl) (wq hw 52 rfl) (wq hw 156 rfl) (wq hw 157 rfl) (by decide) (rmens0 l Z a0 hw [] a1 (n + (2 : Int32)) v1_ k_a1 z (own_lat xs) n cs_ fm h0 n0 Z0 hF E_a1 Fv_a1 Fm_a1 Fn_a1 Fc_a1 E_v1_ V_v1_ gn_a1 gn_v1_ ne1v (by have := hz_a1.1; omega) hz_a1.2 (by have := hz_a1.1; omega) (by omega) (by omega) (own_hzl hz_a1.1)) (W := 0) (by decide) (by decide) (ce := 1) (sl := 40) rfl rfl (by decide) (by decide) rfl E_a1 e2 rfl pd_7 rfl (Nat.le_refl _) rfl (fun rv3 T3 L3 X3 Q3 => ?_)
    obtain ⟨w3, kw3, z23, q3, Nq3, Kq3, P3_0, P3_1, P3_2, P3_3, P3_4, P3_5, xp3_0, xp3_1, xp3_2, xp3_3, xp3_4⟩ := Q3
    have N3 := Fr.app N1 Nq3
    have ne3_4 : ¬ (a2 = w3) := xp3_0 a2 E_a2.lt (Ne.symm nl3)
    have ne3_5 : ¬ (b2 = w3) := xp3_0 b2 V_l.lt (Ne.symm nl4)
    have gn_w3 := xp3_1
    have FX_3 := FX_keep hF Kq3 ((allS (by obtain ⟨c_, _, h1_, _, _, h2_, _⟩ := E_a1; exact ⟨c_, h1_, h2_⟩) all0))
    have E_a2_3 := E_a2.keep Kq3
    have Fv_a2_3 := Fv_a2.keep Kq3 (ninS (Ne.symm nl1) nin0)
    have Fc_a2_3 := Fc_a2.keep Kq3 (ninS (Ne.symm nl1) nin0)
    have V_l_3 := V_l.keep Kq3 (ninS (Ne.symm nl2) nin0)
    have E_a1_3 := E_a1.keep Kq3
    have E_v1__3 := E_v1_.keep Kq3
    have V_v1__3 := V_v1_.keep Kq3 (ninS (Ne.symm ne1v) nin0)
    have Z3 := Nat.le_trans Z0 Kq3.1
    have K3 := K0.trans Kq3 (allS (Or.inl (List.mem_of_getElem? (i := 0) rfl)) all0)
    subst q3
    show Go p.tables e below _ (T3.setTop (mkF m 24 #[.val (.ref a1), .val (.ref a2), .val (.int (2 : Int32))] []))
    have hcz : n.toInt + 2 ≤ z23.toInt := by rw [← hin]; exact xp3_3
    have hc20 : z23.toInt ≤ 20 := xp3_4
    have hn0_ : ¬ (n < (0 : Int32)) := own_nlt hnB.1
    have hnz_ : n < z23 := own_lt.mpr (by omega)
    have hbz_ := own_hbn (n := z23) (p := n) (by omega) (by omega) hn0_ hnz_
    have hlz_ : (xs.length : Int) ≤ z23.toInt := by omega
    refine g_aloadN (pc' := 25) C X3 d28_24 rfl rfl rfl ?_
    refine g_aloadN (pc' := 26) C X3 d28_25 rfl rfl rfl ?_
    refine g_getF (pc' := 29) C X3 d28_26 (host := "") (Or.inl (wq hw 86 rfl)) Via.refl rfl P3_2 rfl (fun T6 X6 e6 => ?_)
    refine g_aloadN (pc' := 30) C X6 d28_29 rfl rfl rfl ?_
    refine g_callQ (b := a1) (y := (⟨"java/lang/AbstractStringBuilder", "putStringAt", "(ILjava/lang/String;)V"⟩ : MethodName)) (argsL := [(.int n), (.ref a2)]) (st := []) (pc' := 33) C X6 d28_30 (wq hw 158 rfl) (wq hw 159 rfl) (wq hw 160 rfl) (wq hw 52 rfl) (wq hw 161 rfl) (wq hw 162 rfl) (by decide) (rmpsa0 l Z a0 hw [] a1 n a2 w3 b2 kb y0 y1 kw3 z23 (own_lat xs) cs_ fm T3.heap n0 Z3 FX_3 E_a1_3 P3_0 P3_3 E_a2_3 Fv_a2_3 Fc_a2_3 V_l_3 P3_5 hy0 hy1 gn_w3 ne3_5 ne3_4 hn0_ (by omega) (own_g2 hnB.1 hcz)) (W := 0) (by decide) (by decide) (ce := 1) (sl := 40) rfl rfl (by decide) (by decide) rfl E_a1_3 e6 rfl pd_23 rfl (Nat.le_refl _) rfl (fun rv7 T7 L7 X7 Q7 => ?_)
    obtain ⟨q7, Nq7, Kq7, P7_0⟩ := Q7
    have N7 := Fr.app N3 Nq7
    have FX_7 := FX_keep FX_3 Kq7 ((allS (by obtain ⟨c_, A_, _⟩ := P3_5; exact ⟨c_, A_.1, A_.plain⟩) all0))
    have E_a2_7 := E_a2_3.keep Kq7
    have Fv_a2_7 := Fv_a2_3.keep Kq7 (ninS ne3_4 nin0)
    have Fc_a2_7 := Fc_a2_3.keep Kq7 (ninS ne3_4 nin0)
    have V_l_7 := V_l_3.keep Kq7 (ninS ne3_5 nin0)
    have E_a1_7 := E_a1_3.keep Kq7
    have E_v1__7 := E_v1__3.keep Kq7
    have P3_0_7 := P3_0.keep Kq7 (ninS xp3_2 nin0)
    have P3_1_7 := P3_1.keep Kq7 (ninS xp3_2 nin0)
    have P3_2_7 := P3_2.keep Kq7 (ninS xp3_2 nin0)
    have P3_3_7 := P3_3.keep Kq7 (ninS xp3_2 nin0)
    have P3_4_7 := P3_4.keep Kq7
    have Z7 := Nat.le_trans Z3 Kq7.1
    have K7 := K3.trans Kq7 (allS (own_mm xp3_0 (List.mem_of_getElem? (i := 1) rfl)) all0)
    subst q7
    show Go p.tables e below _ (T7.setTop (mkF m 33 #[.val (.ref a1), .val (.ref a2), .val (.int (2 : Int32))] []))
    refine g_aloadN (pc' := 34) C X7 d28_33 rfl rfl rfl ?_
    refine g_dup (pc' := 35) C X7 d28_34 rfl rfl ?_
    refine g_getF (pc' := 38) C X7 d28_35 (host := "") (Or.inl (wq hw 86 rfl)) Via.refl rfl P3_2_7 rfl (fun T8 X8 e8 => ?_)
    refine g_iloadN (pc' := 39) C X8 d28_38 rfl rfl ?_
    refine g_iadd (pc' := 40) C X8 d28_39 rfl ?_
    refine g_putF (pc' := 43) C X8 d28_40 (host := "") (Or.inl (wq hw 86 rfl)) Via.refl e8 P3_2_7 E_a1_7 (Or.inl (wq hw 87 rfl)) (wq hw 32 rfl) (ty := .int) (by decide) rfl rfl rfl (fun T9 h9 X9 e9 W9 => ?_)
    have F9 := P3_2_7.same W9
    have FX_9 := FX_wr FX_7 W9
    have E_a2_9 := E_a2_7.wr W9
    have Fv_a2_9 := Fv_a2_7.other W9 (Or.inl (Ne.symm nl1))
    have Fc_a2_9 := Fc_a2_7.other W9 (Or.inl (Ne.symm nl1))
    have V_l_9 := V_l_7.other W9 (Ne.symm nl2)
    have E_a1_9 := E_a1_7.wr W9
    have E_v1__9 := E_v1__7.wr W9
    have P3_0_9 := P3_0_7.other W9 (Or.inr (slot_ne (Or.inl (wq hw 57 rfl)) (Or.inl (wq hw 87 rfl)) (by decide) (t := (.array .byte)) (t' := .int) (by decide) (by decide)))
    have P3_1_9 := P3_1_7.other W9 (Or.inr (slot_ne (Or.inl (wq hw 280 rfl)) (Or.inl (wq hw 87 rfl)) (by decide) (t := .boolean) (t' := .int) (by decide) (by decide)))
    have P3_3_9 := P3_3_7.other W9 (Or.inr (slot_ne (Or.inl (wq hw 59 rfl)) (Or.inl (wq hw 87 rfl)) (by decide) (t := .byte) (t' := .int) (by decide) (by decide)))
    have P3_4_9 := P3_4_7.wr W9
    have P7_0_9 := P7_0.other W9 (Ne.symm xp3_2)
    have Z9 := Nat.le_trans Z7 (Nat.le_of_eq W9.size.symm)
    have N9 := Fr.snoc X9 N7 gn_a1
    have K9 := K7.wr W9 (Or.inl (List.mem_of_getElem? (i := 0) rfl))
    refine g_aloadN (pc' := 44) C X9 d28_43 rfl rfl rfl ?_
    exact g_retA C X9 rfl rfl rfl d28_44 (by decide) (by decide) ⟨w3, z23, rfl, N9, (by rw [e9]; exact K9), (by rw [e9]; exact ⟨own_len_snoc2 hlt, own_all_snoc2 hx_a1 (own_lsc hy0) (own_lsc hy1), E_a1_9, P3_0_9, P3_1_9, P3_4_9, ⟨by rw [List.length_append]; show ((xs.length + 2 : Nat) : Int) ≤ _; omega, hc20⟩, _, _, own_n_snoc2 hne hlt, F9, Or.inl ⟨P3_3_9, own_all_snoc2 hy_a1 (own_lsn hy0) (own_lsn hy1), own_pw P7_0_9 (own_lat_sn2 hne hlt (fun _ => rfl) hy0 hy1)⟩⟩), xp3_0, xp3_1, xp3_2⟩
  · have hnB := own_nB hne hl_a1
    have hnL : n.toInt = (xs.length : Int) := by rw [hne, own_nI hl_a1]
    refine g_aloadN (pc' := 1) C X0 d28_0 rfl rfl rfl ?_
    refine g_ifnonnullY (pc' := 9) C X0 d28_1 (by decide) (by decide) ?_
    refine g_aloadN (pc' := 10) C X0 d28_9 rfl rfl rfl ?_
    refine g_callV (b := a2) (z := (⟨"java/lang/String", "length", "()I"⟩ : MethodName)) (y := (⟨"java/lang/String", "length", "()I"⟩ : MethodName)) (argsL := []) (st := []) (pc' := 13) C X0 d28_10 (wq hw 152 rfl) (wq hw 35 rfl) (notFace_of_selects (args := #[]) (mvT C.hZ (wq hw 37 rfl))) (wq hw 37 rfl) (wq hw 36 rfl) (wq hw 8 rfl) (wq hw 38 rfl) (by decide) (rmsl2 l Z a0 hw [] a2 b2 kb y0 y1 cs_ fm h0 n0 hF E_a2 Fv_a2 Fc_a2 V_l) (W := 0) (by decide) (by decide) (ce := 0) (sl := 0) rfl rfl (by decide) (by decide) rfl E_a2 e0 rfl pd_22 rfl (Nat.le_refl _) rfl (fun rv10 T10 L10 X10 Q10 => ?_)
    obtain ⟨q10, Nq10, e10⟩ := Q10
    have N10 := Fr.app N0 Nq10
    rw [Fsl2_l0 ] at q10
    subst q10
    show Go p.tables e below _ (T10.setTop (mkF m 13 #[.val (.ref a1), .val (.ref a2), .unset] [(.int (2 : Int32))]))
    refine g_istoreN (pc' := 14) (Ls' := #[.val (.ref a1), .val (.ref a2), .val (.int (2 : Int32))]) C X10 d28_13 rfl rfl ?_
    refine g_aloadN (pc' := 15) C X10 d28_14 rfl rfl rfl ?_
    refine g_aloadN (pc' := 16) C X10 d28_15 rfl rfl rfl ?_
    refine g_getF (pc' := 19) C X10 d28_16 (host := "") (Or.inl (wq hw 86 rfl)) Via.refl e10 Fn_a1 rfl (fun T11 X11 e11 => ?_)
    refine g_iloadN (pc' := 20) C X11 d28_19 rfl rfl ?_
    refine g_iadd (pc' := 21) C X11 d28_20 rfl ?_
    have hin : (n + (2 : Int32)).toInt = n.toInt + 2 := own_nk2 hnB
    refine g_callQ (b := a1) (y := (⟨"java/lang/AbstractStringBuilder", "ensureCapacityInternal", "(I)V"⟩ : MethodName)) (argsL := [(.int (n + (2 : Int32)))]) (st := []) (pc' := 24) C X11 d28_21 (wq hw 153 rfl) (wq hw 154 rfl) (wq hw 155 rfl) (wq hw 52 rfl) (wq hw 156 rfl) (wq hw 157 rfl) (by decide) (rmens1 l Z a0 hw [] a1 (n + (2 : Int32)) v1_ k_a1 z (own_u xs) n cs_ fm h0 n0 Z0 hF E_a1 Fv_a1 Fm_a1 Fn_a1 Fc_a1 E_v1_ V_v1_ gn_a1 gn_v1_ ne1v (by have := hz_a1.1; omega) hz_a1.2 (by have := hz_a1.1; omega) (by omega) (by omega) (own_hzu hz_a1.1 hz_a1.2)) (W := 0) (by decide) (by decide) (ce := 1) (sl := 40) rfl rfl (by decide) (by decide) rfl E_a1 e11 rfl pd_7 rfl (Nat.le_refl _) rfl (fun rv12 T12 L12 X12 Q12 => ?_)
    obtain ⟨w12, kw12, z212, q12, Nq12, Kq12, P12_0, P12_1, P12_2, P12_3, P12_4, P12_5, xp12_0, xp12_1, xp12_2, xp12_3, xp12_4⟩ := Q12
    have N12 := Fr.app N10 Nq12
    have ne12_13 : ¬ (a2 = w12) := xp12_0 a2 E_a2.lt (Ne.symm nl3)
    have ne12_14 : ¬ (b2 = w12) := xp12_0 b2 V_l.lt (Ne.symm nl4)
    have gn_w12 := xp12_1
    have FX_12 := FX_keep hF Kq12 ((allS (by obtain ⟨c_, _, h1_, _, _, h2_, _⟩ := E_a1; exact ⟨c_, h1_, h2_⟩) all0))
    have E_a2_12 := E_a2.keep Kq12
    have Fv_a2_12 := Fv_a2.keep Kq12 (ninS (Ne.symm nl1) nin0)
    have Fc_a2_12 := Fc_a2.keep Kq12 (ninS (Ne.symm nl1) nin0)
    have V_l_12 := V_l.keep Kq12 (ninS (Ne.symm nl2) nin0)
    have E_a1_12 := E_a1.keep Kq12
    have E_v1__12 := E_v1_.keep Kq12
    have V_v1__12 := V_v1_.keep Kq12 (ninS (Ne.symm ne1v) nin0)
    have Z12 := Nat.le_trans Z0 Kq12.1
    have K12 := K0.trans Kq12 (allS (Or.inl (List.mem_of_getElem? (i := 0) rfl)) all0)
    subst q12
    show Go p.tables e below _ (T12.setTop (mkF m 24 #[.val (.ref a1), .val (.ref a2), .val (.int (2 : Int32))] []))
    have hcz : n.toInt + 2 ≤ z212.toInt := by rw [← hin]; exact xp12_3
    have hc20 : z212.toInt ≤ 20 := xp12_4
    have hn0_ : ¬ (n < (0 : Int32)) := own_nlt hnB.1
    have hnz_ : n < z212 := own_lt.mpr (by omega)
    have hbz_ := own_hbn (n := z212) (p := n) (by omega) (by omega) hn0_ hnz_
    have hlz_ : (xs.length : Int) ≤ z212.toInt := by omega
    refine g_aloadN (pc' := 25) C X12 d28_24 rfl rfl rfl ?_
    refine g_aloadN (pc' := 26) C X12 d28_25 rfl rfl rfl ?_
    refine g_getF (pc' := 29) C X12 d28_26 (host := "") (Or.inl (wq hw 86 rfl)) Via.refl rfl P12_2 rfl (fun T15 X15 e15 => ?_)
    refine g_aloadN (pc' := 30) C X15 d28_29 rfl rfl rfl ?_
    refine g_callQ (b := a1) (y := (⟨"java/lang/AbstractStringBuilder", "putStringAt", "(ILjava/lang/String;)V"⟩ : MethodName)) (argsL := [(.int n), (.ref a2)]) (st := []) (pc' := 33) C X15 d28_30 (wq hw 158 rfl) (wq hw 159 rfl) (wq hw 160 rfl) (wq hw 52 rfl) (wq hw 161 rfl) (wq hw 162 rfl) (by decide) (rmpsa1 l Z a0 hw [] a1 n a2 w12 b2 kb y0 y1 kw12 (z212 + z212) xs cs_ fm T12.heap n0 Z12 FX_12 E_a1_12 P12_0 P12_3 E_a2_12 Fv_a2_12 Fc_a2_12 V_l_12 P12_5 hy0 hy1 gn_w12 ne12_14 ne12_13 hne (by omega) (own_zz (Int.natCast_nonneg _) (by omega) hc20).1 (own_zz (m := 0) (by omega) (by omega) hc20).2) (W := 0) (by decide) (by decide) (ce := 1) (sl := 40) rfl rfl (by decide) (by decide) rfl E_a1_12 e15 rfl pd_23 rfl (Nat.le_refl _) rfl (fun rv16 T16 L16 X16 Q16 => ?_)
    obtain ⟨q16, Nq16, Kq16, P16_0⟩ := Q16
    have N16 := Fr.app N12 Nq16
    have FX_16 := FX_keep FX_12 Kq16 ((allS (by obtain ⟨c_, A_, _⟩ := P12_5; exact ⟨c_, A_.1, A_.plain⟩) all0))
    have E_a2_16 := E_a2_12.keep Kq16
    have Fv_a2_16 := Fv_a2_12.keep Kq16 (ninS ne12_13 nin0)
    have Fc_a2_16 := Fc_a2_12.keep Kq16 (ninS ne12_13 nin0)
    have V_l_16 := V_l_12.keep Kq16 (ninS ne12_14 nin0)
    have E_a1_16 := E_a1_12.keep Kq16
    have E_v1__16 := E_v1__12.keep Kq16
    have P12_0_16 := P12_0.keep Kq16 (ninS xp12_2 nin0)
    have P12_1_16 := P12_1.keep Kq16 (ninS xp12_2 nin0)
    have P12_2_16 := P12_2.keep Kq16 (ninS xp12_2 nin0)
    have P12_3_16 := P12_3.keep Kq16 (ninS xp12_2 nin0)
    have P12_4_16 := P12_4.keep Kq16
    have Z16 := Nat.le_trans Z12 Kq16.1
    have K16 := K12.trans Kq16 (allS (own_mm xp12_0 (List.mem_of_getElem? (i := 1) rfl)) all0)
    subst q16
    show Go p.tables e below _ (T16.setTop (mkF m 33 #[.val (.ref a1), .val (.ref a2), .val (.int (2 : Int32))] []))
    refine g_aloadN (pc' := 34) C X16 d28_33 rfl rfl rfl ?_
    refine g_dup (pc' := 35) C X16 d28_34 rfl rfl ?_
    refine g_getF (pc' := 38) C X16 d28_35 (host := "") (Or.inl (wq hw 86 rfl)) Via.refl rfl P12_2_16 rfl (fun T17 X17 e17 => ?_)
    refine g_iloadN (pc' := 39) C X17 d28_38 rfl rfl ?_
    refine g_iadd (pc' := 40) C X17 d28_39 rfl ?_
    refine g_putF (pc' := 43) C X17 d28_40 (host := "") (Or.inl (wq hw 86 rfl)) Via.refl e17 P12_2_16 E_a1_16 (Or.inl (wq hw 87 rfl)) (wq hw 32 rfl) (ty := .int) (by decide) rfl rfl rfl (fun T18 h18 X18 e18 W18 => ?_)
    have F18 := P12_2_16.same W18
    have FX_18 := FX_wr FX_16 W18
    have E_a2_18 := E_a2_16.wr W18
    have Fv_a2_18 := Fv_a2_16.other W18 (Or.inl (Ne.symm nl1))
    have Fc_a2_18 := Fc_a2_16.other W18 (Or.inl (Ne.symm nl1))
    have V_l_18 := V_l_16.other W18 (Ne.symm nl2)
    have E_a1_18 := E_a1_16.wr W18
    have E_v1__18 := E_v1__16.wr W18
    have P12_0_18 := P12_0_16.other W18 (Or.inr (slot_ne (Or.inl (wq hw 57 rfl)) (Or.inl (wq hw 87 rfl)) (by decide) (t := (.array .byte)) (t' := .int) (by decide) (by decide)))
    have P12_1_18 := P12_1_16.other W18 (Or.inr (slot_ne (Or.inl (wq hw 280 rfl)) (Or.inl (wq hw 87 rfl)) (by decide) (t := .boolean) (t' := .int) (by decide) (by decide)))
    have P12_3_18 := P12_3_16.other W18 (Or.inr (slot_ne (Or.inl (wq hw 59 rfl)) (Or.inl (wq hw 87 rfl)) (by decide) (t := .byte) (t' := .int) (by decide) (by decide)))
    have P12_4_18 := P12_4_16.wr W18
    have P16_0_18 := P16_0.other W18 (Ne.symm xp12_2)
    have Z18 := Nat.le_trans Z16 (Nat.le_of_eq W18.size.symm)
    have N18 := Fr.snoc X18 N16 gn_a1
    have K18 := K16.wr W18 (Or.inl (List.mem_of_getElem? (i := 0) rfl))
    refine g_aloadN (pc' := 44) C X18 d28_43 rfl rfl rfl ?_
    exact g_retA C X18 rfl rfl rfl d28_44 (by decide) (by decide) ⟨w12, z212, rfl, N18, (by rw [e18]; exact K18), (by rw [e18]; exact ⟨own_len_snoc2 hlt, own_all_snoc2 hx_a1 (own_lsc hy0) (own_lsc hy1), E_a1_18, P12_0_18, P12_1_18, P12_4_18, ⟨by rw [List.length_append]; show ((xs.length + 2 : Nat) : Int) ≤ _; omega, hc20⟩, _, _, own_n_snoc2 hne hlt, F18, Or.inr ⟨P12_3_18, P16_0_18⟩⟩), xp12_0, xp12_1, xp12_2⟩
theorem d27_0 : decode jdk_67_method_7_code 0 = .ok (.aload_n 0, 1) := by decide +kernel
theorem d27_1 : decode jdk_67_method_7_code 1 = .ok (.aload_n 1, 1) := by decide +kernel
theorem d27_2 : decode jdk_67_method_7_code 2 = .ok (.invokespecial 29, 3) := by decide +kernel
theorem pd_24 : parseMethodDescriptor "(Ljava/lang/String;)Ljava/lang/AbstractStringBuilder;" = some ⟨[(.object "java/lang/String")], some (.object "java/lang/AbstractStringBuilder")⟩ := by decide +kernel
theorem d27_5 : decode jdk_67_method_7_code 5 = .ok (.pop, 1) := by decide +kernel
theorem d27_6 : decode jdk_67_method_7_code 6 = .ok (.aload_n 0, 1) := by decide +kernel
theorem d27_7 : decode jdk_67_method_7_code 7 = .ok (.areturn, 1) := by decide +kernel
theorem ef_apS (m : MethodId) (a1 : Addr) (a2 : Addr) : entryFrame m #[(.ref a1), (.ref a2)] 2 = mkF m 0 #[.val (.ref a1), .val (.ref a2)] [] := by first | (simp [entryFrame, mkF, argsToLocals, Value.category]; done) | rfl
def Q_apS (Z : State) (a1 : Addr) (a2 : Addr) (v1_ : Addr) (z : Int32) (xs : List Int32) (b2 : Addr) (kb : ClassId) (y0 : Int32) (y1 : Int32) (cs_ : Int32) (fm : Value) (h0 : Heap) (n0 : Nat) (vr : Option Value) (h : Heap) (L : List Loc) : Prop := ∃ w : Addr, ∃ z2 : Int32, (vr = some (.ref a1)) ∧ (Fr n0 L) ∧ (Keep h0 h [a1, v1_]) ∧ (Bld Z h a1 w z2 (xs ++ [y0, y1])) ∧ (∀ o : Addr, o < h0.size → ¬ (o = v1_) → ¬ (o = w)) ∧ (n0 ≤ w) ∧ (¬ (a1 = w))
set_option maxRecDepth 65536 in
set_option maxHeartbeats 40000000 in
theorem rmapS (l : Launch) (Z : State) (a0 : Array Value) (hw : ∀ d ∈ tables_1, d.before a0 Z = true) (ws : List Jvm.Cond) (a1 : Addr) (a2 : Addr) (v1_ : Addr) (z : Int32) (xs : List Int32) (b2 : Addr) (kb : ClassId) (y0 : Int32) (y1 : Int32) (cs_ : Int32) (fm : Value) (h0 : Heap) (n0 : Nat) (Z0 : n0 ≤ h0.size) (hF : FX Z h0 cs_ fm) (hB : Bld Z h0 a1 v1_ z xs) (E_a2 : Exa Z h0 a2 "java/lang/String") (Fv_a2 : Fld Z h0 a2 "java/lang/String" "value" "[B" (.ref b2)) (Fc_a2 : Fld Z h0 a2 "java/lang/String" "coder" "B" (.int (0 : Int32))) (V_l : Arv Z h0 b2 kb .byte (2 : Int32) [(.int y0), (.int y1)] (.int (0 : Int32))) (hlt : xs.length < 7) (gn_a1 : n0 ≤ a1) (gn_v1_ : n0 ≤ v1_) (ne1v : ¬ (a1 = v1_)) (hy0 : own_ls y0) (hy1 : own_ls y1) (nl1 : ¬ (a1 = a2)) (nl2 : ¬ (a1 = b2)) (nl3 : ¬ (v1_ = a2)) (nl4 : ¬ (v1_ = b2)) :
    MetFree l (⟨"java/lang/StringBuilder", "append", "(Ljava/lang/String;)Ljava/lang/StringBuilder;"⟩ : MethodName) (head1 (Jvm.Cond.code (⟨"java/lang/StringBuilder", "append", "(Ljava/lang/String;)Ljava/lang/StringBuilder;"⟩ : MethodName) jdk_67_method_7_code 2 (some (.object "java/lang/StringBuilder")) :: ws) ({ frames := 8, cells := 1, slots := 40, locals := 119 } : Room)) (fun a U => a = #[(.ref a1), (.ref a2)] ∧ Z.Warmed39 U.vm ∧ U.heap = h0) (fun _ _ _ _ _ => True) (fun _ U o U' => ∃ v L, o = .returned v ∧ Q_apS Z a1 a2 v1_ z xs b2 kb y0 y1 cs_ fm h0 n0 v U'.heap L ∧ FrameEnd U o U' L ({ frames := 8, cells := 1, slots := 40, locals := 119 } : Room).cells ({ frames := 8, cells := 1, slots := 40, locals := 119 } : Room).slots) := by
  refine met_of (Ls := #[.val (.ref a1), .val (.ref a2)]) (plainFor_of_name (by first | (simp [plainName, overriddenIn]; done) | decide +kernel)) (fun m => ef_apS m a1 a2) ?_
  intro p e s m below meth c T0 C X0 e0
  obtain ⟨S_cs, hcs, S_fm, hfm, S_ad, S_hi, S_lo⟩ := id hF
  have N0 := Fr.nil n0
  have K0 : Keep h0 h0 [a1, v1_] := Keep.refl h0 _
  refine g_aloadN (pc' := 1) C X0 d27_0 rfl rfl rfl ?_
  refine g_aloadN (pc' := 2) C X0 d27_1 rfl rfl rfl ?_
  refine g_callU (b := a1) (y := (⟨"java/lang/AbstractStringBuilder", "append", "(Ljava/lang/String;)Ljava/lang/AbstractStringBuilder;"⟩ : MethodName)) (argsL := [(.ref a2)]) (st := []) (pc' := 5) C X0 d27_2 (wq hw 148 rfl) (wq hw 149 rfl) (own_nface (wq hw 75 rfl) rfl rfl (State.Warmed39.refl _)) (wq hw 84 rfl) (by decide) (wq hw 52 rfl) (wq hw 151 rfl) (by decide) (rmapA l Z a0 hw [] a1 a2 v1_ z xs b2 kb y0 y1 cs_ fm h0 n0 Z0 hF hB E_a2 Fv_a2 Fc_a2 V_l hlt gn_a1 gn_v1_ ne1v hy0 hy1 nl1 nl2 nl3 nl4) (W := 0) (by decide) (by decide) (ce := 1) (sl := 40) rfl rfl (by decide) (by decide) rfl (Bld_exa hB) e0 rfl pd_24 rfl (Nat.le_refl _) rfl (fun rv1 T1 L1 X1 Q1 => ?_)
  obtain ⟨w1, z21, q1, Nq1, Kq1, P1_0, xp1_0, xp1_1, xp1_2⟩ := Q1
  have N1 := Fr.app N0 Nq1
  have ne1_2 : ¬ (a2 = w1) := xp1_0 a2 E_a2.lt (Ne.symm nl3)
  have ne1_3 : ¬ (b2 = w1) := xp1_0 b2 V_l.lt (Ne.symm nl4)
  have gn_w1 := xp1_1
  have FX_1 := FX_keep hF Kq1 ((allS (Bld_pl0 hB) (allS (Bld_pl1 hB) all0)))
  have E_a2_1 := E_a2.keep Kq1
  have Fv_a2_1 := Fv_a2.keep Kq1 (ninS (Ne.symm nl1) (ninS (Ne.symm nl3) nin0))
  have Fc_a2_1 := Fc_a2.keep Kq1 (ninS (Ne.symm nl1) (ninS (Ne.symm nl3) nin0))
  have V_l_1 := V_l.keep Kq1 (ninS (Ne.symm nl2) (ninS (Ne.symm nl4) nin0))
  have Z1 := Nat.le_trans Z0 Kq1.1
  have K1 := K0.trans Kq1 (allS (Or.inl (List.mem_of_getElem? (i := 0) rfl)) (allS (Or.inl (List.mem_of_getElem? (i := 1) rfl)) all0))
  subst q1
  show Go p.tables e below _ (T1.setTop (mkF m 5 #[.val (.ref a1), .val (.ref a2)] [(.ref a1)]))
  refine g_pop (pc' := 6) C X1 d27_5 rfl rfl ?_
  refine g_aloadN (pc' := 7) C X1 d27_6 rfl rfl rfl ?_
  exact g_retA C X1 rfl rfl rfl d27_7 (by decide) (by decide) ⟨w1, z21, rfl, N1, K1, P1_0, xp1_0, xp1_1, xp1_2⟩
theorem d13_0 : decode jdk_68_method_64_code 0 = .ok (.aload_n 0, 1) := by decide +kernel
theorem d13_1 : decode jdk_68_method_64_code 1 = .ok (.getfield 15, 3) := by decide +kernel
theorem d13_4 : decode jdk_68_method_64_code 4 = .ok (.areturn, 1) := by decide +kernel
theorem ef_gv (m : MethodId) (a1 : Addr) : entryFrame m #[(.ref a1)] 1 = mkF m 0 #[.val (.ref a1)] [] := by first | (simp [entryFrame, mkF, argsToLocals, Value.category]; done) | rfl
def Q_gv (Z : State) (a1 : Addr) (v1_ : Addr) (cs_ : Int32) (fm : Value) (h0 : Heap) (n0 : Nat) (v : Option Value) (h : Heap) (L : List Loc) : Prop := v = some (.ref v1_) ∧ Fr n0 L ∧ h = h0
set_option maxRecDepth 65536 in
set_option maxHeartbeats 40000000 in
theorem rmgv (l : Launch) (Z : State) (a0 : Array Value) (hw : ∀ d ∈ tables_1, d.before a0 Z = true) (ws : List Jvm.Cond) (a1 : Addr) (v1_ : Addr) (cs_ : Int32) (fm : Value) (h0 : Heap) (n0 : Nat) (hF : FX Z h0 cs_ fm) (Fv_a1 : Fld Z h0 a1 "java/lang/AbstractStringBuilder" "value" "[B" (.ref v1_)) :
    MetFree l (⟨"java/lang/AbstractStringBuilder", "getValue", "()[B"⟩ : MethodName) (head1 (Jvm.Cond.code (⟨"java/lang/AbstractStringBuilder", "getValue", "()[B"⟩ : MethodName) jdk_68_method_64_code 1 (some (.array .byte)) :: ws) ({ frames := 0, cells := 0, slots := 0, locals := 0 } : Room)) (fun a U => a = #[(.ref a1)] ∧ Z.Warmed39 U.vm ∧ U.heap = h0) (fun _ _ _ _ _ => True) (fun _ U o U' => ∃ v L, o = .returned v ∧ Q_gv Z a1 v1_ cs_ fm h0 n0 v U'.heap L ∧ FrameEnd U o U' L ({ frames := 0, cells := 0, slots := 0, locals := 0 } : Room).cells ({ frames := 0, cells := 0, slots := 0, locals := 0 } : Room).slots) := by
  refine met_of (Ls := #[.val (.ref a1)]) (plainFor_of_name (by first | (simp [plainName, overriddenIn]; done) | decide +kernel)) (fun m => ef_gv m a1) ?_
  intro p e s m below meth c T0 C X0 e0
  obtain ⟨S_cs, hcs, S_fm, hfm, S_ad, S_hi, S_lo⟩ := id hF
  have N0 := Fr.nil n0
  refine g_aloadN (pc' := 1) C X0 d13_0 rfl rfl rfl ?_
  refine g_getF (pc' := 4) C X0 d13_1 (host := "") (Or.inl (wq hw 56 rfl)) Via.refl e0 Fv_a1 rfl (fun T1 X1 e1 => ?_)
  exact g_retA C X1 rfl rfl rfl d13_4 (by decide) (by decide) ⟨rfl, N0, e1⟩
theorem d15_0 : decode jdk_68_method_6_code 0 = .ok (.aload_n 0, 1) := by decide +kernel
theorem d15_1 : decode jdk_68_method_6_code 1 = .ok (.getfield 79, 3) := by decide +kernel
theorem d15_4 : decode jdk_68_method_6_code 4 = .ok (.ireturn, 1) := by decide +kernel
theorem ef_abl (m : MethodId) (a1 : Addr) : entryFrame m #[(.ref a1)] 1 = mkF m 0 #[.val (.ref a1)] [] := by first | (simp [entryFrame, mkF, argsToLocals, Value.category]; done) | rfl
def Q_abl (Z : State) (a1 : Addr) (n : Int32) (cs_ : Int32) (fm : Value) (h0 : Heap) (n0 : Nat) (v : Option Value) (h : Heap) (L : List Loc) : Prop := v = some (.int n) ∧ Fr n0 L ∧ h = h0
set_option maxRecDepth 65536 in
set_option maxHeartbeats 40000000 in
theorem rmabl (l : Launch) (Z : State) (a0 : Array Value) (hw : ∀ d ∈ tables_1, d.before a0 Z = true) (ws : List Jvm.Cond) (a1 : Addr) (n : Int32) (cs_ : Int32) (fm : Value) (h0 : Heap) (n0 : Nat) (hF : FX Z h0 cs_ fm) (Fn_a1 : Fld Z h0 a1 "java/lang/AbstractStringBuilder" "count" "I" (.int n)) :
    MetFree l (⟨"java/lang/AbstractStringBuilder", "length", "()I"⟩ : MethodName) (head1 (Jvm.Cond.code (⟨"java/lang/AbstractStringBuilder", "length", "()I"⟩ : MethodName) jdk_68_method_6_code 1 (some .int) :: ws) ({ frames := 0, cells := 0, slots := 0, locals := 0 } : Room)) (fun a U => a = #[(.ref a1)] ∧ Z.Warmed39 U.vm ∧ U.heap = h0) (fun _ _ _ _ _ => True) (fun _ U o U' => ∃ v L, o = .returned v ∧ Q_abl Z a1 n cs_ fm h0 n0 v U'.heap L ∧ FrameEnd U o U' L ({ frames := 0, cells := 0, slots := 0, locals := 0 } : Room).cells ({ frames := 0, cells := 0, slots := 0, locals := 0 } : Room).slots) := by
  refine met_of (Ls := #[.val (.ref a1)]) (plainFor_of_name (by first | (simp [plainName, overriddenIn]; done) | decide +kernel)) (fun m => ef_abl m a1) ?_
  intro p e s m below meth c T0 C X0 e0
  obtain ⟨S_cs, hcs, S_fm, hfm, S_ad, S_hi, S_lo⟩ := id hF
  have N0 := Fr.nil n0
  refine g_aloadN (pc' := 1) C X0 d15_0 rfl rfl rfl ?_
  refine g_getF (pc' := 4) C X0 d15_1 (host := "") (Or.inl (wq hw 86 rfl)) Via.refl e0 Fn_a1 rfl (fun T1 X1 e1 => ?_)
  exact g_retI C X1 d15_4 (by decide) (by decide) ⟨rfl, N0, e1⟩
theorem d14_0 : decode jdk_67_method_93_code 0 = .ok (.aload_n 0, 1) := by decide +kernel
theorem d14_1 : decode jdk_67_method_93_code 1 = .ok (.invokespecial 343, 3) := by decide +kernel
theorem d14_4 : decode jdk_67_method_93_code 4 = .ok (.ireturn, 1) := by decide +kernel
theorem ef_sbl (m : MethodId) (a1 : Addr) : entryFrame m #[(.ref a1)] 1 = mkF m 0 #[.val (.ref a1)] [] := by first | (simp [entryFrame, mkF, argsToLocals, Value.category]; done) | rfl
def Q_sbl (Z : State) (a1 : Addr) (n : Int32) (cs_ : Int32) (fm : Value) (h0 : Heap) (n0 : Nat) (v : Option Value) (h : Heap) (L : List Loc) : Prop := v = some (.int n) ∧ Fr n0 L ∧ h = h0
set_option maxRecDepth 65536 in
set_option maxHeartbeats 40000000 in
theorem rmsbl (l : Launch) (Z : State) (a0 : Array Value) (hw : ∀ d ∈ tables_1, d.before a0 Z = true) (ws : List Jvm.Cond) (a1 : Addr) (n : Int32) (cs_ : Int32) (fm : Value) (h0 : Heap) (n0 : Nat) (hF : FX Z h0 cs_ fm) (E_a1 : Exa Z h0 a1 "java/lang/StringBuilder") (Fn_a1 : Fld Z h0 a1 "java/lang/AbstractStringBuilder" "count" "I" (.int n)) :
    MetFree l (⟨"java/lang/StringBuilder", "length", "()I"⟩ : MethodName) (head1 (Jvm.Cond.code (⟨"java/lang/StringBuilder", "length", "()I"⟩ : MethodName) jdk_67_method_93_code 1 (some .int) :: ws) ({ frames := 1, cells := 0, slots := 0, locals := 12 } : Room)) (fun a U => a = #[(.ref a1)] ∧ Z.Warmed39 U.vm ∧ U.heap = h0) (fun _ _ _ _ _ => True) (fun _ U o U' => ∃ v L, o = .returned v ∧ Q_sbl Z a1 n cs_ fm h0 n0 v U'.heap L ∧ FrameEnd U o U' L ({ frames := 1, cells := 0, slots := 0, locals := 12 } : Room).cells ({ frames := 1, cells := 0, slots := 0, locals := 12 } : Room).slots) := by
  refine met_of (Ls := #[.val (.ref a1)]) (plainFor_of_name (by first | (simp [plainName, overriddenIn]; done) | decide +kernel)) (fun m => ef_sbl m a1) ?_
  intro p e s m below meth c T0 C X0 e0
  obtain ⟨S_cs, hcs, S_fm, hfm, S_ad, S_hi, S_lo⟩ := id hF
  have N0 := Fr.nil n0
  refine g_aloadN (pc' := 1) C X0 d14_0 rfl rfl rfl ?_
  refine g_callU (b := a1) (y := (⟨"java/lang/AbstractStringBuilder", "length", "()I"⟩ : MethodName)) (argsL := []) (st := []) (pc' := 4) C X0 d14_1 (wq hw 83 rfl) (wq hw 79 rfl) (own_nface (wq hw 75 rfl) rfl rfl (State.Warmed39.refl _)) (wq hw 84 rfl) (by decide) (wq hw 52 rfl) (wq hw 85 rfl) (by decide) (rmabl l Z a0 hw [] a1 n cs_ fm h0 n0 hF Fn_a1) (W := 0) (by decide) (by decide) (ce := 0) (sl := 0) rfl rfl (by decide) (by decide) rfl E_a1 e0 rfl pd_22 rfl (Nat.le_refl _) rfl (fun rv1 T1 L1 X1 Q1 => ?_)
  obtain ⟨q1, Nq1, e1⟩ := Q1
  have N1 := Fr.app N0 Nq1
  subst q1
  show Go p.tables e below _ (T1.setTop (mkF m 4 #[.val (.ref a1)] [(.int n)]))
  exact g_retI C X1 d14_4 (by decide) (by decide) ⟨rfl, N1, e1⟩
theorem d42_0 : decode jdk_65_method_131_code 0 = .ok (.iload_n 1, 1) := by decide +kernel
theorem d42_1 : decode jdk_65_method_131_code 1 = .ok (.iload_n 0, 1) := by decide +kernel
theorem d42_2 : decode jdk_65_method_131_code 2 = .ok (.if_icmp .ge 35, 3) := by decide +kernel
theorem d42_37 : decode jdk_65_method_131_code 37 = .ok (.return_, 1) := by decide +kernel
theorem ef_ckl (m : MethodId) (p1 : Int32) (p2 : Int32) : entryFrame m #[(.int p1), (.int p2)] 2 = mkF m 0 #[.val (.int p1), .val (.int p2)] [] := by first | (simp [entryFrame, mkF, argsToLocals, Value.category]; done) | rfl
def Q_ckl (Z : State) (p1 : Int32) (p2 : Int32) (cs_ : Int32) (fm : Value) (h0 : Heap) (n0 : Nat) (v : Option Value) (h : Heap) (L : List Loc) : Prop := v = none ∧ Fr n0 L ∧ h = h0
set_option maxRecDepth 65536 in
set_option maxHeartbeats 40000000 in
theorem rmckl (l : Launch) (Z : State) (a0 : Array Value) (hw : ∀ d ∈ tables_1, d.before a0 Z = true) (ws : List Jvm.Cond) (p1 : Int32) (p2 : Int32) (cs_ : Int32) (fm : Value) (h0 : Heap) (n0 : Nat) (hF : FX Z h0 cs_ fm) (hcl : ¬ (p2 < p1)) :
    MetFree l (⟨"java/util/Arrays", "checkLength", "(II)V"⟩ : MethodName) (head1 (Jvm.Cond.code (⟨"java/util/Arrays", "checkLength", "(II)V"⟩ : MethodName) jdk_65_method_131_code 2 none :: ws) ({ frames := 0, cells := 0, slots := 0, locals := 0 } : Room)) (fun a U => a = #[(.int p1), (.int p2)] ∧ Z.Warmed39 U.vm ∧ U.heap = h0) (fun _ _ _ _ _ => True) (fun _ U o U' => ∃ v L, o = .returned v ∧ Q_ckl Z p1 p2 cs_ fm h0 n0 v U'.heap L ∧ FrameEnd U o U' L ({ frames := 0, cells := 0, slots := 0, locals := 0 } : Room).cells ({ frames := 0, cells := 0, slots := 0, locals := 0 } : Room).slots) := by
  refine met_of (Ls := #[.val (.int p1), .val (.int p2)]) (plainFor_of_name (by first | (simp [plainName, overriddenIn]; done) | decide +kernel)) (fun m => ef_ckl m p1 p2) ?_
  intro p e s m below meth c T0 C X0 e0
  obtain ⟨S_cs, hcs, S_fm, hfm, S_ad, S_hi, S_lo⟩ := id hF
  have N0 := Fr.nil n0
  refine g_iloadN (pc' := 1) C X0 d42_0 rfl rfl ?_
  refine g_iloadN (pc' := 2) C X0 d42_1 rfl rfl ?_
  refine g_icmpY (pc' := 37) C X0 d42_2 (flt hcl).2.1 (by decide) (by decide) ?_
  exact g_retV C X0 d42_37 (by decide) (by decide) ⟨rfl, N0, e0⟩
theorem d41_0 : decode jdk_65_method_133_code 0 = .ok (.iload_n 1, 1) := by decide +kernel
theorem d41_1 : decode jdk_65_method_133_code 1 = .ok (.iload_n 2, 1) := by decide +kernel
theorem d41_2 : decode jdk_65_method_133_code 2 = .ok (.invokestatic 343, 3) := by decide +kernel
theorem d41_5 : decode jdk_65_method_133_code 5 = .ok (.iload_n 2, 1) := by decide +kernel
theorem d41_6 : decode jdk_65_method_133_code 6 = .ok (.iload_n 1, 1) := by decide +kernel
theorem d41_7 : decode jdk_65_method_133_code 7 = .ok (.isub, 1) := by decide +kernel
theorem d41_8 : decode jdk_65_method_133_code 8 = .ok (.istore_n 3, 1) := by decide +kernel
theorem d41_9 : decode jdk_65_method_133_code 9 = .ok (.iload_n 3, 1) := by decide +kernel
theorem d41_10 : decode jdk_65_method_133_code 10 = .ok (.newarray .byte, 2) := by decide +kernel
theorem d41_12 : decode jdk_65_method_133_code 12 = .ok (.astore 4, 2) := by decide +kernel
theorem d41_14 : decode jdk_65_method_133_code 14 = .ok (.aload_n 0, 1) := by decide +kernel
theorem d41_15 : decode jdk_65_method_133_code 15 = .ok (.iload_n 1, 1) := by decide +kernel
theorem d41_16 : decode jdk_65_method_133_code 16 = .ok (.aload 4, 2) := by decide +kernel
theorem d41_18 : decode jdk_65_method_133_code 18 = .ok (.iconst 0, 1) := by decide +kernel
theorem d41_19 : decode jdk_65_method_133_code 19 = .ok (.aload_n 0, 1) := by decide +kernel
theorem d41_20 : decode jdk_65_method_133_code 20 = .ok (.arraylength, 1) := by decide +kernel
theorem d41_21 : decode jdk_65_method_133_code 21 = .ok (.iload_n 1, 1) := by decide +kernel
theorem d41_22 : decode jdk_65_method_133_code 22 = .ok (.isub, 1) := by decide +kernel
theorem d41_23 : decode jdk_65_method_133_code 23 = .ok (.iload_n 3, 1) := by decide +kernel
theorem d41_24 : decode jdk_65_method_133_code 24 = .ok (.invokestatic 304, 3) := by decide +kernel
theorem d41_27 : decode jdk_65_method_133_code 27 = .ok (.invokestatic 150, 3) := by decide +kernel
theorem d41_30 : decode jdk_65_method_133_code 30 = .ok (.aload 4, 2) := by decide +kernel
theorem d41_32 : decode jdk_65_method_133_code 32 = .ok (.areturn, 1) := by decide +kernel
theorem ef_crb (m : MethodId) (a1 : Addr) (p3 : Int32) : entryFrame m #[(.ref a1), (.int (0 : Int32)), (.int p3)] 5 = mkF m 0 #[.val (.ref a1), .val (.int (0 : Int32)), .val (.int p3), .unset, .unset] [] := by first | (simp [entryFrame, mkF, argsToLocals, Value.category]; done) | rfl
def Q_crb (Z : State) (a1 : Addr) (p3 : Int32) (k1 : ClassId) (z1 : Int32) (lx : List Int32) (cs_ : Int32) (fm : Value) (h0 : Heap) (n0 : Nat) (vr : Option Value) (h : Heap) (L : List Loc) : Prop := ∃ w : Addr, ∃ kw : ClassId, (vr = some (.ref w)) ∧ (Fr n0 L) ∧ (Keep h0 h []) ∧ (h0.size ≤ w) ∧ (n0 ≤ w) ∧ (Arv Z h w kw .byte (p3 - (0 : Int32)) (own_vl lx) (.int (0 : Int32)))
set_option maxRecDepth 65536 in
set_option maxHeartbeats 40000000 in
theorem rmcrb (l : Launch) (Z : State) (a0 : Array Value) (hw : ∀ d ∈ tables_1, d.before a0 Z = true) (ws : List Jvm.Cond) (a1 : Addr) (p3 : Int32) (k1 : ClassId) (z1 : Int32) (lx : List Int32) (cs_ : Int32) (fm : Value) (h0 : Heap) (n0 : Nat) (Z0 : n0 ≤ h0.size) (hF : FX Z h0 cs_ fm) (V_b : Arv Z h0 a1 k1 .byte z1 (own_vl lx) (.int (0 : Int32))) (hcl_ : ¬ (p3 < (0 : Int32))) (h0_ : ¬ ((p3 - (0 : Int32)) < (0 : Int32))) (h1_ : (p3 - (0 : Int32)) < (z1 - (0 : Int32))) (hcp_ : (p3 - (0 : Int32)).toNatClampNeg ≤ 40) (hz_ : ∀ i, (p3 - (0 : Int32)).toNatClampNeg ≤ i → lx.getD i 0 = 0) :
    MetFree l (⟨"java/util/Arrays", "copyOfRangeByte", "([BII)[B"⟩ : MethodName) (head1 (Jvm.Cond.code (⟨"java/util/Arrays", "copyOfRangeByte", "([BII)[B"⟩ : MethodName) jdk_65_method_133_code 5 (some (.array .byte)) :: ws) ({ frames := 1, cells := 1, slots := 40, locals := 40 } : Room)) (fun a U => a = #[(.ref a1), (.int (0 : Int32)), (.int p3)] ∧ Z.Warmed39 U.vm ∧ U.heap = h0) (fun _ _ _ _ _ => True) (fun _ U o U' => ∃ v L, o = .returned v ∧ Q_crb Z a1 p3 k1 z1 lx cs_ fm h0 n0 v U'.heap L ∧ FrameEnd U o U' L ({ frames := 1, cells := 1, slots := 40, locals := 40 } : Room).cells ({ frames := 1, cells := 1, slots := 40, locals := 40 } : Room).slots) := by
  refine met_of (Ls := #[.val (.ref a1), .val (.int (0 : Int32)), .val (.int p3), .unset, .unset]) (plainFor_of_name (by first | (simp [plainName, overriddenIn]; done) | decide +kernel)) (fun m => ef_crb m a1 p3) ?_
  intro p e s m below meth c T0 C X0 e0
  obtain ⟨S_cs, hcs, S_fm, hfm, S_ad, S_hi, S_lo⟩ := id hF
  have N0 := Fr.nil n0
  have K0 : Keep h0 h0 [] := Keep.refl h0 _
  refine g_iloadN (pc' := 1) C X0 d41_0 rfl rfl ?_
  refine g_iloadN (pc' := 2) C X0 d41_1 rfl rfl ?_
  refine g_callS (y := (⟨"java/util/Arrays", "checkLength", "(II)V"⟩ : MethodName)) (argsL := [(.int (0 : Int32)), (.int p3)]) (st := []) (pc' := 5) C X0 d41_2 (wq hw 217 rfl) (wq hw 218 rfl) (wq hw 95 rfl) (wq hw 219 rfl) (by decide) (rmckl l Z a0 hw [] (0 : Int32) p3 cs_ fm h0 n0 hF hcl_) (W := 0) (by decide) (by decide) (ce := 0) (sl := 0) rfl rfl (by decide) (by decide) rfl e0 rfl pd_1 rfl (Nat.le_refl _) rfl (fun rv1 T1 L1 X1 Q1 => ?_)
  obtain ⟨q1, Nq1, e1⟩ := Q1
  have N1 := Fr.app N0 Nq1
  subst q1
  show Go p.tables e below _ (T1.setTop (mkF m 5 #[.val (.ref a1), .val (.int (0 : Int32)), .val (.int p3), .unset, .unset] []))
  refine g_iloadN (pc' := 6) C X1 d41_5 rfl rfl ?_
  refine g_iloadN (pc' := 7) C X1 d41_6 rfl rfl ?_
  refine g_isub (pc' := 8) C X1 d41_7 rfl ?_
  refine g_istoreN (pc' := 9) (Ls' := #[.val (.ref a1), .val (.int (0 : Int32)), .val (.int p3), .val (.int (p3 - (0 : Int32))), .unset]) C X1 d41_8 rfl rfl ?_
  refine g_iloadN (pc' := 10) C X1 d41_9 rfl rfl ?_
  refine g_newPE (pc' := 12) (cap := 40) (ad := "[B") C X1 (by decide) d41_10 (wq hw 20 rfl) e1 h0_ hcp_ (by decide) (ce := 1) (sl := 40) rfl rfl (by decide) (by decide) rfl (fun T2 h2 b2 ck2 g2 X2 e2 E2 V2 A2 => ?_)
  have ne2_3 : ¬ (a1 = b2) := Nat.ne_of_lt (Nat.lt_of_lt_of_le V_b.lt (Nat.le_of_eq g2.symm))
  have FX_2 := FX_ext hF E2
  have V_b_2 := V_b.ext E2
  have gn_b2 : n0 ≤ b2 := Nat.le_trans Z0 (Nat.le_of_eq g2.symm)
  have Z2 := Nat.le_trans Z0 E2.1
  have sz_b2 : h0.size ≤ b2 := Nat.le_trans K0.1 (Nat.le_of_eq g2.symm)
  have K2 := K0.ext E2
  refine g_astore (pc' := 14) (Ls' := #[.val (.ref a1), .val (.int (0 : Int32)), .val (.int p3), .val (.int (p3 - (0 : Int32))), .val (.ref b2)]) C X2 d41_12 rfl rfl rfl ?_
  refine g_aloadN (pc' := 15) C X2 d41_14 rfl rfl rfl ?_
  refine g_iloadN (pc' := 16) C X2 d41_15 rfl rfl ?_
  refine g_aload (pc' := 18) C X2 d41_16 rfl rfl rfl ?_
  refine g_iconst (pc' := 19) (v := (0 : Int32)) C X2 d41_18 rfl rfl ?_
  refine g_aloadN (pc' := 20) C X2 d41_19 rfl rfl rfl ?_
  refine g_len (pc' := 21) C X2 d41_20 e2 V_b_2 rfl ?_
  refine g_iloadN (pc' := 22) C X2 d41_21 rfl rfl ?_
  refine g_isub (pc' := 23) C X2 d41_22 rfl ?_
  refine g_iloadN (pc' := 24) C X2 d41_23 rfl rfl ?_
  refine g_callS (y := (⟨"java/lang/Math", "min", "(II)I"⟩ : MethodName)) (argsL := [(.int (z1 - (0 : Int32))), (.int (p3 - (0 : Int32)))]) (st := [(.int (0 : Int32)), (.ref b2), (.int (0 : Int32)), (.ref a1)]) (pc' := 27) C X2 d41_24 (wq hw 197 rfl) (wq hw 198 rfl) (wq hw 190 rfl) (wq hw 199 rfl) (by decide) (rmmn l Z a0 hw [] (z1 - (0 : Int32)) (p3 - (0 : Int32)) cs_ fm h2 n0 FX_2) (W := 4) (by decide) (by decide) (ce := 1) (sl := 40) rfl rfl (by decide) (by decide) rfl e2 rfl pd_8 rfl (Nat.le_refl _) rfl (fun rv4 T4 L4 X4 Q4 => ?_)
  obtain ⟨q4, Nq4, e4⟩ := Q4
  have N4 := Fr.app N1 Nq4
  rw [Fmn_l0 (z1 - (0 : Int32)) (p3 - (0 : Int32)) h1_] at q4
  subst q4
  show Go p.tables e below _ (T4.setTop (mkF m 27 #[.val (.ref a1), .val (.int (0 : Int32)), .val (.int p3), .val (.int (p3 - (0 : Int32))), .val (.ref b2)] [(.int (p3 - (0 : Int32))), (.int (0 : Int32)), (.ref b2), (.int (0 : Int32)), (.ref a1)]))
  refine g_cp (W := 0) (pc' := 30) C X4 d41_27 (wq hw 200 rfl) (wq hw 177 rfl) (wq hw 175 rfl) (wq hw 176 rfl) e4 V_b_2 (V2.pad (pad_rep _ _ ((p3 - (0 : Int32))).toNatClampNeg)) rfl (by decide) (by decide) h0_ (Nat.le_trans (Nat.le_of_eq (own_za _)) (own_cap2 h0_ h1_)) (Nat.le_of_eq (own_za _)) rfl own_hl N4 gn_b2 rfl (by decide) (Nat.le_refl _) (by decide) rfl (fun T5 h5 L5 X5 e5 N5 Kq5 A5 => ?_)
  have V5 : Arv Z h5 b2 ck2 .byte (p3 - (0 : Int32)) (own_vl lx) (.int (0 : Int32)) := own_cpv hz_ A5
  have FX_5 := FX_keep FX_2 Kq5 ((allS (by obtain ⟨c_, A_, _⟩ := V2; exact ⟨c_, A_.1, A_.plain⟩) all0))
  have V_b_5 := V_b_2.keep Kq5 (ninS ne2_3 nin0)
  have A2_5 := A2.keep Kq5
  have Z5 := Nat.le_trans Z2 Kq5.1
  have K5 := K2.trans Kq5 (allS (Or.inr sz_b2) all0)
  refine g_aload (pc' := 32) C X5 d41_30 rfl rfl rfl ?_
  exact g_retA C X5 rfl rfl rfl d41_32 (by decide) (by decide) ⟨b2, ck2, rfl, N5, (by rw [e5]; exact K5), sz_b2, gn_b2, (by rw [e5]; exact V5)⟩
theorem own_cr {p z : Int32} (h : ¬ (p < (0 : Int32))) (h1 : p.toInt ≤ z.toInt) (h2 : z.toInt ≤ 40) : (¬ (p - (0 : Int32)) < (0 : Int32)) ∧ (¬ (p = z) → (p - (0 : Int32)) < (z - (0 : Int32))) ∧ (p - (0 : Int32)).toNatClampNeg ≤ 40 ∧ z.toNatClampNeg ≤ 40 := by
  have a := own_nn h
  rw [own_sub0, own_sub0]
  refine ⟨h, fun q => own_lt.mpr ?_, by rw [own_tn]; omega, by rw [own_tn]; omega⟩
  have : ¬ p.toInt = z.toInt := fun e => q (own_eqI e)
  omega
theorem d17_0 : decode jdk_65_method_132_code 0 = .ok (.iload_n 1, 1) := by decide +kernel
theorem d17_1 : decode jdk_65_method_132_code 1 = .ok (.ifCond .ne 9, 3) := by decide +kernel
theorem d17_4 : decode jdk_65_method_132_code 4 = .ok (.iload_n 2, 1) := by decide +kernel
theorem d17_5 : decode jdk_65_method_132_code 5 = .ok (.aload_n 0, 1) := by decide +kernel
theorem d17_6 : decode jdk_65_method_132_code 6 = .ok (.arraylength, 1) := by decide +kernel
theorem d17_7 : decode jdk_65_method_132_code 7 = .ok (.if_icmp .eq 10, 3) := by decide +kernel
theorem d17_17 : decode jdk_65_method_132_code 17 = .ok (.aload_n 0, 1) := by decide +kernel
theorem d17_18 : decode jdk_65_method_132_code 18 = .ok (.invokevirtual 310, 3) := by decide +kernel
theorem d17_21 : decode jdk_65_method_132_code 21 = .ok (.checkcast 311, 3) := by decide +kernel
theorem d17_24 : decode jdk_65_method_132_code 24 = .ok (.areturn, 1) := by decide +kernel
theorem d17_10 : decode jdk_65_method_132_code 10 = .ok (.aload_n 0, 1) := by decide +kernel
theorem d17_11 : decode jdk_65_method_132_code 11 = .ok (.iload_n 1, 1) := by decide +kernel
theorem d17_12 : decode jdk_65_method_132_code 12 = .ok (.iload_n 2, 1) := by decide +kernel
theorem d17_13 : decode jdk_65_method_132_code 13 = .ok (.invokestatic 339, 3) := by decide +kernel
theorem pd_25 : parseMethodDescriptor "([BII)[B" = some ⟨[(.array .byte), .int, .int], some (.array .byte)⟩ := by decide +kernel
theorem d17_16 : decode jdk_65_method_132_code 16 = .ok (.areturn, 1) := by decide +kernel
theorem ef_cor (m : MethodId) (a1 : Addr) (p3 : Int32) : entryFrame m #[(.ref a1), (.int (0 : Int32)), (.int p3)] 3 = mkF m 0 #[.val (.ref a1), .val (.int (0 : Int32)), .val (.int p3)] [] := by first | (simp [entryFrame, mkF, argsToLocals, Value.category]; done) | rfl
def Q_cor (Z : State) (a1 : Addr) (p3 : Int32) (k1 : ClassId) (z1 : Int32) (lx : List Int32) (cs_ : Int32) (fm : Value) (h0 : Heap) (n0 : Nat) (vr : Option Value) (h : Heap) (L : List Loc) : Prop := ∃ w : Addr, ∃ kw : ClassId, (vr = some (.ref w)) ∧ (Fr n0 L) ∧ (Keep h0 h []) ∧ (h0.size ≤ w) ∧ (n0 ≤ w) ∧ (Arv Z h w kw .byte p3 (own_vl lx) (.int (0 : Int32)))
set_option maxRecDepth 65536 in
set_option maxHeartbeats 40000000 in
theorem rmcor (l : Launch) (Z : State) (a0 : Array Value) (hw : ∀ d ∈ tables_1, d.before a0 Z = true) (ws : List Jvm.Cond) (a1 : Addr) (p3 : Int32) (k1 : ClassId) (z1 : Int32) (lx : List Int32) (cs_ : Int32) (fm : Value) (h0 : Heap) (n0 : Nat) (Z0 : n0 ≤ h0.size) (hF : FX Z h0 cs_ fm) (V_b : Arv Z h0 a1 k1 .byte z1 (own_vl lx) (.int (0 : Int32))) (E_a1 : Exa Z h0 a1 "[B") (hcl_ : ¬ (p3 < (0 : Int32))) (hle_ : p3.toInt ≤ z1.toInt) (h40_ : z1.toInt ≤ 40) (hz_ : ∀ i, p3.toNatClampNeg ≤ i → lx.getD i 0 = 0) :
    MetFree l (⟨"java/util/Arrays", "copyOfRange", "([BII)[B"⟩ : MethodName) (head1 (Jvm.Cond.code (⟨"java/util/Arrays", "copyOfRange", "([BII)[B"⟩ : MethodName) jdk_65_method_132_code 3 (some (.array .byte)) :: ws) ({ frames := 2, cells := 1, slots := 40, locals := 56 } : Room)) (fun a U => a = #[(.ref a1), (.int (0 : Int32)), (.int p3)] ∧ Z.Warmed39 U.vm ∧ U.heap = h0) (fun _ _ _ _ _ => True) (fun _ U o U' => ∃ v L, o = .returned v ∧ Q_cor Z a1 p3 k1 z1 lx cs_ fm h0 n0 v U'.heap L ∧ FrameEnd U o U' L ({ frames := 2, cells := 1, slots := 40, locals := 56 } : Room).cells ({ frames := 2, cells := 1, slots := 40, locals := 56 } : Room).slots) := by
  refine met_of (Ls := #[.val (.ref a1), .val (.int (0 : Int32)), .val (.int p3)]) (plainFor_of_name (by first | (simp [plainName, overriddenIn]; done) | decide +kernel)) (fun m => ef_cor m a1 p3) ?_
  intro p e s m below meth c T0 C X0 e0
  obtain ⟨S_cs, hcs, S_fm, hfm, S_ad, S_hi, S_lo⟩ := id hF
  have N0 := Fr.nil n0
  have K0 : Keep h0 h0 [] := Keep.refl h0 _
  have hcr := own_cr hcl_ hle_ h40_
  refine g_iloadN (pc' := 1) C X0 d17_0 rfl rfl ?_
  refine g_ifN (pc' := 4) C X0 d17_1 (teq (show (0 : Int32) = (0 : Int32) from (by decide))).2 rfl ?_
  refine g_iloadN (pc' := 5) C X0 d17_4 rfl rfl ?_
  refine g_aloadN (pc' := 6) C X0 d17_5 rfl rfl rfl ?_
  refine g_len (pc' := 7) C X0 d17_6 e0 V_b rfl ?_
  by_cases c1 : p3 = z1
  · refine g_icmpY (pc' := 17) C X0 d17_7 (teq c1).1 (by decide) (by decide) ?_
    refine g_aloadN (pc' := 18) C X0 d17_17 rfl rfl rfl ?_
    refine g_clone (W := 0) (cap := 40) (pc' := 21) C X0 d17_18 (wq hw 97 rfl) (wq hw 98 rfl) (wq hw 102 rfl) (wq hw 100 rfl) (wq hw 101 rfl) (wq hw 103 rfl) e0 V_b E_a1 rfl (by decide) (Nat.le_refl _) (by decide) hcr.2.2.2 (ce := 1) (sl := 40) rfl rfl (by decide) (by decide) rfl (fun T2 h2 b2 g2 X2 e2 E2 V2 A2 => ?_)
    have ne2_3 : ¬ (a1 = b2) := Nat.ne_of_lt (Nat.lt_of_lt_of_le V_b.lt (Nat.le_of_eq g2.symm))
    have FX_2 := FX_ext hF E2
    have V_b_2 := V_b.ext E2
    have E_a1_2 := E_a1.ext E2
    have gn_b2 : n0 ≤ b2 := Nat.le_trans Z0 (Nat.le_of_eq g2.symm)
    have Z2 := Nat.le_trans Z0 E2.1
    have sz_b2 : h0.size ≤ b2 := Nat.le_trans K0.1 (Nat.le_of_eq g2.symm)
    have K2 := K0.ext E2
    refine g_castY (pc' := 24) C X2 d17_21 (wq hw 104 rfl) e2 (Ins.self A2) rfl (fun T4 X4 e4 => ?_)
    exact g_retA C X4 rfl rfl rfl d17_24 (by decide) (by decide) ⟨b2, k1, rfl, N0, (by rw [e4]; exact K2), sz_b2, gn_b2, (by rw [e4, c1]; exact V2)⟩
  · refine g_icmpN (pc' := 10) C X0 d17_7 (feq c1).1 rfl ?_
    refine g_aloadN (pc' := 11) C X0 d17_10 rfl rfl rfl ?_
    refine g_iloadN (pc' := 12) C X0 d17_11 rfl rfl ?_
    refine g_iloadN (pc' := 13) C X0 d17_12 rfl rfl ?_
    refine g_callS (y := (⟨"java/util/Arrays", "copyOfRangeByte", "([BII)[B"⟩ : MethodName)) (argsL := [(.ref a1), (.int (0 : Int32)), (.int p3)]) (st := []) (pc' := 16) C X0 d17_13 (wq hw 214 rfl) (wq hw 215 rfl) (wq hw 95 rfl) (wq hw 216 rfl) (by decide) (rmcrb l Z a0 hw [] a1 p3 k1 z1 lx cs_ fm h0 n0 Z0 hF V_b hcl_ hcr.1 (hcr.2.1 c1) hcr.2.2.1 (by rw [own_sub0]; exact hz_)) (W := 0) (by decide) (by decide) (ce := 1) (sl := 40) rfl rfl (by decide) (by decide) rfl e0 rfl pd_25 rfl (Nat.le_refl _) rfl (fun rv5 T5 L5 X5 Q5 => ?_)
    obtain ⟨w5, kw5, q5, Nq5, Kq5, sz5_w, gn_w5, P5_0⟩ := Q5
    have N5 := Fr.app N0 Nq5
    have ne5_6 : ¬ (a1 = w5) := Nat.ne_of_lt (Nat.lt_of_lt_of_le V_b.lt sz5_w)
    have FX_5 := FX_keep hF Kq5 (fun _ q => nomatch q)
    have V_b_5 := V_b.keep Kq5 nin0
    have E_a1_5 := E_a1.keep Kq5
    have Z5 := Nat.le_trans Z0 Kq5.1
    have sz_w5 := Nat.le_trans K0.1 sz5_w
    have K5 := K0.trans Kq5 all0
    subst q5
    show Go p.tables e below _ (T5.setTop (mkF m 16 #[.val (.ref a1), .val (.int (0 : Int32)), .val (.int p3)] [(.ref w5)]))
    exact g_retA C X5 rfl rfl rfl d17_16 (by decide) (by decide) ⟨w5, kw5, rfl, N5, K5, sz_w5, gn_w5, (own_sub0 p3 ▸ P5_0)⟩
theorem own_hnl {xs : List Int32} {n : Int32} (hne : n = own_n xs) (hl : xs.length ≤ 8) : ∀ i, n.toNatClampNeg ≤ i → (own_lat xs).getD i 0 = 0 := own_hzl (by rw [hne, own_nI hl]; omega)
theorem own_hnu {xs : List Int32} {n : Int32} (hne : n = own_n xs) (hl : xs.length ≤ 8) : ∀ i, (n <<< ((1 : Int32) &&& 31)).toNatClampNeg ≤ i → (own_u xs).getD i 0 = 0 := by
  have b := own_nB hne hl
  rw [own_dbl b.1 (by omega)]; exact own_hzu (by rw [hne, own_nI hl]; omega) (by omega)
theorem own_nsh {n z : Int32} (h0 : 0 ≤ n.toInt) (h1 : n.toInt ≤ z.toInt) (h2 : z.toInt ≤ 20) : (¬ ((n <<< ((1 : Int32) &&& 31)) < (0 : Int32))) ∧ (n <<< ((1 : Int32) &&& 31)).toInt ≤ (z + z).toInt ∧ (z + z).toInt ≤ 40 := by
  have a := own_shl1 h0 (by omega)
  have b := own_addI (i := z) (j := z) (by omega) (by omega) (by omega) (by omega)
  exact ⟨own_nlt (by omega), by omega, by omega⟩
theorem d12_0 : decode jdk_42_method_150_code 0 = .ok (.aload_n 0, 1) := by decide +kernel
theorem d12_1 : decode jdk_42_method_150_code 1 = .ok (.invokespecial 1, 3) := by decide +kernel
theorem d12_4 : decode jdk_42_method_150_code 4 = .ok (.aload_n 1, 1) := by decide +kernel
theorem d12_5 : decode jdk_42_method_150_code 5 = .ok (.invokevirtual 552, 3) := by decide +kernel
theorem pd_26 : parseMethodDescriptor "()[B" = some ⟨[], some (.array .byte)⟩ := by decide +kernel
theorem d12_8 : decode jdk_42_method_150_code 8 = .ok (.astore_n 3, 1) := by decide +kernel
theorem d12_9 : decode jdk_42_method_150_code 9 = .ok (.aload_n 1, 1) := by decide +kernel
theorem d12_10 : decode jdk_42_method_150_code 10 = .ok (.invokevirtual 549, 3) := by decide +kernel
theorem d12_13 : decode jdk_42_method_150_code 13 = .ok (.istore 4, 2) := by decide +kernel
theorem d12_15 : decode jdk_42_method_150_code 15 = .ok (.aload_n 1, 1) := by decide +kernel
theorem d12_16 : decode jdk_42_method_150_code 16 = .ok (.invokevirtual 1047, 3) := by decide +kernel
theorem d12_19 : decode jdk_42_method_150_code 19 = .ok (.ifCond .eq 22, 3) := by decide +kernel
theorem d12_22 : decode jdk_42_method_150_code 22 = .ok (.aload_n 0, 1) := by decide +kernel
theorem d12_23 : decode jdk_42_method_150_code 23 = .ok (.iconst 0, 1) := by decide +kernel
theorem d12_24 : decode jdk_42_method_150_code 24 = .ok (.putfield 15, 3) := by decide +kernel
theorem d12_27 : decode jdk_42_method_150_code 27 = .ok (.aload_n 0, 1) := by decide +kernel
theorem d12_28 : decode jdk_42_method_150_code 28 = .ok (.aload_n 3, 1) := by decide +kernel
theorem d12_29 : decode jdk_42_method_150_code 29 = .ok (.iconst 0, 1) := by decide +kernel
theorem d12_30 : decode jdk_42_method_150_code 30 = .ok (.iload 4, 2) := by decide +kernel
theorem d12_32 : decode jdk_42_method_150_code 32 = .ok (.invokestatic 54, 3) := by decide +kernel
theorem d12_35 : decode jdk_42_method_150_code 35 = .ok (.putfield 9, 3) := by decide +kernel
theorem d12_38 : decode jdk_42_method_150_code 38 = .ok (.goto 59, 3) := by decide +kernel
theorem d12_97 : decode jdk_42_method_150_code 97 = .ok (.return_, 1) := by decide +kernel
theorem d12_41 : decode jdk_42_method_150_code 41 = .ok (.getstatic 38, 3) := by decide +kernel
theorem d12_44 : decode jdk_42_method_150_code 44 = .ok (.ifCond .eq 35, 3) := by decide +kernel
theorem d12_47 : decode jdk_42_method_150_code 47 = .ok (.aload_n 1, 1) := by decide +kernel
theorem d12_48 : decode jdk_42_method_150_code 48 = .ok (.getfield 1048, 3) := by decide +kernel
theorem d12_51 : decode jdk_42_method_150_code 51 = .ok (.ifCond .eq 28, 3) := by decide +kernel
theorem d12_79 : decode jdk_42_method_150_code 79 = .ok (.aload_n 0, 1) := by decide +kernel
theorem d12_80 : decode jdk_42_method_150_code 80 = .ok (.iconst 1, 1) := by decide +kernel
theorem d12_81 : decode jdk_42_method_150_code 81 = .ok (.putfield 15, 3) := by decide +kernel
theorem d12_84 : decode jdk_42_method_150_code 84 = .ok (.aload_n 0, 1) := by decide +kernel
theorem d12_85 : decode jdk_42_method_150_code 85 = .ok (.aload_n 3, 1) := by decide +kernel
theorem d12_86 : decode jdk_42_method_150_code 86 = .ok (.iconst 0, 1) := by decide +kernel
theorem d12_87 : decode jdk_42_method_150_code 87 = .ok (.iload 4, 2) := by decide +kernel
theorem d12_89 : decode jdk_42_method_150_code 89 = .ok (.iconst 1, 1) := by decide +kernel
theorem d12_90 : decode jdk_42_method_150_code 90 = .ok (.ishl, 1) := by decide +kernel
theorem d12_91 : decode jdk_42_method_150_code 91 = .ok (.invokestatic 54, 3) := by decide +kernel
theorem d12_94 : decode jdk_42_method_150_code 94 = .ok (.putfield 9, 3) := by decide +kernel
theorem ef_siv (m : MethodId) (a1 : Addr) (a2 : Addr) : entryFrame m #[(.ref a1), (.ref a2), .null] 5 = mkF m 0 #[.val (.ref a1), .val (.ref a2), .val .null, .unset, .unset] [] := by first | (simp [entryFrame, mkF, argsToLocals, Value.category]; done) | rfl
def Q_siv (Z : State) (a1 : Addr) (a2 : Addr) (v1_ : Addr) (z : Int32) (xs : List Int32) (cs_ : Int32) (fm : Value) (h0 : Heap) (n0 : Nat) (vr : Option Value) (h : Heap) (L : List Loc) : Prop := ∃ w : Addr, (vr = none) ∧ (Fr n0 L) ∧ (Keep h0 h [a1]) ∧ (h0.size ≤ w) ∧ (n0 ≤ w) ∧ (Str Z h a1 w xs)
set_option maxRecDepth 65536 in
set_option maxHeartbeats 40000000 in
theorem rmsiv (l : Launch) (Z : State) (a0 : Array Value) (hw : ∀ d ∈ tables_1, d.before a0 Z = true) (ws : List Jvm.Cond) (a1 : Addr) (a2 : Addr) (v1_ : Addr) (z : Int32) (xs : List Int32) (cs_ : Int32) (fm : Value) (h0 : Heap) (n0 : Nat) (Z0 : n0 ≤ h0.size) (hF : FX Z h0 cs_ fm) (E_a1 : Exa Z h0 a1 "java/lang/String") (Fv_a1 : Fld Z h0 a1 "java/lang/String" "value" "[B" .null) (Fc_a1 : Fld Z h0 a1 "java/lang/String" "coder" "B" (.int (0 : Int32))) (hB : Bld Z h0 a2 v1_ z xs) (gn_a1 : n0 ≤ a1) (ne21 : ¬ (a2 = a1)) (nev1 : ¬ (v1_ = a1)) :
    MetFree l (⟨"java/lang/String", "<init>", "(Ljava/lang/AbstractStringBuilder;Ljava/lang/Void;)V"⟩ : MethodName) (head1 (Jvm.Cond.code (⟨"java/lang/String", "<init>", "(Ljava/lang/AbstractStringBuilder;Ljava/lang/Void;)V"⟩ : MethodName) jdk_42_method_150_code 5 none :: ws) ({ frames := 3, cells := 1, slots := 40, locals := 71 } : Room)) (fun a U => a = #[(.ref a1), (.ref a2), .null] ∧ Z.Warmed39 U.vm ∧ U.heap = h0) (fun _ _ _ _ _ => True) (fun _ U o U' => ∃ v L, o = .returned v ∧ Q_siv Z a1 a2 v1_ z xs cs_ fm h0 n0 v U'.heap L ∧ FrameEnd U o U' L ({ frames := 3, cells := 1, slots := 40, locals := 71 } : Room).cells ({ frames := 3, cells := 1, slots := 40, locals := 71 } : Room).slots) := by
  refine met_of (Ls := #[.val (.ref a1), .val (.ref a2), .val .null, .unset, .unset]) (plainFor_of_name (by first | (simp [plainName, overriddenIn]; done) | decide +kernel)) (fun m => ef_siv m a1 a2) ?_
  intro p e s m below meth c T0 C X0 e0
  obtain ⟨S_cs, hcs, S_fm, hfm, S_ad, S_hi, S_lo⟩ := id hF
  have N0 := Fr.nil n0
  have K0 : Keep h0 h0 [a1] := Keep.refl h0 _
  rcases hB with ⟨hl_a2, hx_a2, E_a2, Fv_a2, Fm_a2, E_v1_, hz_a2, k_a2, n, hne, Fn_a2, ⟨Fc_a2, hy_a2, V_v1_⟩ | ⟨Fc_a2, V_v1_⟩⟩
  · have hnB := own_nB hne hl_a2
    have hnL : n.toInt = (xs.length : Int) := by rw [hne, own_nI hl_a2]
    refine g_aloadN (pc' := 1) C X0 d12_0 rfl rfl rfl ?_
    refine g_initO (W := 0) (pc' := 4) C X0 d12_1 (wq hw 16 rfl) (wq hw 17 rfl) (wq hw 18 rfl) e0 rfl (by decide) (Nat.le_refl _) (by decide) rfl (fun T1 X1 e1 => ?_)
    have hns := own_nsh (n := n) (z := z) hnB.1 (by have := hz_a2.1; omega) hz_a2.2
    refine g_aloadN (pc' := 5) C X1 d12_4 rfl rfl rfl ?_
    refine g_callV (b := a2) (z := (⟨"java/lang/AbstractStringBuilder", "getValue", "()[B"⟩ : MethodName)) (y := (⟨"java/lang/AbstractStringBuilder", "getValue", "()[B"⟩ : MethodName)) (argsL := []) (st := []) (pc' := 8) C X1 d12_5 (wq hw 72 rfl) (wq hw 73 rfl) (notFace_of_selects (args := #[]) (mvT C.hZ (wq hw 75 rfl))) (wq hw 75 rfl) (wq hw 74 rfl) (wq hw 52 rfl) (wq hw 76 rfl) (by decide) (rmgv l Z a0 hw [] a2 v1_ cs_ fm h0 n0 hF Fv_a2) (W := 0) (by decide) (by decide) (ce := 0) (sl := 0) rfl rfl (by decide) (by decide) rfl E_a2 e1 rfl pd_26 rfl (Nat.le_refl _) rfl (fun rv2 T2 L2 X2 Q2 => ?_)
    obtain ⟨q2, Nq2, e2⟩ := Q2
    have N2 := Fr.app N0 Nq2
    subst q2
    show Go p.tables e below _ (T2.setTop (mkF m 8 #[.val (.ref a1), .val (.ref a2), .val .null, .unset, .unset] [(.ref v1_)]))
    refine g_astoreN (pc' := 9) (Ls' := #[.val (.ref a1), .val (.ref a2), .val .null, .val (.ref v1_), .unset]) C X2 d12_8 rfl rfl rfl ?_
    refine g_aloadN (pc' := 10) C X2 d12_9 rfl rfl rfl ?_
    refine g_callV (b := a2) (z := (⟨"java/lang/StringBuilder", "length", "()I"⟩ : MethodName)) (y := (⟨"java/lang/AbstractStringBuilder", "length", "()I"⟩ : MethodName)) (argsL := []) (st := []) (pc' := 13) C X2 d12_10 (wq hw 77 rfl) (wq hw 78 rfl) (own_nface (wq hw 75 rfl) rfl rfl C.hZ) (wq hw 80 rfl) (wq hw 81 rfl) (wq hw 33 rfl) (wq hw 82 rfl) (by decide) (rmsbl l Z a0 hw [] a2 n cs_ fm h0 n0 hF E_a2 Fn_a2) (W := 0) (by decide) (by decide) (ce := 0) (sl := 0) rfl rfl (by decide) (by decide) rfl E_a2 e2 rfl pd_22 rfl (Nat.le_refl _) rfl (fun rv3 T3 L3 X3 Q3 => ?_)
    obtain ⟨q3, Nq3, e3⟩ := Q3
    have N3 := Fr.app N2 Nq3
    subst q3
    show Go p.tables e below _ (T3.setTop (mkF m 13 #[.val (.ref a1), .val (.ref a2), .val .null, .val (.ref v1_), .unset] [(.int n)]))
    refine g_istore (pc' := 15) (Ls' := #[.val (.ref a1), .val (.ref a2), .val .null, .val (.ref v1_), .val (.int n)]) C X3 d12_13 rfl rfl ?_
    refine g_aloadN (pc' := 16) C X3 d12_15 rfl rfl rfl ?_
    refine g_callV (b := a2) (z := (⟨"java/lang/AbstractStringBuilder", "isLatin1", "()Z"⟩ : MethodName)) (y := (⟨"java/lang/AbstractStringBuilder", "isLatin1", "()Z"⟩ : MethodName)) (argsL := []) (st := []) (pc' := 19) C X3 d12_16 (wq hw 88 rfl) (wq hw 89 rfl) (notFace_of_selects (args := #[]) (mvT C.hZ (wq hw 91 rfl))) (wq hw 91 rfl) (wq hw 90 rfl) (wq hw 52 rfl) (wq hw 92 rfl) (by decide) (rmasl0 l Z a0 hw [] a2 cs_ fm h0 n0 hF Fc_a2) (W := 0) (by decide) (by decide) (ce := 0) (sl := 0) rfl rfl (by decide) (by decide) rfl E_a2 e3 rfl pd_6 rfl (Nat.le_refl _) rfl (fun rv4 T4 L4 X4 Q4 => ?_)
    obtain ⟨q4, Nq4, e4⟩ := Q4
    have N4 := Fr.app N3 Nq4
    rw [Fasl0_l0 ] at q4
    subst q4
    show Go p.tables e below _ (T4.setTop (mkF m 19 #[.val (.ref a1), .val (.ref a2), .val .null, .val (.ref v1_), .val (.int n)] [(.int (1 : Int32))]))
    refine g_ifN (pc' := 22) C X4 d12_19 (feq (show ¬ ((1 : Int32) = (0 : Int32)) from (by decide))).1 rfl ?_
    refine g_aloadN (pc' := 23) C X4 d12_22 rfl rfl rfl ?_
    refine g_iconst (pc' := 24) (v := (0 : Int32)) C X4 d12_23 rfl rfl ?_
    refine g_putFN (pc' := 27) (v' := (.int (0 : Int32))) C X4 d12_24 (wq hw 26 rfl) Via.refl e4 Fc_a1 E_a1 (Or.inr ⟨(wq hw 22 rfl), rfl, rfl⟩) (wq hw 7 rfl) (ty := .byte) (by decide) rfl (by decide) rfl (fun T5 h5 X5 e5 W5 => ?_)
    have F5 := Fc_a1.same W5
    have FX_5 := FX_wr hF W5
    have E_a1_5 := E_a1.wr W5
    have Fv_a1_5 := Fv_a1.other W5 (Or.inr (slot_ne (Or.inr (wq hw 21 rfl)) (Or.inr (wq hw 22 rfl)) (by decide) (t := (.array .byte)) (t' := .byte) (by decide) (by decide)))
    have E_a2_5 := E_a2.wr W5
    have Fv_a2_5 := Fv_a2.other W5 (Or.inl ne21)
    have Fm_a2_5 := Fm_a2.other W5 (Or.inl ne21)
    have Fn_a2_5 := Fn_a2.other W5 (Or.inl ne21)
    have Fc_a2_5 := Fc_a2.other W5 (Or.inl ne21)
    have E_v1__5 := E_v1_.wr W5
    have V_v1__5 := V_v1_.other W5 nev1
    have Z5 := Nat.le_trans Z0 (Nat.le_of_eq W5.size.symm)
    have N5 := Fr.snoc X5 N4 gn_a1
    have K5 := K0.wr W5 (Or.inl (List.mem_of_getElem? (i := 0) rfl))
    refine g_aloadN (pc' := 28) C X5 d12_27 rfl rfl rfl ?_
    refine g_aloadN (pc' := 29) C X5 d12_28 rfl rfl rfl ?_
    refine g_iconst (pc' := 30) (v := (0 : Int32)) C X5 d12_29 rfl rfl ?_
    refine g_iload (pc' := 32) C X5 d12_30 rfl rfl ?_
    refine g_callS (y := (⟨"java/util/Arrays", "copyOfRange", "([BII)[B"⟩ : MethodName)) (argsL := [(.ref v1_), (.int (0 : Int32)), (.int n)]) (st := [(.ref a1)]) (pc' := 35) C X5 d12_32 (wq hw 93 rfl) (wq hw 94 rfl) (wq hw 95 rfl) (wq hw 96 rfl) (by decide) (rmcor l Z a0 hw [] v1_ n k_a2 z (own_lat xs) cs_ fm h5 n0 Z5 FX_5 V_v1__5 E_v1__5 (own_nlt hnB.1) (by have := hz_a2.1; omega) (by have := hz_a2.2; omega) (own_hnl hne hl_a2)) (W := 1) (by decide) (by decide) (ce := 1) (sl := 40) rfl rfl (by decide) (by decide) rfl e5 rfl pd_25 rfl (Nat.le_refl _) rfl (fun rv6 T6 L6 X6 Q6 => ?_)
    obtain ⟨w6, kw6, q6, Nq6, Kq6, sz6_w, gn_w6, P6_0⟩ := Q6
    have N6 := Fr.app N5 Nq6
    have ne6_7 : ¬ (a1 = w6) := Nat.ne_of_lt (Nat.lt_of_lt_of_le E_a1_5.lt sz6_w)
    have ne6_8 : ¬ (a2 = w6) := Nat.ne_of_lt (Nat.lt_of_lt_of_le E_a2_5.lt sz6_w)
    have ne6_9 : ¬ (v1_ = w6) := Nat.ne_of_lt (Nat.lt_of_lt_of_le E_v1__5.lt sz6_w)
    have FX_6 := FX_keep FX_5 Kq6 (fun _ q => nomatch q)
    have E_a1_6 := E_a1_5.keep Kq6
    have Fv_a1_6 := Fv_a1_5.keep Kq6 nin0
    have E_a2_6 := E_a2_5.keep Kq6
    have Fv_a2_6 := Fv_a2_5.keep Kq6 nin0
    have Fm_a2_6 := Fm_a2_5.keep Kq6 nin0
    have Fn_a2_6 := Fn_a2_5.keep Kq6 nin0
    have Fc_a2_6 := Fc_a2_5.keep Kq6 nin0
    have E_v1__6 := E_v1__5.keep Kq6
    have V_v1__6 := V_v1__5.keep Kq6 nin0
    have F5_6 := F5.keep Kq6 nin0
    have Z6 := Nat.le_trans Z5 Kq6.1
    have sz_w6 := Nat.le_trans K5.1 sz6_w
    have K6 := K5.trans Kq6 all0
    subst q6
    show Go p.tables e below _ (T6.setTop (mkF m 35 #[.val (.ref a1), .val (.ref a2), .val .null, .val (.ref v1_), .val (.int n)] [(.ref w6), (.ref a1)]))
    refine g_putF (pc' := 38) C X6 d12_35 (host := "") (Or.inl (wq hw 25 rfl)) Via.refl rfl Fv_a1_6 E_a1_6 (Or.inr ⟨(wq hw 21 rfl), rfl, rfl⟩) (wq hw 7 rfl) (ty := (.array .byte)) (by decide) rfl rfl rfl (fun T10 h10 X10 e10 W10 => ?_)
    have F10 := Fv_a1_6.same W10
    have FX_10 := FX_wr FX_6 W10
    have E_a1_10 := E_a1_6.wr W10
    have E_a2_10 := E_a2_6.wr W10
    have Fv_a2_10 := Fv_a2_6.other W10 (Or.inl ne21)
    have Fm_a2_10 := Fm_a2_6.other W10 (Or.inl ne21)
    have Fn_a2_10 := Fn_a2_6.other W10 (Or.inl ne21)
    have Fc_a2_10 := Fc_a2_6.other W10 (Or.inl ne21)
    have E_v1__10 := E_v1__6.wr W10
    have V_v1__10 := V_v1__6.other W10 nev1
    have F5_10 := F5_6.other W10 (Or.inr (slot_ne (Or.inr (wq hw 22 rfl)) (Or.inr (wq hw 21 rfl)) (by decide) (t := .byte) (t' := (.array .byte)) (by decide) (by decide)))
    have P6_0_10 := P6_0.other W10 (Ne.symm ne6_7)
    have Z10 := Nat.le_trans Z6 (Nat.le_of_eq W10.size.symm)
    have N10 := Fr.snoc X10 N6 gn_a1
    have K10 := K6.wr W10 (Or.inl (List.mem_of_getElem? (i := 0) rfl))
    refine g_goto (pc' := 97) C X10 d12_38 (by decide) (by decide) ?_
    exact g_retV C X10 d12_97 (by decide) (by decide) ⟨w6, rfl, N10, (by rw [e10]; exact K10), sz_w6, gn_w6, (by rw [e10]; exact ⟨hl_a2, hx_a2, E_a1_10, F10, _, n, hne, Or.inl ⟨F5_10, hy_a2, P6_0_10⟩⟩)⟩
  · have hnB := own_nB hne hl_a2
    have hnL : n.toInt = (xs.length : Int) := by rw [hne, own_nI hl_a2]
    refine g_aloadN (pc' := 1) C X0 d12_0 rfl rfl rfl ?_
    refine g_initO (W := 0) (pc' := 4) C X0 d12_1 (wq hw 16 rfl) (wq hw 17 rfl) (wq hw 18 rfl) e0 rfl (by decide) (Nat.le_refl _) (by decide) rfl (fun T11 X11 e11 => ?_)
    have hns := own_nsh (n := n) (z := z) hnB.1 (by have := hz_a2.1; omega) hz_a2.2
    refine g_aloadN (pc' := 5) C X11 d12_4 rfl rfl rfl ?_
    refine g_callV (b := a2) (z := (⟨"java/lang/AbstractStringBuilder", "getValue", "()[B"⟩ : MethodName)) (y := (⟨"java/lang/AbstractStringBuilder", "getValue", "()[B"⟩ : MethodName)) (argsL := []) (st := []) (pc' := 8) C X11 d12_5 (wq hw 72 rfl) (wq hw 73 rfl) (notFace_of_selects (args := #[]) (mvT C.hZ (wq hw 75 rfl))) (wq hw 75 rfl) (wq hw 74 rfl) (wq hw 52 rfl) (wq hw 76 rfl) (by decide) (rmgv l Z a0 hw [] a2 v1_ cs_ fm h0 n0 hF Fv_a2) (W := 0) (by decide) (by decide) (ce := 0) (sl := 0) rfl rfl (by decide) (by decide) rfl E_a2 e11 rfl pd_26 rfl (Nat.le_refl _) rfl (fun rv12 T12 L12 X12 Q12 => ?_)
    obtain ⟨q12, Nq12, e12⟩ := Q12
    have N12 := Fr.app N0 Nq12
    subst q12
    show Go p.tables e below _ (T12.setTop (mkF m 8 #[.val (.ref a1), .val (.ref a2), .val .null, .unset, .unset] [(.ref v1_)]))
    refine g_astoreN (pc' := 9) (Ls' := #[.val (.ref a1), .val (.ref a2), .val .null, .val (.ref v1_), .unset]) C X12 d12_8 rfl rfl rfl ?_
    refine g_aloadN (pc' := 10) C X12 d12_9 rfl rfl rfl ?_
    refine g_callV (b := a2) (z := (⟨"java/lang/StringBuilder", "length", "()I"⟩ : MethodName)) (y := (⟨"java/lang/AbstractStringBuilder", "length", "()I"⟩ : MethodName)) (argsL := []) (st := []) (pc' := 13) C X12 d12_10 (wq hw 77 rfl) (wq hw 78 rfl) (own_nface (wq hw 75 rfl) rfl rfl C.hZ) (wq hw 80 rfl) (wq hw 81 rfl) (wq hw 33 rfl) (wq hw 82 rfl) (by decide) (rmsbl l Z a0 hw [] a2 n cs_ fm h0 n0 hF E_a2 Fn_a2) (W := 0) (by decide) (by decide) (ce := 0) (sl := 0) rfl rfl (by decide) (by decide) rfl E_a2 e12 rfl pd_22 rfl (Nat.le_refl _) rfl (fun rv13 T13 L13 X13 Q13 => ?_)
    obtain ⟨q13, Nq13, e13⟩ := Q13
    have N13 := Fr.app N12 Nq13
    subst q13
    show Go p.tables e below _ (T13.setTop (mkF m 13 #[.val (.ref a1), .val (.ref a2), .val .null, .val (.ref v1_), .unset] [(.int n)]))
    refine g_istore (pc' := 15) (Ls' := #[.val (.ref a1), .val (.ref a2), .val .null, .val (.ref v1_), .val (.int n)]) C X13 d12_13 rfl rfl ?_
    refine g_aloadN (pc' := 16) C X13 d12_15 rfl rfl rfl ?_
    refine g_callV (b := a2) (z := (⟨"java/lang/AbstractStringBuilder", "isLatin1", "()Z"⟩ : MethodName)) (y := (⟨"java/lang/AbstractStringBuilder", "isLatin1", "()Z"⟩ : MethodName)) (argsL := []) (st := []) (pc' := 19) C X13 d12_16 (wq hw 88 rfl) (wq hw 89 rfl) (notFace_of_selects (args := #[]) (mvT C.hZ (wq hw 91 rfl))) (wq hw 91 rfl) (wq hw 90 rfl) (wq hw 52 rfl) (wq hw 92 rfl) (by decide) (rmasl1 l Z a0 hw [] a2 cs_ fm h0 n0 hF Fc_a2) (W := 0) (by decide) (by decide) (ce := 0) (sl := 0) rfl rfl (by decide) (by decide) rfl E_a2 e13 rfl pd_6 rfl (Nat.le_refl _) rfl (fun rv14 T14 L14 X14 Q14 => ?_)
    obtain ⟨q14, Nq14, e14⟩ := Q14
    have N14 := Fr.app N13 Nq14
    rw [Fasl1_l0 ] at q14
    subst q14
    show Go p.tables e below _ (T14.setTop (mkF m 19 #[.val (.ref a1), .val (.ref a2), .val .null, .val (.ref v1_), .val (.int n)] [(.int (0 : Int32))]))
    refine g_ifY (pc' := 41) C X14 d12_19 (teq (show (0 : Int32) = (0 : Int32) from (by decide))).1 (by decide) (by decide) ?_
    refine g_getS (pc' := 44) C X14 d12_41 (host := "") (Or.inl (wq hw 44 rfl)) Via.refl e14 S_cs rfl (fun T15 X15 e15 => ?_)
    refine g_ifN (pc' := 47) C X15 d12_44 (feq hcs).1 rfl ?_
    refine g_aloadN (pc' := 48) C X15 d12_47 rfl rfl rfl ?_
    refine g_getF (pc' := 51) C X15 d12_48 (host := "") (Or.inl (wq hw 279 rfl)) Via.refl e15 Fm_a2 rfl (fun T16 X16 e16 => ?_)
    refine g_ifY (pc' := 79) C X16 d12_51 (teq (show (0 : Int32) = (0 : Int32) from (by decide))).1 (by decide) (by decide) ?_
    refine g_aloadN (pc' := 80) C X16 d12_79 rfl rfl rfl ?_
    refine g_iconst (pc' := 81) (v := (1 : Int32)) C X16 d12_80 rfl rfl ?_
    refine g_putFN (pc' := 84) (v' := (.int (1 : Int32))) C X16 d12_81 (wq hw 26 rfl) Via.refl e16 Fc_a1 E_a1 (Or.inr ⟨(wq hw 22 rfl), rfl, rfl⟩) (wq hw 7 rfl) (ty := .byte) (by decide) rfl (by decide) rfl (fun T17 h17 X17 e17 W17 => ?_)
    have F17 := Fc_a1.same W17
    have FX_17 := FX_wr hF W17
    have E_a1_17 := E_a1.wr W17
    have Fv_a1_17 := Fv_a1.other W17 (Or.inr (slot_ne (Or.inr (wq hw 21 rfl)) (Or.inr (wq hw 22 rfl)) (by decide) (t := (.array .byte)) (t' := .byte) (by decide) (by decide)))
    have E_a2_17 := E_a2.wr W17
    have Fv_a2_17 := Fv_a2.other W17 (Or.inl ne21)
    have Fm_a2_17 := Fm_a2.other W17 (Or.inl ne21)
    have Fn_a2_17 := Fn_a2.other W17 (Or.inl ne21)
    have Fc_a2_17 := Fc_a2.other W17 (Or.inl ne21)
    have E_v1__17 := E_v1_.wr W17
    have V_v1__17 := V_v1_.other W17 nev1
    have Z17 := Nat.le_trans Z0 (Nat.le_of_eq W17.size.symm)
    have N17 := Fr.snoc X17 N14 gn_a1
    have K17 := K0.wr W17 (Or.inl (List.mem_of_getElem? (i := 0) rfl))
    refine g_aloadN (pc' := 85) C X17 d12_84 rfl rfl rfl ?_
    refine g_aloadN (pc' := 86) C X17 d12_85 rfl rfl rfl ?_
    refine g_iconst (pc' := 87) (v := (0 : Int32)) C X17 d12_86 rfl rfl ?_
    refine g_iload (pc' := 89) C X17 d12_87 rfl rfl ?_
    refine g_iconst (pc' := 90) (v := (1 : Int32)) C X17 d12_89 rfl rfl ?_
    refine g_ishl (pc' := 91) C X17 d12_90 rfl ?_
    refine g_callS (y := (⟨"java/util/Arrays", "copyOfRange", "([BII)[B"⟩ : MethodName)) (argsL := [(.ref v1_), (.int (0 : Int32)), (.int (n <<< ((1 : Int32) &&& 31)))]) (st := [(.ref a1)]) (pc' := 94) C X17 d12_91 (wq hw 93 rfl) (wq hw 94 rfl) (wq hw 95 rfl) (wq hw 96 rfl) (by decide) (rmcor l Z a0 hw [] v1_ (n <<< ((1 : Int32) &&& 31)) k_a2 (z + z) (own_u xs) cs_ fm h17 n0 Z17 FX_17 V_v1__17 E_v1__17 hns.1 hns.2.1 hns.2.2 (own_hnu hne hl_a2)) (W := 1) (by decide) (by decide) (ce := 1) (sl := 40) rfl rfl (by decide) (by decide) rfl e17 rfl pd_25 rfl (Nat.le_refl _) rfl (fun rv18 T18 L18 X18 Q18 => ?_)
    obtain ⟨w18, kw18, q18, Nq18, Kq18, sz18_w, gn_w18, P18_0⟩ := Q18
    have N18 := Fr.app N17 Nq18
    have ne18_19 : ¬ (a1 = w18) := Nat.ne_of_lt (Nat.lt_of_lt_of_le E_a1_17.lt sz18_w)
    have ne18_20 : ¬ (a2 = w18) := Nat.ne_of_lt (Nat.lt_of_lt_of_le E_a2_17.lt sz18_w)
    have ne18_21 : ¬ (v1_ = w18) := Nat.ne_of_lt (Nat.lt_of_lt_of_le E_v1__17.lt sz18_w)
    have FX_18 := FX_keep FX_17 Kq18 (fun _ q => nomatch q)
    have E_a1_18 := E_a1_17.keep Kq18
    have Fv_a1_18 := Fv_a1_17.keep Kq18 nin0
    have E_a2_18 := E_a2_17.keep Kq18
    have Fv_a2_18 := Fv_a2_17.keep Kq18 nin0
    have Fm_a2_18 := Fm_a2_17.keep Kq18 nin0
    have Fn_a2_18 := Fn_a2_17.keep Kq18 nin0
    have Fc_a2_18 := Fc_a2_17.keep Kq18 nin0
    have E_v1__18 := E_v1__17.keep Kq18
    have V_v1__18 := V_v1__17.keep Kq18 nin0
    have F17_18 := F17.keep Kq18 nin0
    have Z18 := Nat.le_trans Z17 Kq18.1
    have sz_w18 := Nat.le_trans K17.1 sz18_w
    have K18 := K17.trans Kq18 all0
    subst q18
    show Go p.tables e below _ (T18.setTop (mkF m 94 #[.val (.ref a1), .val (.ref a2), .val .null, .val (.ref v1_), .val (.int n)] [(.ref w18), (.ref a1)]))
    refine g_putF (pc' := 97) C X18 d12_94 (host := "") (Or.inl (wq hw 25 rfl)) Via.refl rfl Fv_a1_18 E_a1_18 (Or.inr ⟨(wq hw 21 rfl), rfl, rfl⟩) (wq hw 7 rfl) (ty := (.array .byte)) (by decide) rfl rfl rfl (fun T22 h22 X22 e22 W22 => ?_)
    have F22 := Fv_a1_18.same W22
    have FX_22 := FX_wr FX_18 W22
    have E_a1_22 := E_a1_18.wr W22
    have E_a2_22 := E_a2_18.wr W22
    have Fv_a2_22 := Fv_a2_18.other W22 (Or.inl ne21)
    have Fm_a2_22 := Fm_a2_18.other W22 (Or.inl ne21)
    have Fn_a2_22 := Fn_a2_18.other W22 (Or.inl ne21)
    have Fc_a2_22 := Fc_a2_18.other W22 (Or.inl ne21)
    have E_v1__22 := E_v1__18.wr W22
    have V_v1__22 := V_v1__18.other W22 nev1
    have F17_22 := F17_18.other W22 (Or.inr (slot_ne (Or.inr (wq hw 22 rfl)) (Or.inr (wq hw 21 rfl)) (by decide) (t := .byte) (t' := (.array .byte)) (by decide) (by decide)))
    have P18_0_22 := P18_0.other W22 (Ne.symm ne18_19)
    have Z22 := Nat.le_trans Z18 (Nat.le_of_eq W22.size.symm)
    have N22 := Fr.snoc X22 N18 gn_a1
    have K22 := K18.wr W22 (Or.inl (List.mem_of_getElem? (i := 0) rfl))
    exact g_retV C X22 d12_97 (by decide) (by decide) ⟨w18, rfl, N22, (by rw [e22]; exact K22), sz_w18, gn_w18, (by rw [e22]; exact ⟨hl_a2, hx_a2, E_a1_22, F22, _, n, hne, Or.inr ⟨F17_22, (own_dbl hnB.1 (by omega)) ▸ P18_0_22⟩⟩)⟩
theorem d11_0 : decode jdk_42_method_53_code 0 = .ok (.aload_n 0, 1) := by decide +kernel
theorem d11_1 : decode jdk_42_method_53_code 1 = .ok (.aload_n 1, 1) := by decide +kernel
theorem d11_2 : decode jdk_42_method_53_code 2 = .ok (.aconst_null, 1) := by decide +kernel
theorem d11_3 : decode jdk_42_method_53_code 3 = .ok (.invokespecial 489, 3) := by decide +kernel
theorem pd_27 : parseMethodDescriptor "(Ljava/lang/AbstractStringBuilder;Ljava/lang/Void;)V" = some ⟨[(.object "java/lang/AbstractStringBuilder"), (.object "java/lang/Void")], none⟩ := by decide +kernel
theorem d11_6 : decode jdk_42_method_53_code 6 = .ok (.return_, 1) := by decide +kernel
theorem ef_sib (m : MethodId) (a1 : Addr) (a2 : Addr) : entryFrame m #[(.ref a1), (.ref a2)] 2 = mkF m 0 #[.val (.ref a1), .val (.ref a2)] [] := by first | (simp [entryFrame, mkF, argsToLocals, Value.category]; done) | rfl
def Q_sib (Z : State) (a1 : Addr) (a2 : Addr) (v1_ : Addr) (z : Int32) (xs : List Int32) (cs_ : Int32) (fm : Value) (h0 : Heap) (n0 : Nat) (vr : Option Value) (h : Heap) (L : List Loc) : Prop := ∃ w : Addr, (vr = none) ∧ (Fr n0 L) ∧ (Keep h0 h [a1]) ∧ (h0.size ≤ w) ∧ (n0 ≤ w) ∧ (Str Z h a1 w xs)
set_option maxRecDepth 65536 in
set_option maxHeartbeats 40000000 in
theorem rmsib (l : Launch) (Z : State) (a0 : Array Value) (hw : ∀ d ∈ tables_1, d.before a0 Z = true) (ws : List Jvm.Cond) (a1 : Addr) (a2 : Addr) (v1_ : Addr) (z : Int32) (xs : List Int32) (cs_ : Int32) (fm : Value) (h0 : Heap) (n0 : Nat) (Z0 : n0 ≤ h0.size) (hF : FX Z h0 cs_ fm) (E_a1 : Exa Z h0 a1 "java/lang/String") (Fv_a1 : Fld Z h0 a1 "java/lang/String" "value" "[B" .null) (Fc_a1 : Fld Z h0 a1 "java/lang/String" "coder" "B" (.int (0 : Int32))) (hB : Bld Z h0 a2 v1_ z xs) (gn_a1 : n0 ≤ a1) (ne21 : ¬ (a2 = a1)) (nev1 : ¬ (v1_ = a1)) :
    MetFree l (⟨"java/lang/String", "<init>", "(Ljava/lang/StringBuilder;)V"⟩ : MethodName) (head1 (Jvm.Cond.code (⟨"java/lang/String", "<init>", "(Ljava/lang/StringBuilder;)V"⟩ : MethodName) jdk_42_method_53_code 2 none :: ws) ({ frames := 4, cells := 1, slots := 40, locals := 87 } : Room)) (fun a U => a = #[(.ref a1), (.ref a2)] ∧ Z.Warmed39 U.vm ∧ U.heap = h0) (fun _ _ _ _ _ => True) (fun _ U o U' => ∃ v L, o = .returned v ∧ Q_sib Z a1 a2 v1_ z xs cs_ fm h0 n0 v U'.heap L ∧ FrameEnd U o U' L ({ frames := 4, cells := 1, slots := 40, locals := 87 } : Room).cells ({ frames := 4, cells := 1, slots := 40, locals := 87 } : Room).slots) := by
  refine met_of (Ls := #[.val (.ref a1), .val (.ref a2)]) (plainFor_of_name (by first | (simp [plainName, overriddenIn]; done) | decide +kernel)) (fun m => ef_sib m a1 a2) ?_
  intro p e s m below meth c T0 C X0 e0
  obtain ⟨S_cs, hcs, S_fm, hfm, S_ad, S_hi, S_lo⟩ := id hF
  have N0 := Fr.nil n0
  have K0 : Keep h0 h0 [a1] := Keep.refl h0 _
  refine g_aloadN (pc' := 1) C X0 d11_0 rfl rfl rfl ?_
  refine g_aloadN (pc' := 2) C X0 d11_1 rfl rfl rfl ?_
  refine g_null (pc' := 3) C X0 d11_2 rfl ?_
  refine g_callI (b := a1) (y := (⟨"java/lang/String", "<init>", "(Ljava/lang/AbstractStringBuilder;Ljava/lang/Void;)V"⟩ : MethodName)) (argsL := [(.ref a2), .null]) (st := []) (pc' := 6) C X0 rfl d11_3 (wq hw 69 rfl) (wq hw 70 rfl) (wq hw 8 rfl) (wq hw 71 rfl) (by decide) (rmsiv l Z a0 hw [] a1 a2 v1_ z xs cs_ fm h0 n0 Z0 hF E_a1 Fv_a1 Fc_a1 hB gn_a1 ne21 nev1) (W := 0) (by decide) (by decide) (ce := 1) (sl := 40) rfl rfl (by decide) (by decide) rfl e0 rfl pd_27 rfl (Nat.le_refl _) rfl (fun rv1 T1 L1 X1 Q1 => ?_)
  obtain ⟨w1, q1, Nq1, Kq1, sz1_w, gn_w1, P1_0⟩ := Q1
  have N1 := Fr.app N0 Nq1
  have ne1_2 : ¬ (a1 = w1) := Nat.ne_of_lt (Nat.lt_of_lt_of_le E_a1.lt sz1_w)
  have ne1_3 : ¬ (a2 = w1) := Nat.ne_of_lt (Nat.lt_of_lt_of_le (Bld_lt0 hB) sz1_w)
  have ne1_4 : ¬ (v1_ = w1) := Nat.ne_of_lt (Nat.lt_of_lt_of_le (Bld_lt1 hB) sz1_w)
  have FX_1 := FX_keep hF Kq1 ((allS (by obtain ⟨c_, _, h1_, _, _, h2_, _⟩ := E_a1; exact ⟨c_, h1_, h2_⟩) all0))
  have E_a1_1 := E_a1.keep Kq1
  have hB_1 := Bld_keep hB Kq1 (ninS ne21 nin0) (ninS nev1 nin0)
  have Z1 := Nat.le_trans Z0 Kq1.1
  have sz_w1 := Nat.le_trans K0.1 sz1_w
  have K1 := K0.trans Kq1 (allS (Or.inl (List.mem_of_getElem? (i := 0) rfl)) all0)
  subst q1
  show Go p.tables e below _ (T1.setTop (mkF m 6 #[.val (.ref a1), .val (.ref a2)] []))
  exact g_retV C X1 d11_6 (by decide) (by decide) ⟨w1, rfl, N1, K1, sz_w1, gn_w1, P1_0⟩
theorem d10_0 : decode jdk_67_method_42_code 0 = .ok (.new 18, 3) := by decide +kernel
theorem d10_3 : decode jdk_67_method_42_code 3 = .ok (.dup, 1) := by decide +kernel
theorem d10_4 : decode jdk_67_method_42_code 4 = .ok (.aload_n 0, 1) := by decide +kernel
theorem d10_5 : decode jdk_67_method_42_code 5 = .ok (.invokespecial 137, 3) := by decide +kernel
theorem pd_28 : parseMethodDescriptor "(Ljava/lang/StringBuilder;)V" = some ⟨[(.object "java/lang/StringBuilder")], none⟩ := by decide +kernel
theorem d10_8 : decode jdk_67_method_42_code 8 = .ok (.areturn, 1) := by decide +kernel
theorem ef_tos (m : MethodId) (a1 : Addr) : entryFrame m #[(.ref a1)] 1 = mkF m 0 #[.val (.ref a1)] [] := by first | (simp [entryFrame, mkF, argsToLocals, Value.category]; done) | rfl
def Q_tos (Z : State) (a1 : Addr) (v1_ : Addr) (z : Int32) (xs : List Int32) (cs_ : Int32) (fm : Value) (h0 : Heap) (n0 : Nat) (vr : Option Value) (h : Heap) (L : List Loc) : Prop := ∃ r : Addr, ∃ w : Addr, (vr = some (.ref r)) ∧ (Fr n0 L) ∧ (Keep h0 h []) ∧ (h0.size ≤ r) ∧ (h0.size ≤ w) ∧ (n0 ≤ r) ∧ (n0 ≤ w) ∧ (Str Z h r w xs)
set_option maxRecDepth 65536 in
set_option maxHeartbeats 40000000 in
theorem rmtos (l : Launch) (Z : State) (a0 : Array Value) (hw : ∀ d ∈ tables_1, d.before a0 Z = true) (ws : List Jvm.Cond) (a1 : Addr) (v1_ : Addr) (z : Int32) (xs : List Int32) (cs_ : Int32) (fm : Value) (h0 : Heap) (n0 : Nat) (Z0 : n0 ≤ h0.size) (hF : FX Z h0 cs_ fm) (hB : Bld Z h0 a1 v1_ z xs) :
    MetFree l (⟨"java/lang/StringBuilder", "toString", "()Ljava/lang/String;"⟩ : MethodName) (head1 (Jvm.Cond.code (⟨"java/lang/StringBuilder", "toString", "()Ljava/lang/String;"⟩ : MethodName) jdk_67_method_42_code 1 (some (.object "java/lang/String")) :: ws) ({ frames := 5, cells := 2, slots := 44, locals := 101 } : Room)) (fun a U => a = #[(.ref a1)] ∧ Z.Warmed39 U.vm ∧ U.heap = h0) (fun _ _ _ _ _ => True) (fun _ U o U' => ∃ v L, o = .returned v ∧ Q_tos Z a1 v1_ z xs cs_ fm h0 n0 v U'.heap L ∧ FrameEnd U o U' L ({ frames := 5, cells := 2, slots := 44, locals := 101 } : Room).cells ({ frames := 5, cells := 2, slots := 44, locals := 101 } : Room).slots) := by
  refine met_of (Ls := #[.val (.ref a1)]) (plainFor_of_name (by first | (simp [plainName, overriddenIn]; done) | decide +kernel)) (fun m => ef_tos m a1) ?_
  intro p e s m below meth c T0 C X0 e0
  obtain ⟨S_cs, hcs, S_fm, hfm, S_ad, S_hi, S_lo⟩ := id hF
  have N0 := Fr.nil n0
  have K0 : Keep h0 h0 [] := Keep.refl h0 _
  refine g_new (pc' := 3) C X0 d10_0 (wq hw 65 rfl) (wq hw 7 rfl) (wq hw 8 rfl) e0 (ce := 1) (sl := 4) rfl rfl (by decide) (by decide) rfl (fun T1 h1 b1 g1 X1 e1 E1 A1 D1 => ?_)
  have ne1_2 : ¬ (a1 = b1) := Nat.ne_of_lt (Nat.lt_of_lt_of_le (Bld_lt0 hB) (Nat.le_of_eq g1.symm))
  have ne1_3 : ¬ (v1_ = b1) := Nat.ne_of_lt (Nat.lt_of_lt_of_le (Bld_lt1 hB) (Nat.le_of_eq g1.symm))
  have FX_1 := FX_ext hF E1
  have hB_1 := Bld_ext hB E1
  have gn_b1 : n0 ≤ b1 := Nat.le_trans Z0 (Nat.le_of_eq g1.symm)
  have Z1 := Nat.le_trans Z0 E1.1
  have sz_b1 : h0.size ≤ b1 := Nat.le_trans K0.1 (Nat.le_of_eq g1.symm)
  have K1 := K0.ext E1
  have F1_value : Fld Z h1 b1 "java/lang/String" "value" "[B" .null := D1 (Or.inr (wq hw 21 rfl)) (ty := (.array .byte)) (by decide)
  have F1_coder : Fld Z h1 b1 "java/lang/String" "coder" "B" (.int (0 : Int32)) := D1 (Or.inr (wq hw 22 rfl)) (ty := .byte) (by decide)
  refine g_dup (pc' := 4) C X1 d10_3 rfl rfl ?_
  refine g_aloadN (pc' := 5) C X1 d10_4 rfl rfl rfl ?_
  refine g_callI (b := b1) (y := (⟨"java/lang/String", "<init>", "(Ljava/lang/StringBuilder;)V"⟩ : MethodName)) (argsL := [(.ref a1)]) (st := [(.ref b1)]) (pc' := 8) C X1 rfl d10_5 (wq hw 66 rfl) (wq hw 67 rfl) (wq hw 8 rfl) (wq hw 68 rfl) (by decide) (rmsib l Z a0 hw [] b1 a1 v1_ z xs cs_ fm h1 n0 Z1 FX_1 A1 F1_value F1_coder hB_1 gn_b1 ne1_2 ne1_3) (W := 1) (by decide) (by decide) (ce := 2) (sl := 44) rfl rfl (by decide) (by decide) rfl e1 rfl pd_28 rfl (Nat.le_refl _) rfl (fun rv4 T4 L4 X4 Q4 => ?_)
  obtain ⟨w4, q4, Nq4, Kq4, sz4_w, gn_w4, P4_0⟩ := Q4
  have N4 := Fr.app N0 Nq4
  have ne4_5 : ¬ (b1 = w4) := Nat.ne_of_lt (Nat.lt_of_lt_of_le A1.lt sz4_w)
  have ne4_6 : ¬ (a1 = w4) := Nat.ne_of_lt (Nat.lt_of_lt_of_le (Bld_lt0 hB_1) sz4_w)
  have ne4_7 : ¬ (v1_ = w4) := Nat.ne_of_lt (Nat.lt_of_lt_of_le (Bld_lt1 hB_1) sz4_w)
  have FX_4 := FX_keep FX_1 Kq4 ((allS (by obtain ⟨c_, _, h1_, _, _, h2_, _⟩ := A1; exact ⟨c_, h1_, h2_⟩) all0))
  have hB_4 := Bld_keep hB_1 Kq4 (ninS ne1_2 nin0) (ninS ne1_3 nin0)
  have A1_4 := A1.keep Kq4
  have Z4 := Nat.le_trans Z1 Kq4.1
  have sz_w4 := Nat.le_trans K1.1 sz4_w
  have K4 := K1.trans Kq4 (allS (Or.inr sz_b1) all0)
  subst q4
  show Go p.tables e below _ (T4.setTop (mkF m 8 #[.val (.ref a1)] [(.ref b1)]))
  exact g_retA C X4 rfl rfl rfl d10_8 (by decide) (by decide) ⟨b1, w4, rfl, N4, K4, sz_b1, sz_w4, gn_b1, gn_w4, P4_0⟩
theorem own_gc {xs : List Int32} {p : Int32} (hx : ∀ x ∈ xs, own_ch x) (hl : xs.length ≤ 8) (h0 : ¬ (p < (0 : Int32))) (h1 : p < own_n xs) (hw : (255 : Int32) < own_g xs p) : (255 : Int32) < (nar .char ((((own_g (own_u xs) (p <<< ((1 : Int32) &&& 31))) &&& (255 : Int32)) <<< ((0 : Int32) &&& 31)) ||| (((own_g (own_u xs) ((p <<< ((1 : Int32) &&& 31)) + (1 : Int32))) &&& (255 : Int32)) <<< ((8 : Int32) &&& 31))).toUInt32.toUInt16.toUInt32.toInt32) := by
  have c := own_g_all hx (⟨by decide, by decide⟩ : own_ch 0) p
  rw [own_gU1 hl h0 h1, own_gU2 hl h0 h1, own_cx c]; exact hw
theorem own_twF {xs : List Int32} {p : Int32} (h : ¬ (own_n (own_tw xs) = p)) (hp : p = own_n xs) (hl : xs.length ≤ 8) : (¬ ((own_n (own_tw xs)) < (0 : Int32))) ∧ (own_n (own_tw xs)) < p ∧ (255 : Int32) < own_g xs (own_n (own_tw xs)) := by
  have a := own_twW h hp hl
  have b := own_nI (cs := own_tw xs) (by omega)
  refine ⟨own_nlt (by omega), ?_, ?_⟩
  · rw [hp, own_lt, b, own_nI hl]; omega
  · unfold own_g; rw [own_ntn (by omega)]; exact own_tw_wide a
theorem own_cf0 (p : Int32) : nar .byte (((p - p).toUInt32 >>> ((31 : Int32) &&& 31).toUInt32).toInt32).toInt8.toInt32 = (0 : Int32) := by
  rw [Int32.sub_self]; decide
theorem own_cf1 {p : Int32} (h1 : 1 ≤ p.toInt) (h8 : p.toInt ≤ 8) : nar .byte (((p - (p + p)).toUInt32 >>> ((31 : Int32) &&& 31).toUInt32).toInt32).toInt8.toInt32 = (1 : Int32) := by
  have a := own_addI (i := p) (j := p) (by omega) (by omega) (by omega) (by omega)
  have b := own_subI (i := p) (j := p + p) (by omega) (by omega) (by omega) (by omega)
  have c := c_iushr (p - (p + p)) 31 31 (by decide) (by decide)
  have e : ((p - (p + p)).toUInt32 >>> ((31 : Int32) &&& 31).toUInt32).toInt32 = (1 : Int32) := by
    apply own_eqI; rw [c, b, a, own_z1]; omega
  rw [e]; decide
def own_es (x : Int32) : List Int32 := if x = (10 : Int32) then [(92 : Int32), (110 : Int32)] else if x = (13 : Int32) then [(92 : Int32), (114 : Int32)] else if x = (92 : Int32) then [(92 : Int32), (92 : Int32)] else [x]
def own_esc (xs : List Int32) : List Int32 := xs.flatMap own_es
theorem own_es1 {x : Int32} (h : x = (10 : Int32)) : own_es x = [(92 : Int32), (110 : Int32)] := by unfold own_es; rw [if_pos h]
theorem own_es2 {x : Int32} (n : ¬ x = (10 : Int32)) (h : x = (13 : Int32)) : own_es x = [(92 : Int32), (114 : Int32)] := by unfold own_es; rw [if_neg n, if_pos h]
theorem own_es3 {x : Int32} (n : ¬ x = (10 : Int32)) (m : ¬ x = (13 : Int32)) (h : x = (92 : Int32)) : own_es x = [(92 : Int32), (92 : Int32)] := by unfold own_es; rw [if_neg n, if_neg m, if_pos h]
theorem own_es4 {x : Int32} (n : ¬ x = (10 : Int32)) (m : ¬ x = (13 : Int32)) (h : ¬ x = (92 : Int32)) : own_es x = [x] := by unfold own_es; rw [if_neg n, if_neg m, if_neg h]
theorem own_drop {xs : List Int32} {k : Int32} {j : Nat} (hl : xs.length ≤ 8) (hk : k < own_n xs) (hj : k.toInt = j) : xs.drop j = own_g xs k :: xs.drop (j + 1) := by
  have a := (own_ltn rfl hl).mp hk
  have b : j < xs.length := by omega
  have e : own_g xs k = xs[j] := by unfold own_g; rw [own_tn, hj, List.getD_eq_getElem?_getD, show ((j : Int)).toNat = j by omega, List.getElem?_eq_getElem b]; rfl
  rw [e]; exact List.drop_eq_getElem_cons b
theorem own_turn {xs cc R ys : List Int32} {k : Int32} {j : Nat} (h : cc ++ own_esc (xs.drop j) = R) (hl : xs.length ≤ 8) (hk : k < own_n xs) (hj : k.toInt = j) (he : own_es (own_g xs k) = ys) : (cc ++ ys) ++ own_esc (xs.drop (j + 1)) = R := by
  rw [own_drop hl hk hj] at h
  rw [← h, ← he, List.append_assoc]; rfl
theorem own_fin_ {xs cc R : List Int32} {k : Int32} {j : Nat} (h : cc ++ own_esc (xs.drop j) = R) (hl : xs.length ≤ 8) (hk : ¬ k < own_n xs) (hj : k.toInt = j) : cc = R := by
  have a : ¬ k.toInt < xs.length := fun q => hk ((own_ltn rfl hl).mpr q)
  rw [List.drop_eq_nil_of_le (by omega)] at h
  rw [← h]; exact (List.append_nil _).symm
theorem own_es_len (x : Int32) : (own_es x).length ≤ 2 := by
  unfold own_es; split
  · exact Nat.le_refl _
  · split
    · exact Nat.le_refl _
    · split
      · exact Nat.le_refl _
      · exact (by decide : 1 ≤ 2)
theorem d20_0 : decode jdk_52_method_21_code 0 = .ok (.iconst 0, 1) := by decide +kernel
theorem d20_1 : decode jdk_52_method_21_code 1 = .ok (.istore 5, 2) := by decide +kernel
theorem d20_3 : decode jdk_52_method_21_code 3 = .ok (.iload 5, 2) := by decide +kernel
theorem d20_5 : decode jdk_52_method_21_code 5 = .ok (.iload 4, 2) := by decide +kernel
theorem d20_7 : decode jdk_52_method_21_code 7 = .ok (.if_icmp .ge 37, 3) := by decide +kernel
theorem d20_10 : decode jdk_52_method_21_code 10 = .ok (.aload_n 0, 1) := by decide +kernel
theorem d20_11 : decode jdk_52_method_21_code 11 = .ok (.iload_n 1, 1) := by decide +kernel
theorem d20_12 : decode jdk_52_method_21_code 12 = .ok (.caload, 1) := by decide +kernel
theorem d20_13 : decode jdk_52_method_21_code 13 = .ok (.istore 6, 2) := by decide +kernel
theorem d20_15 : decode jdk_52_method_21_code 15 = .ok (.iload 6, 2) := by decide +kernel
theorem d20_17 : decode jdk_52_method_21_code 17 = .ok (.sipush 255, 3) := by decide +kernel
theorem d20_20 : decode jdk_52_method_21_code 20 = .ok (.if_icmp .le 6, 3) := by decide +kernel
theorem d20_23 : decode jdk_52_method_21_code 23 = .ok (.iload 5, 2) := by decide +kernel
theorem d20_25 : decode jdk_52_method_21_code 25 = .ok (.ireturn, 1) := by decide +kernel
theorem d20_26 : decode jdk_52_method_21_code 26 = .ok (.aload_n 2, 1) := by decide +kernel
theorem d20_27 : decode jdk_52_method_21_code 27 = .ok (.iload_n 3, 1) := by decide +kernel
theorem d20_28 : decode jdk_52_method_21_code 28 = .ok (.iload 6, 2) := by decide +kernel
theorem d20_30 : decode jdk_52_method_21_code 30 = .ok (.i2b, 1) := by decide +kernel
theorem d20_31 : decode jdk_52_method_21_code 31 = .ok (.bastore, 1) := by decide +kernel
theorem d20_32 : decode jdk_52_method_21_code 32 = .ok (.iinc 1 1, 3) := by decide +kernel
theorem d20_35 : decode jdk_52_method_21_code 35 = .ok (.iinc 3 1, 3) := by decide +kernel
theorem d20_38 : decode jdk_52_method_21_code 38 = .ok (.iinc 5 1, 3) := by decide +kernel
theorem d20_41 : decode jdk_52_method_21_code 41 = .ok (.goto (-38), 3) := by decide +kernel
theorem d20_44 : decode jdk_52_method_21_code 44 = .ok (.iload 4, 2) := by decide +kernel
theorem d20_46 : decode jdk_52_method_21_code 46 = .ok (.ireturn, 1) := by decide +kernel
theorem ef_cm (m : MethodId) (a1 : Addr) (a3 : Addr) (p5 : Int32) : entryFrame m #[(.ref a1), (.int (0 : Int32)), (.ref a3), (.int (0 : Int32)), (.int p5)] 7 = mkF m 0 #[.val (.ref a1), .val (.int (0 : Int32)), .val (.ref a3), .val (.int (0 : Int32)), .val (.int p5), .unset, .unset] [] := by first | (simp [entryFrame, mkF, argsToLocals, Value.category]; done) | rfl
def Q_cm (Z : State) (a1 : Addr) (a3 : Addr) (p5 : Int32) (kc : ClassId) (xs : List Int32) (k2 : ClassId) (cs_ : Int32) (fm : Value) (h0 : Heap) (n0 : Nat) (vr : Option Value) (h : Heap) (L : List Loc) : Prop := (vr = some (.int (own_n (own_tw xs)))) ∧ (Fr n0 L) ∧ (Keep h0 h [a3]) ∧ (Arv Z h a3 k2 .byte p5 (own_vl (own_lat (own_tw xs))) (.int (0 : Int32)))
set_option maxRecDepth 65536 in
set_option maxHeartbeats 40000000 in
theorem rmcm (l : Launch) (Z : State) (a0 : Array Value) (hw : ∀ d ∈ tables_1, d.before a0 Z = true) (ws : List Jvm.Cond) (a1 : Addr) (a3 : Addr) (p5 : Int32) (kc : ClassId) (xs : List Int32) (k2 : ClassId) (cs_ : Int32) (fm : Value) (h0 : Heap) (n0 : Nat) (Z0 : n0 ≤ h0.size) (hF : FX Z h0 cs_ fm) (V_c : Arv Z h0 a1 kc .char p5 (own_vl xs) (.int (0 : Int32))) (V_d : Arv Z h0 a3 k2 .byte p5 (own_vl []) (.int (0 : Int32))) (gn_a3 : n0 ≤ a3) (ne13 : ¬ (a1 = a3)) (hp5 : p5 = own_n xs) (hl : xs.length ≤ 8) :
    MetFree l (⟨"java/lang/StringUTF16", "compress", "([CI[BII)I"⟩ : MethodName) (head1 (Jvm.Cond.code (⟨"java/lang/StringUTF16", "compress", "([CI[BII)I"⟩ : MethodName) jdk_52_method_21_code 7 (some .int) :: ws) ({ frames := 0, cells := 0, slots := 0, locals := 0 } : Room)) (fun a U => a = #[(.ref a1), (.int (0 : Int32)), (.ref a3), (.int (0 : Int32)), (.int p5)] ∧ Z.Warmed39 U.vm ∧ U.heap = h0) (fun _ _ _ _ _ => True) (fun _ U o U' => ∃ v L, o = .returned v ∧ Q_cm Z a1 a3 p5 kc xs k2 cs_ fm h0 n0 v U'.heap L ∧ FrameEnd U o U' L ({ frames := 0, cells := 0, slots := 0, locals := 0 } : Room).cells ({ frames := 0, cells := 0, slots := 0, locals := 0 } : Room).slots) := by
  refine met_of (Ls := #[.val (.ref a1), .val (.int (0 : Int32)), .val (.ref a3), .val (.int (0 : Int32)), .val (.int p5), .unset, .unset]) (plainFor_of_name (by first | (simp [plainName, overriddenIn]; done) | decide +kernel)) (fun m => ef_cm m a1 a3 p5) ?_
  intro p e s m below meth c T0 C X0 e0
  obtain ⟨S_cs, hcs, S_fm, hfm, S_ad, S_hi, S_lo⟩ := id hF
  have N0 := Fr.nil n0
  have K0 : Keep h0 h0 [a3] := Keep.refl h0 _
  refine g_iconst (pc' := 1) (v := (0 : Int32)) C X0 d20_0 rfl rfl ?_
  refine g_istore (pc' := 3) (Ls' := #[.val (.ref a1), .val (.int (0 : Int32)), .val (.ref a3), .val (.int (0 : Int32)), .val (.int p5), .val (.int (0 : Int32)), .unset]) C X0 d20_1 rfl rfl ?_
  have JL : ∀ (r : Nat) (TJ : State) (HJ : Heap) (LJ : List Loc) (sq : Int32) (dq : Int32) (i : Int32) (ly : List Int32) (s6 : Slot), Stand p l e ({ frames := 0, cells := 0, slots := 0, locals := 0 } : Room) s m #[(.ref a1), (.int (0 : Int32)), (.ref a3), (.int (0 : Int32)), (.int p5)] below meth c TJ LJ 0 0 → TJ.heap = HJ → Fr n0 LJ → n0 ≤ HJ.size → Keep h0 HJ [a3] → FX Z HJ cs_ fm → Arv Z HJ a1 kc .char p5 (own_vl xs) (.int (0 : Int32)) → Arv Z HJ a3 k2 .byte p5 (own_vl ly) (.int (0 : Int32)) → (s6 = .unset ∨ ∃ c, s6 = .val (.int c)) → (own_cmI xs sq dq i ly) → own_mu xs i = r → Go p.tables e below (End s (Q_cm Z a1 a3 p5 kc xs k2 cs_ fm h0 n0) ({ frames := 0, cells := 0, slots := 0, locals := 0 } : Room).cells ({ frames := 0, cells := 0, slots := 0, locals := 0 } : Room).slots) (TJ.setTop (mkF m 3 #[.val (.ref a1), .val (.int sq), .val (.ref a3), .val (.int dq), .val (.int p5), .val (.int i), s6] [])) := by
    intro r
    induction r using Nat.strongRecOn with
    | ind r ih =>
      intro TJ HJ LJ sq dq i ly s6 XJ eJ NJ ZJ KJ FXJ V_c_J V_d_J hs6 hI hmu
      subst hmu
      refine g_iload (pc' := 5) C XJ d20_3 rfl rfl ?_
      refine g_iload (pc' := 7) C XJ d20_5 rfl rfl ?_
      by_cases c1 : i < p5
      · refine g_icmpN (pc' := 10) C XJ d20_7 (tlt c1).2.1 rfl ?_
        have hbb := own_cmB (z := p5) hI c1 hp5 hl hp5
        refine g_aloadN (pc' := 11) C XJ d20_10 rfl rfl rfl ?_
        refine g_iloadN (pc' := 12) C XJ d20_11 rfl rfl ?_
        refine g_ldC (pc' := 13) (v := (.int (own_g xs sq))) C XJ d20_12 eJ V_c_J ⟨hbb.1, hbb.2.1⟩ (own_vl_get _ _) rfl ?_
        refine g_istore (pc' := 15) (Ls' := #[.val (.ref a1), .val (.int sq), .val (.ref a3), .val (.int dq), .val (.int p5), .val (.int i), .val (.int (own_g xs sq))]) C XJ d20_13 (by rcases hs6 with rfl | ⟨_, rfl⟩ <;> rfl) rfl ?_
        refine g_iload (pc' := 17) C XJ d20_15 rfl rfl ?_
        refine g_sipush (pc' := 20) (v := (255 : Int32)) C XJ d20_17 rfl rfl ?_
        by_cases c2 : (255 : Int32) < (own_g xs sq)
        · refine g_icmpN (pc' := 23) C XJ d20_20 (tlt c2).2.2.2 rfl ?_
          refine g_iload (pc' := 25) C XJ d20_23 rfl rfl ?_
          exact g_retI C XJ d20_25 (by decide) (by decide) ⟨(congrArg (fun z => some (Value.int z)) (own_cmW hI c1 hp5 hl c2).1), NJ, (by rw [eJ]; exact KJ), (by rw [eJ]; exact own_pw V_d_J (own_cmW hI c1 hp5 hl c2).2)⟩
        · refine g_icmpY (pc' := 26) C XJ d20_20 (flt c2).2.2.2 (by decide) (by decide) ?_
          refine g_aloadN (pc' := 27) C XJ d20_26 rfl rfl rfl ?_
          refine g_iloadN (pc' := 28) C XJ d20_27 rfl rfl ?_
          refine g_iload (pc' := 30) C XJ d20_28 rfl rfl ?_
          refine g_i2b (pc' := 31) C XJ d20_30 rfl ?_
          refine g_stB (pc' := 32) (i := dq.toNatClampNeg) C XJ d20_31 eJ (V_d_J.pad (pad_rep _ _ (dq.toNatClampNeg + 1))) ⟨hbb.2.2.1, hbb.2.2.2⟩ rfl own_lts rfl (fun T3 h3 X3 e3 W3 V3q => ?_)
          have V3 : Arv Z h3 a3 k2 .byte p5 (own_vl (own_s ly dq (nar .byte (own_g xs sq).toInt8.toInt32))) (.int (0 : Int32)) := own_vl_set _ _ _ ▸ V3q
          have FX_3 := FX_wr FXJ W3
          have V_c_J_3 := V_c_J.other W3 ne13
          have Z3 := Nat.le_trans ZJ (Nat.le_of_eq W3.size.symm)
          have N3 := Fr.snoc X3 NJ gn_a3
          have K3 := KJ.wr W3 (Or.inl (List.mem_of_getElem? (i := 0) rfl))
          refine g_iinc (pc' := 35) (Ls' := #[.val (.ref a1), .val (.int (sq + (1 : Int32))), .val (.ref a3), .val (.int dq), .val (.int p5), .val (.int i), .val (.int (own_g xs sq))]) C X3 d20_32 rfl rfl rfl ?_
          refine g_iinc (pc' := 38) (Ls' := #[.val (.ref a1), .val (.int (sq + (1 : Int32))), .val (.ref a3), .val (.int (dq + (1 : Int32))), .val (.int p5), .val (.int i), .val (.int (own_g xs sq))]) C X3 d20_35 rfl rfl rfl ?_
          refine g_iinc (pc' := 41) (Ls' := #[.val (.ref a1), .val (.int (sq + (1 : Int32))), .val (.ref a3), .val (.int (dq + (1 : Int32))), .val (.int p5), .val (.int (i + (1 : Int32))), .val (.int (own_g xs sq))]) C X3 d20_38 rfl rfl rfl ?_
          refine g_goto (pc' := 3) C X3 d20_41 (by decide) (by decide) ?_
          exact ih _ (own_muS hI.2.2.1 c1 hp5 hl) _ _ _ (sq + (1 : Int32)) (dq + (1 : Int32)) (i + (1 : Int32)) (own_s ly dq (nar .byte (own_g xs sq).toInt8.toInt32)) (.val (.int (own_g xs sq))) X3 e3 N3 Z3 K3 FX_3 V_c_J_3 V3 (Or.inr ⟨_, rfl⟩) (own_cmS hI c1 hp5 hl c2) rfl
      · refine g_icmpY (pc' := 44) C XJ d20_7 (flt c1).2.1 (by decide) (by decide) ?_
        refine g_iload (pc' := 46) C XJ d20_44 rfl rfl ?_
        exact g_retI C XJ d20_46 (by decide) (by decide) ⟨(congrArg (fun z => some (Value.int z)) (own_cmE hI c1 hp5 hl).1), NJ, (by rw [eJ]; exact KJ), (by rw [eJ]; exact own_pw V_d_J (own_cmE hI c1 hp5 hl).2)⟩
  exact JL _ _ _ _ (0 : Int32) (0 : Int32) (0 : Int32) [] .unset X0 e0 N0 Z0 K0 hF V_c V_d (Or.inl rfl) (own_cm0 xs) rfl
theorem d44_0 : decode jdk_52_method_14_code 0 = .ok (.iload_n 2, 1) := by decide +kernel
theorem d44_1 : decode jdk_52_method_14_code 1 = .ok (.invokestatic 107, 3) := by decide +kernel
theorem d44_4 : decode jdk_52_method_14_code 4 = .ok (.astore_n 3, 1) := by decide +kernel
theorem d44_5 : decode jdk_52_method_14_code 5 = .ok (.iconst 0, 1) := by decide +kernel
theorem d44_6 : decode jdk_52_method_14_code 6 = .ok (.istore 4, 2) := by decide +kernel
theorem d44_8 : decode jdk_52_method_14_code 8 = .ok (.iload 4, 2) := by decide +kernel
theorem d44_10 : decode jdk_52_method_14_code 10 = .ok (.iload_n 2, 1) := by decide +kernel
theorem d44_11 : decode jdk_52_method_14_code 11 = .ok (.if_icmp .ge 21, 3) := by decide +kernel
theorem d44_14 : decode jdk_52_method_14_code 14 = .ok (.aload_n 3, 1) := by decide +kernel
theorem d44_15 : decode jdk_52_method_14_code 15 = .ok (.iload 4, 2) := by decide +kernel
theorem d44_17 : decode jdk_52_method_14_code 17 = .ok (.aload_n 0, 1) := by decide +kernel
theorem d44_18 : decode jdk_52_method_14_code 18 = .ok (.iload_n 1, 1) := by decide +kernel
theorem d44_19 : decode jdk_52_method_14_code 19 = .ok (.caload, 1) := by decide +kernel
theorem d44_20 : decode jdk_52_method_14_code 20 = .ok (.invokestatic 111, 3) := by decide +kernel
theorem d44_23 : decode jdk_52_method_14_code 23 = .ok (.iinc 1 1, 3) := by decide +kernel
theorem d44_26 : decode jdk_52_method_14_code 26 = .ok (.iinc 4 1, 3) := by decide +kernel
theorem d44_29 : decode jdk_52_method_14_code 29 = .ok (.goto (-21), 3) := by decide +kernel
theorem d44_32 : decode jdk_52_method_14_code 32 = .ok (.aload_n 3, 1) := by decide +kernel
theorem d44_33 : decode jdk_52_method_14_code 33 = .ok (.areturn, 1) := by decide +kernel
theorem ef_tob (m : MethodId) (a1 : Addr) (p3 : Int32) : entryFrame m #[(.ref a1), (.int (0 : Int32)), (.int p3)] 5 = mkF m 0 #[.val (.ref a1), .val (.int (0 : Int32)), .val (.int p3), .unset, .unset] [] := by first | (simp [entryFrame, mkF, argsToLocals, Value.category]; done) | rfl
def Q_tob (Z : State) (a1 : Addr) (p3 : Int32) (kc : ClassId) (xs : List Int32) (cs_ : Int32) (fm : Value) (h0 : Heap) (n0 : Nat) (vr : Option Value) (h : Heap) (L : List Loc) : Prop := ∃ w : Addr, ∃ kw : ClassId, (vr = some (.ref w)) ∧ (Fr n0 L) ∧ (Keep h0 h []) ∧ (h0.size ≤ w) ∧ (n0 ≤ w) ∧ (Arv Z h w kw .byte (p3 + p3) (own_vl (own_u xs)) (.int (0 : Int32)))
set_option maxRecDepth 65536 in
set_option maxHeartbeats 40000000 in
theorem rmtob (l : Launch) (Z : State) (a0 : Array Value) (hw : ∀ d ∈ tables_1, d.before a0 Z = true) (ws : List Jvm.Cond) (a1 : Addr) (p3 : Int32) (kc : ClassId) (xs : List Int32) (cs_ : Int32) (fm : Value) (h0 : Heap) (n0 : Nat) (Z0 : n0 ≤ h0.size) (hF : FX Z h0 cs_ fm) (V_c : Arv Z h0 a1 kc .char p3 (own_vl xs) (.int (0 : Int32))) (hp : p3 = own_n xs) (hl : xs.length ≤ 8) :
    MetFree l (⟨"java/lang/StringUTF16", "toBytes", "([CII)[B"⟩ : MethodName) (head1 (Jvm.Cond.code (⟨"java/lang/StringUTF16", "toBytes", "([CII)[B"⟩ : MethodName) jdk_52_method_14_code 5 (some (.array .byte)) :: ws) ({ frames := 2, cells := 1, slots := 40, locals := 24 } : Room)) (fun a U => a = #[(.ref a1), (.int (0 : Int32)), (.int p3)] ∧ Z.Warmed39 U.vm ∧ U.heap = h0) (fun _ _ _ _ _ => True) (fun _ U o U' => ∃ v L, o = .returned v ∧ Q_tob Z a1 p3 kc xs cs_ fm h0 n0 v U'.heap L ∧ FrameEnd U o U' L ({ frames := 2, cells := 1, slots := 40, locals := 24 } : Room).cells ({ frames := 2, cells := 1, slots := 40, locals := 24 } : Room).slots) := by
  refine met_of (Ls := #[.val (.ref a1), .val (.int (0 : Int32)), .val (.int p3), .unset, .unset]) (plainFor_of_name (by first | (simp [plainName, overriddenIn]; done) | decide +kernel)) (fun m => ef_tob m a1 p3) ?_
  intro p e s m below meth c T0 C X0 e0
  obtain ⟨S_cs, hcs, S_fm, hfm, S_ad, S_hi, S_lo⟩ := id hF
  have N0 := Fr.nil n0
  have K0 : Keep h0 h0 [] := Keep.refl h0 _
  have hpB := own_nB hp hl
  have hpL : p3.toInt = (xs.length : Int) := by rw [hp, own_nI hl]
  have hnb := own_nbf (z := p3) hpB.1 (by omega)
  refine g_iloadN (pc' := 1) C X0 d44_0 rfl rfl ?_
  refine g_callS (y := (⟨"java/lang/StringUTF16", "newBytesFor", "(I)[B"⟩ : MethodName)) (argsL := [(.int p3)]) (st := []) (pc' := 4) C X0 d44_1 (wq hw 228 rfl) (wq hw 229 rfl) (wq hw 112 rfl) (wq hw 230 rfl) (by decide) (rmnbf l Z a0 hw [] p3 cs_ fm h0 n0 Z0 hF hnb.1 hnb.2.1 hnb.2.2.1 hnb.2.2.2.1 hnb.2.2.2.2.1) (W := 0) (by decide) (by decide) (ce := 1) (sl := 40) rfl rfl (by decide) (by decide) rfl e0 rfl pd_16 rfl (Nat.le_refl _) rfl (fun rv1 T1 L1 X1 Q1 => ?_)
  obtain ⟨w1, kw1, q1, Nq1, Kq1, sz1_w, gn_w1, P1_0, P1_1⟩ := Q1
  have N1 := Fr.app N0 Nq1
  have ne1_2 : ¬ (a1 = w1) := Nat.ne_of_lt (Nat.lt_of_lt_of_le V_c.lt sz1_w)
  have FX_1 := FX_keep hF Kq1 (fun _ q => nomatch q)
  have V_c_1 := V_c.keep Kq1 nin0
  have Z1 := Nat.le_trans Z0 Kq1.1
  have sz_w1 := Nat.le_trans K0.1 sz1_w
  have K1 := K0.trans Kq1 all0
  subst q1
  show Go p.tables e below _ (T1.setTop (mkF m 4 #[.val (.ref a1), .val (.int (0 : Int32)), .val (.int p3), .unset, .unset] [(.ref w1)]))
  refine g_astoreN (pc' := 5) (Ls' := #[.val (.ref a1), .val (.int (0 : Int32)), .val (.int p3), .val (.ref w1), .unset]) C X1 d44_4 rfl rfl rfl ?_
  refine g_iconst (pc' := 6) (v := (0 : Int32)) C X1 d44_5 rfl rfl ?_
  refine g_istore (pc' := 8) (Ls' := #[.val (.ref a1), .val (.int (0 : Int32)), .val (.int p3), .val (.ref w1), .val (.int (0 : Int32))]) C X1 d44_6 rfl rfl ?_
  have JL : ∀ (r : Nat) (TJ : State) (HJ : Heap) (LJ : List Loc) (sq : Int32) (i : Int32) (ly : List Int32), Stand p l e ({ frames := 2, cells := 1, slots := 40, locals := 24 } : Room) s m #[(.ref a1), (.int (0 : Int32)), (.int p3)] below meth c TJ LJ 1 40 → TJ.heap = HJ → Fr n0 LJ → n0 ≤ HJ.size → Keep h0 HJ [] → FX Z HJ cs_ fm → Arv Z HJ a1 kc .char p3 (own_vl xs) (.int (0 : Int32)) → Arv Z HJ w1 kw1 .byte (p3 + p3) (own_vl ly) (.int (0 : Int32)) → (own_uiI [] xs sq i i ly) → own_mu xs i = r → Go p.tables e below (End s (Q_tob Z a1 p3 kc xs cs_ fm h0 n0) ({ frames := 2, cells := 1, slots := 40, locals := 24 } : Room).cells ({ frames := 2, cells := 1, slots := 40, locals := 24 } : Room).slots) (TJ.setTop (mkF m 8 #[.val (.ref a1), .val (.int sq), .val (.int p3), .val (.ref w1), .val (.int i)] [])) := by
    intro r
    induction r using Nat.strongRecOn with
    | ind r ih =>
      intro TJ HJ LJ sq i ly XJ eJ NJ ZJ KJ FXJ V_c_J V_d_J hI hmu
      subst hmu
      refine g_iload (pc' := 10) C XJ d44_8 rfl rfl ?_
      refine g_iloadN (pc' := 11) C XJ d44_10 rfl rfl ?_
      by_cases c3 : i < p3
      · refine g_icmpN (pc' := 14) C XJ d44_11 (tlt c3).2.1 rfl ?_
        have hbb := own_uiB (z1 := p3) (zz := (p3 + p3)) hI c3 hp (by rw [List.length_nil, Nat.zero_add]; exact hl) (by rw [hnb.2.2.2.2.2, List.length_nil]; omega) (by rw [hnb.2.2.2.2.2]; omega) (by omega)
        refine g_aloadN (pc' := 15) C XJ d44_14 rfl rfl rfl ?_
        refine g_iload (pc' := 17) C XJ d44_15 rfl rfl ?_
        refine g_aloadN (pc' := 18) C XJ d44_17 rfl rfl rfl ?_
        refine g_iloadN (pc' := 19) C XJ d44_18 rfl rfl ?_
        refine g_ldC (pc' := 20) (v := (.int (own_g xs sq))) C XJ d44_19 eJ V_c_J ⟨hbb.1, hbb.2.1⟩ (own_vl_get _ _) rfl ?_
        refine g_callS (y := (⟨"java/lang/StringUTF16", "putChar", "([BII)V"⟩ : MethodName)) (argsL := [(.ref w1), (.int i), (.int (own_g xs sq))]) (st := []) (pc' := 23) C XJ d44_20 (wq hw 235 rfl) (wq hw 236 rfl) (wq hw 112 rfl) (wq hw 237 rfl) (by decide) (rmupc l Z a0 hw [] w1 i (own_g xs sq) kw1 (p3 + p3) ly cs_ fm HJ n0 ZJ FXJ V_d_J hbb.2.2.1 hbb.2.2.2.1 hbb.2.2.2.2.1 hbb.2.2.2.2.2 gn_w1) (W := 0) (by decide) (by decide) (ce := 1) (sl := 40) rfl rfl (by decide) (by decide) rfl eJ rfl pd_14 rfl (Nat.le_refl _) rfl (fun rv4 T4 L4 X4 Q4 => ?_)
        obtain ⟨q4, Nq4, Kq4, P4_0⟩ := Q4
        have N4 := Fr.app NJ Nq4
        have FX_4 := FX_keep FXJ Kq4 ((allS (by obtain ⟨c_, A_, _⟩ := V_d_J; exact ⟨c_, A_.1, A_.plain⟩) all0))
        have V_c_J_4 := V_c_J.keep Kq4 (ninS ne1_2 nin0)
        have Z4 := Nat.le_trans ZJ Kq4.1
        have K4 := KJ.trans Kq4 (allS (Or.inr sz_w1) all0)
        subst q4
        show Go p.tables e below _ (T4.setTop (mkF m 23 #[.val (.ref a1), .val (.int sq), .val (.int p3), .val (.ref w1), .val (.int i)] []))
        refine g_iinc (pc' := 26) (Ls' := #[.val (.ref a1), .val (.int (sq + (1 : Int32))), .val (.int p3), .val (.ref w1), .val (.int i)]) C X4 d44_23 rfl rfl rfl ?_
        refine g_iinc (pc' := 29) (Ls' := #[.val (.ref a1), .val (.int (sq + (1 : Int32))), .val (.int p3), .val (.ref w1), .val (.int (i + (1 : Int32)))]) C X4 d44_26 rfl rfl rfl ?_
        refine g_goto (pc' := 8) C X4 d44_29 (by decide) (by decide) ?_
        exact ih _ (own_muS hI.2.2.1 c3 hp hl) _ _ _ (sq + (1 : Int32)) (i + (1 : Int32)) (own_put ly i (own_g xs sq)) X4 rfl N4 Z4 K4 FX_4 V_c_J_4 P4_0 (own_tbS hI c3 hp hl) rfl
      · refine g_icmpY (pc' := 32) C XJ d44_11 (flt c3).2.1 (by decide) (by decide) ?_
        refine g_aloadN (pc' := 33) C XJ d44_32 rfl rfl rfl ?_
        exact g_retA C XJ rfl rfl rfl d44_33 (by decide) (by decide) ⟨w1, kw1, rfl, NJ, (by rw [eJ]; exact KJ), sz_w1, gn_w1, (by rw [eJ]; exact own_pw V_d_J (own_uiE hI c3 hp (by rw [List.length_nil, Nat.zero_add]; exact hl)))⟩
  exact JL _ _ _ _ (0 : Int32) (0 : Int32) [] X1 rfl N1 Z1 K1 FX_1 V_c_1 P1_0 (own_tb0 xs) rfl
theorem d19_0 : decode jdk_52_method_16_code 0 = .ok (.iload_n 2, 1) := by decide +kernel
theorem d19_1 : decode jdk_52_method_16_code 1 = .ok (.newarray .byte, 2) := by decide +kernel
theorem d19_3 : decode jdk_52_method_16_code 3 = .ok (.astore_n 3, 1) := by decide +kernel
theorem d19_4 : decode jdk_52_method_16_code 4 = .ok (.aload_n 0, 1) := by decide +kernel
theorem d19_5 : decode jdk_52_method_16_code 5 = .ok (.iload_n 1, 1) := by decide +kernel
theorem d19_6 : decode jdk_52_method_16_code 6 = .ok (.aload_n 3, 1) := by decide +kernel
theorem d19_7 : decode jdk_52_method_16_code 7 = .ok (.iconst 0, 1) := by decide +kernel
theorem d19_8 : decode jdk_52_method_16_code 8 = .ok (.iload_n 2, 1) := by decide +kernel
theorem d19_9 : decode jdk_52_method_16_code 9 = .ok (.invokestatic 115, 3) := by decide +kernel
theorem pd_29 : parseMethodDescriptor "([CI[BII)I" = some ⟨[(.array .char), .int, (.array .byte), .int, .int], some .int⟩ := by decide +kernel
theorem d19_12 : decode jdk_52_method_16_code 12 = .ok (.istore 4, 2) := by decide +kernel
theorem d19_14 : decode jdk_52_method_16_code 14 = .ok (.iload 4, 2) := by decide +kernel
theorem d19_16 : decode jdk_52_method_16_code 16 = .ok (.iload_n 2, 1) := by decide +kernel
theorem d19_17 : decode jdk_52_method_16_code 17 = .ok (.if_icmp .eq 40, 3) := by decide +kernel
theorem d19_57 : decode jdk_52_method_16_code 57 = .ok (.aload_n 3, 1) := by decide +kernel
theorem d19_58 : decode jdk_52_method_16_code 58 = .ok (.areturn, 1) := by decide +kernel
theorem ef_c3N (m : MethodId) (a1 : Addr) (p3 : Int32) : entryFrame m #[(.ref a1), (.int (0 : Int32)), (.int p3)] 6 = mkF m 0 #[.val (.ref a1), .val (.int (0 : Int32)), .val (.int p3), .unset, .unset, .unset] [] := by first | (simp [entryFrame, mkF, argsToLocals, Value.category]; done) | rfl
def Q_c3N (Z : State) (a1 : Addr) (p3 : Int32) (kc : ClassId) (xs : List Int32) (cs_ : Int32) (fm : Value) (h0 : Heap) (n0 : Nat) (vr : Option Value) (h : Heap) (L : List Loc) : Prop := ∃ w : Addr, ∃ kw : ClassId, (vr = some (.ref w)) ∧ (Fr n0 L) ∧ (Keep h0 h []) ∧ (h0.size ≤ w) ∧ (n0 ≤ w) ∧ (Arv Z h w kw .byte p3 (own_vl (own_lat xs)) (.int (0 : Int32)))
set_option maxRecDepth 65536 in
set_option maxHeartbeats 40000000 in
theorem rmc3N (l : Launch) (Z : State) (a0 : Array Value) (hw : ∀ d ∈ tables_1, d.before a0 Z = true) (ws : List Jvm.Cond) (a1 : Addr) (p3 : Int32) (kc : ClassId) (xs : List Int32) (cs_ : Int32) (fm : Value) (h0 : Heap) (n0 : Nat) (Z0 : n0 ≤ h0.size) (hF : FX Z h0 cs_ fm) (V_c : Arv Z h0 a1 kc .char p3 (own_vl xs) (.int (0 : Int32))) (hp3 : p3 = own_n xs) (hl : xs.length ≤ 8) (hT : (own_n (own_tw xs)) = p3) :
    MetFree l (⟨"java/lang/StringUTF16", "compress", "([CII)[B"⟩ : MethodName) (head1 (Jvm.Cond.code (⟨"java/lang/StringUTF16", "compress", "([CII)[B"⟩ : MethodName) jdk_52_method_16_code 6 (some (.array .byte)) :: ws) ({ frames := 1, cells := 1, slots := 8, locals := 18 } : Room)) (fun a U => a = #[(.ref a1), (.int (0 : Int32)), (.int p3)] ∧ Z.Warmed39 U.vm ∧ U.heap = h0) (fun _ _ _ _ _ => True) (fun _ U o U' => ∃ v L, o = .returned v ∧ Q_c3N Z a1 p3 kc xs cs_ fm h0 n0 v U'.heap L ∧ FrameEnd U o U' L ({ frames := 1, cells := 1, slots := 8, locals := 18 } : Room).cells ({ frames := 1, cells := 1, slots := 8, locals := 18 } : Room).slots) := by
  refine met_of (Ls := #[.val (.ref a1), .val (.int (0 : Int32)), .val (.int p3), .unset, .unset, .unset]) (plainFor_of_name (by first | (simp [plainName, overriddenIn]; done) | decide +kernel)) (fun m => ef_c3N m a1 p3) ?_
  intro p e s m below meth c T0 C X0 e0
  obtain ⟨S_cs, hcs, S_fm, hfm, S_ad, S_hi, S_lo⟩ := id hF
  have N0 := Fr.nil n0
  have K0 : Keep h0 h0 [] := Keep.refl h0 _
  have hpB := own_nB hp3 hl
  have hp0 := own_nlt hpB.1
  have hp8 : p3.toNatClampNeg ≤ 8 := by rw [own_tn]; omega
  refine g_iloadN (pc' := 1) C X0 d19_0 rfl rfl ?_
  refine g_newPE (pc' := 3) (cap := 8) (ad := "[B") C X0 (by decide) d19_1 (wq hw 20 rfl) e0 hp0 hp8 (by decide) (ce := 1) (sl := 8) rfl rfl (by decide) (by decide) rfl (fun T1 h1 b1 ck1 g1 X1 e1 E1 V1 A1 => ?_)
  have ne1_2 : ¬ (a1 = b1) := Nat.ne_of_lt (Nat.lt_of_lt_of_le V_c.lt (Nat.le_of_eq g1.symm))
  have FX_1 := FX_ext hF E1
  have V_c_1 := V_c.ext E1
  have gn_b1 : n0 ≤ b1 := Nat.le_trans Z0 (Nat.le_of_eq g1.symm)
  have Z1 := Nat.le_trans Z0 E1.1
  have sz_b1 : h0.size ≤ b1 := Nat.le_trans K0.1 (Nat.le_of_eq g1.symm)
  have K1 := K0.ext E1
  refine g_astoreN (pc' := 4) (Ls' := #[.val (.ref a1), .val (.int (0 : Int32)), .val (.int p3), .val (.ref b1), .unset, .unset]) C X1 d19_3 rfl rfl rfl ?_
  refine g_aloadN (pc' := 5) C X1 d19_4 rfl rfl rfl ?_
  refine g_iloadN (pc' := 6) C X1 d19_5 rfl rfl ?_
  refine g_aloadN (pc' := 7) C X1 d19_6 rfl rfl rfl ?_
  refine g_iconst (pc' := 8) (v := (0 : Int32)) C X1 d19_7 rfl rfl ?_
  refine g_iloadN (pc' := 9) C X1 d19_8 rfl rfl ?_
  refine g_callS (y := (⟨"java/lang/StringUTF16", "compress", "([CI[BII)I"⟩ : MethodName)) (argsL := [(.ref a1), (.int (0 : Int32)), (.ref b1), (.int (0 : Int32)), (.int p3)]) (st := []) (pc' := 12) C X1 d19_9 (wq hw 114 rfl) (wq hw 115 rfl) (wq hw 112 rfl) (wq hw 116 rfl) (by decide) (rmcm l Z a0 hw [] a1 b1 p3 kc xs ck1 cs_ fm h1 n0 Z1 FX_1 V_c_1 V1 gn_b1 ne1_2 hp3 hl) (W := 0) (by decide) (by decide) (ce := 1) (sl := 8) rfl rfl (by decide) (by decide) rfl e1 rfl pd_29 rfl (Nat.le_refl _) rfl (fun rv3 T3 L3 X3 Q3 => ?_)
  obtain ⟨q3, Nq3, Kq3, P3_0⟩ := Q3
  have N3 := Fr.app N0 Nq3
  have FX_3 := FX_keep FX_1 Kq3 ((allS (by obtain ⟨c_, A_, _⟩ := V1; exact ⟨c_, A_.1, A_.plain⟩) all0))
  have V_c_3 := V_c_1.keep Kq3 (ninS ne1_2 nin0)
  have A1_3 := A1.keep Kq3
  have Z3 := Nat.le_trans Z1 Kq3.1
  have K3 := K1.trans Kq3 (allS (Or.inr sz_b1) all0)
  subst q3
  show Go p.tables e below _ (T3.setTop (mkF m 12 #[.val (.ref a1), .val (.int (0 : Int32)), .val (.int p3), .val (.ref b1), .unset, .unset] [(.int (own_n (own_tw xs)))]))
  refine g_istore (pc' := 14) (Ls' := #[.val (.ref a1), .val (.int (0 : Int32)), .val (.int p3), .val (.ref b1), .val (.int (own_n (own_tw xs))), .unset]) C X3 d19_12 rfl rfl ?_
  refine g_iload (pc' := 16) C X3 d19_14 rfl rfl ?_
  refine g_iloadN (pc' := 17) C X3 d19_16 rfl rfl ?_
  refine g_icmpY (pc' := 57) C X3 d19_17 (teq hT).1 (by decide) (by decide) ?_
  refine g_aloadN (pc' := 58) C X3 d19_57 rfl rfl rfl ?_
  exact g_retA C X3 rfl rfl rfl d19_58 (by decide) (by decide) ⟨b1, ck1, rfl, N3, K3, sz_b1, gn_b1, own_pw P3_0 (fun _ => by rw [own_twN hT hp3 hl])⟩
theorem d19_20 : decode jdk_52_method_16_code 20 = .ok (.aload_n 0, 1) := by decide +kernel
theorem d19_21 : decode jdk_52_method_16_code 21 = .ok (.iload_n 1, 1) := by decide +kernel
theorem d19_22 : decode jdk_52_method_16_code 22 = .ok (.iload_n 2, 1) := by decide +kernel
theorem d19_23 : decode jdk_52_method_16_code 23 = .ok (.invokestatic 119, 3) := by decide +kernel
theorem pd_30 : parseMethodDescriptor "([CII)[B" = some ⟨[(.array .char), .int, .int], some (.array .byte)⟩ := by decide +kernel
theorem d19_26 : decode jdk_52_method_16_code 26 = .ok (.astore 5, 2) := by decide +kernel
theorem d19_28 : decode jdk_52_method_16_code 28 = .ok (.aload 5, 2) := by decide +kernel
theorem d19_30 : decode jdk_52_method_16_code 30 = .ok (.iload 4, 2) := by decide +kernel
theorem d19_32 : decode jdk_52_method_16_code 32 = .ok (.invokestatic 71, 3) := by decide +kernel
theorem d19_35 : decode jdk_52_method_16_code 35 = .ok (.sipush 255, 3) := by decide +kernel
theorem d19_38 : decode jdk_52_method_16_code 38 = .ok (.if_icmp .gt 16, 3) := by decide +kernel
theorem d19_54 : decode jdk_52_method_16_code 54 = .ok (.aload 5, 2) := by decide +kernel
theorem d19_56 : decode jdk_52_method_16_code 56 = .ok (.areturn, 1) := by decide +kernel
theorem ef_c3W (m : MethodId) (a1 : Addr) (p3 : Int32) : entryFrame m #[(.ref a1), (.int (0 : Int32)), (.int p3)] 6 = mkF m 0 #[.val (.ref a1), .val (.int (0 : Int32)), .val (.int p3), .unset, .unset, .unset] [] := by first | (simp [entryFrame, mkF, argsToLocals, Value.category]; done) | rfl
def Q_c3W (Z : State) (a1 : Addr) (p3 : Int32) (kc : ClassId) (xs : List Int32) (cs_ : Int32) (fm : Value) (h0 : Heap) (n0 : Nat) (vr : Option Value) (h : Heap) (L : List Loc) : Prop := ∃ w : Addr, ∃ kw : ClassId, (vr = some (.ref w)) ∧ (Fr n0 L) ∧ (Keep h0 h []) ∧ (h0.size ≤ w) ∧ (n0 ≤ w) ∧ (Arv Z h w kw .byte (p3 + p3) (own_vl (own_u xs)) (.int (0 : Int32)))
set_option maxRecDepth 65536 in
set_option maxHeartbeats 40000000 in
theorem rmc3W (l : Launch) (Z : State) (a0 : Array Value) (hw : ∀ d ∈ tables_1, d.before a0 Z = true) (ws : List Jvm.Cond) (a1 : Addr) (p3 : Int32) (kc : ClassId) (xs : List Int32) (cs_ : Int32) (fm : Value) (h0 : Heap) (n0 : Nat) (Z0 : n0 ≤ h0.size) (hF : FX Z h0 cs_ fm) (V_c : Arv Z h0 a1 kc .char p3 (own_vl xs) (.int (0 : Int32))) (hp3 : p3 = own_n xs) (hl : xs.length ≤ 8) (hch : ∀ x ∈ xs, own_ch x) (hT : ¬ ((own_n (own_tw xs)) = p3)) :
    MetFree l (⟨"java/lang/StringUTF16", "compress", "([CII)[B"⟩ : MethodName) (head1 (Jvm.Cond.code (⟨"java/lang/StringUTF16", "compress", "([CII)[B"⟩ : MethodName) jdk_52_method_16_code 6 (some (.array .byte)) :: ws) ({ frames := 3, cells := 2, slots := 48, locals := 40 } : Room)) (fun a U => a = #[(.ref a1), (.int (0 : Int32)), (.int p3)] ∧ Z.Warmed39 U.vm ∧ U.heap = h0) (fun _ _ _ _ _ => True) (fun _ U o U' => ∃ v L, o = .returned v ∧ Q_c3W Z a1 p3 kc xs cs_ fm h0 n0 v U'.heap L ∧ FrameEnd U o U' L ({ frames := 3, cells := 2, slots := 48, locals := 40 } : Room).cells ({ frames := 3, cells := 2, slots := 48, locals := 40 } : Room).slots) := by
  refine met_of (Ls := #[.val (.ref a1), .val (.int (0 : Int32)), .val (.int p3), .unset, .unset, .unset]) (plainFor_of_name (by first | (simp [plainName, overriddenIn]; done) | decide +kernel)) (fun m => ef_c3W m a1 p3) ?_
  intro p e s m below meth c T0 C X0 e0
  obtain ⟨S_cs, hcs, S_fm, hfm, S_ad, S_hi, S_lo⟩ := id hF
  have N0 := Fr.nil n0
  have K0 : Keep h0 h0 [] := Keep.refl h0 _
  have hpB := own_nB hp3 hl
  have hp0 := own_nlt hpB.1
  have hp8 : p3.toNatClampNeg ≤ 8 := by rw [own_tn]; omega
  have htw := own_twF hT hp3 hl
  have hbz := own_hbn (n := p3) (p := (own_n (own_tw xs))) hpB.1 (by omega) htw.1 htw.2.1
  refine g_iloadN (pc' := 1) C X0 d19_0 rfl rfl ?_
  refine g_newPE (pc' := 3) (cap := 8) (ad := "[B") C X0 (by decide) d19_1 (wq hw 20 rfl) e0 hp0 hp8 (by decide) (ce := 1) (sl := 8) rfl rfl (by decide) (by decide) rfl (fun T1 h1 b1 ck1 g1 X1 e1 E1 V1 A1 => ?_)
  have ne1_2 : ¬ (a1 = b1) := Nat.ne_of_lt (Nat.lt_of_lt_of_le V_c.lt (Nat.le_of_eq g1.symm))
  have FX_1 := FX_ext hF E1
  have V_c_1 := V_c.ext E1
  have gn_b1 : n0 ≤ b1 := Nat.le_trans Z0 (Nat.le_of_eq g1.symm)
  have Z1 := Nat.le_trans Z0 E1.1
  have sz_b1 : h0.size ≤ b1 := Nat.le_trans K0.1 (Nat.le_of_eq g1.symm)
  have K1 := K0.ext E1
  refine g_astoreN (pc' := 4) (Ls' := #[.val (.ref a1), .val (.int (0 : Int32)), .val (.int p3), .val (.ref b1), .unset, .unset]) C X1 d19_3 rfl rfl rfl ?_
  refine g_aloadN (pc' := 5) C X1 d19_4 rfl rfl rfl ?_
  refine g_iloadN (pc' := 6) C X1 d19_5 rfl rfl ?_
  refine g_aloadN (pc' := 7) C X1 d19_6 rfl rfl rfl ?_
  refine g_iconst (pc' := 8) (v := (0 : Int32)) C X1 d19_7 rfl rfl ?_
  refine g_iloadN (pc' := 9) C X1 d19_8 rfl rfl ?_
  refine g_callS (y := (⟨"java/lang/StringUTF16", "compress", "([CI[BII)I"⟩ : MethodName)) (argsL := [(.ref a1), (.int (0 : Int32)), (.ref b1), (.int (0 : Int32)), (.int p3)]) (st := []) (pc' := 12) C X1 d19_9 (wq hw 114 rfl) (wq hw 115 rfl) (wq hw 112 rfl) (wq hw 116 rfl) (by decide) (rmcm l Z a0 hw [] a1 b1 p3 kc xs ck1 cs_ fm h1 n0 Z1 FX_1 V_c_1 V1 gn_b1 ne1_2 hp3 hl) (W := 0) (by decide) (by decide) (ce := 1) (sl := 8) rfl rfl (by decide) (by decide) rfl e1 rfl pd_29 rfl (Nat.le_refl _) rfl (fun rv3 T3 L3 X3 Q3 => ?_)
  obtain ⟨q3, Nq3, Kq3, P3_0⟩ := Q3
  have N3 := Fr.app N0 Nq3
  have FX_3 := FX_keep FX_1 Kq3 ((allS (by obtain ⟨c_, A_, _⟩ := V1; exact ⟨c_, A_.1, A_.plain⟩) all0))
  have V_c_3 := V_c_1.keep Kq3 (ninS ne1_2 nin0)
  have A1_3 := A1.keep Kq3
  have Z3 := Nat.le_trans Z1 Kq3.1
  have K3 := K1.trans Kq3 (allS (Or.inr sz_b1) all0)
  subst q3
  show Go p.tables e below _ (T3.setTop (mkF m 12 #[.val (.ref a1), .val (.int (0 : Int32)), .val (.int p3), .val (.ref b1), .unset, .unset] [(.int (own_n (own_tw xs)))]))
  refine g_istore (pc' := 14) (Ls' := #[.val (.ref a1), .val (.int (0 : Int32)), .val (.int p3), .val (.ref b1), .val (.int (own_n (own_tw xs))), .unset]) C X3 d19_12 rfl rfl ?_
  refine g_iload (pc' := 16) C X3 d19_14 rfl rfl ?_
  refine g_iloadN (pc' := 17) C X3 d19_16 rfl rfl ?_
  refine g_icmpN (pc' := 20) C X3 d19_17 (feq hT).1 rfl ?_
  refine g_aloadN (pc' := 21) C X3 d19_20 rfl rfl rfl ?_
  refine g_iloadN (pc' := 22) C X3 d19_21 rfl rfl ?_
  refine g_iloadN (pc' := 23) C X3 d19_22 rfl rfl ?_
  refine g_callS (y := (⟨"java/lang/StringUTF16", "toBytes", "([CII)[B"⟩ : MethodName)) (argsL := [(.ref a1), (.int (0 : Int32)), (.int p3)]) (st := []) (pc' := 26) C X3 d19_23 (wq hw 225 rfl) (wq hw 226 rfl) (wq hw 112 rfl) (wq hw 227 rfl) (by decide) (rmtob l Z a0 hw [] a1 p3 kc xs cs_ fm T3.heap n0 Z3 FX_3 V_c_3 hp3 hl) (W := 0) (by decide) (by decide) (ce := 2) (sl := 48) rfl rfl (by decide) (by decide) rfl rfl rfl pd_30 rfl (Nat.le_refl _) rfl (fun rv4 T4 L4 X4 Q4 => ?_)
  obtain ⟨w4, kw4, q4, Nq4, Kq4, sz4_w, gn_w4, P4_0⟩ := Q4
  have N4 := Fr.app N3 Nq4
  have ne4_5 : ¬ (a1 = w4) := Nat.ne_of_lt (Nat.lt_of_lt_of_le V_c_3.lt sz4_w)
  have ne4_6 : ¬ (b1 = w4) := Nat.ne_of_lt (Nat.lt_of_lt_of_le A1_3.lt sz4_w)
  have FX_4 := FX_keep FX_3 Kq4 (fun _ q => nomatch q)
  have V_c_4 := V_c_3.keep Kq4 nin0
  have A1_4 := A1_3.keep Kq4
  have P3_0_4 := P3_0.keep Kq4 nin0
  have Z4 := Nat.le_trans Z3 Kq4.1
  have sz_w4 := Nat.le_trans K3.1 sz4_w
  have K4 := K3.trans Kq4 all0
  subst q4
  show Go p.tables e below _ (T4.setTop (mkF m 26 #[.val (.ref a1), .val (.int (0 : Int32)), .val (.int p3), .val (.ref b1), .val (.int (own_n (own_tw xs))), .unset] [(.ref w4)]))
  refine g_astore (pc' := 28) (Ls' := #[.val (.ref a1), .val (.int (0 : Int32)), .val (.int p3), .val (.ref b1), .val (.int (own_n (own_tw xs))), .val (.ref w4)]) C X4 d19_26 rfl rfl rfl ?_
  refine g_aload (pc' := 30) C X4 d19_28 rfl rfl rfl ?_
  refine g_iload (pc' := 32) C X4 d19_30 rfl rfl ?_
  refine g_callS (y := (⟨"java/lang/StringUTF16", "getChar", "([BI)C"⟩ : MethodName)) (argsL := [(.ref w4), (.int (own_n (own_tw xs)))]) (st := []) (pc' := 35) C X4 d19_32 (wq hw 241 rfl) (wq hw 242 rfl) (wq hw 112 rfl) (wq hw 243 rfl) (by decide) (rmugc l Z a0 hw [] w4 (own_n (own_tw xs)) kw4 (p3 + p3) (own_u xs) cs_ fm T4.heap n0 FX_4 P4_0 hbz.1 hbz.2.1 hbz.2.2.1 hbz.2.2.2.1) (W := 0) (by decide) (by decide) (ce := 2) (sl := 48) rfl rfl (by decide) (by decide) rfl rfl rfl pd_4 rfl (Nat.le_refl _) rfl (fun rv7 T7 L7 X7 Q7 => ?_)
  obtain ⟨q7, Nq7, e7⟩ := Q7
  have N7 := Fr.app N4 Nq7
  rw [Fugc_l0 (own_n (own_tw xs)) (own_u xs)] at q7
  subst q7
  show Go p.tables e below _ (T7.setTop (mkF m 35 #[.val (.ref a1), .val (.int (0 : Int32)), .val (.int p3), .val (.ref b1), .val (.int (own_n (own_tw xs))), .val (.ref w4)] [(.int (nar .char ((((own_g (own_u xs) ((own_n (own_tw xs)) <<< ((1 : Int32) &&& 31))) &&& (255 : Int32)) <<< ((0 : Int32) &&& 31)) ||| (((own_g (own_u xs) (((own_n (own_tw xs)) <<< ((1 : Int32) &&& 31)) + (1 : Int32))) &&& (255 : Int32)) <<< ((8 : Int32) &&& 31))).toUInt32.toUInt16.toUInt32.toInt32))]))
  refine g_sipush (pc' := 38) (v := (255 : Int32)) C X7 d19_35 rfl rfl ?_
  refine g_icmpY (pc' := 54) C X7 d19_38 (tlt (show (255 : Int32) < (nar .char ((((own_g (own_u xs) ((own_n (own_tw xs)) <<< ((1 : Int32) &&& 31))) &&& (255 : Int32)) <<< ((0 : Int32) &&& 31)) ||| (((own_g (own_u xs) (((own_n (own_tw xs)) <<< ((1 : Int32) &&& 31)) + (1 : Int32))) &&& (255 : Int32)) <<< ((8 : Int32) &&& 31))).toUInt32.toUInt16.toUInt32.toInt32) from (own_gc hch hl htw.1 (by rw [← hp3]; exact htw.2.1) htw.2.2))).2.2.1 (by decide) (by decide) ?_
  refine g_aload (pc' := 56) C X7 d19_54 rfl rfl rfl ?_
  exact g_retA C X7 rfl rfl rfl d19_56 (by decide) (by decide) ⟨w4, kw4, rfl, N7, (by rw [e7]; exact K4), sz_w4, gn_w4, (by rw [e7]; exact P4_0)⟩
theorem d21_0 : decode jdk_52_method_15_code 0 = .ok (.iload_n 1, 1) := by decide +kernel
theorem d21_1 : decode jdk_52_method_15_code 1 = .ok (.aload_n 0, 1) := by decide +kernel
theorem d21_2 : decode jdk_52_method_15_code 2 = .ok (.arraylength, 1) := by decide +kernel
theorem d21_3 : decode jdk_52_method_15_code 3 = .ok (.isub, 1) := by decide +kernel
theorem d21_4 : decode jdk_52_method_15_code 4 = .ok (.bipush 31, 2) := by decide +kernel
theorem d21_6 : decode jdk_52_method_15_code 6 = .ok (.iushr, 1) := by decide +kernel
theorem d21_7 : decode jdk_52_method_15_code 7 = .ok (.i2b, 1) := by decide +kernel
theorem d21_8 : decode jdk_52_method_15_code 8 = .ok (.ireturn, 1) := by decide +kernel
theorem ef_cf0 (m : MethodId) (a1 : Addr) (p2 : Int32) : entryFrame m #[(.ref a1), (.int p2)] 2 = mkF m 0 #[.val (.ref a1), .val (.int p2)] [] := by first | (simp [entryFrame, mkF, argsToLocals, Value.category]; done) | rfl
def Q_cf0 (Z : State) (a1 : Addr) (p2 : Int32) (k1 : ClassId) (lx : List Int32) (cs_ : Int32) (fm : Value) (h0 : Heap) (n0 : Nat) (v : Option Value) (h : Heap) (L : List Loc) : Prop := v = some (.int (0 : Int32)) ∧ Fr n0 L ∧ h = h0
set_option maxRecDepth 65536 in
set_option maxHeartbeats 40000000 in
theorem rmcf0 (l : Launch) (Z : State) (a0 : Array Value) (hw : ∀ d ∈ tables_1, d.before a0 Z = true) (ws : List Jvm.Cond) (a1 : Addr) (p2 : Int32) (k1 : ClassId) (lx : List Int32) (cs_ : Int32) (fm : Value) (h0 : Heap) (n0 : Nat) (hF : FX Z h0 cs_ fm) (V_b : Arv Z h0 a1 k1 .byte p2 (own_vl lx) (.int (0 : Int32))) :
    MetFree l (⟨"java/lang/StringUTF16", "coderFromArrayLen", "([BI)B"⟩ : MethodName) (head1 (Jvm.Cond.code (⟨"java/lang/StringUTF16", "coderFromArrayLen", "([BI)B"⟩ : MethodName) jdk_52_method_15_code 2 (some .byte) :: ws) ({ frames := 0, cells := 0, slots := 0, locals := 0 } : Room)) (fun a U => a = #[(.ref a1), (.int p2)] ∧ Z.Warmed39 U.vm ∧ U.heap = h0) (fun _ _ _ _ _ => True) (fun _ U o U' => ∃ v L, o = .returned v ∧ Q_cf0 Z a1 p2 k1 lx cs_ fm h0 n0 v U'.heap L ∧ FrameEnd U o U' L ({ frames := 0, cells := 0, slots := 0, locals := 0 } : Room).cells ({ frames := 0, cells := 0, slots := 0, locals := 0 } : Room).slots) := by
  refine met_of (Ls := #[.val (.ref a1), .val (.int p2)]) (plainFor_of_name (by first | (simp [plainName, overriddenIn]; done) | decide +kernel)) (fun m => ef_cf0 m a1 p2) ?_
  intro p e s m below meth c T0 C X0 e0
  obtain ⟨S_cs, hcs, S_fm, hfm, S_ad, S_hi, S_lo⟩ := id hF
  have N0 := Fr.nil n0
  refine g_iloadN (pc' := 1) C X0 d21_0 rfl rfl ?_
  refine g_aloadN (pc' := 2) C X0 d21_1 rfl rfl rfl ?_
  refine g_len (pc' := 3) C X0 d21_2 e0 V_b rfl ?_
  refine g_isub (pc' := 4) C X0 d21_3 rfl ?_
  refine g_bipush (pc' := 6) (v := (31 : Int32)) C X0 d21_4 rfl rfl ?_
  refine g_iushr (pc' := 7) C X0 d21_6 rfl ?_
  refine g_i2b (pc' := 8) C X0 d21_7 rfl ?_
  exact g_retN C X0 (by simp) d21_8 (by decide) (by decide) ⟨(congrArg (fun z => some (Value.int z)) (own_cf0 p2)), N0, e0⟩
theorem ef_cf1 (m : MethodId) (a1 : Addr) (p2 : Int32) : entryFrame m #[(.ref a1), (.int p2)] 2 = mkF m 0 #[.val (.ref a1), .val (.int p2)] [] := by first | (simp [entryFrame, mkF, argsToLocals, Value.category]; done) | rfl
def Q_cf1 (Z : State) (a1 : Addr) (p2 : Int32) (k1 : ClassId) (lx : List Int32) (cs_ : Int32) (fm : Value) (h0 : Heap) (n0 : Nat) (v : Option Value) (h : Heap) (L : List Loc) : Prop := v = some (.int (1 : Int32)) ∧ Fr n0 L ∧ h = h0
set_option maxRecDepth 65536 in
set_option maxHeartbeats 40000000 in
theorem rmcf1 (l : Launch) (Z : State) (a0 : Array Value) (hw : ∀ d ∈ tables_1, d.before a0 Z = true) (ws : List Jvm.Cond) (a1 : Addr) (p2 : Int32) (k1 : ClassId) (lx : List Int32) (cs_ : Int32) (fm : Value) (h0 : Heap) (n0 : Nat) (hF : FX Z h0 cs_ fm) (V_b : Arv Z h0 a1 k1 .byte (p2 + p2) (own_vl lx) (.int (0 : Int32))) (h1_ : 1 ≤ p2.toInt) (h8_ : p2.toInt ≤ 8) :
    MetFree l (⟨"java/lang/StringUTF16", "coderFromArrayLen", "([BI)B"⟩ : MethodName) (head1 (Jvm.Cond.code (⟨"java/lang/StringUTF16", "coderFromArrayLen", "([BI)B"⟩ : MethodName) jdk_52_method_15_code 2 (some .byte) :: ws) ({ frames := 0, cells := 0, slots := 0, locals := 0 } : Room)) (fun a U => a = #[(.ref a1), (.int p2)] ∧ Z.Warmed39 U.vm ∧ U.heap = h0) (fun _ _ _ _ _ => True) (fun _ U o U' => ∃ v L, o = .returned v ∧ Q_cf1 Z a1 p2 k1 lx cs_ fm h0 n0 v U'.heap L ∧ FrameEnd U o U' L ({ frames := 0, cells := 0, slots := 0, locals := 0 } : Room).cells ({ frames := 0, cells := 0, slots := 0, locals := 0 } : Room).slots) := by
  refine met_of (Ls := #[.val (.ref a1), .val (.int p2)]) (plainFor_of_name (by first | (simp [plainName, overriddenIn]; done) | decide +kernel)) (fun m => ef_cf1 m a1 p2) ?_
  intro p e s m below meth c T0 C X0 e0
  obtain ⟨S_cs, hcs, S_fm, hfm, S_ad, S_hi, S_lo⟩ := id hF
  have N0 := Fr.nil n0
  refine g_iloadN (pc' := 1) C X0 d21_0 rfl rfl ?_
  refine g_aloadN (pc' := 2) C X0 d21_1 rfl rfl rfl ?_
  refine g_len (pc' := 3) C X0 d21_2 e0 V_b rfl ?_
  refine g_isub (pc' := 4) C X0 d21_3 rfl ?_
  refine g_bipush (pc' := 6) (v := (31 : Int32)) C X0 d21_4 rfl rfl ?_
  refine g_iushr (pc' := 7) C X0 d21_6 rfl ?_
  refine g_i2b (pc' := 8) C X0 d21_7 rfl ?_
  exact g_retN C X0 (by simp) d21_8 (by decide) (by decide) ⟨(congrArg (fun z => some (Value.int z)) (own_cf1 h1_ h8_)), N0, e0⟩
theorem d3_0 : decode jdk_42_method_149_code 0 = .ok (.aload_n 0, 1) := by decide +kernel
theorem d3_1 : decode jdk_42_method_149_code 1 = .ok (.invokespecial 1, 3) := by decide +kernel
theorem d3_4 : decode jdk_42_method_149_code 4 = .ok (.iload_n 3, 1) := by decide +kernel
theorem d3_5 : decode jdk_42_method_149_code 5 = .ok (.ifCond .ne 22, 3) := by decide +kernel
theorem d3_27 : decode jdk_42_method_149_code 27 = .ok (.getstatic 38, 3) := by decide +kernel
theorem d3_30 : decode jdk_42_method_149_code 30 = .ok (.ifCond .eq 28, 3) := by decide +kernel
theorem d3_33 : decode jdk_42_method_149_code 33 = .ok (.aload_n 1, 1) := by decide +kernel
theorem d3_34 : decode jdk_42_method_149_code 34 = .ok (.iload_n 2, 1) := by decide +kernel
theorem d3_35 : decode jdk_42_method_149_code 35 = .ok (.iload_n 3, 1) := by decide +kernel
theorem d3_36 : decode jdk_42_method_149_code 36 = .ok (.invokestatic 177, 3) := by decide +kernel
theorem d3_39 : decode jdk_42_method_149_code 39 = .ok (.astore 5, 2) := by decide +kernel
theorem d3_41 : decode jdk_42_method_149_code 41 = .ok (.aload_n 0, 1) := by decide +kernel
theorem d3_42 : decode jdk_42_method_149_code 42 = .ok (.aload 5, 2) := by decide +kernel
theorem d3_44 : decode jdk_42_method_149_code 44 = .ok (.iload_n 3, 1) := by decide +kernel
theorem d3_45 : decode jdk_42_method_149_code 45 = .ok (.invokestatic 47, 3) := by decide +kernel
theorem pd_31 : parseMethodDescriptor "([BI)B" = some ⟨[(.array .byte), .int], some .byte⟩ := by decide +kernel
theorem d3_48 : decode jdk_42_method_149_code 48 = .ok (.putfield 15, 3) := by decide +kernel
theorem d3_51 : decode jdk_42_method_149_code 51 = .ok (.aload_n 0, 1) := by decide +kernel
theorem d3_52 : decode jdk_42_method_149_code 52 = .ok (.aload 5, 2) := by decide +kernel
theorem d3_54 : decode jdk_42_method_149_code 54 = .ok (.putfield 9, 3) := by decide +kernel
theorem d3_57 : decode jdk_42_method_149_code 57 = .ok (.return_, 1) := by decide +kernel
theorem ef_sic (m : MethodId) (a1 : Addr) (a2 : Addr) (p4 : Int32) : entryFrame m #[(.ref a1), (.ref a2), (.int (0 : Int32)), (.int p4), .null] 6 = mkF m 0 #[.val (.ref a1), .val (.ref a2), .val (.int (0 : Int32)), .val (.int p4), .val .null, .unset] [] := by first | (simp [entryFrame, mkF, argsToLocals, Value.category]; done) | rfl
def Q_sic (Z : State) (a1 : Addr) (a2 : Addr) (p4 : Int32) (kc : ClassId) (xs : List Int32) (cs_ : Int32) (fm : Value) (h0 : Heap) (n0 : Nat) (vr : Option Value) (h : Heap) (L : List Loc) : Prop := ∃ w : Addr, (vr = none) ∧ (Fr n0 L) ∧ (Keep h0 h [a1]) ∧ (Str Z h a1 w xs)
set_option maxRecDepth 65536 in
set_option maxHeartbeats 40000000 in
theorem rmsic (l : Launch) (Z : State) (a0 : Array Value) (hw : ∀ d ∈ tables_1, d.before a0 Z = true) (ws : List Jvm.Cond) (a1 : Addr) (a2 : Addr) (p4 : Int32) (kc : ClassId) (xs : List Int32) (cs_ : Int32) (fm : Value) (h0 : Heap) (n0 : Nat) (Z0 : n0 ≤ h0.size) (hF : FX Z h0 cs_ fm) (E_a1 : Exa Z h0 a1 "java/lang/String") (Fv_a1 : Fld Z h0 a1 "java/lang/String" "value" "[B" .null) (Fc_a1 : Fld Z h0 a1 "java/lang/String" "coder" "B" (.int (0 : Int32))) (V_c : Arv Z h0 a2 kc .char p4 (own_vl xs) (.int (0 : Int32))) (gn_a1 : n0 ≤ a1) (ne21 : ¬ (a2 = a1)) (hp4 : p4 = own_n xs) (hl : xs.length ≤ 8) (hz0 : ¬ (p4 = (0 : Int32))) (hch : ∀ x ∈ xs, own_ch x) :
    MetFree l (⟨"java/lang/String", "<init>", "([CIILjava/lang/Void;)V"⟩ : MethodName) (head1 (Jvm.Cond.code (⟨"java/lang/String", "<init>", "([CIILjava/lang/Void;)V"⟩ : MethodName) jdk_42_method_149_code 6 none :: ws) ({ frames := 4, cells := 2, slots := 48, locals := 57 } : Room)) (fun a U => a = #[(.ref a1), (.ref a2), (.int (0 : Int32)), (.int p4), .null] ∧ Z.Warmed39 U.vm ∧ U.heap = h0) (fun _ _ _ _ _ => True) (fun _ U o U' => ∃ v L, o = .returned v ∧ Q_sic Z a1 a2 p4 kc xs cs_ fm h0 n0 v U'.heap L ∧ FrameEnd U o U' L ({ frames := 4, cells := 2, slots := 48, locals := 57 } : Room).cells ({ frames := 4, cells := 2, slots := 48, locals := 57 } : Room).slots) := by
  refine met_of (Ls := #[.val (.ref a1), .val (.ref a2), .val (.int (0 : Int32)), .val (.int p4), .val .null, .unset]) (plainFor_of_name (by first | (simp [plainName, overriddenIn]; done) | decide +kernel)) (fun m => ef_sic m a1 a2 p4) ?_
  intro p e s m below meth c T0 C X0 e0
  obtain ⟨S_cs, hcs, S_fm, hfm, S_ad, S_hi, S_lo⟩ := id hF
  have N0 := Fr.nil n0
  have K0 : Keep h0 h0 [a1] := Keep.refl h0 _
  rcases Classical.em ((own_n (own_tw xs)) = p4) with hT | hT
  · have _q := trivial
    have hpB := own_nB hp4 hl
    have hp1 : 1 ≤ p4.toInt := by
      have : ¬ p4.toInt = 0 := fun e => hz0 (own_eqI (by rw [e, own_z0]))
      omega
    refine g_aloadN (pc' := 1) C X0 d3_0 rfl rfl rfl ?_
    refine g_initO (W := 0) (pc' := 4) C X0 d3_1 (wq hw 16 rfl) (wq hw 17 rfl) (wq hw 18 rfl) e0 rfl (by decide) (Nat.le_refl _) (by decide) rfl (fun T1 X1 e1 => ?_)
    refine g_iloadN (pc' := 5) C X1 d3_4 rfl rfl ?_
    refine g_ifY (pc' := 27) C X1 d3_5 (feq hz0).2 (by decide) (by decide) ?_
    refine g_getS (pc' := 30) C X1 d3_27 (host := "") (Or.inl (wq hw 44 rfl)) Via.refl e1 S_cs rfl (fun T2 X2 e2 => ?_)
    refine g_ifN (pc' := 33) C X2 d3_30 (feq hcs).1 rfl ?_
    refine g_aloadN (pc' := 34) C X2 d3_33 rfl rfl rfl ?_
    refine g_iloadN (pc' := 35) C X2 d3_34 rfl rfl ?_
    refine g_iloadN (pc' := 36) C X2 d3_35 rfl rfl ?_
    refine g_callS (y := (⟨"java/lang/StringUTF16", "compress", "([CII)[B"⟩ : MethodName)) (argsL := [(.ref a2), (.int (0 : Int32)), (.int p4)]) (st := []) (pc' := 39) C X2 d3_36 (wq hw 110 rfl) (wq hw 111 rfl) (wq hw 112 rfl) (wq hw 113 rfl) (by decide) (rmc3N l Z a0 hw [] a2 p4 kc xs cs_ fm h0 n0 Z0 hF V_c hp4 hl hT) (W := 0) (by decide) (by decide) (ce := 1) (sl := 8) rfl rfl (by decide) (by decide) rfl e2 rfl pd_30 rfl (Nat.le_refl _) rfl (fun rv3 T3 L3 X3 Q3 => ?_)
    obtain ⟨w3, kw3, q3, Nq3, Kq3, sz3_w, gn_w3, P3_0⟩ := Q3
    have N3 := Fr.app N0 Nq3
    have ne3_4 : ¬ (a1 = w3) := Nat.ne_of_lt (Nat.lt_of_lt_of_le E_a1.lt sz3_w)
    have ne3_5 : ¬ (a2 = w3) := Nat.ne_of_lt (Nat.lt_of_lt_of_le V_c.lt sz3_w)
    have FX_3 := FX_keep hF Kq3 (fun _ q => nomatch q)
    have E_a1_3 := E_a1.keep Kq3
    have Fv_a1_3 := Fv_a1.keep Kq3 nin0
    have Fc_a1_3 := Fc_a1.keep Kq3 nin0
    have V_c_3 := V_c.keep Kq3 nin0
    have Z3 := Nat.le_trans Z0 Kq3.1
    have sz_w3 := Nat.le_trans K0.1 sz3_w
    have K3 := K0.trans Kq3 all0
    subst q3
    show Go p.tables e below _ (T3.setTop (mkF m 39 #[.val (.ref a1), .val (.ref a2), .val (.int (0 : Int32)), .val (.int p4), .val .null, .unset] [(.ref w3)]))
    refine g_astore (pc' := 41) (Ls' := #[.val (.ref a1), .val (.ref a2), .val (.int (0 : Int32)), .val (.int p4), .val .null, .val (.ref w3)]) C X3 d3_39 rfl rfl rfl ?_
    refine g_aloadN (pc' := 42) C X3 d3_41 rfl rfl rfl ?_
    refine g_aload (pc' := 44) C X3 d3_42 rfl rfl rfl ?_
    refine g_iloadN (pc' := 45) C X3 d3_44 rfl rfl ?_
    refine g_callS (y := (⟨"java/lang/StringUTF16", "coderFromArrayLen", "([BI)B"⟩ : MethodName)) (argsL := [(.ref w3), (.int p4)]) (st := [(.ref a1)]) (pc' := 48) C X3 d3_45 (wq hw 117 rfl) (wq hw 118 rfl) (wq hw 112 rfl) (wq hw 119 rfl) (by decide) (rmcf0 l Z a0 hw [] w3 p4 kw3 (own_lat xs) cs_ fm T3.heap n0 FX_3 P3_0) (W := 1) (by decide) (by decide) (ce := 1) (sl := 8) rfl rfl (by decide) (by decide) rfl rfl rfl pd_31 rfl (Nat.le_refl _) rfl (fun rv6 T6 L6 X6 Q6 => ?_)
    obtain ⟨q6, Nq6, e6⟩ := Q6
    have N6 := Fr.app N3 Nq6
    subst q6
    show Go p.tables e below _ (T6.setTop (mkF m 48 #[.val (.ref a1), .val (.ref a2), .val (.int (0 : Int32)), .val (.int p4), .val .null, .val (.ref w3)] [(.int (0 : Int32)), (.ref a1)]))
    refine g_putFN (pc' := 51) (v' := (.int (0 : Int32))) C X6 d3_48 (wq hw 26 rfl) Via.refl e6 Fc_a1_3 E_a1_3 (Or.inr ⟨(wq hw 22 rfl), rfl, rfl⟩) (wq hw 7 rfl) (ty := .byte) (by decide) rfl (by decide) rfl (fun T7 h7 X7 e7 W7 => ?_)
    have F7 := Fc_a1_3.same W7
    have FX_7 := FX_wr FX_3 W7
    have E_a1_7 := E_a1_3.wr W7
    have Fv_a1_7 := Fv_a1_3.other W7 (Or.inr (slot_ne (Or.inr (wq hw 21 rfl)) (Or.inr (wq hw 22 rfl)) (by decide) (t := (.array .byte)) (t' := .byte) (by decide) (by decide)))
    have V_c_7 := V_c_3.other W7 ne21
    have P3_0_7 := P3_0.other W7 (Ne.symm ne3_4)
    have Z7 := Nat.le_trans Z3 (Nat.le_of_eq W7.size.symm)
    have N7 := Fr.snoc X7 N6 gn_a1
    have K7 := K3.wr W7 (Or.inl (List.mem_of_getElem? (i := 0) rfl))
    refine g_aloadN (pc' := 52) C X7 d3_51 rfl rfl rfl ?_
    refine g_aload (pc' := 54) C X7 d3_52 rfl rfl rfl ?_
    refine g_putF (pc' := 57) C X7 d3_54 (host := "") (Or.inl (wq hw 25 rfl)) Via.refl e7 Fv_a1_7 E_a1_7 (Or.inr ⟨(wq hw 21 rfl), rfl, rfl⟩) (wq hw 7 rfl) (ty := (.array .byte)) (by decide) rfl rfl rfl (fun T8 h8 X8 e8 W8 => ?_)
    have F8 := Fv_a1_7.same W8
    have FX_8 := FX_wr FX_7 W8
    have E_a1_8 := E_a1_7.wr W8
    have V_c_8 := V_c_7.other W8 ne21
    have P3_0_8 := P3_0_7.other W8 (Ne.symm ne3_4)
    have F7_8 := F7.other W8 (Or.inr (slot_ne (Or.inr (wq hw 22 rfl)) (Or.inr (wq hw 21 rfl)) (by decide) (t := .byte) (t' := (.array .byte)) (by decide) (by decide)))
    have Z8 := Nat.le_trans Z7 (Nat.le_of_eq W8.size.symm)
    have N8 := Fr.snoc X8 N7 gn_a1
    have K8 := K7.wr W8 (Or.inl (List.mem_of_getElem? (i := 0) rfl))
    exact g_retV C X8 d3_57 (by decide) (by decide) ⟨w3, rfl, N8, (by rw [e8]; exact K8), (by rw [e8]; exact ⟨hl, hch, E_a1_8, F8, _, p4, hp4, Or.inl ⟨F7_8, (own_twN hT hp4 hl) ▸ own_tw_nar xs, P3_0_8⟩⟩)⟩
  · have _q := trivial
    have hpB := own_nB hp4 hl
    have hp1 : 1 ≤ p4.toInt := by
      have : ¬ p4.toInt = 0 := fun e => hz0 (own_eqI (by rw [e, own_z0]))
      omega
    refine g_aloadN (pc' := 1) C X0 d3_0 rfl rfl rfl ?_
    refine g_initO (W := 0) (pc' := 4) C X0 d3_1 (wq hw 16 rfl) (wq hw 17 rfl) (wq hw 18 rfl) e0 rfl (by decide) (Nat.le_refl _) (by decide) rfl (fun T9 X9 e9 => ?_)
    refine g_iloadN (pc' := 5) C X9 d3_4 rfl rfl ?_
    refine g_ifY (pc' := 27) C X9 d3_5 (feq hz0).2 (by decide) (by decide) ?_
    refine g_getS (pc' := 30) C X9 d3_27 (host := "") (Or.inl (wq hw 44 rfl)) Via.refl e9 S_cs rfl (fun T10 X10 e10 => ?_)
    refine g_ifN (pc' := 33) C X10 d3_30 (feq hcs).1 rfl ?_
    refine g_aloadN (pc' := 34) C X10 d3_33 rfl rfl rfl ?_
    refine g_iloadN (pc' := 35) C X10 d3_34 rfl rfl ?_
    refine g_iloadN (pc' := 36) C X10 d3_35 rfl rfl ?_
    refine g_callS (y := (⟨"java/lang/StringUTF16", "compress", "([CII)[B"⟩ : MethodName)) (argsL := [(.ref a2), (.int (0 : Int32)), (.int p4)]) (st := []) (pc' := 39) C X10 d3_36 (wq hw 110 rfl) (wq hw 111 rfl) (wq hw 112 rfl) (wq hw 113 rfl) (by decide) (rmc3W l Z a0 hw [] a2 p4 kc xs cs_ fm h0 n0 Z0 hF V_c hp4 hl hch hT) (W := 0) (by decide) (by decide) (ce := 2) (sl := 48) rfl rfl (by decide) (by decide) rfl e10 rfl pd_30 rfl (Nat.le_refl _) rfl (fun rv11 T11 L11 X11 Q11 => ?_)
    obtain ⟨w11, kw11, q11, Nq11, Kq11, sz11_w, gn_w11, P11_0⟩ := Q11
    have N11 := Fr.app N0 Nq11
    have ne11_12 : ¬ (a1 = w11) := Nat.ne_of_lt (Nat.lt_of_lt_of_le E_a1.lt sz11_w)
    have ne11_13 : ¬ (a2 = w11) := Nat.ne_of_lt (Nat.lt_of_lt_of_le V_c.lt sz11_w)
    have FX_11 := FX_keep hF Kq11 (fun _ q => nomatch q)
    have E_a1_11 := E_a1.keep Kq11
    have Fv_a1_11 := Fv_a1.keep Kq11 nin0
    have Fc_a1_11 := Fc_a1.keep Kq11 nin0
    have V_c_11 := V_c.keep Kq11 nin0
    have Z11 := Nat.le_trans Z0 Kq11.1
    have sz_w11 := Nat.le_trans K0.1 sz11_w
    have K11 := K0.trans Kq11 all0
    subst q11
    show Go p.tables e below _ (T11.setTop (mkF m 39 #[.val (.ref a1), .val (.ref a2), .val (.int (0 : Int32)), .val (.int p4), .val .null, .unset] [(.ref w11)]))
    refine g_astore (pc' := 41) (Ls' := #[.val (.ref a1), .val (.ref a2), .val (.int (0 : Int32)), .val (.int p4), .val .null, .val (.ref w11)]) C X11 d3_39 rfl rfl rfl ?_
    refine g_aloadN (pc' := 42) C X11 d3_41 rfl rfl rfl ?_
    refine g_aload (pc' := 44) C X11 d3_42 rfl rfl rfl ?_
    refine g_iloadN (pc' := 45) C X11 d3_44 rfl rfl ?_
    refine g_callS (y := (⟨"java/lang/StringUTF16", "coderFromArrayLen", "([BI)B"⟩ : MethodName)) (argsL := [(.ref w11), (.int p4)]) (st := [(.ref a1)]) (pc' := 48) C X11 d3_45 (wq hw 117 rfl) (wq hw 118 rfl) (wq hw 112 rfl) (wq hw 119 rfl) (by decide) (rmcf1 l Z a0 hw [] w11 p4 kw11 (own_u xs) cs_ fm T11.heap n0 FX_11 P11_0 hp1 hpB.2) (W := 1) (by decide) (by decide) (ce := 2) (sl := 48) rfl rfl (by decide) (by decide) rfl rfl rfl pd_31 rfl (Nat.le_refl _) rfl (fun rv14 T14 L14 X14 Q14 => ?_)
    obtain ⟨q14, Nq14, e14⟩ := Q14
    have N14 := Fr.app N11 Nq14
    subst q14
    show Go p.tables e below _ (T14.setTop (mkF m 48 #[.val (.ref a1), .val (.ref a2), .val (.int (0 : Int32)), .val (.int p4), .val .null, .val (.ref w11)] [(.int (1 : Int32)), (.ref a1)]))
    refine g_putFN (pc' := 51) (v' := (.int (1 : Int32))) C X14 d3_48 (wq hw 26 rfl) Via.refl e14 Fc_a1_11 E_a1_11 (Or.inr ⟨(wq hw 22 rfl), rfl, rfl⟩) (wq hw 7 rfl) (ty := .byte) (by decide) rfl (by decide) rfl (fun T15 h15 X15 e15 W15 => ?_)
    have F15 := Fc_a1_11.same W15
    have FX_15 := FX_wr FX_11 W15
    have E_a1_15 := E_a1_11.wr W15
    have Fv_a1_15 := Fv_a1_11.other W15 (Or.inr (slot_ne (Or.inr (wq hw 21 rfl)) (Or.inr (wq hw 22 rfl)) (by decide) (t := (.array .byte)) (t' := .byte) (by decide) (by decide)))
    have V_c_15 := V_c_11.other W15 ne21
    have P11_0_15 := P11_0.other W15 (Ne.symm ne11_12)
    have Z15 := Nat.le_trans Z11 (Nat.le_of_eq W15.size.symm)
    have N15 := Fr.snoc X15 N14 gn_a1
    have K15 := K11.wr W15 (Or.inl (List.mem_of_getElem? (i := 0) rfl))
    refine g_aloadN (pc' := 52) C X15 d3_51 rfl rfl rfl ?_
    refine g_aload (pc' := 54) C X15 d3_52 rfl rfl rfl ?_
    refine g_putF (pc' := 57) C X15 d3_54 (host := "") (Or.inl (wq hw 25 rfl)) Via.refl e15 Fv_a1_15 E_a1_15 (Or.inr ⟨(wq hw 21 rfl), rfl, rfl⟩) (wq hw 7 rfl) (ty := (.array .byte)) (by decide) rfl rfl rfl (fun T16 h16 X16 e16 W16 => ?_)
    have F16 := Fv_a1_15.same W16
    have FX_16 := FX_wr FX_15 W16
    have E_a1_16 := E_a1_15.wr W16
    have V_c_16 := V_c_15.other W16 ne21
    have P11_0_16 := P11_0_15.other W16 (Ne.symm ne11_12)
    have F15_16 := F15.other W16 (Or.inr (slot_ne (Or.inr (wq hw 22 rfl)) (Or.inr (wq hw 21 rfl)) (by decide) (t := .byte) (t' := (.array .byte)) (by decide) (by decide)))
    have Z16 := Nat.le_trans Z15 (Nat.le_of_eq W16.size.symm)
    have N16 := Fr.snoc X16 N15 gn_a1
    have K16 := K15.wr W16 (Or.inl (List.mem_of_getElem? (i := 0) rfl))
    exact g_retV C X16 d3_57 (by decide) (by decide) ⟨w11, rfl, N16, (by rw [e16]; exact K16), (by rw [e16]; exact ⟨hl, hch, E_a1_16, F16, _, p4, hp4, Or.inr ⟨F15_16, P11_0_16⟩⟩)⟩
theorem d2_0 : decode jdk_42_method_3_code 0 = .ok (.aload_n 0, 1) := by decide +kernel
theorem d2_1 : decode jdk_42_method_3_code 1 = .ok (.aload_n 1, 1) := by decide +kernel
theorem d2_2 : decode jdk_42_method_3_code 2 = .ok (.iconst 0, 1) := by decide +kernel
theorem d2_3 : decode jdk_42_method_3_code 3 = .ok (.aload_n 1, 1) := by decide +kernel
theorem d2_4 : decode jdk_42_method_3_code 4 = .ok (.arraylength, 1) := by decide +kernel
theorem d2_5 : decode jdk_42_method_3_code 5 = .ok (.aconst_null, 1) := by decide +kernel
theorem d2_6 : decode jdk_42_method_3_code 6 = .ok (.invokespecial 27, 3) := by decide +kernel
theorem pd_32 : parseMethodDescriptor "([CIILjava/lang/Void;)V" = some ⟨[(.array .char), .int, .int, (.object "java/lang/Void")], none⟩ := by decide +kernel
theorem d2_9 : decode jdk_42_method_3_code 9 = .ok (.return_, 1) := by decide +kernel
theorem ef_sid (m : MethodId) (a1 : Addr) (a2 : Addr) : entryFrame m #[(.ref a1), (.ref a2)] 2 = mkF m 0 #[.val (.ref a1), .val (.ref a2)] [] := by first | (simp [entryFrame, mkF, argsToLocals, Value.category]; done) | rfl
def Q_sid (Z : State) (a1 : Addr) (a2 : Addr) (kc : ClassId) (xs : List Int32) (zc : Int32) (cs_ : Int32) (fm : Value) (h0 : Heap) (n0 : Nat) (vr : Option Value) (h : Heap) (L : List Loc) : Prop := ∃ w : Addr, (vr = none) ∧ (Fr n0 L) ∧ (Keep h0 h [a1]) ∧ (Str Z h a1 w xs)
set_option maxRecDepth 65536 in
set_option maxHeartbeats 40000000 in
theorem rmsid (l : Launch) (Z : State) (a0 : Array Value) (hw : ∀ d ∈ tables_1, d.before a0 Z = true) (ws : List Jvm.Cond) (a1 : Addr) (a2 : Addr) (kc : ClassId) (xs : List Int32) (zc : Int32) (cs_ : Int32) (fm : Value) (h0 : Heap) (n0 : Nat) (Z0 : n0 ≤ h0.size) (hF : FX Z h0 cs_ fm) (E_a1 : Exa Z h0 a1 "java/lang/String") (Fv_a1 : Fld Z h0 a1 "java/lang/String" "value" "[B" .null) (Fc_a1 : Fld Z h0 a1 "java/lang/String" "coder" "B" (.int (0 : Int32))) (V_c : Arv Z h0 a2 kc .char zc (own_vl xs) (.int (0 : Int32))) (gn_a1 : n0 ≤ a1) (ne21 : ¬ (a2 = a1)) (hp4 : zc = own_n xs) (hl : xs.length ≤ 8) (hz0 : ¬ (zc = (0 : Int32))) (hch : ∀ x ∈ xs, own_ch x) :
    MetFree l (⟨"java/lang/String", "<init>", "([C)V"⟩ : MethodName) (head1 (Jvm.Cond.code (⟨"java/lang/String", "<init>", "([C)V"⟩ : MethodName) jdk_42_method_3_code 2 none :: ws) ({ frames := 5, cells := 2, slots := 48, locals := 74 } : Room)) (fun a U => a = #[(.ref a1), (.ref a2)] ∧ Z.Warmed39 U.vm ∧ U.heap = h0) (fun _ _ _ _ _ => True) (fun _ U o U' => ∃ v L, o = .returned v ∧ Q_sid Z a1 a2 kc xs zc cs_ fm h0 n0 v U'.heap L ∧ FrameEnd U o U' L ({ frames := 5, cells := 2, slots := 48, locals := 74 } : Room).cells ({ frames := 5, cells := 2, slots := 48, locals := 74 } : Room).slots) := by
  refine met_of (Ls := #[.val (.ref a1), .val (.ref a2)]) (plainFor_of_name (by first | (simp [plainName, overriddenIn]; done) | decide +kernel)) (fun m => ef_sid m a1 a2) ?_
  intro p e s m below meth c T0 C X0 e0
  obtain ⟨S_cs, hcs, S_fm, hfm, S_ad, S_hi, S_lo⟩ := id hF
  have N0 := Fr.nil n0
  have K0 : Keep h0 h0 [a1] := Keep.refl h0 _
  refine g_aloadN (pc' := 1) C X0 d2_0 rfl rfl rfl ?_
  refine g_aloadN (pc' := 2) C X0 d2_1 rfl rfl rfl ?_
  refine g_iconst (pc' := 3) (v := (0 : Int32)) C X0 d2_2 rfl rfl ?_
  refine g_aloadN (pc' := 4) C X0 d2_3 rfl rfl rfl ?_
  refine g_len (pc' := 5) C X0 d2_4 e0 V_c rfl ?_
  refine g_null (pc' := 6) C X0 d2_5 rfl ?_
  refine g_callI (b := a1) (y := (⟨"java/lang/String", "<init>", "([CIILjava/lang/Void;)V"⟩ : MethodName)) (argsL := [(.ref a2), (.int (0 : Int32)), (.int zc), .null]) (st := []) (pc' := 9) C X0 rfl d2_6 (wq hw 12 rfl) (wq hw 13 rfl) (wq hw 8 rfl) (wq hw 15 rfl) (by decide) (rmsic l Z a0 hw [] a1 a2 zc kc xs cs_ fm h0 n0 Z0 hF E_a1 Fv_a1 Fc_a1 V_c gn_a1 ne21 hp4 hl hz0 hch) (W := 0) (by decide) (by decide) (ce := 2) (sl := 48) rfl rfl (by decide) (by decide) rfl e0 rfl pd_32 rfl (Nat.le_refl _) rfl (fun rv1 T1 L1 X1 Q1 => ?_)
  obtain ⟨w1, q1, Nq1, Kq1, P1_0⟩ := Q1
  have N1 := Fr.app N0 Nq1
  have FX_1 := FX_keep hF Kq1 ((allS (by obtain ⟨c_, _, h1_, _, _, h2_, _⟩ := E_a1; exact ⟨c_, h1_, h2_⟩) all0))
  have E_a1_1 := E_a1.keep Kq1
  have V_c_1 := V_c.keep Kq1 (ninS ne21 nin0)
  have Z1 := Nat.le_trans Z0 Kq1.1
  have K1 := K0.trans Kq1 (allS (Or.inl (List.mem_of_getElem? (i := 0) rfl)) all0)
  subst q1
  show Go p.tables e below _ (T1.setTop (mkF m 9 #[.val (.ref a1), .val (.ref a2)] []))
  exact g_retV C X1 d2_9 (by decide) (by decide) ⟨w1, rfl, N1, K1, P1_0⟩
def own_EL : List (String × Nat) := [("java/lang/String", 7), ("org/vouchsafe/cli/Output", 59), ("org/vouchsafe/cli/Output", 61), ("org/vouchsafe/cli/Output", 63)]
theorem own_ew {a0 : Array Value} {Z : State} (hw : ∀ d ∈ tables_1, d.before a0 Z = true) : EW Z a0 own_EL := (EW.cons (wq hw 19 rfl) (by decide) (EW.cons (wq hw 142 rfl) (by decide) (EW.cons (wq hw 224 rfl) (by decide) (EW.cons (wq hw 178 rfl) (by decide) EW.nil))))
theorem own_msf {Z : State} {EL : List (String × Nat)} {vm : Vm} {h : Heap} {w v : Addr} (xp : ∀ o : Addr, o < h.size → ¬ (o = v) → ¬ (o = w)) (S : Safe Z EL vm h v) : Safe Z EL vm h w := by
  by_cases q : w < h.size
  · by_cases r : w = v
    · rw [r]; exact S
    · exact absurd rfl (xp w q r)
  · exact Safe.new (Nat.le_of_not_lt q)
theorem d3_8 : decode jdk_42_method_149_code 8 = .ok (.aload_n 0, 1) := by decide +kernel
theorem d3_9 : decode jdk_42_method_149_code 9 = .ok (.ldc 7, 2) := by decide +kernel
theorem d3_11 : decode jdk_42_method_149_code 11 = .ok (.getfield 9, 3) := by decide +kernel
theorem d3_14 : decode jdk_42_method_149_code 14 = .ok (.putfield 9, 3) := by decide +kernel
theorem d3_17 : decode jdk_42_method_149_code 17 = .ok (.aload_n 0, 1) := by decide +kernel
theorem d3_18 : decode jdk_42_method_149_code 18 = .ok (.ldc 7, 2) := by decide +kernel
theorem d3_20 : decode jdk_42_method_149_code 20 = .ok (.getfield 15, 3) := by decide +kernel
theorem d3_23 : decode jdk_42_method_149_code 23 = .ok (.putfield 15, 3) := by decide +kernel
theorem d3_26 : decode jdk_42_method_149_code 26 = .ok (.return_, 1) := by decide +kernel
theorem ef_sic0 (m : MethodId) (a1 : Addr) (a2 : Addr) : entryFrame m #[(.ref a1), (.ref a2), (.int (0 : Int32)), (.int (0 : Int32)), .null] 6 = mkF m 0 #[.val (.ref a1), .val (.ref a2), .val (.int (0 : Int32)), .val (.int (0 : Int32)), .val .null, .unset] [] := by first | (simp [entryFrame, mkF, argsToLocals, Value.category]; done) | rfl
def Q_sic0 (Z : State) (a1 : Addr) (a2 : Addr) (cs_ : Int32) (fm : Value) (h0 : Heap) (n0 : Nat) (vr : Option Value) (h : Heap) (L : List Loc) : Prop := ∃ w : Addr, (vr = none) ∧ (Fr n0 L) ∧ (Keep h0 h [a1]) ∧ (Str Z h a1 w [])
set_option maxRecDepth 65536 in
set_option maxHeartbeats 40000000 in
theorem rmsic0 (l : Launch) (Z : State) (a0 : Array Value) (hw : ∀ d ∈ tables_1, d.before a0 Z = true) (ws : List Jvm.Cond) (a1 : Addr) (a2 : Addr) (cs_ : Int32) (fm : Value) (h0 : Heap) (n0 : Nat) (Z0 : n0 ≤ h0.size) (hF : FX Z h0 cs_ fm) (E_a1 : Exa Z h0 a1 "java/lang/String") (Fv_a1 : Fld Z h0 a1 "java/lang/String" "value" "[B" .null) (Fc_a1 : Fld Z h0 a1 "java/lang/String" "coder" "B" (.int (0 : Int32))) (gn_a1 : n0 ≤ a1) :
    MetFree l (⟨"java/lang/String", "<init>", "([CIILjava/lang/Void;)V"⟩ : MethodName) (head1 (Jvm.Cond.code (⟨"java/lang/String", "<init>", "([CIILjava/lang/Void;)V"⟩ : MethodName) jdk_42_method_149_code 6 none :: ws) ({ frames := 1, cells := 4, slots := 8, locals := 12 } : Room)) (fun a U => a = #[(.ref a1), (.ref a2), (.int (0 : Int32)), (.int (0 : Int32)), .null] ∧ Z.Warmed39 U.vm ∧ U.heap = h0 ∧ (fun U => CHv Z own_EL U.vm h0) U) (fun _ _ _ _ _ => True) (fun _ U o U' => ∃ v L, o = .returned v ∧ Q_sic0 Z a1 a2 cs_ fm h0 n0 v U'.heap L ∧ ReturnedEndW U o U' L ({ frames := 1, cells := 4, slots := 8, locals := 12 } : Room).cells ({ frames := 1, cells := 4, slots := 8, locals := 12 } : Room).slots) := by
  refine met_ofW (Ls := #[.val (.ref a1), .val (.ref a2), .val (.int (0 : Int32)), .val (.int (0 : Int32)), .val .null, .unset]) (plainFor_of_name (by first | (simp [plainName, overriddenIn]; done) | decide +kernel)) (fun m => ef_sic0 m a1 a2) ?_
  intro p e s m below meth c T0 hpx C X0 hS e0
  obtain ⟨S_cs, hcs, S_fm, hfm, S_ad, S_hi, S_lo⟩ := id hF
  have N0 := Fr.nil n0
  have K0 : Keep h0 h0 [a1] := Keep.refl h0 _
  refine g_aloadN (pc' := 1) C X0 d3_0 rfl rfl rfl ?_
  refine g_initO (W := 0) (pc' := 4) C X0 d3_1 (wq hw 16 rfl) (wq hw 17 rfl) (wq hw 18 rfl) e0 rfl (by decide) (Nat.le_refl _) (by decide) rfl (fun T1 X1 e1 => ?_)
  refine g_iloadN (pc' := 5) C X1 d3_4 rfl rfl ?_
  refine g_ifN (pc' := 8) C X1 d3_5 (teq (show (0 : Int32) = (0 : Int32) from (by decide))).2 rfl ?_
  refine g_aloadN (pc' := 9) C X1 d3_8 rfl rfl rfl ?_
  refine g_ldcH (vs := []) (z := (0 : Int32)) (pc' := 11) (n := 0) C X1 hS (Nat.zero_le _) (own_ew hw) hpx (by decide) d3_9 (wq hw 19 rfl) (own_wS hw) e1 ⟨by decide, rfl⟩ (by decide) rfl (by decide) (by decide) (ce := 2) (sl := 4) rfl rfl (by decide) (by decide) rfl (fun b2 T2 h2 ck2 bb2 kk2 C X2 e2 E2 hS Kz2 A2 Fc2 Fv2 V2 L2 ch2 sx2 => ?_)
  have FX_2 := FX_ext hF E2
  have E_a1_2 := E_a1.ext E2
  have Fv_a1_2 := Fv_a1.ext E2
  have Fc_a1_2 := Fc_a1.ext E2
  have Z2 := Nat.le_trans Z0 E2.1
  have K2 := K0.ext E2
  have nab : ¬ (a1 = bb2) := Exa.neArv E_a1_2 V2 (wq hw 7 rfl)
  refine g_getF (pc' := 14) C X2 d3_11 (host := "") (Or.inl (wq hw 25 rfl)) Via.refl e2 Fv2 rfl (fun T3 X3 e3 => ?_)
  refine g_putF (pc' := 17) C X3 d3_14 (host := "") (Or.inl (wq hw 25 rfl)) Via.refl e3 Fv_a1_2 E_a1_2 (Or.inr ⟨(wq hw 21 rfl), rfl, rfl⟩) (wq hw 7 rfl) (ty := (.array .byte)) (by decide) rfl rfl rfl (fun T4 h4 X4 e4 W4 => ?_)
  have F4 := Fv_a1_2.same W4
  have FX_4 := FX_wr FX_2 W4
  have E_a1_4 := E_a1_2.wr W4
  have Fc_a1_4 := Fc_a1_2.other W4 (Or.inr (slot_ne (Or.inr (wq hw 22 rfl)) (Or.inr (wq hw 21 rfl)) (by decide) (t := .byte) (t' := (.array .byte)) (by decide) (by decide)))
  have A2_4 := A2.wr W4
  have Fc2_4 := Fc2.other W4 (Or.inr (slot_ne (Or.inr (wq hw 22 rfl)) (Or.inr (wq hw 21 rfl)) (by decide) (t := .byte) (t' := (.array .byte)) (by decide) (by decide)))
  have V2_4 := V2.other W4 (Ne.symm nab)
  have Z4 := Nat.le_trans Z2 (Nat.le_of_eq W4.size.symm)
  have Kz4 := Nat.le_trans Kz2 (Nat.le_of_eq W4.size.symm)
  have N4 := Fr.snoc X4 N0 gn_a1
  have K4 := K2.wr W4 (Or.inl (List.mem_of_getElem? (i := 0) rfl))
  refine g_aloadN (pc' := 18) C X4 d3_17 rfl rfl rfl ?_
  refine g_ldcAgain (pc' := 20) C X4 d3_18 (wq hw 19 rfl) L2 rfl ?_
  refine g_getF (pc' := 23) C X4 d3_20 (host := "") (Or.inl (wq hw 26 rfl)) Via.refl e4 Fc2_4 rfl (fun T6 X6 e6 => ?_)
  refine g_putFN (pc' := 26) (v' := (.int (0 : Int32))) C X6 d3_23 (wq hw 26 rfl) Via.refl e6 Fc_a1_4 E_a1_4 (Or.inr ⟨(wq hw 22 rfl), rfl, rfl⟩) (wq hw 7 rfl) (ty := .byte) (by decide) rfl (by decide) rfl (fun T7 h7 X7 e7 W7 => ?_)
  have F7 := Fc_a1_4.same W7
  have FX_7 := FX_wr FX_4 W7
  have E_a1_7 := E_a1_4.wr W7
  have A2_7 := A2_4.wr W7
  have V2_7 := V2_4.other W7 (Ne.symm nab)
  have F4_7 := F4.other W7 (Or.inr (slot_ne (Or.inr (wq hw 21 rfl)) (Or.inr (wq hw 22 rfl)) (by decide) (t := (.array .byte)) (t' := .byte) (by decide) (by decide)))
  have Z7 := Nat.le_trans Z4 (Nat.le_of_eq W7.size.symm)
  have Kz7 := Nat.le_trans Kz4 (Nat.le_of_eq W7.size.symm)
  have N7 := Fr.snoc X7 N4 gn_a1
  have K7 := K4.wr W7 (Or.inl (List.mem_of_getElem? (i := 0) rfl))
  exact g_retVW C X7 hS (by rw [e7]; exact Kz7) d3_26 (by decide) (by decide) ⟨bb2, rfl, N7, (by rw [e7]; exact K7), (by rw [e7]; exact ⟨by decide, nofun, E_a1_7, F4_7, _, (0 : Int32), rfl, Or.inl ⟨F7, nofun, V2_7⟩⟩)⟩
theorem ef_sid0 (m : MethodId) (a1 : Addr) (a2 : Addr) : entryFrame m #[(.ref a1), (.ref a2)] 2 = mkF m 0 #[.val (.ref a1), .val (.ref a2)] [] := by first | (simp [entryFrame, mkF, argsToLocals, Value.category]; done) | rfl
def Q_sid0 (Z : State) (a1 : Addr) (a2 : Addr) (kc : ClassId) (cs_ : Int32) (fm : Value) (h0 : Heap) (n0 : Nat) (vr : Option Value) (h : Heap) (L : List Loc) : Prop := ∃ w : Addr, (vr = none) ∧ (Fr n0 L) ∧ (Keep h0 h [a1]) ∧ (Str Z h a1 w [])
set_option maxRecDepth 65536 in
set_option maxHeartbeats 40000000 in
theorem rmsid0 (l : Launch) (Z : State) (a0 : Array Value) (hw : ∀ d ∈ tables_1, d.before a0 Z = true) (ws : List Jvm.Cond) (a1 : Addr) (a2 : Addr) (kc : ClassId) (cs_ : Int32) (fm : Value) (h0 : Heap) (n0 : Nat) (Z0 : n0 ≤ h0.size) (hF : FX Z h0 cs_ fm) (E_a1 : Exa Z h0 a1 "java/lang/String") (Fv_a1 : Fld Z h0 a1 "java/lang/String" "value" "[B" .null) (Fc_a1 : Fld Z h0 a1 "java/lang/String" "coder" "B" (.int (0 : Int32))) (V_c : Arv Z h0 a2 kc .char (0 : Int32) [] (.int (0 : Int32))) (gn_a1 : n0 ≤ a1) :
    MetFree l (⟨"java/lang/String", "<init>", "([C)V"⟩ : MethodName) (head1 (Jvm.Cond.code (⟨"java/lang/String", "<init>", "([C)V"⟩ : MethodName) jdk_42_method_3_code 2 none :: ws) ({ frames := 2, cells := 4, slots := 8, locals := 29 } : Room)) (fun a U => a = #[(.ref a1), (.ref a2)] ∧ Z.Warmed39 U.vm ∧ U.heap = h0 ∧ (fun U => CHv Z own_EL U.vm h0) U) (fun _ _ _ _ _ => True) (fun _ U o U' => ∃ v L, o = .returned v ∧ Q_sid0 Z a1 a2 kc cs_ fm h0 n0 v U'.heap L ∧ ReturnedEndW U o U' L ({ frames := 2, cells := 4, slots := 8, locals := 29 } : Room).cells ({ frames := 2, cells := 4, slots := 8, locals := 29 } : Room).slots) := by
  refine met_ofW (Ls := #[.val (.ref a1), .val (.ref a2)]) (plainFor_of_name (by first | (simp [plainName, overriddenIn]; done) | decide +kernel)) (fun m => ef_sid0 m a1 a2) ?_
  intro p e s m below meth c T0 hpx C X0 hS e0
  obtain ⟨S_cs, hcs, S_fm, hfm, S_ad, S_hi, S_lo⟩ := id hF
  have N0 := Fr.nil n0
  have K0 : Keep h0 h0 [a1] := Keep.refl h0 _
  refine g_aloadN (pc' := 1) C X0 d2_0 rfl rfl rfl ?_
  refine g_aloadN (pc' := 2) C X0 d2_1 rfl rfl rfl ?_
  refine g_iconst (pc' := 3) (v := (0 : Int32)) C X0 d2_2 rfl rfl ?_
  refine g_aloadN (pc' := 4) C X0 d2_3 rfl rfl rfl ?_
  refine g_len (pc' := 5) C X0 d2_4 e0 V_c rfl ?_
  refine g_null (pc' := 6) C X0 d2_5 rfl ?_
  refine g_callIH (b := a1) (y := (⟨"java/lang/String", "<init>", "([CIILjava/lang/Void;)V"⟩ : MethodName)) (argsL := [(.ref a2), (.int (0 : Int32)), (.int (0 : Int32)), .null]) (st := []) (pc' := 9) C X0 hS (Nat.zero_le _) (own_ew hw) hpx rfl d2_6 (wq hw 12 rfl) (wq hw 13 rfl) (wq hw 8 rfl) (wq hw 15 rfl) (by decide) (rmsic0 l Z a0 hw [] a1 a2 cs_ fm h0 n0 Z0 hF E_a1 Fv_a1 Fc_a1 gn_a1) (W := 0) (by decide) (by decide) (ce := 4) (sl := 8) rfl rfl (by decide) (by decide) rfl e0 rfl pd_32 rfl (Nat.le_refl _) rfl (fun rv1 T1 L1 C X1 hS Q1 => ?_)
  obtain ⟨w1, q1, Nq1, Kq1, P1_0⟩ := Q1
  have N1 := Fr.app N0 Nq1
  have FX_1 := FX_keep hF Kq1 ((allS (by obtain ⟨c_, _, h1_, _, _, h2_, _⟩ := E_a1; exact ⟨c_, h1_, h2_⟩) all0))
  have E_a1_1 := E_a1.keep Kq1
  have Z1 := Nat.le_trans Z0 Kq1.1
  have Kz1 := Nat.le_trans (Nat.zero_le _) Kq1.1
  have K1 := K0.trans Kq1 (allS (Or.inl (List.mem_of_getElem? (i := 0) rfl)) all0)
  subst q1
  show Go p.tables e below _ (T1.setTop (mkF m 9 #[.val (.ref a1), .val (.ref a2)] []))
  exact g_retVW C X1 hS (Nat.le_refl _) d2_9 (by decide) (by decide) ⟨w1, rfl, N1, K1, P1_0⟩
theorem own_lsN {x : Int32} (n1 : ¬ x = (10 : Int32)) (n2 : ¬ x = (13 : Int32)) (n3 : ¬ x = (92 : Int32)) : lookupswitch.offset (#[(10, 35), (13, 45), (92, 55)] : Array (Int × Int)).toList 65 x.toInt = 65 := by
  show lookupswitch.offset [(10, 35), (13, 45), (92, 55)] 65 x.toInt = 65
  have h : ∀ {k : Int32} {i : Int}, k.toInt = i → ¬ x = k → ¬ i = x.toInt := fun e n q => n (own_eqI (q.symm.trans e.symm))
  have a := h (show (10 : Int32).toInt = 10 by decide) n1
  have b := h (show (13 : Int32).toInt = 13 by decide) n2
  have c := h (show (92 : Int32).toInt = 92 by decide) n3
  simp only [lookupswitch.offset, if_neg a, if_neg b, if_neg c]
theorem own_n4 {xs : List Int32} (h : xs.length ≤ 4) : ¬ ((4 : Int32) < (own_n xs)) := by
  have z : (4 : Int32).toInt = 4 := by decide
  rw [own_lt, own_nI (by omega), z]; omega
theorem d5_0 : decode prog_58_method_5_code 0 = .ok (.new 7, 3) := by decide +kernel
theorem d5_3 : decode prog_58_method_5_code 3 = .ok (.dup, 1) := by decide +kernel
theorem d5_4 : decode prog_58_method_5_code 4 = .ok (.aload_n 0, 1) := by decide +kernel
theorem d5_5 : decode prog_58_method_5_code 5 = .ok (.invokevirtual 46, 3) := by decide +kernel
theorem d5_8 : decode prog_58_method_5_code 8 = .ok (.invokespecial 52, 3) := by decide +kernel
theorem d5_11 : decode prog_58_method_5_code 11 = .ok (.astore_n 1, 1) := by decide +kernel
theorem d5_12 : decode prog_58_method_5_code 12 = .ok (.iconst 0, 1) := by decide +kernel
theorem d5_13 : decode prog_58_method_5_code 13 = .ok (.istore_n 2, 1) := by decide +kernel
theorem d5_14 : decode prog_58_method_5_code 14 = .ok (.iload_n 2, 1) := by decide +kernel
theorem d5_15 : decode prog_58_method_5_code 15 = .ok (.aload_n 0, 1) := by decide +kernel
theorem d5_16 : decode prog_58_method_5_code 16 = .ok (.invokevirtual 46, 3) := by decide +kernel
theorem d5_19 : decode prog_58_method_5_code 19 = .ok (.if_icmp .ge 87, 3) := by decide +kernel
theorem d5_106 : decode prog_58_method_5_code 106 = .ok (.aload_n 1, 1) := by decide +kernel
theorem d5_107 : decode prog_58_method_5_code 107 = .ok (.invokevirtual 42, 3) := by decide +kernel
theorem pd_33 : parseMethodDescriptor "()Ljava/lang/String;" = some ⟨[], some (.object "java/lang/String")⟩ := by decide +kernel
theorem d5_110 : decode prog_58_method_5_code 110 = .ok (.areturn, 1) := by decide +kernel
theorem ef_es0 (m : MethodId) (a1 : Addr) : entryFrame m #[(.ref a1)] 4 = mkF m 0 #[.val (.ref a1), .unset, .unset, .unset] [] := by first | (simp [entryFrame, mkF, argsToLocals, Value.category]; done) | rfl
def Q_es0 (Z : State) (a1 : Addr) (v1_ : Addr) (cs_ : Int32) (fm : Value) (h0 : Heap) (n0 : Nat) (vr : Option Value) (h : Heap) (L : List Loc) : Prop := ∃ r : Addr, ∃ w : Addr, (vr = some (.ref r)) ∧ (Fr n0 L) ∧ (Keep h0 h []) ∧ (h0.size ≤ r) ∧ (h0.size ≤ w) ∧ (n0 ≤ r) ∧ (n0 ≤ w) ∧ (Str Z h r w [])
set_option maxRecDepth 65536 in
set_option maxHeartbeats 40000000 in
theorem rmes0 (l : Launch) (Z : State) (a0 : Array Value) (hw : ∀ d ∈ tables_1, d.before a0 Z = true) (ws : List Jvm.Cond) (a1 : Addr) (v1_ : Addr) (cs_ : Int32) (fm : Value) (h0 : Heap) (n0 : Nat) (Z0 : n0 ≤ h0.size) (hF : FX Z h0 cs_ fm) (hStr : Str Z h0 a1 v1_ []) :
    MetFree l (⟨"org/vouchsafe/cli/Output", "escape", "(Ljava/lang/String;)Ljava/lang/String;"⟩ : MethodName) (head1 (Jvm.Cond.code (⟨"org/vouchsafe/cli/Output", "escape", "(Ljava/lang/String;)Ljava/lang/String;"⟩ : MethodName) prog_58_method_5_code 4 (some (.object "java/lang/String")) :: ws) ({ frames := 6, cells := 4, slots := 56, locals := 113 } : Room)) (fun a U => a = #[(.ref a1)] ∧ Z.Warmed39 U.vm ∧ U.heap = h0) (fun _ _ _ _ _ => True) (fun _ U o U' => ∃ v L, o = .returned v ∧ Q_es0 Z a1 v1_ cs_ fm h0 n0 v U'.heap L ∧ FrameEnd U o U' L ({ frames := 6, cells := 4, slots := 56, locals := 113 } : Room).cells ({ frames := 6, cells := 4, slots := 56, locals := 113 } : Room).slots) := by
  refine met_of (Ls := #[.val (.ref a1), .unset, .unset, .unset]) (plainFor_of_name (by first | (simp [plainName, overriddenIn]; done) | decide +kernel)) (fun m => ef_es0 m a1) ?_
  intro p e s m below meth c T0 C X0 e0
  obtain ⟨S_cs, hcs, S_fm, hfm, S_ad, S_hi, S_lo⟩ := id hF
  have N0 := Fr.nil n0
  have K0 : Keep h0 h0 [] := Keep.refl h0 _
  refine g_new (pc' := 3) C X0 d5_0 (wq hw 31 rfl) (wq hw 32 rfl) (wq hw 33 rfl) e0 (ce := 1) (sl := 4) rfl rfl (by decide) (by decide) rfl (fun T1 h1 b1 g1 X1 e1 E1 A1 D1 => ?_)
  have ne1_2 : ¬ (a1 = b1) := Nat.ne_of_lt (Nat.lt_of_lt_of_le (Str_lt0 hStr) (Nat.le_of_eq g1.symm))
  have ne1_3 : ¬ (v1_ = b1) := Nat.ne_of_lt (Nat.lt_of_lt_of_le (Str_lt1 hStr) (Nat.le_of_eq g1.symm))
  have FX_1 := FX_ext hF E1
  have hStr_1 := Str_ext hStr E1
  have gn_b1 : n0 ≤ b1 := Nat.le_trans Z0 (Nat.le_of_eq g1.symm)
  have Z1 := Nat.le_trans Z0 E1.1
  have sz_b1 : h0.size ≤ b1 := Nat.le_trans K0.1 (Nat.le_of_eq g1.symm)
  have K1 := K0.ext E1
  have F1_value : Fld Z h1 b1 "java/lang/AbstractStringBuilder" "value" "[B" .null := D1 (Or.inl (wq hw 57 rfl)) (ty := (.array .byte)) (by decide)
  have F1_coder : Fld Z h1 b1 "java/lang/AbstractStringBuilder" "coder" "B" (.int (0 : Int32)) := D1 (Or.inl (wq hw 59 rfl)) (ty := .byte) (by decide)
  have F1_count : Fld Z h1 b1 "java/lang/AbstractStringBuilder" "count" "I" (.int (0 : Int32)) := D1 (Or.inl (wq hw 87 rfl)) (ty := .int) (by decide)
  have F1_maybeLatin1 : Fld Z h1 b1 "java/lang/AbstractStringBuilder" "maybeLatin1" "Z" (.int (0 : Int32)) := D1 (Or.inl (wq hw 280 rfl)) (ty := .boolean) (by decide)
  refine g_dup (pc' := 4) C X1 d5_3 rfl rfl ?_
  refine g_aloadN (pc' := 5) C X1 d5_4 rfl rfl rfl ?_
  refine g_callV (b := a1) (z := (⟨"java/lang/String", "length", "()I"⟩ : MethodName)) (y := (⟨"java/lang/String", "length", "()I"⟩ : MethodName)) (argsL := []) (st := [(.ref b1), (.ref b1)]) (pc' := 8) C X1 d5_5 (wq hw 34 rfl) (wq hw 35 rfl) (notFace_of_selects (args := #[]) (mvT C.hZ (wq hw 37 rfl))) (wq hw 37 rfl) (wq hw 36 rfl) (wq hw 8 rfl) (wq hw 38 rfl) (by decide) (rmsl l Z a0 hw [] a1 v1_ ([]) cs_ fm h1 n0 FX_1 hStr_1) (W := 2) (by decide) (by decide) (ce := 1) (sl := 4) rfl rfl (by decide) (by decide) rfl (Str_exa hStr_1) e1 rfl pd_22 rfl (Nat.le_refl _) rfl (fun rv4 T4 L4 X4 Q4 => ?_)
  obtain ⟨q4, Nq4, e4⟩ := Q4
  have N4 := Fr.app N0 Nq4
  subst q4
  show Go p.tables e below _ (T4.setTop (mkF m 8 #[.val (.ref a1), .unset, .unset, .unset] [(.int (own_n [])), (.ref b1), (.ref b1)]))
  refine own_cast (show T4.setTop (mkF m 8 #[.val (.ref a1), .unset, .unset, .unset] [(.int (own_n [])), (.ref b1), (.ref b1)]) = T4.setTop (mkF m 8 #[.val (.ref a1), .unset, .unset, .unset] [(.int (0 : Int32)), (.ref b1), (.ref b1)]) from by rw [(show own_n [] = (0 : Int32) from rfl)]) ?_
  refine g_callI (b := b1) (y := (⟨"java/lang/StringBuilder", "<init>", "(I)V"⟩ : MethodName)) (argsL := [(.int (0 : Int32))]) (st := [(.ref b1)]) (pc' := 11) C X4 rfl d5_8 (wq hw 45 rfl) (wq hw 46 rfl) (wq hw 33 rfl) (wq hw 47 rfl) (by decide) (rmsbi l Z a0 hw [] b1 (0 : Int32) cs_ fm h1 n0 Z1 FX_1 A1 F1_value F1_maybeLatin1 F1_count F1_coder gn_b1 (by decide) (by decide)) (W := 1) (by decide) (by decide) (ce := 2) (sl := 12) rfl rfl (by decide) (by decide) rfl e4 rfl pd_7 rfl (Nat.le_refl _) rfl (fun rv5 T5 L5 X5 Q5 => ?_)
  obtain ⟨w5, q5, Nq5, Kq5, sz5_w, gn_w5, P5_0⟩ := Q5
  have N5 := Fr.app N4 Nq5
  have ne5_6 : ¬ (b1 = w5) := Nat.ne_of_lt (Nat.lt_of_lt_of_le A1.lt sz5_w)
  have ne5_7 : ¬ (a1 = w5) := Nat.ne_of_lt (Nat.lt_of_lt_of_le (Str_lt0 hStr_1) sz5_w)
  have ne5_8 : ¬ (v1_ = w5) := Nat.ne_of_lt (Nat.lt_of_lt_of_le (Str_lt1 hStr_1) sz5_w)
  have FX_5 := FX_keep FX_1 Kq5 ((allS (by obtain ⟨c_, _, h1_, _, _, h2_, _⟩ := A1; exact ⟨c_, h1_, h2_⟩) all0))
  have hStr_5 := Str_keep hStr_1 Kq5 (ninS ne1_2 nin0) (ninS ne1_3 nin0)
  have A1_5 := A1.keep Kq5
  have Z5 := Nat.le_trans Z1 Kq5.1
  have sz_w5 := Nat.le_trans K1.1 sz5_w
  have K5 := K1.trans Kq5 (allS (Or.inr sz_b1) all0)
  subst q5
  show Go p.tables e below _ (T5.setTop (mkF m 11 #[.val (.ref a1), .unset, .unset, .unset] [(.ref b1)]))
  refine g_astoreN (pc' := 12) (Ls' := #[.val (.ref a1), .val (.ref b1), .unset, .unset]) C X5 d5_11 rfl rfl rfl ?_
  refine g_iconst (pc' := 13) (v := (0 : Int32)) C X5 d5_12 rfl rfl ?_
  refine g_istoreN (pc' := 14) (Ls' := #[.val (.ref a1), .val (.ref b1), .val (.int (0 : Int32)), .unset]) C X5 d5_13 rfl rfl ?_
  refine g_iloadN (pc' := 15) C X5 d5_14 rfl rfl ?_
  refine g_aloadN (pc' := 16) C X5 d5_15 rfl rfl rfl ?_
  refine g_callV (b := a1) (z := (⟨"java/lang/String", "length", "()I"⟩ : MethodName)) (y := (⟨"java/lang/String", "length", "()I"⟩ : MethodName)) (argsL := []) (st := [(.int (0 : Int32))]) (pc' := 19) C X5 d5_16 (wq hw 34 rfl) (wq hw 35 rfl) (notFace_of_selects (args := #[]) (mvT C.hZ (wq hw 37 rfl))) (wq hw 37 rfl) (wq hw 36 rfl) (wq hw 8 rfl) (wq hw 38 rfl) (by decide) (rmsl l Z a0 hw [] a1 v1_ ([]) cs_ fm T5.heap n0 FX_5 hStr_5) (W := 1) (by decide) (by decide) (ce := 2) (sl := 12) rfl rfl (by decide) (by decide) rfl (Str_exa hStr_5) rfl rfl pd_22 rfl (Nat.le_refl _) rfl (fun rv9 T9 L9 X9 Q9 => ?_)
  obtain ⟨q9, Nq9, e9⟩ := Q9
  have N9 := Fr.app N5 Nq9
  subst q9
  show Go p.tables e below _ (T9.setTop (mkF m 19 #[.val (.ref a1), .val (.ref b1), .val (.int (0 : Int32)), .unset] [(.int (own_n [])), (.int (0 : Int32))]))
  refine own_cast (show T9.setTop (mkF m 19 #[.val (.ref a1), .val (.ref b1), .val (.int (0 : Int32)), .unset] [(.int (own_n [])), (.int (0 : Int32))]) = T9.setTop (mkF m 19 #[.val (.ref a1), .val (.ref b1), .val (.int (0 : Int32)), .unset] [(.int (0 : Int32)), (.int (0 : Int32))]) from by rw [(show own_n [] = (0 : Int32) from rfl)]) ?_
  refine g_icmpY (pc' := 106) C X9 d5_19 (flt (show ¬ ((0 : Int32) < (0 : Int32)) from (by decide))).2.1 (by decide) (by decide) ?_
  refine g_aloadN (pc' := 107) C X9 d5_106 rfl rfl rfl ?_
  refine g_callV (b := b1) (z := (⟨"java/lang/StringBuilder", "toString", "()Ljava/lang/String;"⟩ : MethodName)) (y := (⟨"java/lang/StringBuilder", "toString", "()Ljava/lang/String;"⟩ : MethodName)) (argsL := []) (st := []) (pc' := 110) C X9 d5_107 (wq hw 60 rfl) (wq hw 61 rfl) (notFace_of_selects (args := #[]) (mvT C.hZ (wq hw 63 rfl))) (wq hw 63 rfl) (wq hw 62 rfl) (wq hw 33 rfl) (wq hw 64 rfl) (by decide) (rmtos l Z a0 hw [] b1 w5 (0 : Int32) ([]) cs_ fm T5.heap n0 Z5 FX_5 P5_0) (W := 0) (by decide) (by decide) (ce := 4) (sl := 56) rfl rfl (by decide) (by decide) rfl A1_5 e9 rfl pd_33 rfl (Nat.le_refl _) rfl (fun rv10 T10 L10 X10 Q10 => ?_)
  obtain ⟨r10, w10, q10, Nq10, Kq10, sz10_r, sz10_w, gn_r10, gn_w10, P10_0⟩ := Q10
  have N10 := Fr.app N9 Nq10
  have ne10_11 : ¬ (b1 = r10) := Nat.ne_of_lt (Nat.lt_of_lt_of_le A1_5.lt sz10_r)
  have ne10_12 : ¬ (a1 = r10) := Nat.ne_of_lt (Nat.lt_of_lt_of_le (Str_lt0 hStr_5) sz10_r)
  have ne10_13 : ¬ (v1_ = r10) := Nat.ne_of_lt (Nat.lt_of_lt_of_le (Str_lt1 hStr_5) sz10_r)
  have ne10_14 : ¬ (w5 = r10) := Nat.ne_of_lt (Nat.lt_of_lt_of_le (Bld_lt1 P5_0) sz10_r)
  have ne10_15 : ¬ (b1 = w10) := Nat.ne_of_lt (Nat.lt_of_lt_of_le A1_5.lt sz10_w)
  have ne10_16 : ¬ (a1 = w10) := Nat.ne_of_lt (Nat.lt_of_lt_of_le (Str_lt0 hStr_5) sz10_w)
  have ne10_17 : ¬ (v1_ = w10) := Nat.ne_of_lt (Nat.lt_of_lt_of_le (Str_lt1 hStr_5) sz10_w)
  have ne10_18 : ¬ (w5 = w10) := Nat.ne_of_lt (Nat.lt_of_lt_of_le (Bld_lt1 P5_0) sz10_w)
  have FX_10 := FX_keep FX_5 Kq10 (fun _ q => nomatch q)
  have hStr_10 := Str_keep hStr_5 Kq10 nin0 nin0
  have A1_10 := A1_5.keep Kq10
  have P5_0_10 := Bld_keep P5_0 Kq10 nin0 nin0
  have Z10 := Nat.le_trans Z5 Kq10.1
  have sz_r10 := Nat.le_trans K5.1 sz10_r
  have sz_w10 := Nat.le_trans K5.1 sz10_w
  have K10 := K5.trans Kq10 all0
  subst q10
  show Go p.tables e below _ (T10.setTop (mkF m 110 #[.val (.ref a1), .val (.ref b1), .val (.int (0 : Int32)), .unset] [(.ref r10)]))
  exact g_retA C X10 rfl rfl rfl d5_110 (by decide) (by decide) ⟨r10, w10, rfl, N10, K10, sz_r10, sz_w10, gn_r10, gn_w10, P10_0⟩
theorem d5_22 : decode prog_58_method_5_code 22 = .ok (.aload_n 0, 1) := by decide +kernel
theorem d5_23 : decode prog_58_method_5_code 23 = .ok (.iload_n 2, 1) := by decide +kernel
theorem d5_24 : decode prog_58_method_5_code 24 = .ok (.invokevirtual 55, 3) := by decide +kernel
theorem pd_34 : parseMethodDescriptor "(I)C" = some ⟨[.int], some .char⟩ := by decide +kernel
theorem d5_27 : decode prog_58_method_5_code 27 = .ok (.istore_n 3, 1) := by decide +kernel
theorem d5_28 : decode prog_58_method_5_code 28 = .ok (.iload_n 3, 1) := by decide +kernel
theorem d5_29 : decode prog_58_method_5_code 29 = .ok (.lookupswitch 65 #[(10, 35), (13, 45), (92, 55)], 35) := by decide +kernel
theorem d5_64 : decode prog_58_method_5_code 64 = .ok (.aload_n 1, 1) := by decide +kernel
theorem d5_65 : decode prog_58_method_5_code 65 = .ok (.ldc 59, 2) := by decide +kernel
theorem d5_67 : decode prog_58_method_5_code 67 = .ok (.invokevirtual 20, 3) := by decide +kernel
theorem pd_35 : parseMethodDescriptor "(Ljava/lang/String;)Ljava/lang/StringBuilder;" = some ⟨[(.object "java/lang/String")], some (.object "java/lang/StringBuilder")⟩ := by decide +kernel
theorem d5_70 : decode prog_58_method_5_code 70 = .ok (.pop, 1) := by decide +kernel
theorem d5_71 : decode prog_58_method_5_code 71 = .ok (.goto 29, 3) := by decide +kernel
theorem d5_100 : decode prog_58_method_5_code 100 = .ok (.iinc 2 1, 3) := by decide +kernel
theorem d5_103 : decode prog_58_method_5_code 103 = .ok (.goto (-89), 3) := by decide +kernel
theorem d5_74 : decode prog_58_method_5_code 74 = .ok (.aload_n 1, 1) := by decide +kernel
theorem d5_75 : decode prog_58_method_5_code 75 = .ok (.ldc 61, 2) := by decide +kernel
theorem d5_77 : decode prog_58_method_5_code 77 = .ok (.invokevirtual 20, 3) := by decide +kernel
theorem d5_80 : decode prog_58_method_5_code 80 = .ok (.pop, 1) := by decide +kernel
theorem d5_81 : decode prog_58_method_5_code 81 = .ok (.goto 19, 3) := by decide +kernel
theorem d5_84 : decode prog_58_method_5_code 84 = .ok (.aload_n 1, 1) := by decide +kernel
theorem d5_85 : decode prog_58_method_5_code 85 = .ok (.ldc 63, 2) := by decide +kernel
theorem d5_87 : decode prog_58_method_5_code 87 = .ok (.invokevirtual 20, 3) := by decide +kernel
theorem d5_90 : decode prog_58_method_5_code 90 = .ok (.pop, 1) := by decide +kernel
theorem d5_91 : decode prog_58_method_5_code 91 = .ok (.goto 9, 3) := by decide +kernel
theorem d5_94 : decode prog_58_method_5_code 94 = .ok (.aload_n 1, 1) := by decide +kernel
theorem d5_95 : decode prog_58_method_5_code 95 = .ok (.iload_n 3, 1) := by decide +kernel
theorem d5_96 : decode prog_58_method_5_code 96 = .ok (.invokevirtual 29, 3) := by decide +kernel
theorem pd_36 : parseMethodDescriptor "(C)Ljava/lang/StringBuilder;" = some ⟨[.char], some (.object "java/lang/StringBuilder")⟩ := by decide +kernel
theorem d5_99 : decode prog_58_method_5_code 99 = .ok (.pop, 1) := by decide +kernel
theorem ef_es (m : MethodId) (a1 : Addr) : entryFrame m #[(.ref a1)] 4 = mkF m 0 #[.val (.ref a1), .unset, .unset, .unset] [] := by first | (simp [entryFrame, mkF, argsToLocals, Value.category]; done) | rfl
def Q_es (Z : State) (a1 : Addr) (v1_ : Addr) (xs : List Int32) (cs_ : Int32) (fm : Value) (h0 : Heap) (n0 : Nat) (vr : Option Value) (h : Heap) (L : List Loc) : Prop := ∃ r : Addr, ∃ w : Addr, (vr = some (.ref r)) ∧ (Fr n0 L) ∧ (Keep h0 h []) ∧ (h0.size ≤ r) ∧ (h0.size ≤ w) ∧ (n0 ≤ r) ∧ (n0 ≤ w) ∧ (Str Z h r w (own_esc xs))
set_option maxRecDepth 65536 in
set_option maxHeartbeats 40000000 in
theorem rmes (l : Launch) (Z : State) (a0 : Array Value) (hw : ∀ d ∈ tables_1, d.before a0 Z = true) (ws : List Jvm.Cond) (a1 : Addr) (v1_ : Addr) (xs : List Int32) (cs_ : Int32) (fm : Value) (h0 : Heap) (n0 : Nat) (Z0 : n0 ≤ h0.size) (hF : FX Z h0 cs_ fm) (hStr : Str Z h0 a1 v1_ xs) (hl4 : xs.length ≤ 4) :
    MetFree l (⟨"org/vouchsafe/cli/Output", "escape", "(Ljava/lang/String;)Ljava/lang/String;"⟩ : MethodName) (head1 (Jvm.Cond.code (⟨"org/vouchsafe/cli/Output", "escape", "(Ljava/lang/String;)Ljava/lang/String;"⟩ : MethodName) prog_58_method_5_code 4 (some (.object "java/lang/String")) :: ws) ({ frames := 9, cells := 16, slots := 376, locals := 132 } : Room)) (fun a U => a = #[(.ref a1)] ∧ Z.Warmed39 U.vm ∧ U.heap = h0 ∧ (fun U => CHv Z own_EL U.vm h0) U) (fun _ _ _ _ _ => True) (fun _ U o U' => ∃ v L, o = .returned v ∧ Q_es Z a1 v1_ xs cs_ fm h0 n0 v U'.heap L ∧ ReturnedEndW U o U' L ({ frames := 9, cells := 16, slots := 376, locals := 132 } : Room).cells ({ frames := 9, cells := 16, slots := 376, locals := 132 } : Room).slots) := by
  refine met_ofW (Ls := #[.val (.ref a1), .unset, .unset, .unset]) (plainFor_of_name (by first | (simp [plainName, overriddenIn]; done) | decide +kernel)) (fun m => ef_es m a1) ?_
  intro p e s m below meth c T0 hpx C X0 hS e0
  obtain ⟨S_cs, hcs, S_fm, hfm, S_ad, S_hi, S_lo⟩ := id hF
  have N0 := Fr.nil n0
  have K0 : Keep h0 h0 [] := Keep.refl h0 _
  refine g_new (pc' := 3) C X0 d5_0 (wq hw 31 rfl) (wq hw 32 rfl) (wq hw 33 rfl) e0 (ce := 1) (sl := 4) rfl rfl (by decide) (by decide) rfl (fun T1 h1 b1 g1 X1 e1 E1 A1 D1 => ?_)
  have sf1_2 := Safe.ext E1 hpx (Safe.new (Nat.le_of_eq g1.symm))
  have ch1 := hpx.ext E1
  have ne1_3 : ¬ (a1 = b1) := Nat.ne_of_lt (Nat.lt_of_lt_of_le (Str_lt0 hStr) (Nat.le_of_eq g1.symm))
  have ne1_4 : ¬ (v1_ = b1) := Nat.ne_of_lt (Nat.lt_of_lt_of_le (Str_lt1 hStr) (Nat.le_of_eq g1.symm))
  have FX_1 := FX_ext hF E1
  have hStr_1 := Str_ext hStr E1
  have gn_b1 : n0 ≤ b1 := Nat.le_trans Z0 (Nat.le_of_eq g1.symm)
  have Z1 := Nat.le_trans Z0 E1.1
  have Kz1 := Nat.le_trans (Nat.zero_le _) E1.1
  have sz_b1 : h0.size ≤ b1 := Nat.le_trans K0.1 (Nat.le_of_eq g1.symm)
  have K1 := K0.ext E1
  have F1_value : Fld Z h1 b1 "java/lang/AbstractStringBuilder" "value" "[B" .null := D1 (Or.inl (wq hw 57 rfl)) (ty := (.array .byte)) (by decide)
  have F1_coder : Fld Z h1 b1 "java/lang/AbstractStringBuilder" "coder" "B" (.int (0 : Int32)) := D1 (Or.inl (wq hw 59 rfl)) (ty := .byte) (by decide)
  have F1_count : Fld Z h1 b1 "java/lang/AbstractStringBuilder" "count" "I" (.int (0 : Int32)) := D1 (Or.inl (wq hw 87 rfl)) (ty := .int) (by decide)
  have F1_maybeLatin1 : Fld Z h1 b1 "java/lang/AbstractStringBuilder" "maybeLatin1" "Z" (.int (0 : Int32)) := D1 (Or.inl (wq hw 280 rfl)) (ty := .boolean) (by decide)
  refine g_dup (pc' := 4) C X1 d5_3 rfl rfl ?_
  refine g_aloadN (pc' := 5) C X1 d5_4 rfl rfl rfl ?_
  refine g_callV (b := a1) (z := (⟨"java/lang/String", "length", "()I"⟩ : MethodName)) (y := (⟨"java/lang/String", "length", "()I"⟩ : MethodName)) (argsL := []) (st := [(.ref b1), (.ref b1)]) (pc' := 8) C X1 d5_5 (wq hw 34 rfl) (wq hw 35 rfl) (notFace_of_selects (args := #[]) (mvT C.hZ (wq hw 37 rfl))) (wq hw 37 rfl) (wq hw 36 rfl) (wq hw 8 rfl) (wq hw 38 rfl) (by decide) (rmsl l Z a0 hw [] a1 v1_ xs cs_ fm h1 n0 FX_1 hStr_1) (W := 2) (by decide) (by decide) (ce := 1) (sl := 4) rfl rfl (by decide) (by decide) rfl (Str_exa hStr_1) e1 rfl pd_22 rfl (Nat.le_refl _) rfl (fun rv5 T5 L5 X5 Q5 => ?_)
  obtain ⟨q5, Nq5, e5⟩ := Q5
  have N5 := Fr.app N0 Nq5
  subst q5
  show Go p.tables e below _ (T5.setTop (mkF m 8 #[.val (.ref a1), .unset, .unset, .unset] [(.int (own_n xs)), (.ref b1), (.ref b1)]))
  refine g_callI (b := b1) (y := (⟨"java/lang/StringBuilder", "<init>", "(I)V"⟩ : MethodName)) (argsL := [(.int (own_n xs))]) (st := [(.ref b1)]) (pc' := 11) C X5 rfl d5_8 (wq hw 45 rfl) (wq hw 46 rfl) (wq hw 33 rfl) (wq hw 47 rfl) (by decide) (rmsbi l Z a0 hw [] b1 (own_n xs) cs_ fm h1 n0 Z1 FX_1 A1 F1_value F1_maybeLatin1 F1_count F1_coder gn_b1 (own_nlt (own_nB rfl (Nat.le_trans hl4 (by decide))).1) (by rw [own_ntn (Nat.le_trans hl4 (by decide))]; exact Nat.le_trans hl4 (by decide))) (W := 1) (by decide) (by decide) (ce := 2) (sl := 12) rfl rfl (by decide) (by decide) rfl e5 rfl pd_7 rfl (Nat.le_refl _) rfl (fun rv6 T6 L6 X6 Q6 => ?_)
  obtain ⟨w6, q6, Nq6, Kq6, sz6_w, gn_w6, P6_0⟩ := Q6
  have N6 := Fr.app N5 Nq6
  have ne6_7 : ¬ (b1 = w6) := Nat.ne_of_lt (Nat.lt_of_lt_of_le A1.lt sz6_w)
  have ne6_8 : ¬ (a1 = w6) := Nat.ne_of_lt (Nat.lt_of_lt_of_le (Str_lt0 hStr_1) sz6_w)
  have ne6_9 : ¬ (v1_ = w6) := Nat.ne_of_lt (Nat.lt_of_lt_of_le (Str_lt1 hStr_1) sz6_w)
  have hs6 : ∀ x ∈ [b1], Safe Z own_EL _ _ x := (sfS sf1_2 sf0)
  have sf6_10 := Safe.keep Kq6 hs6 ch1 sf1_2
  have sf6_11 := Safe.keep Kq6 hs6 ch1 (Safe.new sz6_w)
  have ch6 := ch1.keep Kq6 hs6
  have FX_6 := FX_keep FX_1 Kq6 ((allS (by obtain ⟨c_, _, h1_, _, _, h2_, _⟩ := A1; exact ⟨c_, h1_, h2_⟩) all0))
  have hStr_6 := Str_keep hStr_1 Kq6 (ninS ne1_3 nin0) (ninS ne1_4 nin0)
  have A1_6 := A1.keep Kq6
  have Z6 := Nat.le_trans Z1 Kq6.1
  have Kz6 := Nat.le_trans Kz1 Kq6.1
  have sz_w6 := Nat.le_trans K1.1 sz6_w
  have K6 := K1.trans Kq6 (allS (Or.inr sz_b1) all0)
  subst q6
  show Go p.tables e below _ (T6.setTop (mkF m 11 #[.val (.ref a1), .unset, .unset, .unset] [(.ref b1)]))
  refine g_astoreN (pc' := 12) (Ls' := #[.val (.ref a1), .val (.ref b1), .unset, .unset]) C X6 d5_11 rfl rfl rfl ?_
  refine g_iconst (pc' := 13) (v := (0 : Int32)) C X6 d5_12 rfl rfl ?_
  refine g_istoreN (pc' := 14) (Ls' := #[.val (.ref a1), .val (.ref b1), .val (.int (0 : Int32)), .unset]) C X6 d5_13 rfl rfl ?_
  have JE : ∀ (vmJE : Vm) (kJE : Nat) (TJE : State) (HJE : Heap) (LJE : List Loc) (vJE : Addr) (zJE : Int32) (cJE : List Int32) (iJE : Int32) (sJE : Slot), Cx p (s.setVm vmJE) m meth c prog_58_method_5_code 4 "org/vouchsafe/cli/Output" "escape" (some (.object "java/lang/String")) Z → Stand p l e ({ frames := 9, cells := 16, slots := 376, locals := 132 } : Room) (s.setVm vmJE) m #[.ref a1] below meth c TJE LJE 14 332 → s.Since vmJE kJE → TJE.heap = HJE → kJE ≤ HJE.size → CHv Z own_EL vmJE HJE → Safe Z own_EL vmJE HJE vJE → Fr n0 LJE → n0 ≤ HJE.size → Keep h0 HJE [] → FX Z HJE cs_ fm → Str Z HJE a1 v1_ xs → Bld Z HJE b1 vJE zJE cJE → h0.size ≤ vJE → n0 ≤ vJE → ¬ (b1 = vJE) → ¬ (a1 = vJE) → ¬ (v1_ = vJE) → cJE = (own_esc xs) → Go p.tables e below (EndW s (Q_es Z a1 v1_ xs cs_ fm h0 n0) ({ frames := 9, cells := 16, slots := 376, locals := 132 } : Room).cells ({ frames := 9, cells := 16, slots := 376, locals := 132 } : Room).slots) (TJE.setTop (mkF m 106 #[.val (.ref a1), .val (.ref b1), .val (.int iJE), sJE] [])) := by
    intro vmJE kJE TJE HJE LJE vJE zJE cJE iJE sJE C XJE hS eJE KzJE chJE sfJE NJE ZJE KJE FXJE hStrJE hBJE sz_vJE gn_vJE nbJE naJE nvJE hRJE
    refine g_aloadN (pc' := 107) C XJE d5_106 rfl rfl rfl ?_
    refine g_callV (b := b1) (z := (⟨"java/lang/StringBuilder", "toString", "()Ljava/lang/String;"⟩ : MethodName)) (y := (⟨"java/lang/StringBuilder", "toString", "()Ljava/lang/String;"⟩ : MethodName)) (argsL := []) (st := []) (pc' := 110) C XJE d5_107 (wq hw 60 rfl) (wq hw 61 rfl) (notFace_of_selects (args := #[]) (mvT C.hZ (wq hw 63 rfl))) (wq hw 63 rfl) (wq hw 62 rfl) (wq hw 33 rfl) (wq hw 64 rfl) (by decide) (rmtos l Z a0 hw [] b1 vJE zJE cJE cs_ fm HJE n0 ZJE FXJE hBJE) (W := 0) (by decide) (by decide) (ce := 16) (sl := 376) rfl rfl (by decide) (by decide) rfl (Bld_exa hBJE) eJE rfl pd_33 rfl (Nat.le_refl _) rfl (fun rv12 T12 L12 X12 Q12 => ?_)
    obtain ⟨r12, w12, q12, Nq12, Kq12, sz12_r, sz12_w, gn_r12, gn_w12, P12_0⟩ := Q12
    have N12 := Fr.app NJE Nq12
    have ne12_13 : ¬ (a1 = r12) := Nat.ne_of_lt (Nat.lt_of_lt_of_le (Str_lt0 hStrJE) sz12_r)
    have ne12_14 : ¬ (v1_ = r12) := Nat.ne_of_lt (Nat.lt_of_lt_of_le (Str_lt1 hStrJE) sz12_r)
    have ne12_15 : ¬ (b1 = r12) := Nat.ne_of_lt (Nat.lt_of_lt_of_le (Bld_lt0 hBJE) sz12_r)
    have ne12_16 : ¬ (vJE = r12) := Nat.ne_of_lt (Nat.lt_of_lt_of_le (Bld_lt1 hBJE) sz12_r)
    have ne12_17 : ¬ (a1 = w12) := Nat.ne_of_lt (Nat.lt_of_lt_of_le (Str_lt0 hStrJE) sz12_w)
    have ne12_18 : ¬ (v1_ = w12) := Nat.ne_of_lt (Nat.lt_of_lt_of_le (Str_lt1 hStrJE) sz12_w)
    have ne12_19 : ¬ (b1 = w12) := Nat.ne_of_lt (Nat.lt_of_lt_of_le (Bld_lt0 hBJE) sz12_w)
    have ne12_20 : ¬ (vJE = w12) := Nat.ne_of_lt (Nat.lt_of_lt_of_le (Bld_lt1 hBJE) sz12_w)
    have sf12_21 := Safe.keep Kq12 sf0 chJE sfJE
    have sf12_22 := Safe.keep Kq12 sf0 chJE (Safe.new sz12_r)
    have sf12_23 := Safe.keep Kq12 sf0 chJE (Safe.new sz12_w)
    have ch12 := chJE.keep Kq12 sf0
    have FX_12 := FX_keep FXJE Kq12 (fun _ q => nomatch q)
    have hStrJE_12 := Str_keep hStrJE Kq12 nin0 nin0
    have hBJE_12 := Bld_keep hBJE Kq12 nin0 nin0
    have Z12 := Nat.le_trans ZJE Kq12.1
    have Kz12 := Nat.le_trans KzJE Kq12.1
    have sz_r12 := Nat.le_trans KJE.1 sz12_r
    have sz_w12 := Nat.le_trans KJE.1 sz12_w
    have K12 := KJE.trans Kq12 all0
    subst q12
    show Go p.tables e below _ (T12.setTop (mkF m 110 #[.val (.ref a1), .val (.ref b1), .val (.int iJE), sJE] [(.ref r12)]))
    exact g_retAW C X12 hS Kz12 rfl rfl rfl d5_110 (by decide) (by decide) ⟨r12, w12, rfl, N12, K12, sz_r12, sz_w12, gn_r12, gn_w12, (hRJE ▸ P12_0)⟩
  have J4 : ∀ (vmJ4 : Vm) (kJ4 : Nat) (TJ4 : State) (HJ4 : Heap) (LJ4 : List Loc) (vJ4 : Addr) (zJ4 : Int32) (cJ4 : List Int32), Cx p (s.setVm vmJ4) m meth c prog_58_method_5_code 4 "org/vouchsafe/cli/Output" "escape" (some (.object "java/lang/String")) Z → Stand p l e ({ frames := 9, cells := 16, slots := 376, locals := 132 } : Room) (s.setVm vmJ4) m #[.ref a1] below meth c TJ4 LJ4 14 332 → s.Since vmJ4 kJ4 → TJ4.heap = HJ4 → kJ4 ≤ HJ4.size → CHv Z own_EL vmJ4 HJ4 → Safe Z own_EL vmJ4 HJ4 vJ4 → Fr n0 LJ4 → n0 ≤ HJ4.size → Keep h0 HJ4 [] → FX Z HJ4 cs_ fm → Str Z HJ4 a1 v1_ xs → Bld Z HJ4 b1 vJ4 zJ4 cJ4 → h0.size ≤ vJ4 → n0 ≤ vJ4 → ¬ (b1 = vJ4) → ¬ (a1 = vJ4) → ¬ (v1_ = vJ4) → cJ4 ++ own_esc (xs.drop 4) = (own_esc xs) → cJ4.length ≤ 8 → Go p.tables e below (EndW s (Q_es Z a1 v1_ xs cs_ fm h0 n0) ({ frames := 9, cells := 16, slots := 376, locals := 132 } : Room).cells ({ frames := 9, cells := 16, slots := 376, locals := 132 } : Room).slots) (TJ4.setTop (mkF m 14 #[.val (.ref a1), .val (.ref b1), .val (.int (4 : Int32)), .val (.int (own_g xs (3 : Int32)))] [])) := by
    intro vmJ4 kJ4 TJ4 HJ4 LJ4 vJ4 zJ4 cJ4 C XJ4 hS eJ4 KzJ4 chJ4 sfJ4 NJ4 ZJ4 KJ4 FXJ4 hStrJ4 hBJ4 sz_vJ4 gn_vJ4 nbJ4 naJ4 nvJ4 hRJ4 hkJ4
    refine g_iloadN (pc' := 15) C XJ4 d5_14 rfl rfl ?_
    refine g_aloadN (pc' := 16) C XJ4 d5_15 rfl rfl rfl ?_
    refine g_callV (b := a1) (z := (⟨"java/lang/String", "length", "()I"⟩ : MethodName)) (y := (⟨"java/lang/String", "length", "()I"⟩ : MethodName)) (argsL := []) (st := [(.int (4 : Int32))]) (pc' := 19) C XJ4 d5_16 (wq hw 34 rfl) (wq hw 35 rfl) (notFace_of_selects (args := #[]) (mvT C.hZ (wq hw 37 rfl))) (wq hw 37 rfl) (wq hw 36 rfl) (wq hw 8 rfl) (wq hw 38 rfl) (by decide) (rmsl l Z a0 hw [] a1 v1_ xs cs_ fm HJ4 n0 FXJ4 hStrJ4) (W := 1) (by decide) (by decide) (ce := 14) (sl := 332) rfl rfl (by decide) (by decide) rfl (Str_exa hStrJ4) eJ4 rfl pd_22 rfl (Nat.le_refl _) rfl (fun rv24 T24 L24 X24 Q24 => ?_)
    obtain ⟨q24, Nq24, e24⟩ := Q24
    have N24 := Fr.app NJ4 Nq24
    subst q24
    show Go p.tables e below _ (T24.setTop (mkF m 19 #[.val (.ref a1), .val (.ref b1), .val (.int (4 : Int32)), .val (.int (own_g xs (3 : Int32)))] [(.int (own_n xs)), (.int (4 : Int32))]))
    refine g_icmpY (pc' := 106) C X24 d5_19 (flt (show ¬ ((4 : Int32) < (own_n xs)) from (own_n4 hl4))).2.1 (by decide) (by decide) ?_
    exact JE _ _ _ _ _ vJ4 zJ4 cJ4 _ _ C (X24.mono (by decide) (by decide)) hS e24 KzJ4 chJ4 sfJ4 N24 ZJ4 KJ4 FXJ4 hStrJ4 hBJ4 sz_vJ4 gn_vJ4 nbJ4 naJ4 nvJ4 (own_fin_ hRJ4 (Nat.le_trans hl4 (by decide)) (own_n4 hl4) (by decide))
  have J3 : ∀ (vmJ3 : Vm) (kJ3 : Nat) (TJ3 : State) (HJ3 : Heap) (LJ3 : List Loc) (vJ3 : Addr) (zJ3 : Int32) (cJ3 : List Int32), Cx p (s.setVm vmJ3) m meth c prog_58_method_5_code 4 "org/vouchsafe/cli/Output" "escape" (some (.object "java/lang/String")) Z → Stand p l e ({ frames := 9, cells := 16, slots := 376, locals := 132 } : Room) (s.setVm vmJ3) m #[.ref a1] below meth c TJ3 LJ3 11 252 → s.Since vmJ3 kJ3 → TJ3.heap = HJ3 → kJ3 ≤ HJ3.size → CHv Z own_EL vmJ3 HJ3 → Safe Z own_EL vmJ3 HJ3 vJ3 → Fr n0 LJ3 → n0 ≤ HJ3.size → Keep h0 HJ3 [] → FX Z HJ3 cs_ fm → Str Z HJ3 a1 v1_ xs → Bld Z HJ3 b1 vJ3 zJ3 cJ3 → h0.size ≤ vJ3 → n0 ≤ vJ3 → ¬ (b1 = vJ3) → ¬ (a1 = vJ3) → ¬ (v1_ = vJ3) → cJ3 ++ own_esc (xs.drop 3) = (own_esc xs) → cJ3.length ≤ 6 → Go p.tables e below (EndW s (Q_es Z a1 v1_ xs cs_ fm h0 n0) ({ frames := 9, cells := 16, slots := 376, locals := 132 } : Room).cells ({ frames := 9, cells := 16, slots := 376, locals := 132 } : Room).slots) (TJ3.setTop (mkF m 14 #[.val (.ref a1), .val (.ref b1), .val (.int (3 : Int32)), .val (.int (own_g xs (2 : Int32)))] [])) := by
    intro vmJ3 kJ3 TJ3 HJ3 LJ3 vJ3 zJ3 cJ3 C XJ3 hS eJ3 KzJ3 chJ3 sfJ3 NJ3 ZJ3 KJ3 FXJ3 hStrJ3 hBJ3 sz_vJ3 gn_vJ3 nbJ3 naJ3 nvJ3 hRJ3 hkJ3
    refine g_iloadN (pc' := 15) C XJ3 d5_14 rfl rfl ?_
    refine g_aloadN (pc' := 16) C XJ3 d5_15 rfl rfl rfl ?_
    refine g_callV (b := a1) (z := (⟨"java/lang/String", "length", "()I"⟩ : MethodName)) (y := (⟨"java/lang/String", "length", "()I"⟩ : MethodName)) (argsL := []) (st := [(.int (3 : Int32))]) (pc' := 19) C XJ3 d5_16 (wq hw 34 rfl) (wq hw 35 rfl) (notFace_of_selects (args := #[]) (mvT C.hZ (wq hw 37 rfl))) (wq hw 37 rfl) (wq hw 36 rfl) (wq hw 8 rfl) (wq hw 38 rfl) (by decide) (rmsl l Z a0 hw [] a1 v1_ xs cs_ fm HJ3 n0 FXJ3 hStrJ3) (W := 1) (by decide) (by decide) (ce := 11) (sl := 252) rfl rfl (by decide) (by decide) rfl (Str_exa hStrJ3) eJ3 rfl pd_22 rfl (Nat.le_refl _) rfl (fun rv25 T25 L25 X25 Q25 => ?_)
    obtain ⟨q25, Nq25, e25⟩ := Q25
    have N25 := Fr.app NJ3 Nq25
    subst q25
    show Go p.tables e below _ (T25.setTop (mkF m 19 #[.val (.ref a1), .val (.ref b1), .val (.int (3 : Int32)), .val (.int (own_g xs (2 : Int32)))] [(.int (own_n xs)), (.int (3 : Int32))]))
    by_cases c26 : (3 : Int32) < (own_n xs)
    · refine g_icmpN (pc' := 22) C X25 d5_19 (tlt c26).2.1 rfl ?_
      refine g_aloadN (pc' := 23) C X25 d5_22 rfl rfl rfl ?_
      refine g_iloadN (pc' := 24) C X25 d5_23 rfl rfl ?_
      refine g_callV (b := a1) (z := (⟨"java/lang/String", "charAt", "(I)C"⟩ : MethodName)) (y := (⟨"java/lang/String", "charAt", "(I)C"⟩ : MethodName)) (argsL := [(.int (3 : Int32))]) (st := []) (pc' := 27) C X25 d5_24 (wq hw 120 rfl) (wq hw 121 rfl) (notFace_of_selects (args := #[]) (mvT C.hZ (wq hw 123 rfl))) (wq hw 123 rfl) (wq hw 122 rfl) (wq hw 8 rfl) (wq hw 124 rfl) (by decide) (rmsca l Z a0 hw [] a1 (3 : Int32) v1_ xs cs_ fm HJ3 n0 FXJ3 hStrJ3 (by decide) c26) (W := 0) (by decide) (by decide) (ce := 11) (sl := 252) rfl rfl (by decide) (by decide) rfl (Str_exa hStrJ3) e25 rfl pd_34 rfl (Nat.le_refl _) rfl (fun rv27 T27 L27 X27 Q27 => ?_)
      obtain ⟨q27, Nq27, e27⟩ := Q27
      have N27 := Fr.app N25 Nq27
      subst q27
      show Go p.tables e below _ (T27.setTop (mkF m 27 #[.val (.ref a1), .val (.ref b1), .val (.int (3 : Int32)), .val (.int (own_g xs (2 : Int32)))] [(.int (own_g xs (3 : Int32)))]))
      refine g_istoreN (pc' := 28) (Ls' := #[.val (.ref a1), .val (.ref b1), .val (.int (3 : Int32)), .val (.int (own_g xs (3 : Int32)))]) C X27 d5_27 rfl rfl ?_
      refine g_iloadN (pc' := 29) C X27 d5_28 rfl rfl ?_
      by_cases c28 : (own_g xs (3 : Int32)) = (10 : Int32)
      · refine g_lswY (pc' := 64) (k := (10 : Int32)) (o := 35) C X27 d5_29 rfl c28 (by decide) (by decide) (by decide) ?_
        refine g_aloadN (pc' := 65) C X27 d5_64 rfl rfl rfl ?_
        refine g_ldcH (vs := [(.int (92 : Int32)), (.int (110 : Int32))]) (z := (2 : Int32)) (pc' := 67) (n := 8) C X27 hS KzJ3 (own_ew hw) chJ3 (by decide) d5_65 (wq hw 142 rfl) (own_wS hw) e27 ⟨by decide, rfl⟩ (by decide) rfl (by decide) (by decide) (ce := 13) (sl := 264) rfl rfl (by decide) (by decide) rfl (fun b29 T29 h29 ck29 bb29 kk29 C X29 e29 E29 hS Kz29 A29 Fc29 Fv29 V29 L29 ch29 sx29 => ?_)
        have sf29_30 := CHr.safe ch29 (Bld_lt1 hBJ3) sfJ3
        have FX_29 := FX_ext FXJ3 E29
        have hStrJ3_29 := Str_ext hStrJ3 E29
        have hBJ3_29 := Bld_ext hBJ3 E29
        have Z29 := Nat.le_trans ZJ3 E29.1
        have K29 := KJ3.ext E29
        have nl29_31 : ¬ (vJ3 = b29) := (sx29 vJ3 sf29_30).1
        have nl29_32 : ¬ (vJ3 = bb29) := (sx29 vJ3 sf29_30).2
        have nl29_33 : ¬ (b1 = b29) := (sx29 b1 (Safe.exa C.hZ.alike (Bld_exa hBJ3_29) (by decide) (by decide))).1
        have nl29_34 : ¬ (b1 = bb29) := (sx29 b1 (Safe.exa C.hZ.alike (Bld_exa hBJ3_29) (by decide) (by decide))).2
        refine g_callV (b := b1) (z := (⟨"java/lang/StringBuilder", "append", "(Ljava/lang/String;)Ljava/lang/StringBuilder;"⟩ : MethodName)) (y := (⟨"java/lang/StringBuilder", "append", "(Ljava/lang/String;)Ljava/lang/StringBuilder;"⟩ : MethodName)) (argsL := [(.ref b29)]) (st := []) (pc' := 70) C X29 d5_67 (wq hw 143 rfl) (wq hw 144 rfl) (notFace_of_selects (args := #[]) (mvT C.hZ (wq hw 146 rfl))) (wq hw 146 rfl) (wq hw 145 rfl) (wq hw 33 rfl) (wq hw 147 rfl) (by decide) (rmapS l Z a0 hw [] b1 b29 vJ3 zJ3 cJ3 bb29 kk29 (92 : Int32) (110 : Int32) cs_ fm h29 n0 Z29 FX_29 hBJ3_29 A29 Fv29 Fc29 V29 (by have := hkJ3; omega) gn_b1 gn_vJ3 nbJ3 ⟨by decide, by decide⟩ ⟨by decide, by decide⟩ nl29_33 nl29_34 nl29_31 nl29_32) (W := 0) (by decide) (by decide) (ce := 14) (sl := 304) rfl rfl (by decide) (by decide) rfl (Bld_exa hBJ3_29) e29 rfl pd_35 rfl (Nat.le_refl _) rfl (fun rv35 T35 L35 X35 Q35 => ?_)
        obtain ⟨w35, z235, q35, Nq35, Kq35, P35_0, xp35_0, xp35_1, xp35_2⟩ := Q35
        have N35 := Fr.app N27 Nq35
        have ne35_36 : ¬ (b29 = w35) := xp35_0 b29 A29.lt (Ne.symm nl29_31)
        have ne35_37 : ¬ (bb29 = w35) := xp35_0 bb29 V29.lt (Ne.symm nl29_32)
        have ne35_38 : ¬ (a1 = w35) := xp35_0 a1 (Str_lt0 hStrJ3_29) naJ3
        have ne35_39 : ¬ (v1_ = w35) := xp35_0 v1_ (Str_lt1 hStrJ3_29) nvJ3
        have sz_w35 := own_msz xp35_0 sz_vJ3 K29.1
        have gn_w35 := xp35_1
        have hs35 : ∀ x ∈ [b1, vJ3], Safe Z own_EL _ _ x := (sfS (Safe.exa C.hZ.alike (Bld_exa hBJ3_29) (by decide) (by decide)) (sfS sf29_30 sf0))
        have sf35_40 := Safe.keep Kq35 hs35 ch29.1 sf29_30
        have sf35_41 := Safe.keep Kq35 hs35 ch29.1 (own_msf xp35_0 sf29_30)
        have ch35 := ch29.1.keep Kq35 hs35
        have FX_35 := FX_keep FX_29 Kq35 ((allS (Bld_pl0 hBJ3_29) (allS (Bld_pl1 hBJ3_29) all0)))
        have hStrJ3_35 := Str_keep hStrJ3_29 Kq35 (ninS ne1_3 (ninS naJ3 nin0)) (ninS ne1_4 (ninS nvJ3 nin0))
        have A29_35 := A29.keep Kq35
        have Fc29_35 := Fc29.keep Kq35 (ninS (Ne.symm nl29_33) (ninS (Ne.symm nl29_31) nin0))
        have Fv29_35 := Fv29.keep Kq35 (ninS (Ne.symm nl29_33) (ninS (Ne.symm nl29_31) nin0))
        have V29_35 := V29.keep Kq35 (ninS (Ne.symm nl29_34) (ninS (Ne.symm nl29_32) nin0))
        have Z35 := Nat.le_trans Z29 Kq35.1
        have Kz35 := Nat.le_trans Kz29 Kq35.1
        have K35 := K29.trans Kq35 (allS (Or.inr sz_b1) (allS (Or.inr sz_vJ3) all0))
        subst q35
        show Go p.tables e below _ (T35.setTop (mkF m 70 #[.val (.ref a1), .val (.ref b1), .val (.int (3 : Int32)), .val (.int (own_g xs (3 : Int32)))] [(.ref b1)]))
        refine g_pop (pc' := 71) C X35 d5_70 rfl rfl ?_
        refine g_goto (pc' := 100) C X35 d5_71 (by decide) (by decide) ?_
        refine g_iinc (pc' := 103) (Ls' := #[.val (.ref a1), .val (.ref b1), .val (.int ((3 : Int32) + (1 : Int32))), .val (.int (own_g xs (3 : Int32)))]) C X35 d5_100 rfl rfl rfl ?_
        refine g_goto (pc' := 14) C X35 d5_103 (by decide) (by decide) ?_
        exact J4 _ _ _ _ _ w35 z235 (cJ3 ++ [(92 : Int32), (110 : Int32)]) C (X35.mono (by decide) (by decide)) hS rfl Kz35 ch35 sf35_41 N35 Z35 K35 FX_35 hStrJ3_35 P35_0 sz_w35 gn_w35 xp35_2 ne35_38 ne35_39 (own_turn hRJ3 (Nat.le_trans hl4 (by decide)) c26 (by decide) (own_es1 c28)) (by have := hkJ3; rw [List.length_append]; show cJ3.length + 2 ≤ _; omega)
      · by_cases c42 : (own_g xs (3 : Int32)) = (13 : Int32)
        · refine g_lswY (pc' := 74) (k := (13 : Int32)) (o := 45) C X27 d5_29 rfl c42 (by decide) (by decide) (by decide) ?_
          refine g_aloadN (pc' := 75) C X27 d5_74 rfl rfl rfl ?_
          refine g_ldcH (vs := [(.int (92 : Int32)), (.int (114 : Int32))]) (z := (2 : Int32)) (pc' := 77) (n := 8) C X27 hS KzJ3 (own_ew hw) chJ3 (by decide) d5_75 (wq hw 224 rfl) (own_wS hw) e27 ⟨by decide, rfl⟩ (by decide) rfl (by decide) (by decide) (ce := 13) (sl := 264) rfl rfl (by decide) (by decide) rfl (fun b43 T43 h43 ck43 bb43 kk43 C X43 e43 E43 hS Kz43 A43 Fc43 Fv43 V43 L43 ch43 sx43 => ?_)
          have sf43_44 := CHr.safe ch43 (Bld_lt1 hBJ3) sfJ3
          have FX_43 := FX_ext FXJ3 E43
          have hStrJ3_43 := Str_ext hStrJ3 E43
          have hBJ3_43 := Bld_ext hBJ3 E43
          have Z43 := Nat.le_trans ZJ3 E43.1
          have K43 := KJ3.ext E43
          have nl43_45 : ¬ (vJ3 = b43) := (sx43 vJ3 sf43_44).1
          have nl43_46 : ¬ (vJ3 = bb43) := (sx43 vJ3 sf43_44).2
          have nl43_47 : ¬ (b1 = b43) := (sx43 b1 (Safe.exa C.hZ.alike (Bld_exa hBJ3_43) (by decide) (by decide))).1
          have nl43_48 : ¬ (b1 = bb43) := (sx43 b1 (Safe.exa C.hZ.alike (Bld_exa hBJ3_43) (by decide) (by decide))).2
          refine g_callV (b := b1) (z := (⟨"java/lang/StringBuilder", "append", "(Ljava/lang/String;)Ljava/lang/StringBuilder;"⟩ : MethodName)) (y := (⟨"java/lang/StringBuilder", "append", "(Ljava/lang/String;)Ljava/lang/StringBuilder;"⟩ : MethodName)) (argsL := [(.ref b43)]) (st := []) (pc' := 80) C X43 d5_77 (wq hw 143 rfl) (wq hw 144 rfl) (notFace_of_selects (args := #[]) (mvT C.hZ (wq hw 146 rfl))) (wq hw 146 rfl) (wq hw 145 rfl) (wq hw 33 rfl) (wq hw 147 rfl) (by decide) (rmapS l Z a0 hw [] b1 b43 vJ3 zJ3 cJ3 bb43 kk43 (92 : Int32) (114 : Int32) cs_ fm h43 n0 Z43 FX_43 hBJ3_43 A43 Fv43 Fc43 V43 (by have := hkJ3; omega) gn_b1 gn_vJ3 nbJ3 ⟨by decide, by decide⟩ ⟨by decide, by decide⟩ nl43_47 nl43_48 nl43_45 nl43_46) (W := 0) (by decide) (by decide) (ce := 14) (sl := 304) rfl rfl (by decide) (by decide) rfl (Bld_exa hBJ3_43) e43 rfl pd_35 rfl (Nat.le_refl _) rfl (fun rv49 T49 L49 X49 Q49 => ?_)
          obtain ⟨w49, z249, q49, Nq49, Kq49, P49_0, xp49_0, xp49_1, xp49_2⟩ := Q49
          have N49 := Fr.app N27 Nq49
          have ne49_50 : ¬ (b43 = w49) := xp49_0 b43 A43.lt (Ne.symm nl43_45)
          have ne49_51 : ¬ (bb43 = w49) := xp49_0 bb43 V43.lt (Ne.symm nl43_46)
          have ne49_52 : ¬ (a1 = w49) := xp49_0 a1 (Str_lt0 hStrJ3_43) naJ3
          have ne49_53 : ¬ (v1_ = w49) := xp49_0 v1_ (Str_lt1 hStrJ3_43) nvJ3
          have sz_w49 := own_msz xp49_0 sz_vJ3 K43.1
          have gn_w49 := xp49_1
          have hs49 : ∀ x ∈ [b1, vJ3], Safe Z own_EL _ _ x := (sfS (Safe.exa C.hZ.alike (Bld_exa hBJ3_43) (by decide) (by decide)) (sfS sf43_44 sf0))
          have sf49_54 := Safe.keep Kq49 hs49 ch43.1 sf43_44
          have sf49_55 := Safe.keep Kq49 hs49 ch43.1 (own_msf xp49_0 sf43_44)
          have ch49 := ch43.1.keep Kq49 hs49
          have FX_49 := FX_keep FX_43 Kq49 ((allS (Bld_pl0 hBJ3_43) (allS (Bld_pl1 hBJ3_43) all0)))
          have hStrJ3_49 := Str_keep hStrJ3_43 Kq49 (ninS ne1_3 (ninS naJ3 nin0)) (ninS ne1_4 (ninS nvJ3 nin0))
          have A43_49 := A43.keep Kq49
          have Fc43_49 := Fc43.keep Kq49 (ninS (Ne.symm nl43_47) (ninS (Ne.symm nl43_45) nin0))
          have Fv43_49 := Fv43.keep Kq49 (ninS (Ne.symm nl43_47) (ninS (Ne.symm nl43_45) nin0))
          have V43_49 := V43.keep Kq49 (ninS (Ne.symm nl43_48) (ninS (Ne.symm nl43_46) nin0))
          have Z49 := Nat.le_trans Z43 Kq49.1
          have Kz49 := Nat.le_trans Kz43 Kq49.1
          have K49 := K43.trans Kq49 (allS (Or.inr sz_b1) (allS (Or.inr sz_vJ3) all0))
          subst q49
          show Go p.tables e below _ (T49.setTop (mkF m 80 #[.val (.ref a1), .val (.ref b1), .val (.int (3 : Int32)), .val (.int (own_g xs (3 : Int32)))] [(.ref b1)]))
          refine g_pop (pc' := 81) C X49 d5_80 rfl rfl ?_
          refine g_goto (pc' := 100) C X49 d5_81 (by decide) (by decide) ?_
          refine g_iinc (pc' := 103) (Ls' := #[.val (.ref a1), .val (.ref b1), .val (.int ((3 : Int32) + (1 : Int32))), .val (.int (own_g xs (3 : Int32)))]) C X49 d5_100 rfl rfl rfl ?_
          refine g_goto (pc' := 14) C X49 d5_103 (by decide) (by decide) ?_
          exact J4 _ _ _ _ _ w49 z249 (cJ3 ++ [(92 : Int32), (114 : Int32)]) C (X49.mono (by decide) (by decide)) hS rfl Kz49 ch49 sf49_55 N49 Z49 K49 FX_49 hStrJ3_49 P49_0 sz_w49 gn_w49 xp49_2 ne49_52 ne49_53 (own_turn hRJ3 (Nat.le_trans hl4 (by decide)) c26 (by decide) (own_es2 c28 c42)) (by have := hkJ3; rw [List.length_append]; show cJ3.length + 2 ≤ _; omega)
        · by_cases c56 : (own_g xs (3 : Int32)) = (92 : Int32)
          · refine g_lswY (pc' := 84) (k := (92 : Int32)) (o := 55) C X27 d5_29 rfl c56 (by decide) (by decide) (by decide) ?_
            refine g_aloadN (pc' := 85) C X27 d5_84 rfl rfl rfl ?_
            refine g_ldcH (vs := [(.int (92 : Int32)), (.int (92 : Int32))]) (z := (2 : Int32)) (pc' := 87) (n := 8) C X27 hS KzJ3 (own_ew hw) chJ3 (by decide) d5_85 (wq hw 178 rfl) (own_wS hw) e27 ⟨by decide, rfl⟩ (by decide) rfl (by decide) (by decide) (ce := 13) (sl := 264) rfl rfl (by decide) (by decide) rfl (fun b57 T57 h57 ck57 bb57 kk57 C X57 e57 E57 hS Kz57 A57 Fc57 Fv57 V57 L57 ch57 sx57 => ?_)
            have sf57_58 := CHr.safe ch57 (Bld_lt1 hBJ3) sfJ3
            have FX_57 := FX_ext FXJ3 E57
            have hStrJ3_57 := Str_ext hStrJ3 E57
            have hBJ3_57 := Bld_ext hBJ3 E57
            have Z57 := Nat.le_trans ZJ3 E57.1
            have K57 := KJ3.ext E57
            have nl57_59 : ¬ (vJ3 = b57) := (sx57 vJ3 sf57_58).1
            have nl57_60 : ¬ (vJ3 = bb57) := (sx57 vJ3 sf57_58).2
            have nl57_61 : ¬ (b1 = b57) := (sx57 b1 (Safe.exa C.hZ.alike (Bld_exa hBJ3_57) (by decide) (by decide))).1
            have nl57_62 : ¬ (b1 = bb57) := (sx57 b1 (Safe.exa C.hZ.alike (Bld_exa hBJ3_57) (by decide) (by decide))).2
            refine g_callV (b := b1) (z := (⟨"java/lang/StringBuilder", "append", "(Ljava/lang/String;)Ljava/lang/StringBuilder;"⟩ : MethodName)) (y := (⟨"java/lang/StringBuilder", "append", "(Ljava/lang/String;)Ljava/lang/StringBuilder;"⟩ : MethodName)) (argsL := [(.ref b57)]) (st := []) (pc' := 90) C X57 d5_87 (wq hw 143 rfl) (wq hw 144 rfl) (notFace_of_selects (args := #[]) (mvT C.hZ (wq hw 146 rfl))) (wq hw 146 rfl) (wq hw 145 rfl) (wq hw 33 rfl) (wq hw 147 rfl) (by decide) (rmapS l Z a0 hw [] b1 b57 vJ3 zJ3 cJ3 bb57 kk57 (92 : Int32) (92 : Int32) cs_ fm h57 n0 Z57 FX_57 hBJ3_57 A57 Fv57 Fc57 V57 (by have := hkJ3; omega) gn_b1 gn_vJ3 nbJ3 ⟨by decide, by decide⟩ ⟨by decide, by decide⟩ nl57_61 nl57_62 nl57_59 nl57_60) (W := 0) (by decide) (by decide) (ce := 14) (sl := 304) rfl rfl (by decide) (by decide) rfl (Bld_exa hBJ3_57) e57 rfl pd_35 rfl (Nat.le_refl _) rfl (fun rv63 T63 L63 X63 Q63 => ?_)
            obtain ⟨w63, z263, q63, Nq63, Kq63, P63_0, xp63_0, xp63_1, xp63_2⟩ := Q63
            have N63 := Fr.app N27 Nq63
            have ne63_64 : ¬ (b57 = w63) := xp63_0 b57 A57.lt (Ne.symm nl57_59)
            have ne63_65 : ¬ (bb57 = w63) := xp63_0 bb57 V57.lt (Ne.symm nl57_60)
            have ne63_66 : ¬ (a1 = w63) := xp63_0 a1 (Str_lt0 hStrJ3_57) naJ3
            have ne63_67 : ¬ (v1_ = w63) := xp63_0 v1_ (Str_lt1 hStrJ3_57) nvJ3
            have sz_w63 := own_msz xp63_0 sz_vJ3 K57.1
            have gn_w63 := xp63_1
            have hs63 : ∀ x ∈ [b1, vJ3], Safe Z own_EL _ _ x := (sfS (Safe.exa C.hZ.alike (Bld_exa hBJ3_57) (by decide) (by decide)) (sfS sf57_58 sf0))
            have sf63_68 := Safe.keep Kq63 hs63 ch57.1 sf57_58
            have sf63_69 := Safe.keep Kq63 hs63 ch57.1 (own_msf xp63_0 sf57_58)
            have ch63 := ch57.1.keep Kq63 hs63
            have FX_63 := FX_keep FX_57 Kq63 ((allS (Bld_pl0 hBJ3_57) (allS (Bld_pl1 hBJ3_57) all0)))
            have hStrJ3_63 := Str_keep hStrJ3_57 Kq63 (ninS ne1_3 (ninS naJ3 nin0)) (ninS ne1_4 (ninS nvJ3 nin0))
            have A57_63 := A57.keep Kq63
            have Fc57_63 := Fc57.keep Kq63 (ninS (Ne.symm nl57_61) (ninS (Ne.symm nl57_59) nin0))
            have Fv57_63 := Fv57.keep Kq63 (ninS (Ne.symm nl57_61) (ninS (Ne.symm nl57_59) nin0))
            have V57_63 := V57.keep Kq63 (ninS (Ne.symm nl57_62) (ninS (Ne.symm nl57_60) nin0))
            have Z63 := Nat.le_trans Z57 Kq63.1
            have Kz63 := Nat.le_trans Kz57 Kq63.1
            have K63 := K57.trans Kq63 (allS (Or.inr sz_b1) (allS (Or.inr sz_vJ3) all0))
            subst q63
            show Go p.tables e below _ (T63.setTop (mkF m 90 #[.val (.ref a1), .val (.ref b1), .val (.int (3 : Int32)), .val (.int (own_g xs (3 : Int32)))] [(.ref b1)]))
            refine g_pop (pc' := 91) C X63 d5_90 rfl rfl ?_
            refine g_goto (pc' := 100) C X63 d5_91 (by decide) (by decide) ?_
            refine g_iinc (pc' := 103) (Ls' := #[.val (.ref a1), .val (.ref b1), .val (.int ((3 : Int32) + (1 : Int32))), .val (.int (own_g xs (3 : Int32)))]) C X63 d5_100 rfl rfl rfl ?_
            refine g_goto (pc' := 14) C X63 d5_103 (by decide) (by decide) ?_
            exact J4 _ _ _ _ _ w63 z263 (cJ3 ++ [(92 : Int32), (92 : Int32)]) C (X63.mono (by decide) (by decide)) hS rfl Kz63 ch63 sf63_69 N63 Z63 K63 FX_63 hStrJ3_63 P63_0 sz_w63 gn_w63 xp63_2 ne63_66 ne63_67 (own_turn hRJ3 (Nat.le_trans hl4 (by decide)) c26 (by decide) (own_es3 c28 c42 c56)) (by have := hkJ3; rw [List.length_append]; show cJ3.length + 2 ≤ _; omega)
          · refine g_lswN (pc' := 94) C X27 d5_29 rfl (own_lsN c28 c42 c56) (by decide) (by decide) ?_
            refine g_aloadN (pc' := 95) C X27 d5_94 rfl rfl rfl ?_
            refine g_iloadN (pc' := 96) C X27 d5_95 rfl rfl ?_
            refine g_callV (b := b1) (z := (⟨"java/lang/StringBuilder", "append", "(C)Ljava/lang/StringBuilder;"⟩ : MethodName)) (y := (⟨"java/lang/StringBuilder", "append", "(C)Ljava/lang/StringBuilder;"⟩ : MethodName)) (argsL := [(.int (own_g xs (3 : Int32)))]) (st := []) (pc' := 99) C X27 d5_96 (wq hw 201 rfl) (wq hw 202 rfl) (notFace_of_selects (args := #[]) (mvT C.hZ (wq hw 204 rfl))) (wq hw 204 rfl) (wq hw 203 rfl) (wq hw 33 rfl) (wq hw 205 rfl) (by decide) (rmaps l Z a0 hw [] b1 (own_g xs (3 : Int32)) vJ3 zJ3 cJ3 cs_ fm HJ3 n0 ZJ3 FXJ3 hBJ3 (by have := hkJ3; omega) gn_b1 gn_vJ3 nbJ3 (own_g_all hStr.2.1 (⟨by decide, by decide⟩ : own_ch 0) _)) (W := 0) (by decide) (by decide) (ce := 13) (sl := 332) rfl rfl (by decide) (by decide) rfl (Bld_exa hBJ3) e27 rfl pd_36 rfl (Nat.le_refl _) rfl (fun rv70 T70 L70 X70 Q70 => ?_)
            obtain ⟨w70, z270, q70, Nq70, Kq70, P70_0, xp70_0, xp70_1, xp70_2⟩ := Q70
            have N70 := Fr.app N27 Nq70
            have ne70_71 : ¬ (a1 = w70) := xp70_0 a1 (Str_lt0 hStrJ3) naJ3
            have ne70_72 : ¬ (v1_ = w70) := xp70_0 v1_ (Str_lt1 hStrJ3) nvJ3
            have sz_w70 := own_msz xp70_0 sz_vJ3 KJ3.1
            have gn_w70 := xp70_1
            have hs70 : ∀ x ∈ [b1, vJ3], Safe Z own_EL _ _ x := (sfS (Safe.exa C.hZ.alike (Bld_exa hBJ3) (by decide) (by decide)) (sfS sfJ3 sf0))
            have sf70_73 := Safe.keep Kq70 hs70 chJ3 sfJ3
            have sf70_74 := Safe.keep Kq70 hs70 chJ3 (own_msf xp70_0 sfJ3)
            have ch70 := chJ3.keep Kq70 hs70
            have FX_70 := FX_keep FXJ3 Kq70 ((allS (Bld_pl0 hBJ3) (allS (Bld_pl1 hBJ3) all0)))
            have hStrJ3_70 := Str_keep hStrJ3 Kq70 (ninS ne1_3 (ninS naJ3 nin0)) (ninS ne1_4 (ninS nvJ3 nin0))
            have Z70 := Nat.le_trans ZJ3 Kq70.1
            have Kz70 := Nat.le_trans KzJ3 Kq70.1
            have K70 := KJ3.trans Kq70 (allS (Or.inr sz_b1) (allS (Or.inr sz_vJ3) all0))
            subst q70
            show Go p.tables e below _ (T70.setTop (mkF m 99 #[.val (.ref a1), .val (.ref b1), .val (.int (3 : Int32)), .val (.int (own_g xs (3 : Int32)))] [(.ref b1)]))
            refine g_pop (pc' := 100) C X70 d5_99 rfl rfl ?_
            refine g_iinc (pc' := 103) (Ls' := #[.val (.ref a1), .val (.ref b1), .val (.int ((3 : Int32) + (1 : Int32))), .val (.int (own_g xs (3 : Int32)))]) C X70 d5_100 rfl rfl rfl ?_
            refine g_goto (pc' := 14) C X70 d5_103 (by decide) (by decide) ?_
            exact J4 _ _ _ _ _ w70 z270 (cJ3 ++ [(own_g xs (3 : Int32))]) C (X70.mono (by decide) (by decide)) hS rfl Kz70 ch70 sf70_74 N70 Z70 K70 FX_70 hStrJ3_70 P70_0 sz_w70 gn_w70 xp70_2 ne70_71 ne70_72 (own_turn hRJ3 (Nat.le_trans hl4 (by decide)) c26 (by decide) (own_es4 c28 c42 c56)) (by have := hkJ3; rw [List.length_append]; show cJ3.length + 1 ≤ _; omega)
    · refine g_icmpY (pc' := 106) C X25 d5_19 (flt c26).2.1 (by decide) (by decide) ?_
      exact JE _ _ _ _ _ vJ3 zJ3 cJ3 _ _ C (X25.mono (by decide) (by decide)) hS e25 KzJ3 chJ3 sfJ3 N25 ZJ3 KJ3 FXJ3 hStrJ3 hBJ3 sz_vJ3 gn_vJ3 nbJ3 naJ3 nvJ3 (own_fin_ hRJ3 (Nat.le_trans hl4 (by decide)) c26 (by decide))
  have J2 : ∀ (vmJ2 : Vm) (kJ2 : Nat) (TJ2 : State) (HJ2 : Heap) (LJ2 : List Loc) (vJ2 : Addr) (zJ2 : Int32) (cJ2 : List Int32), Cx p (s.setVm vmJ2) m meth c prog_58_method_5_code 4 "org/vouchsafe/cli/Output" "escape" (some (.object "java/lang/String")) Z → Stand p l e ({ frames := 9, cells := 16, slots := 376, locals := 132 } : Room) (s.setVm vmJ2) m #[.ref a1] below meth c TJ2 LJ2 8 172 → s.Since vmJ2 kJ2 → TJ2.heap = HJ2 → kJ2 ≤ HJ2.size → CHv Z own_EL vmJ2 HJ2 → Safe Z own_EL vmJ2 HJ2 vJ2 → Fr n0 LJ2 → n0 ≤ HJ2.size → Keep h0 HJ2 [] → FX Z HJ2 cs_ fm → Str Z HJ2 a1 v1_ xs → Bld Z HJ2 b1 vJ2 zJ2 cJ2 → h0.size ≤ vJ2 → n0 ≤ vJ2 → ¬ (b1 = vJ2) → ¬ (a1 = vJ2) → ¬ (v1_ = vJ2) → cJ2 ++ own_esc (xs.drop 2) = (own_esc xs) → cJ2.length ≤ 4 → Go p.tables e below (EndW s (Q_es Z a1 v1_ xs cs_ fm h0 n0) ({ frames := 9, cells := 16, slots := 376, locals := 132 } : Room).cells ({ frames := 9, cells := 16, slots := 376, locals := 132 } : Room).slots) (TJ2.setTop (mkF m 14 #[.val (.ref a1), .val (.ref b1), .val (.int (2 : Int32)), .val (.int (own_g xs (1 : Int32)))] [])) := by
    intro vmJ2 kJ2 TJ2 HJ2 LJ2 vJ2 zJ2 cJ2 C XJ2 hS eJ2 KzJ2 chJ2 sfJ2 NJ2 ZJ2 KJ2 FXJ2 hStrJ2 hBJ2 sz_vJ2 gn_vJ2 nbJ2 naJ2 nvJ2 hRJ2 hkJ2
    refine g_iloadN (pc' := 15) C XJ2 d5_14 rfl rfl ?_
    refine g_aloadN (pc' := 16) C XJ2 d5_15 rfl rfl rfl ?_
    refine g_callV (b := a1) (z := (⟨"java/lang/String", "length", "()I"⟩ : MethodName)) (y := (⟨"java/lang/String", "length", "()I"⟩ : MethodName)) (argsL := []) (st := [(.int (2 : Int32))]) (pc' := 19) C XJ2 d5_16 (wq hw 34 rfl) (wq hw 35 rfl) (notFace_of_selects (args := #[]) (mvT C.hZ (wq hw 37 rfl))) (wq hw 37 rfl) (wq hw 36 rfl) (wq hw 8 rfl) (wq hw 38 rfl) (by decide) (rmsl l Z a0 hw [] a1 v1_ xs cs_ fm HJ2 n0 FXJ2 hStrJ2) (W := 1) (by decide) (by decide) (ce := 8) (sl := 172) rfl rfl (by decide) (by decide) rfl (Str_exa hStrJ2) eJ2 rfl pd_22 rfl (Nat.le_refl _) rfl (fun rv75 T75 L75 X75 Q75 => ?_)
    obtain ⟨q75, Nq75, e75⟩ := Q75
    have N75 := Fr.app NJ2 Nq75
    subst q75
    show Go p.tables e below _ (T75.setTop (mkF m 19 #[.val (.ref a1), .val (.ref b1), .val (.int (2 : Int32)), .val (.int (own_g xs (1 : Int32)))] [(.int (own_n xs)), (.int (2 : Int32))]))
    by_cases c76 : (2 : Int32) < (own_n xs)
    · refine g_icmpN (pc' := 22) C X75 d5_19 (tlt c76).2.1 rfl ?_
      refine g_aloadN (pc' := 23) C X75 d5_22 rfl rfl rfl ?_
      refine g_iloadN (pc' := 24) C X75 d5_23 rfl rfl ?_
      refine g_callV (b := a1) (z := (⟨"java/lang/String", "charAt", "(I)C"⟩ : MethodName)) (y := (⟨"java/lang/String", "charAt", "(I)C"⟩ : MethodName)) (argsL := [(.int (2 : Int32))]) (st := []) (pc' := 27) C X75 d5_24 (wq hw 120 rfl) (wq hw 121 rfl) (notFace_of_selects (args := #[]) (mvT C.hZ (wq hw 123 rfl))) (wq hw 123 rfl) (wq hw 122 rfl) (wq hw 8 rfl) (wq hw 124 rfl) (by decide) (rmsca l Z a0 hw [] a1 (2 : Int32) v1_ xs cs_ fm HJ2 n0 FXJ2 hStrJ2 (by decide) c76) (W := 0) (by decide) (by decide) (ce := 8) (sl := 172) rfl rfl (by decide) (by decide) rfl (Str_exa hStrJ2) e75 rfl pd_34 rfl (Nat.le_refl _) rfl (fun rv77 T77 L77 X77 Q77 => ?_)
      obtain ⟨q77, Nq77, e77⟩ := Q77
      have N77 := Fr.app N75 Nq77
      subst q77
      show Go p.tables e below _ (T77.setTop (mkF m 27 #[.val (.ref a1), .val (.ref b1), .val (.int (2 : Int32)), .val (.int (own_g xs (1 : Int32)))] [(.int (own_g xs (2 : Int32)))]))
      refine g_istoreN (pc' := 28) (Ls' := #[.val (.ref a1), .val (.ref b1), .val (.int (2 : Int32)), .val (.int (own_g xs (2 : Int32)))]) C X77 d5_27 rfl rfl ?_
      refine g_iloadN (pc' := 29) C X77 d5_28 rfl rfl ?_
      by_cases c78 : (own_g xs (2 : Int32)) = (10 : Int32)
      · refine g_lswY (pc' := 64) (k := (10 : Int32)) (o := 35) C X77 d5_29 rfl c78 (by decide) (by decide) (by decide) ?_
        refine g_aloadN (pc' := 65) C X77 d5_64 rfl rfl rfl ?_
        refine g_ldcH (vs := [(.int (92 : Int32)), (.int (110 : Int32))]) (z := (2 : Int32)) (pc' := 67) (n := 8) C X77 hS KzJ2 (own_ew hw) chJ2 (by decide) d5_65 (wq hw 142 rfl) (own_wS hw) e77 ⟨by decide, rfl⟩ (by decide) rfl (by decide) (by decide) (ce := 10) (sl := 184) rfl rfl (by decide) (by decide) rfl (fun b79 T79 h79 ck79 bb79 kk79 C X79 e79 E79 hS Kz79 A79 Fc79 Fv79 V79 L79 ch79 sx79 => ?_)
        have sf79_80 := CHr.safe ch79 (Bld_lt1 hBJ2) sfJ2
        have FX_79 := FX_ext FXJ2 E79
        have hStrJ2_79 := Str_ext hStrJ2 E79
        have hBJ2_79 := Bld_ext hBJ2 E79
        have Z79 := Nat.le_trans ZJ2 E79.1
        have K79 := KJ2.ext E79
        have nl79_81 : ¬ (vJ2 = b79) := (sx79 vJ2 sf79_80).1
        have nl79_82 : ¬ (vJ2 = bb79) := (sx79 vJ2 sf79_80).2
        have nl79_83 : ¬ (b1 = b79) := (sx79 b1 (Safe.exa C.hZ.alike (Bld_exa hBJ2_79) (by decide) (by decide))).1
        have nl79_84 : ¬ (b1 = bb79) := (sx79 b1 (Safe.exa C.hZ.alike (Bld_exa hBJ2_79) (by decide) (by decide))).2
        refine g_callV (b := b1) (z := (⟨"java/lang/StringBuilder", "append", "(Ljava/lang/String;)Ljava/lang/StringBuilder;"⟩ : MethodName)) (y := (⟨"java/lang/StringBuilder", "append", "(Ljava/lang/String;)Ljava/lang/StringBuilder;"⟩ : MethodName)) (argsL := [(.ref b79)]) (st := []) (pc' := 70) C X79 d5_67 (wq hw 143 rfl) (wq hw 144 rfl) (notFace_of_selects (args := #[]) (mvT C.hZ (wq hw 146 rfl))) (wq hw 146 rfl) (wq hw 145 rfl) (wq hw 33 rfl) (wq hw 147 rfl) (by decide) (rmapS l Z a0 hw [] b1 b79 vJ2 zJ2 cJ2 bb79 kk79 (92 : Int32) (110 : Int32) cs_ fm h79 n0 Z79 FX_79 hBJ2_79 A79 Fv79 Fc79 V79 (by have := hkJ2; omega) gn_b1 gn_vJ2 nbJ2 ⟨by decide, by decide⟩ ⟨by decide, by decide⟩ nl79_83 nl79_84 nl79_81 nl79_82) (W := 0) (by decide) (by decide) (ce := 11) (sl := 224) rfl rfl (by decide) (by decide) rfl (Bld_exa hBJ2_79) e79 rfl pd_35 rfl (Nat.le_refl _) rfl (fun rv85 T85 L85 X85 Q85 => ?_)
        obtain ⟨w85, z285, q85, Nq85, Kq85, P85_0, xp85_0, xp85_1, xp85_2⟩ := Q85
        have N85 := Fr.app N77 Nq85
        have ne85_86 : ¬ (b79 = w85) := xp85_0 b79 A79.lt (Ne.symm nl79_81)
        have ne85_87 : ¬ (bb79 = w85) := xp85_0 bb79 V79.lt (Ne.symm nl79_82)
        have ne85_88 : ¬ (a1 = w85) := xp85_0 a1 (Str_lt0 hStrJ2_79) naJ2
        have ne85_89 : ¬ (v1_ = w85) := xp85_0 v1_ (Str_lt1 hStrJ2_79) nvJ2
        have sz_w85 := own_msz xp85_0 sz_vJ2 K79.1
        have gn_w85 := xp85_1
        have hs85 : ∀ x ∈ [b1, vJ2], Safe Z own_EL _ _ x := (sfS (Safe.exa C.hZ.alike (Bld_exa hBJ2_79) (by decide) (by decide)) (sfS sf79_80 sf0))
        have sf85_90 := Safe.keep Kq85 hs85 ch79.1 sf79_80
        have sf85_91 := Safe.keep Kq85 hs85 ch79.1 (own_msf xp85_0 sf79_80)
        have ch85 := ch79.1.keep Kq85 hs85
        have FX_85 := FX_keep FX_79 Kq85 ((allS (Bld_pl0 hBJ2_79) (allS (Bld_pl1 hBJ2_79) all0)))
        have hStrJ2_85 := Str_keep hStrJ2_79 Kq85 (ninS ne1_3 (ninS naJ2 nin0)) (ninS ne1_4 (ninS nvJ2 nin0))
        have A79_85 := A79.keep Kq85
        have Fc79_85 := Fc79.keep Kq85 (ninS (Ne.symm nl79_83) (ninS (Ne.symm nl79_81) nin0))
        have Fv79_85 := Fv79.keep Kq85 (ninS (Ne.symm nl79_83) (ninS (Ne.symm nl79_81) nin0))
        have V79_85 := V79.keep Kq85 (ninS (Ne.symm nl79_84) (ninS (Ne.symm nl79_82) nin0))
        have Z85 := Nat.le_trans Z79 Kq85.1
        have Kz85 := Nat.le_trans Kz79 Kq85.1
        have K85 := K79.trans Kq85 (allS (Or.inr sz_b1) (allS (Or.inr sz_vJ2) all0))
        subst q85
        show Go p.tables e below _ (T85.setTop (mkF m 70 #[.val (.ref a1), .val (.ref b1), .val (.int (2 : Int32)), .val (.int (own_g xs (2 : Int32)))] [(.ref b1)]))
        refine g_pop (pc' := 71) C X85 d5_70 rfl rfl ?_
        refine g_goto (pc' := 100) C X85 d5_71 (by decide) (by decide) ?_
        refine g_iinc (pc' := 103) (Ls' := #[.val (.ref a1), .val (.ref b1), .val (.int ((2 : Int32) + (1 : Int32))), .val (.int (own_g xs (2 : Int32)))]) C X85 d5_100 rfl rfl rfl ?_
        refine g_goto (pc' := 14) C X85 d5_103 (by decide) (by decide) ?_
        exact J3 _ _ _ _ _ w85 z285 (cJ2 ++ [(92 : Int32), (110 : Int32)]) C (X85.mono (by decide) (by decide)) hS rfl Kz85 ch85 sf85_91 N85 Z85 K85 FX_85 hStrJ2_85 P85_0 sz_w85 gn_w85 xp85_2 ne85_88 ne85_89 (own_turn hRJ2 (Nat.le_trans hl4 (by decide)) c76 (by decide) (own_es1 c78)) (by have := hkJ2; rw [List.length_append]; show cJ2.length + 2 ≤ _; omega)
      · by_cases c92 : (own_g xs (2 : Int32)) = (13 : Int32)
        · refine g_lswY (pc' := 74) (k := (13 : Int32)) (o := 45) C X77 d5_29 rfl c92 (by decide) (by decide) (by decide) ?_
          refine g_aloadN (pc' := 75) C X77 d5_74 rfl rfl rfl ?_
          refine g_ldcH (vs := [(.int (92 : Int32)), (.int (114 : Int32))]) (z := (2 : Int32)) (pc' := 77) (n := 8) C X77 hS KzJ2 (own_ew hw) chJ2 (by decide) d5_75 (wq hw 224 rfl) (own_wS hw) e77 ⟨by decide, rfl⟩ (by decide) rfl (by decide) (by decide) (ce := 10) (sl := 184) rfl rfl (by decide) (by decide) rfl (fun b93 T93 h93 ck93 bb93 kk93 C X93 e93 E93 hS Kz93 A93 Fc93 Fv93 V93 L93 ch93 sx93 => ?_)
          have sf93_94 := CHr.safe ch93 (Bld_lt1 hBJ2) sfJ2
          have FX_93 := FX_ext FXJ2 E93
          have hStrJ2_93 := Str_ext hStrJ2 E93
          have hBJ2_93 := Bld_ext hBJ2 E93
          have Z93 := Nat.le_trans ZJ2 E93.1
          have K93 := KJ2.ext E93
          have nl93_95 : ¬ (vJ2 = b93) := (sx93 vJ2 sf93_94).1
          have nl93_96 : ¬ (vJ2 = bb93) := (sx93 vJ2 sf93_94).2
          have nl93_97 : ¬ (b1 = b93) := (sx93 b1 (Safe.exa C.hZ.alike (Bld_exa hBJ2_93) (by decide) (by decide))).1
          have nl93_98 : ¬ (b1 = bb93) := (sx93 b1 (Safe.exa C.hZ.alike (Bld_exa hBJ2_93) (by decide) (by decide))).2
          refine g_callV (b := b1) (z := (⟨"java/lang/StringBuilder", "append", "(Ljava/lang/String;)Ljava/lang/StringBuilder;"⟩ : MethodName)) (y := (⟨"java/lang/StringBuilder", "append", "(Ljava/lang/String;)Ljava/lang/StringBuilder;"⟩ : MethodName)) (argsL := [(.ref b93)]) (st := []) (pc' := 80) C X93 d5_77 (wq hw 143 rfl) (wq hw 144 rfl) (notFace_of_selects (args := #[]) (mvT C.hZ (wq hw 146 rfl))) (wq hw 146 rfl) (wq hw 145 rfl) (wq hw 33 rfl) (wq hw 147 rfl) (by decide) (rmapS l Z a0 hw [] b1 b93 vJ2 zJ2 cJ2 bb93 kk93 (92 : Int32) (114 : Int32) cs_ fm h93 n0 Z93 FX_93 hBJ2_93 A93 Fv93 Fc93 V93 (by have := hkJ2; omega) gn_b1 gn_vJ2 nbJ2 ⟨by decide, by decide⟩ ⟨by decide, by decide⟩ nl93_97 nl93_98 nl93_95 nl93_96) (W := 0) (by decide) (by decide) (ce := 11) (sl := 224) rfl rfl (by decide) (by decide) rfl (Bld_exa hBJ2_93) e93 rfl pd_35 rfl (Nat.le_refl _) rfl (fun rv99 T99 L99 X99 Q99 => ?_)
          obtain ⟨w99, z299, q99, Nq99, Kq99, P99_0, xp99_0, xp99_1, xp99_2⟩ := Q99
          have N99 := Fr.app N77 Nq99
          have ne99_100 : ¬ (b93 = w99) := xp99_0 b93 A93.lt (Ne.symm nl93_95)
          have ne99_101 : ¬ (bb93 = w99) := xp99_0 bb93 V93.lt (Ne.symm nl93_96)
          have ne99_102 : ¬ (a1 = w99) := xp99_0 a1 (Str_lt0 hStrJ2_93) naJ2
          have ne99_103 : ¬ (v1_ = w99) := xp99_0 v1_ (Str_lt1 hStrJ2_93) nvJ2
          have sz_w99 := own_msz xp99_0 sz_vJ2 K93.1
          have gn_w99 := xp99_1
          have hs99 : ∀ x ∈ [b1, vJ2], Safe Z own_EL _ _ x := (sfS (Safe.exa C.hZ.alike (Bld_exa hBJ2_93) (by decide) (by decide)) (sfS sf93_94 sf0))
          have sf99_104 := Safe.keep Kq99 hs99 ch93.1 sf93_94
          have sf99_105 := Safe.keep Kq99 hs99 ch93.1 (own_msf xp99_0 sf93_94)
          have ch99 := ch93.1.keep Kq99 hs99
          have FX_99 := FX_keep FX_93 Kq99 ((allS (Bld_pl0 hBJ2_93) (allS (Bld_pl1 hBJ2_93) all0)))
          have hStrJ2_99 := Str_keep hStrJ2_93 Kq99 (ninS ne1_3 (ninS naJ2 nin0)) (ninS ne1_4 (ninS nvJ2 nin0))
          have A93_99 := A93.keep Kq99
          have Fc93_99 := Fc93.keep Kq99 (ninS (Ne.symm nl93_97) (ninS (Ne.symm nl93_95) nin0))
          have Fv93_99 := Fv93.keep Kq99 (ninS (Ne.symm nl93_97) (ninS (Ne.symm nl93_95) nin0))
          have V93_99 := V93.keep Kq99 (ninS (Ne.symm nl93_98) (ninS (Ne.symm nl93_96) nin0))
          have Z99 := Nat.le_trans Z93 Kq99.1
          have Kz99 := Nat.le_trans Kz93 Kq99.1
          have K99 := K93.trans Kq99 (allS (Or.inr sz_b1) (allS (Or.inr sz_vJ2) all0))
          subst q99
          show Go p.tables e below _ (T99.setTop (mkF m 80 #[.val (.ref a1), .val (.ref b1), .val (.int (2 : Int32)), .val (.int (own_g xs (2 : Int32)))] [(.ref b1)]))
          refine g_pop (pc' := 81) C X99 d5_80 rfl rfl ?_
          refine g_goto (pc' := 100) C X99 d5_81 (by decide) (by decide) ?_
          refine g_iinc (pc' := 103) (Ls' := #[.val (.ref a1), .val (.ref b1), .val (.int ((2 : Int32) + (1 : Int32))), .val (.int (own_g xs (2 : Int32)))]) C X99 d5_100 rfl rfl rfl ?_
          refine g_goto (pc' := 14) C X99 d5_103 (by decide) (by decide) ?_
          exact J3 _ _ _ _ _ w99 z299 (cJ2 ++ [(92 : Int32), (114 : Int32)]) C (X99.mono (by decide) (by decide)) hS rfl Kz99 ch99 sf99_105 N99 Z99 K99 FX_99 hStrJ2_99 P99_0 sz_w99 gn_w99 xp99_2 ne99_102 ne99_103 (own_turn hRJ2 (Nat.le_trans hl4 (by decide)) c76 (by decide) (own_es2 c78 c92)) (by have := hkJ2; rw [List.length_append]; show cJ2.length + 2 ≤ _; omega)
        · by_cases c106 : (own_g xs (2 : Int32)) = (92 : Int32)
          · refine g_lswY (pc' := 84) (k := (92 : Int32)) (o := 55) C X77 d5_29 rfl c106 (by decide) (by decide) (by decide) ?_
            refine g_aloadN (pc' := 85) C X77 d5_84 rfl rfl rfl ?_
            refine g_ldcH (vs := [(.int (92 : Int32)), (.int (92 : Int32))]) (z := (2 : Int32)) (pc' := 87) (n := 8) C X77 hS KzJ2 (own_ew hw) chJ2 (by decide) d5_85 (wq hw 178 rfl) (own_wS hw) e77 ⟨by decide, rfl⟩ (by decide) rfl (by decide) (by decide) (ce := 10) (sl := 184) rfl rfl (by decide) (by decide) rfl (fun b107 T107 h107 ck107 bb107 kk107 C X107 e107 E107 hS Kz107 A107 Fc107 Fv107 V107 L107 ch107 sx107 => ?_)
            have sf107_108 := CHr.safe ch107 (Bld_lt1 hBJ2) sfJ2
            have FX_107 := FX_ext FXJ2 E107
            have hStrJ2_107 := Str_ext hStrJ2 E107
            have hBJ2_107 := Bld_ext hBJ2 E107
            have Z107 := Nat.le_trans ZJ2 E107.1
            have K107 := KJ2.ext E107
            have nl107_109 : ¬ (vJ2 = b107) := (sx107 vJ2 sf107_108).1
            have nl107_110 : ¬ (vJ2 = bb107) := (sx107 vJ2 sf107_108).2
            have nl107_111 : ¬ (b1 = b107) := (sx107 b1 (Safe.exa C.hZ.alike (Bld_exa hBJ2_107) (by decide) (by decide))).1
            have nl107_112 : ¬ (b1 = bb107) := (sx107 b1 (Safe.exa C.hZ.alike (Bld_exa hBJ2_107) (by decide) (by decide))).2
            refine g_callV (b := b1) (z := (⟨"java/lang/StringBuilder", "append", "(Ljava/lang/String;)Ljava/lang/StringBuilder;"⟩ : MethodName)) (y := (⟨"java/lang/StringBuilder", "append", "(Ljava/lang/String;)Ljava/lang/StringBuilder;"⟩ : MethodName)) (argsL := [(.ref b107)]) (st := []) (pc' := 90) C X107 d5_87 (wq hw 143 rfl) (wq hw 144 rfl) (notFace_of_selects (args := #[]) (mvT C.hZ (wq hw 146 rfl))) (wq hw 146 rfl) (wq hw 145 rfl) (wq hw 33 rfl) (wq hw 147 rfl) (by decide) (rmapS l Z a0 hw [] b1 b107 vJ2 zJ2 cJ2 bb107 kk107 (92 : Int32) (92 : Int32) cs_ fm h107 n0 Z107 FX_107 hBJ2_107 A107 Fv107 Fc107 V107 (by have := hkJ2; omega) gn_b1 gn_vJ2 nbJ2 ⟨by decide, by decide⟩ ⟨by decide, by decide⟩ nl107_111 nl107_112 nl107_109 nl107_110) (W := 0) (by decide) (by decide) (ce := 11) (sl := 224) rfl rfl (by decide) (by decide) rfl (Bld_exa hBJ2_107) e107 rfl pd_35 rfl (Nat.le_refl _) rfl (fun rv113 T113 L113 X113 Q113 => ?_)
            obtain ⟨w113, z2113, q113, Nq113, Kq113, P113_0, xp113_0, xp113_1, xp113_2⟩ := Q113
            have N113 := Fr.app N77 Nq113
            have ne113_114 : ¬ (b107 = w113) := xp113_0 b107 A107.lt (Ne.symm nl107_109)
            have ne113_115 : ¬ (bb107 = w113) := xp113_0 bb107 V107.lt (Ne.symm nl107_110)
            have ne113_116 : ¬ (a1 = w113) := xp113_0 a1 (Str_lt0 hStrJ2_107) naJ2
            have ne113_117 : ¬ (v1_ = w113) := xp113_0 v1_ (Str_lt1 hStrJ2_107) nvJ2
            have sz_w113 := own_msz xp113_0 sz_vJ2 K107.1
            have gn_w113 := xp113_1
            have hs113 : ∀ x ∈ [b1, vJ2], Safe Z own_EL _ _ x := (sfS (Safe.exa C.hZ.alike (Bld_exa hBJ2_107) (by decide) (by decide)) (sfS sf107_108 sf0))
            have sf113_118 := Safe.keep Kq113 hs113 ch107.1 sf107_108
            have sf113_119 := Safe.keep Kq113 hs113 ch107.1 (own_msf xp113_0 sf107_108)
            have ch113 := ch107.1.keep Kq113 hs113
            have FX_113 := FX_keep FX_107 Kq113 ((allS (Bld_pl0 hBJ2_107) (allS (Bld_pl1 hBJ2_107) all0)))
            have hStrJ2_113 := Str_keep hStrJ2_107 Kq113 (ninS ne1_3 (ninS naJ2 nin0)) (ninS ne1_4 (ninS nvJ2 nin0))
            have A107_113 := A107.keep Kq113
            have Fc107_113 := Fc107.keep Kq113 (ninS (Ne.symm nl107_111) (ninS (Ne.symm nl107_109) nin0))
            have Fv107_113 := Fv107.keep Kq113 (ninS (Ne.symm nl107_111) (ninS (Ne.symm nl107_109) nin0))
            have V107_113 := V107.keep Kq113 (ninS (Ne.symm nl107_112) (ninS (Ne.symm nl107_110) nin0))
            have Z113 := Nat.le_trans Z107 Kq113.1
            have Kz113 := Nat.le_trans Kz107 Kq113.1
            have K113 := K107.trans Kq113 (allS (Or.inr sz_b1) (allS (Or.inr sz_vJ2) all0))
            subst q113
            show Go p.tables e below _ (T113.setTop (mkF m 90 #[.val (.ref a1), .val (.ref b1), .val (.int (2 : Int32)), .val (.int (own_g xs (2 : Int32)))] [(.ref b1)]))
            refine g_pop (pc' := 91) C X113 d5_90 rfl rfl ?_
            refine g_goto (pc' := 100) C X113 d5_91 (by decide) (by decide) ?_
            refine g_iinc (pc' := 103) (Ls' := #[.val (.ref a1), .val (.ref b1), .val (.int ((2 : Int32) + (1 : Int32))), .val (.int (own_g xs (2 : Int32)))]) C X113 d5_100 rfl rfl rfl ?_
            refine g_goto (pc' := 14) C X113 d5_103 (by decide) (by decide) ?_
            exact J3 _ _ _ _ _ w113 z2113 (cJ2 ++ [(92 : Int32), (92 : Int32)]) C (X113.mono (by decide) (by decide)) hS rfl Kz113 ch113 sf113_119 N113 Z113 K113 FX_113 hStrJ2_113 P113_0 sz_w113 gn_w113 xp113_2 ne113_116 ne113_117 (own_turn hRJ2 (Nat.le_trans hl4 (by decide)) c76 (by decide) (own_es3 c78 c92 c106)) (by have := hkJ2; rw [List.length_append]; show cJ2.length + 2 ≤ _; omega)
          · refine g_lswN (pc' := 94) C X77 d5_29 rfl (own_lsN c78 c92 c106) (by decide) (by decide) ?_
            refine g_aloadN (pc' := 95) C X77 d5_94 rfl rfl rfl ?_
            refine g_iloadN (pc' := 96) C X77 d5_95 rfl rfl ?_
            refine g_callV (b := b1) (z := (⟨"java/lang/StringBuilder", "append", "(C)Ljava/lang/StringBuilder;"⟩ : MethodName)) (y := (⟨"java/lang/StringBuilder", "append", "(C)Ljava/lang/StringBuilder;"⟩ : MethodName)) (argsL := [(.int (own_g xs (2 : Int32)))]) (st := []) (pc' := 99) C X77 d5_96 (wq hw 201 rfl) (wq hw 202 rfl) (notFace_of_selects (args := #[]) (mvT C.hZ (wq hw 204 rfl))) (wq hw 204 rfl) (wq hw 203 rfl) (wq hw 33 rfl) (wq hw 205 rfl) (by decide) (rmaps l Z a0 hw [] b1 (own_g xs (2 : Int32)) vJ2 zJ2 cJ2 cs_ fm HJ2 n0 ZJ2 FXJ2 hBJ2 (by have := hkJ2; omega) gn_b1 gn_vJ2 nbJ2 (own_g_all hStr.2.1 (⟨by decide, by decide⟩ : own_ch 0) _)) (W := 0) (by decide) (by decide) (ce := 10) (sl := 252) rfl rfl (by decide) (by decide) rfl (Bld_exa hBJ2) e77 rfl pd_36 rfl (Nat.le_refl _) rfl (fun rv120 T120 L120 X120 Q120 => ?_)
            obtain ⟨w120, z2120, q120, Nq120, Kq120, P120_0, xp120_0, xp120_1, xp120_2⟩ := Q120
            have N120 := Fr.app N77 Nq120
            have ne120_121 : ¬ (a1 = w120) := xp120_0 a1 (Str_lt0 hStrJ2) naJ2
            have ne120_122 : ¬ (v1_ = w120) := xp120_0 v1_ (Str_lt1 hStrJ2) nvJ2
            have sz_w120 := own_msz xp120_0 sz_vJ2 KJ2.1
            have gn_w120 := xp120_1
            have hs120 : ∀ x ∈ [b1, vJ2], Safe Z own_EL _ _ x := (sfS (Safe.exa C.hZ.alike (Bld_exa hBJ2) (by decide) (by decide)) (sfS sfJ2 sf0))
            have sf120_123 := Safe.keep Kq120 hs120 chJ2 sfJ2
            have sf120_124 := Safe.keep Kq120 hs120 chJ2 (own_msf xp120_0 sfJ2)
            have ch120 := chJ2.keep Kq120 hs120
            have FX_120 := FX_keep FXJ2 Kq120 ((allS (Bld_pl0 hBJ2) (allS (Bld_pl1 hBJ2) all0)))
            have hStrJ2_120 := Str_keep hStrJ2 Kq120 (ninS ne1_3 (ninS naJ2 nin0)) (ninS ne1_4 (ninS nvJ2 nin0))
            have Z120 := Nat.le_trans ZJ2 Kq120.1
            have Kz120 := Nat.le_trans KzJ2 Kq120.1
            have K120 := KJ2.trans Kq120 (allS (Or.inr sz_b1) (allS (Or.inr sz_vJ2) all0))
            subst q120
            show Go p.tables e below _ (T120.setTop (mkF m 99 #[.val (.ref a1), .val (.ref b1), .val (.int (2 : Int32)), .val (.int (own_g xs (2 : Int32)))] [(.ref b1)]))
            refine g_pop (pc' := 100) C X120 d5_99 rfl rfl ?_
            refine g_iinc (pc' := 103) (Ls' := #[.val (.ref a1), .val (.ref b1), .val (.int ((2 : Int32) + (1 : Int32))), .val (.int (own_g xs (2 : Int32)))]) C X120 d5_100 rfl rfl rfl ?_
            refine g_goto (pc' := 14) C X120 d5_103 (by decide) (by decide) ?_
            exact J3 _ _ _ _ _ w120 z2120 (cJ2 ++ [(own_g xs (2 : Int32))]) C (X120.mono (by decide) (by decide)) hS rfl Kz120 ch120 sf120_124 N120 Z120 K120 FX_120 hStrJ2_120 P120_0 sz_w120 gn_w120 xp120_2 ne120_121 ne120_122 (own_turn hRJ2 (Nat.le_trans hl4 (by decide)) c76 (by decide) (own_es4 c78 c92 c106)) (by have := hkJ2; rw [List.length_append]; show cJ2.length + 1 ≤ _; omega)
    · refine g_icmpY (pc' := 106) C X75 d5_19 (flt c76).2.1 (by decide) (by decide) ?_
      exact JE _ _ _ _ _ vJ2 zJ2 cJ2 _ _ C (X75.mono (by decide) (by decide)) hS e75 KzJ2 chJ2 sfJ2 N75 ZJ2 KJ2 FXJ2 hStrJ2 hBJ2 sz_vJ2 gn_vJ2 nbJ2 naJ2 nvJ2 (own_fin_ hRJ2 (Nat.le_trans hl4 (by decide)) c76 (by decide))
  have J1 : ∀ (vmJ1 : Vm) (kJ1 : Nat) (TJ1 : State) (HJ1 : Heap) (LJ1 : List Loc) (vJ1 : Addr) (zJ1 : Int32) (cJ1 : List Int32), Cx p (s.setVm vmJ1) m meth c prog_58_method_5_code 4 "org/vouchsafe/cli/Output" "escape" (some (.object "java/lang/String")) Z → Stand p l e ({ frames := 9, cells := 16, slots := 376, locals := 132 } : Room) (s.setVm vmJ1) m #[.ref a1] below meth c TJ1 LJ1 5 92 → s.Since vmJ1 kJ1 → TJ1.heap = HJ1 → kJ1 ≤ HJ1.size → CHv Z own_EL vmJ1 HJ1 → Safe Z own_EL vmJ1 HJ1 vJ1 → Fr n0 LJ1 → n0 ≤ HJ1.size → Keep h0 HJ1 [] → FX Z HJ1 cs_ fm → Str Z HJ1 a1 v1_ xs → Bld Z HJ1 b1 vJ1 zJ1 cJ1 → h0.size ≤ vJ1 → n0 ≤ vJ1 → ¬ (b1 = vJ1) → ¬ (a1 = vJ1) → ¬ (v1_ = vJ1) → cJ1 ++ own_esc (xs.drop 1) = (own_esc xs) → cJ1.length ≤ 2 → Go p.tables e below (EndW s (Q_es Z a1 v1_ xs cs_ fm h0 n0) ({ frames := 9, cells := 16, slots := 376, locals := 132 } : Room).cells ({ frames := 9, cells := 16, slots := 376, locals := 132 } : Room).slots) (TJ1.setTop (mkF m 14 #[.val (.ref a1), .val (.ref b1), .val (.int (1 : Int32)), .val (.int (own_g xs (0 : Int32)))] [])) := by
    intro vmJ1 kJ1 TJ1 HJ1 LJ1 vJ1 zJ1 cJ1 C XJ1 hS eJ1 KzJ1 chJ1 sfJ1 NJ1 ZJ1 KJ1 FXJ1 hStrJ1 hBJ1 sz_vJ1 gn_vJ1 nbJ1 naJ1 nvJ1 hRJ1 hkJ1
    refine g_iloadN (pc' := 15) C XJ1 d5_14 rfl rfl ?_
    refine g_aloadN (pc' := 16) C XJ1 d5_15 rfl rfl rfl ?_
    refine g_callV (b := a1) (z := (⟨"java/lang/String", "length", "()I"⟩ : MethodName)) (y := (⟨"java/lang/String", "length", "()I"⟩ : MethodName)) (argsL := []) (st := [(.int (1 : Int32))]) (pc' := 19) C XJ1 d5_16 (wq hw 34 rfl) (wq hw 35 rfl) (notFace_of_selects (args := #[]) (mvT C.hZ (wq hw 37 rfl))) (wq hw 37 rfl) (wq hw 36 rfl) (wq hw 8 rfl) (wq hw 38 rfl) (by decide) (rmsl l Z a0 hw [] a1 v1_ xs cs_ fm HJ1 n0 FXJ1 hStrJ1) (W := 1) (by decide) (by decide) (ce := 5) (sl := 92) rfl rfl (by decide) (by decide) rfl (Str_exa hStrJ1) eJ1 rfl pd_22 rfl (Nat.le_refl _) rfl (fun rv125 T125 L125 X125 Q125 => ?_)
    obtain ⟨q125, Nq125, e125⟩ := Q125
    have N125 := Fr.app NJ1 Nq125
    subst q125
    show Go p.tables e below _ (T125.setTop (mkF m 19 #[.val (.ref a1), .val (.ref b1), .val (.int (1 : Int32)), .val (.int (own_g xs (0 : Int32)))] [(.int (own_n xs)), (.int (1 : Int32))]))
    by_cases c126 : (1 : Int32) < (own_n xs)
    · refine g_icmpN (pc' := 22) C X125 d5_19 (tlt c126).2.1 rfl ?_
      refine g_aloadN (pc' := 23) C X125 d5_22 rfl rfl rfl ?_
      refine g_iloadN (pc' := 24) C X125 d5_23 rfl rfl ?_
      refine g_callV (b := a1) (z := (⟨"java/lang/String", "charAt", "(I)C"⟩ : MethodName)) (y := (⟨"java/lang/String", "charAt", "(I)C"⟩ : MethodName)) (argsL := [(.int (1 : Int32))]) (st := []) (pc' := 27) C X125 d5_24 (wq hw 120 rfl) (wq hw 121 rfl) (notFace_of_selects (args := #[]) (mvT C.hZ (wq hw 123 rfl))) (wq hw 123 rfl) (wq hw 122 rfl) (wq hw 8 rfl) (wq hw 124 rfl) (by decide) (rmsca l Z a0 hw [] a1 (1 : Int32) v1_ xs cs_ fm HJ1 n0 FXJ1 hStrJ1 (by decide) c126) (W := 0) (by decide) (by decide) (ce := 5) (sl := 92) rfl rfl (by decide) (by decide) rfl (Str_exa hStrJ1) e125 rfl pd_34 rfl (Nat.le_refl _) rfl (fun rv127 T127 L127 X127 Q127 => ?_)
      obtain ⟨q127, Nq127, e127⟩ := Q127
      have N127 := Fr.app N125 Nq127
      subst q127
      show Go p.tables e below _ (T127.setTop (mkF m 27 #[.val (.ref a1), .val (.ref b1), .val (.int (1 : Int32)), .val (.int (own_g xs (0 : Int32)))] [(.int (own_g xs (1 : Int32)))]))
      refine g_istoreN (pc' := 28) (Ls' := #[.val (.ref a1), .val (.ref b1), .val (.int (1 : Int32)), .val (.int (own_g xs (1 : Int32)))]) C X127 d5_27 rfl rfl ?_
      refine g_iloadN (pc' := 29) C X127 d5_28 rfl rfl ?_
      by_cases c128 : (own_g xs (1 : Int32)) = (10 : Int32)
      · refine g_lswY (pc' := 64) (k := (10 : Int32)) (o := 35) C X127 d5_29 rfl c128 (by decide) (by decide) (by decide) ?_
        refine g_aloadN (pc' := 65) C X127 d5_64 rfl rfl rfl ?_
        refine g_ldcH (vs := [(.int (92 : Int32)), (.int (110 : Int32))]) (z := (2 : Int32)) (pc' := 67) (n := 8) C X127 hS KzJ1 (own_ew hw) chJ1 (by decide) d5_65 (wq hw 142 rfl) (own_wS hw) e127 ⟨by decide, rfl⟩ (by decide) rfl (by decide) (by decide) (ce := 7) (sl := 104) rfl rfl (by decide) (by decide) rfl (fun b129 T129 h129 ck129 bb129 kk129 C X129 e129 E129 hS Kz129 A129 Fc129 Fv129 V129 L129 ch129 sx129 => ?_)
        have sf129_130 := CHr.safe ch129 (Bld_lt1 hBJ1) sfJ1
        have FX_129 := FX_ext FXJ1 E129
        have hStrJ1_129 := Str_ext hStrJ1 E129
        have hBJ1_129 := Bld_ext hBJ1 E129
        have Z129 := Nat.le_trans ZJ1 E129.1
        have K129 := KJ1.ext E129
        have nl129_131 : ¬ (vJ1 = b129) := (sx129 vJ1 sf129_130).1
        have nl129_132 : ¬ (vJ1 = bb129) := (sx129 vJ1 sf129_130).2
        have nl129_133 : ¬ (b1 = b129) := (sx129 b1 (Safe.exa C.hZ.alike (Bld_exa hBJ1_129) (by decide) (by decide))).1
        have nl129_134 : ¬ (b1 = bb129) := (sx129 b1 (Safe.exa C.hZ.alike (Bld_exa hBJ1_129) (by decide) (by decide))).2
        refine g_callV (b := b1) (z := (⟨"java/lang/StringBuilder", "append", "(Ljava/lang/String;)Ljava/lang/StringBuilder;"⟩ : MethodName)) (y := (⟨"java/lang/StringBuilder", "append", "(Ljava/lang/String;)Ljava/lang/StringBuilder;"⟩ : MethodName)) (argsL := [(.ref b129)]) (st := []) (pc' := 70) C X129 d5_67 (wq hw 143 rfl) (wq hw 144 rfl) (notFace_of_selects (args := #[]) (mvT C.hZ (wq hw 146 rfl))) (wq hw 146 rfl) (wq hw 145 rfl) (wq hw 33 rfl) (wq hw 147 rfl) (by decide) (rmapS l Z a0 hw [] b1 b129 vJ1 zJ1 cJ1 bb129 kk129 (92 : Int32) (110 : Int32) cs_ fm h129 n0 Z129 FX_129 hBJ1_129 A129 Fv129 Fc129 V129 (by have := hkJ1; omega) gn_b1 gn_vJ1 nbJ1 ⟨by decide, by decide⟩ ⟨by decide, by decide⟩ nl129_133 nl129_134 nl129_131 nl129_132) (W := 0) (by decide) (by decide) (ce := 8) (sl := 144) rfl rfl (by decide) (by decide) rfl (Bld_exa hBJ1_129) e129 rfl pd_35 rfl (Nat.le_refl _) rfl (fun rv135 T135 L135 X135 Q135 => ?_)
        obtain ⟨w135, z2135, q135, Nq135, Kq135, P135_0, xp135_0, xp135_1, xp135_2⟩ := Q135
        have N135 := Fr.app N127 Nq135
        have ne135_136 : ¬ (b129 = w135) := xp135_0 b129 A129.lt (Ne.symm nl129_131)
        have ne135_137 : ¬ (bb129 = w135) := xp135_0 bb129 V129.lt (Ne.symm nl129_132)
        have ne135_138 : ¬ (a1 = w135) := xp135_0 a1 (Str_lt0 hStrJ1_129) naJ1
        have ne135_139 : ¬ (v1_ = w135) := xp135_0 v1_ (Str_lt1 hStrJ1_129) nvJ1
        have sz_w135 := own_msz xp135_0 sz_vJ1 K129.1
        have gn_w135 := xp135_1
        have hs135 : ∀ x ∈ [b1, vJ1], Safe Z own_EL _ _ x := (sfS (Safe.exa C.hZ.alike (Bld_exa hBJ1_129) (by decide) (by decide)) (sfS sf129_130 sf0))
        have sf135_140 := Safe.keep Kq135 hs135 ch129.1 sf129_130
        have sf135_141 := Safe.keep Kq135 hs135 ch129.1 (own_msf xp135_0 sf129_130)
        have ch135 := ch129.1.keep Kq135 hs135
        have FX_135 := FX_keep FX_129 Kq135 ((allS (Bld_pl0 hBJ1_129) (allS (Bld_pl1 hBJ1_129) all0)))
        have hStrJ1_135 := Str_keep hStrJ1_129 Kq135 (ninS ne1_3 (ninS naJ1 nin0)) (ninS ne1_4 (ninS nvJ1 nin0))
        have A129_135 := A129.keep Kq135
        have Fc129_135 := Fc129.keep Kq135 (ninS (Ne.symm nl129_133) (ninS (Ne.symm nl129_131) nin0))
        have Fv129_135 := Fv129.keep Kq135 (ninS (Ne.symm nl129_133) (ninS (Ne.symm nl129_131) nin0))
        have V129_135 := V129.keep Kq135 (ninS (Ne.symm nl129_134) (ninS (Ne.symm nl129_132) nin0))
        have Z135 := Nat.le_trans Z129 Kq135.1
        have Kz135 := Nat.le_trans Kz129 Kq135.1
        have K135 := K129.trans Kq135 (allS (Or.inr sz_b1) (allS (Or.inr sz_vJ1) all0))
        subst q135
        show Go p.tables e below _ (T135.setTop (mkF m 70 #[.val (.ref a1), .val (.ref b1), .val (.int (1 : Int32)), .val (.int (own_g xs (1 : Int32)))] [(.ref b1)]))
        refine g_pop (pc' := 71) C X135 d5_70 rfl rfl ?_
        refine g_goto (pc' := 100) C X135 d5_71 (by decide) (by decide) ?_
        refine g_iinc (pc' := 103) (Ls' := #[.val (.ref a1), .val (.ref b1), .val (.int ((1 : Int32) + (1 : Int32))), .val (.int (own_g xs (1 : Int32)))]) C X135 d5_100 rfl rfl rfl ?_
        refine g_goto (pc' := 14) C X135 d5_103 (by decide) (by decide) ?_
        exact J2 _ _ _ _ _ w135 z2135 (cJ1 ++ [(92 : Int32), (110 : Int32)]) C (X135.mono (by decide) (by decide)) hS rfl Kz135 ch135 sf135_141 N135 Z135 K135 FX_135 hStrJ1_135 P135_0 sz_w135 gn_w135 xp135_2 ne135_138 ne135_139 (own_turn hRJ1 (Nat.le_trans hl4 (by decide)) c126 (by decide) (own_es1 c128)) (by have := hkJ1; rw [List.length_append]; show cJ1.length + 2 ≤ _; omega)
      · by_cases c142 : (own_g xs (1 : Int32)) = (13 : Int32)
        · refine g_lswY (pc' := 74) (k := (13 : Int32)) (o := 45) C X127 d5_29 rfl c142 (by decide) (by decide) (by decide) ?_
          refine g_aloadN (pc' := 75) C X127 d5_74 rfl rfl rfl ?_
          refine g_ldcH (vs := [(.int (92 : Int32)), (.int (114 : Int32))]) (z := (2 : Int32)) (pc' := 77) (n := 8) C X127 hS KzJ1 (own_ew hw) chJ1 (by decide) d5_75 (wq hw 224 rfl) (own_wS hw) e127 ⟨by decide, rfl⟩ (by decide) rfl (by decide) (by decide) (ce := 7) (sl := 104) rfl rfl (by decide) (by decide) rfl (fun b143 T143 h143 ck143 bb143 kk143 C X143 e143 E143 hS Kz143 A143 Fc143 Fv143 V143 L143 ch143 sx143 => ?_)
          have sf143_144 := CHr.safe ch143 (Bld_lt1 hBJ1) sfJ1
          have FX_143 := FX_ext FXJ1 E143
          have hStrJ1_143 := Str_ext hStrJ1 E143
          have hBJ1_143 := Bld_ext hBJ1 E143
          have Z143 := Nat.le_trans ZJ1 E143.1
          have K143 := KJ1.ext E143
          have nl143_145 : ¬ (vJ1 = b143) := (sx143 vJ1 sf143_144).1
          have nl143_146 : ¬ (vJ1 = bb143) := (sx143 vJ1 sf143_144).2
          have nl143_147 : ¬ (b1 = b143) := (sx143 b1 (Safe.exa C.hZ.alike (Bld_exa hBJ1_143) (by decide) (by decide))).1
          have nl143_148 : ¬ (b1 = bb143) := (sx143 b1 (Safe.exa C.hZ.alike (Bld_exa hBJ1_143) (by decide) (by decide))).2
          refine g_callV (b := b1) (z := (⟨"java/lang/StringBuilder", "append", "(Ljava/lang/String;)Ljava/lang/StringBuilder;"⟩ : MethodName)) (y := (⟨"java/lang/StringBuilder", "append", "(Ljava/lang/String;)Ljava/lang/StringBuilder;"⟩ : MethodName)) (argsL := [(.ref b143)]) (st := []) (pc' := 80) C X143 d5_77 (wq hw 143 rfl) (wq hw 144 rfl) (notFace_of_selects (args := #[]) (mvT C.hZ (wq hw 146 rfl))) (wq hw 146 rfl) (wq hw 145 rfl) (wq hw 33 rfl) (wq hw 147 rfl) (by decide) (rmapS l Z a0 hw [] b1 b143 vJ1 zJ1 cJ1 bb143 kk143 (92 : Int32) (114 : Int32) cs_ fm h143 n0 Z143 FX_143 hBJ1_143 A143 Fv143 Fc143 V143 (by have := hkJ1; omega) gn_b1 gn_vJ1 nbJ1 ⟨by decide, by decide⟩ ⟨by decide, by decide⟩ nl143_147 nl143_148 nl143_145 nl143_146) (W := 0) (by decide) (by decide) (ce := 8) (sl := 144) rfl rfl (by decide) (by decide) rfl (Bld_exa hBJ1_143) e143 rfl pd_35 rfl (Nat.le_refl _) rfl (fun rv149 T149 L149 X149 Q149 => ?_)
          obtain ⟨w149, z2149, q149, Nq149, Kq149, P149_0, xp149_0, xp149_1, xp149_2⟩ := Q149
          have N149 := Fr.app N127 Nq149
          have ne149_150 : ¬ (b143 = w149) := xp149_0 b143 A143.lt (Ne.symm nl143_145)
          have ne149_151 : ¬ (bb143 = w149) := xp149_0 bb143 V143.lt (Ne.symm nl143_146)
          have ne149_152 : ¬ (a1 = w149) := xp149_0 a1 (Str_lt0 hStrJ1_143) naJ1
          have ne149_153 : ¬ (v1_ = w149) := xp149_0 v1_ (Str_lt1 hStrJ1_143) nvJ1
          have sz_w149 := own_msz xp149_0 sz_vJ1 K143.1
          have gn_w149 := xp149_1
          have hs149 : ∀ x ∈ [b1, vJ1], Safe Z own_EL _ _ x := (sfS (Safe.exa C.hZ.alike (Bld_exa hBJ1_143) (by decide) (by decide)) (sfS sf143_144 sf0))
          have sf149_154 := Safe.keep Kq149 hs149 ch143.1 sf143_144
          have sf149_155 := Safe.keep Kq149 hs149 ch143.1 (own_msf xp149_0 sf143_144)
          have ch149 := ch143.1.keep Kq149 hs149
          have FX_149 := FX_keep FX_143 Kq149 ((allS (Bld_pl0 hBJ1_143) (allS (Bld_pl1 hBJ1_143) all0)))
          have hStrJ1_149 := Str_keep hStrJ1_143 Kq149 (ninS ne1_3 (ninS naJ1 nin0)) (ninS ne1_4 (ninS nvJ1 nin0))
          have A143_149 := A143.keep Kq149
          have Fc143_149 := Fc143.keep Kq149 (ninS (Ne.symm nl143_147) (ninS (Ne.symm nl143_145) nin0))
          have Fv143_149 := Fv143.keep Kq149 (ninS (Ne.symm nl143_147) (ninS (Ne.symm nl143_145) nin0))
          have V143_149 := V143.keep Kq149 (ninS (Ne.symm nl143_148) (ninS (Ne.symm nl143_146) nin0))
          have Z149 := Nat.le_trans Z143 Kq149.1
          have Kz149 := Nat.le_trans Kz143 Kq149.1
          have K149 := K143.trans Kq149 (allS (Or.inr sz_b1) (allS (Or.inr sz_vJ1) all0))
          subst q149
          show Go p.tables e below _ (T149.setTop (mkF m 80 #[.val (.ref a1), .val (.ref b1), .val (.int (1 : Int32)), .val (.int (own_g xs (1 : Int32)))] [(.ref b1)]))
          refine g_pop (pc' := 81) C X149 d5_80 rfl rfl ?_
          refine g_goto (pc' := 100) C X149 d5_81 (by decide) (by decide) ?_
          refine g_iinc (pc' := 103) (Ls' := #[.val (.ref a1), .val (.ref b1), .val (.int ((1 : Int32) + (1 : Int32))), .val (.int (own_g xs (1 : Int32)))]) C X149 d5_100 rfl rfl rfl ?_
          refine g_goto (pc' := 14) C X149 d5_103 (by decide) (by decide) ?_
          exact J2 _ _ _ _ _ w149 z2149 (cJ1 ++ [(92 : Int32), (114 : Int32)]) C (X149.mono (by decide) (by decide)) hS rfl Kz149 ch149 sf149_155 N149 Z149 K149 FX_149 hStrJ1_149 P149_0 sz_w149 gn_w149 xp149_2 ne149_152 ne149_153 (own_turn hRJ1 (Nat.le_trans hl4 (by decide)) c126 (by decide) (own_es2 c128 c142)) (by have := hkJ1; rw [List.length_append]; show cJ1.length + 2 ≤ _; omega)
        · by_cases c156 : (own_g xs (1 : Int32)) = (92 : Int32)
          · refine g_lswY (pc' := 84) (k := (92 : Int32)) (o := 55) C X127 d5_29 rfl c156 (by decide) (by decide) (by decide) ?_
            refine g_aloadN (pc' := 85) C X127 d5_84 rfl rfl rfl ?_
            refine g_ldcH (vs := [(.int (92 : Int32)), (.int (92 : Int32))]) (z := (2 : Int32)) (pc' := 87) (n := 8) C X127 hS KzJ1 (own_ew hw) chJ1 (by decide) d5_85 (wq hw 178 rfl) (own_wS hw) e127 ⟨by decide, rfl⟩ (by decide) rfl (by decide) (by decide) (ce := 7) (sl := 104) rfl rfl (by decide) (by decide) rfl (fun b157 T157 h157 ck157 bb157 kk157 C X157 e157 E157 hS Kz157 A157 Fc157 Fv157 V157 L157 ch157 sx157 => ?_)
            have sf157_158 := CHr.safe ch157 (Bld_lt1 hBJ1) sfJ1
            have FX_157 := FX_ext FXJ1 E157
            have hStrJ1_157 := Str_ext hStrJ1 E157
            have hBJ1_157 := Bld_ext hBJ1 E157
            have Z157 := Nat.le_trans ZJ1 E157.1
            have K157 := KJ1.ext E157
            have nl157_159 : ¬ (vJ1 = b157) := (sx157 vJ1 sf157_158).1
            have nl157_160 : ¬ (vJ1 = bb157) := (sx157 vJ1 sf157_158).2
            have nl157_161 : ¬ (b1 = b157) := (sx157 b1 (Safe.exa C.hZ.alike (Bld_exa hBJ1_157) (by decide) (by decide))).1
            have nl157_162 : ¬ (b1 = bb157) := (sx157 b1 (Safe.exa C.hZ.alike (Bld_exa hBJ1_157) (by decide) (by decide))).2
            refine g_callV (b := b1) (z := (⟨"java/lang/StringBuilder", "append", "(Ljava/lang/String;)Ljava/lang/StringBuilder;"⟩ : MethodName)) (y := (⟨"java/lang/StringBuilder", "append", "(Ljava/lang/String;)Ljava/lang/StringBuilder;"⟩ : MethodName)) (argsL := [(.ref b157)]) (st := []) (pc' := 90) C X157 d5_87 (wq hw 143 rfl) (wq hw 144 rfl) (notFace_of_selects (args := #[]) (mvT C.hZ (wq hw 146 rfl))) (wq hw 146 rfl) (wq hw 145 rfl) (wq hw 33 rfl) (wq hw 147 rfl) (by decide) (rmapS l Z a0 hw [] b1 b157 vJ1 zJ1 cJ1 bb157 kk157 (92 : Int32) (92 : Int32) cs_ fm h157 n0 Z157 FX_157 hBJ1_157 A157 Fv157 Fc157 V157 (by have := hkJ1; omega) gn_b1 gn_vJ1 nbJ1 ⟨by decide, by decide⟩ ⟨by decide, by decide⟩ nl157_161 nl157_162 nl157_159 nl157_160) (W := 0) (by decide) (by decide) (ce := 8) (sl := 144) rfl rfl (by decide) (by decide) rfl (Bld_exa hBJ1_157) e157 rfl pd_35 rfl (Nat.le_refl _) rfl (fun rv163 T163 L163 X163 Q163 => ?_)
            obtain ⟨w163, z2163, q163, Nq163, Kq163, P163_0, xp163_0, xp163_1, xp163_2⟩ := Q163
            have N163 := Fr.app N127 Nq163
            have ne163_164 : ¬ (b157 = w163) := xp163_0 b157 A157.lt (Ne.symm nl157_159)
            have ne163_165 : ¬ (bb157 = w163) := xp163_0 bb157 V157.lt (Ne.symm nl157_160)
            have ne163_166 : ¬ (a1 = w163) := xp163_0 a1 (Str_lt0 hStrJ1_157) naJ1
            have ne163_167 : ¬ (v1_ = w163) := xp163_0 v1_ (Str_lt1 hStrJ1_157) nvJ1
            have sz_w163 := own_msz xp163_0 sz_vJ1 K157.1
            have gn_w163 := xp163_1
            have hs163 : ∀ x ∈ [b1, vJ1], Safe Z own_EL _ _ x := (sfS (Safe.exa C.hZ.alike (Bld_exa hBJ1_157) (by decide) (by decide)) (sfS sf157_158 sf0))
            have sf163_168 := Safe.keep Kq163 hs163 ch157.1 sf157_158
            have sf163_169 := Safe.keep Kq163 hs163 ch157.1 (own_msf xp163_0 sf157_158)
            have ch163 := ch157.1.keep Kq163 hs163
            have FX_163 := FX_keep FX_157 Kq163 ((allS (Bld_pl0 hBJ1_157) (allS (Bld_pl1 hBJ1_157) all0)))
            have hStrJ1_163 := Str_keep hStrJ1_157 Kq163 (ninS ne1_3 (ninS naJ1 nin0)) (ninS ne1_4 (ninS nvJ1 nin0))
            have A157_163 := A157.keep Kq163
            have Fc157_163 := Fc157.keep Kq163 (ninS (Ne.symm nl157_161) (ninS (Ne.symm nl157_159) nin0))
            have Fv157_163 := Fv157.keep Kq163 (ninS (Ne.symm nl157_161) (ninS (Ne.symm nl157_159) nin0))
            have V157_163 := V157.keep Kq163 (ninS (Ne.symm nl157_162) (ninS (Ne.symm nl157_160) nin0))
            have Z163 := Nat.le_trans Z157 Kq163.1
            have Kz163 := Nat.le_trans Kz157 Kq163.1
            have K163 := K157.trans Kq163 (allS (Or.inr sz_b1) (allS (Or.inr sz_vJ1) all0))
            subst q163
            show Go p.tables e below _ (T163.setTop (mkF m 90 #[.val (.ref a1), .val (.ref b1), .val (.int (1 : Int32)), .val (.int (own_g xs (1 : Int32)))] [(.ref b1)]))
            refine g_pop (pc' := 91) C X163 d5_90 rfl rfl ?_
            refine g_goto (pc' := 100) C X163 d5_91 (by decide) (by decide) ?_
            refine g_iinc (pc' := 103) (Ls' := #[.val (.ref a1), .val (.ref b1), .val (.int ((1 : Int32) + (1 : Int32))), .val (.int (own_g xs (1 : Int32)))]) C X163 d5_100 rfl rfl rfl ?_
            refine g_goto (pc' := 14) C X163 d5_103 (by decide) (by decide) ?_
            exact J2 _ _ _ _ _ w163 z2163 (cJ1 ++ [(92 : Int32), (92 : Int32)]) C (X163.mono (by decide) (by decide)) hS rfl Kz163 ch163 sf163_169 N163 Z163 K163 FX_163 hStrJ1_163 P163_0 sz_w163 gn_w163 xp163_2 ne163_166 ne163_167 (own_turn hRJ1 (Nat.le_trans hl4 (by decide)) c126 (by decide) (own_es3 c128 c142 c156)) (by have := hkJ1; rw [List.length_append]; show cJ1.length + 2 ≤ _; omega)
          · refine g_lswN (pc' := 94) C X127 d5_29 rfl (own_lsN c128 c142 c156) (by decide) (by decide) ?_
            refine g_aloadN (pc' := 95) C X127 d5_94 rfl rfl rfl ?_
            refine g_iloadN (pc' := 96) C X127 d5_95 rfl rfl ?_
            refine g_callV (b := b1) (z := (⟨"java/lang/StringBuilder", "append", "(C)Ljava/lang/StringBuilder;"⟩ : MethodName)) (y := (⟨"java/lang/StringBuilder", "append", "(C)Ljava/lang/StringBuilder;"⟩ : MethodName)) (argsL := [(.int (own_g xs (1 : Int32)))]) (st := []) (pc' := 99) C X127 d5_96 (wq hw 201 rfl) (wq hw 202 rfl) (notFace_of_selects (args := #[]) (mvT C.hZ (wq hw 204 rfl))) (wq hw 204 rfl) (wq hw 203 rfl) (wq hw 33 rfl) (wq hw 205 rfl) (by decide) (rmaps l Z a0 hw [] b1 (own_g xs (1 : Int32)) vJ1 zJ1 cJ1 cs_ fm HJ1 n0 ZJ1 FXJ1 hBJ1 (by have := hkJ1; omega) gn_b1 gn_vJ1 nbJ1 (own_g_all hStr.2.1 (⟨by decide, by decide⟩ : own_ch 0) _)) (W := 0) (by decide) (by decide) (ce := 7) (sl := 172) rfl rfl (by decide) (by decide) rfl (Bld_exa hBJ1) e127 rfl pd_36 rfl (Nat.le_refl _) rfl (fun rv170 T170 L170 X170 Q170 => ?_)
            obtain ⟨w170, z2170, q170, Nq170, Kq170, P170_0, xp170_0, xp170_1, xp170_2⟩ := Q170
            have N170 := Fr.app N127 Nq170
            have ne170_171 : ¬ (a1 = w170) := xp170_0 a1 (Str_lt0 hStrJ1) naJ1
            have ne170_172 : ¬ (v1_ = w170) := xp170_0 v1_ (Str_lt1 hStrJ1) nvJ1
            have sz_w170 := own_msz xp170_0 sz_vJ1 KJ1.1
            have gn_w170 := xp170_1
            have hs170 : ∀ x ∈ [b1, vJ1], Safe Z own_EL _ _ x := (sfS (Safe.exa C.hZ.alike (Bld_exa hBJ1) (by decide) (by decide)) (sfS sfJ1 sf0))
            have sf170_173 := Safe.keep Kq170 hs170 chJ1 sfJ1
            have sf170_174 := Safe.keep Kq170 hs170 chJ1 (own_msf xp170_0 sfJ1)
            have ch170 := chJ1.keep Kq170 hs170
            have FX_170 := FX_keep FXJ1 Kq170 ((allS (Bld_pl0 hBJ1) (allS (Bld_pl1 hBJ1) all0)))
            have hStrJ1_170 := Str_keep hStrJ1 Kq170 (ninS ne1_3 (ninS naJ1 nin0)) (ninS ne1_4 (ninS nvJ1 nin0))
            have Z170 := Nat.le_trans ZJ1 Kq170.1
            have Kz170 := Nat.le_trans KzJ1 Kq170.1
            have K170 := KJ1.trans Kq170 (allS (Or.inr sz_b1) (allS (Or.inr sz_vJ1) all0))
            subst q170
            show Go p.tables e below _ (T170.setTop (mkF m 99 #[.val (.ref a1), .val (.ref b1), .val (.int (1 : Int32)), .val (.int (own_g xs (1 : Int32)))] [(.ref b1)]))
            refine g_pop (pc' := 100) C X170 d5_99 rfl rfl ?_
            refine g_iinc (pc' := 103) (Ls' := #[.val (.ref a1), .val (.ref b1), .val (.int ((1 : Int32) + (1 : Int32))), .val (.int (own_g xs (1 : Int32)))]) C X170 d5_100 rfl rfl rfl ?_
            refine g_goto (pc' := 14) C X170 d5_103 (by decide) (by decide) ?_
            exact J2 _ _ _ _ _ w170 z2170 (cJ1 ++ [(own_g xs (1 : Int32))]) C (X170.mono (by decide) (by decide)) hS rfl Kz170 ch170 sf170_174 N170 Z170 K170 FX_170 hStrJ1_170 P170_0 sz_w170 gn_w170 xp170_2 ne170_171 ne170_172 (own_turn hRJ1 (Nat.le_trans hl4 (by decide)) c126 (by decide) (own_es4 c128 c142 c156)) (by have := hkJ1; rw [List.length_append]; show cJ1.length + 1 ≤ _; omega)
    · refine g_icmpY (pc' := 106) C X125 d5_19 (flt c126).2.1 (by decide) (by decide) ?_
      exact JE _ _ _ _ _ vJ1 zJ1 cJ1 _ _ C (X125.mono (by decide) (by decide)) hS e125 KzJ1 chJ1 sfJ1 N125 ZJ1 KJ1 FXJ1 hStrJ1 hBJ1 sz_vJ1 gn_vJ1 nbJ1 naJ1 nvJ1 (own_fin_ hRJ1 (Nat.le_trans hl4 (by decide)) c126 (by decide))
  have J0 : ∀ (vmJ0 : Vm) (kJ0 : Nat) (TJ0 : State) (HJ0 : Heap) (LJ0 : List Loc) (vJ0 : Addr) (zJ0 : Int32) (cJ0 : List Int32), Cx p (s.setVm vmJ0) m meth c prog_58_method_5_code 4 "org/vouchsafe/cli/Output" "escape" (some (.object "java/lang/String")) Z → Stand p l e ({ frames := 9, cells := 16, slots := 376, locals := 132 } : Room) (s.setVm vmJ0) m #[.ref a1] below meth c TJ0 LJ0 2 12 → s.Since vmJ0 kJ0 → TJ0.heap = HJ0 → kJ0 ≤ HJ0.size → CHv Z own_EL vmJ0 HJ0 → Safe Z own_EL vmJ0 HJ0 vJ0 → Fr n0 LJ0 → n0 ≤ HJ0.size → Keep h0 HJ0 [] → FX Z HJ0 cs_ fm → Str Z HJ0 a1 v1_ xs → Bld Z HJ0 b1 vJ0 zJ0 cJ0 → h0.size ≤ vJ0 → n0 ≤ vJ0 → ¬ (b1 = vJ0) → ¬ (a1 = vJ0) → ¬ (v1_ = vJ0) → cJ0 ++ own_esc (xs.drop 0) = (own_esc xs) → cJ0.length ≤ 0 → Go p.tables e below (EndW s (Q_es Z a1 v1_ xs cs_ fm h0 n0) ({ frames := 9, cells := 16, slots := 376, locals := 132 } : Room).cells ({ frames := 9, cells := 16, slots := 376, locals := 132 } : Room).slots) (TJ0.setTop (mkF m 14 #[.val (.ref a1), .val (.ref b1), .val (.int (0 : Int32)), .unset] [])) := by
    intro vmJ0 kJ0 TJ0 HJ0 LJ0 vJ0 zJ0 cJ0 C XJ0 hS eJ0 KzJ0 chJ0 sfJ0 NJ0 ZJ0 KJ0 FXJ0 hStrJ0 hBJ0 sz_vJ0 gn_vJ0 nbJ0 naJ0 nvJ0 hRJ0 hkJ0
    refine g_iloadN (pc' := 15) C XJ0 d5_14 rfl rfl ?_
    refine g_aloadN (pc' := 16) C XJ0 d5_15 rfl rfl rfl ?_
    refine g_callV (b := a1) (z := (⟨"java/lang/String", "length", "()I"⟩ : MethodName)) (y := (⟨"java/lang/String", "length", "()I"⟩ : MethodName)) (argsL := []) (st := [(.int (0 : Int32))]) (pc' := 19) C XJ0 d5_16 (wq hw 34 rfl) (wq hw 35 rfl) (notFace_of_selects (args := #[]) (mvT C.hZ (wq hw 37 rfl))) (wq hw 37 rfl) (wq hw 36 rfl) (wq hw 8 rfl) (wq hw 38 rfl) (by decide) (rmsl l Z a0 hw [] a1 v1_ xs cs_ fm HJ0 n0 FXJ0 hStrJ0) (W := 1) (by decide) (by decide) (ce := 2) (sl := 12) rfl rfl (by decide) (by decide) rfl (Str_exa hStrJ0) eJ0 rfl pd_22 rfl (Nat.le_refl _) rfl (fun rv175 T175 L175 X175 Q175 => ?_)
    obtain ⟨q175, Nq175, e175⟩ := Q175
    have N175 := Fr.app NJ0 Nq175
    subst q175
    show Go p.tables e below _ (T175.setTop (mkF m 19 #[.val (.ref a1), .val (.ref b1), .val (.int (0 : Int32)), .unset] [(.int (own_n xs)), (.int (0 : Int32))]))
    by_cases c176 : (0 : Int32) < (own_n xs)
    · refine g_icmpN (pc' := 22) C X175 d5_19 (tlt c176).2.1 rfl ?_
      refine g_aloadN (pc' := 23) C X175 d5_22 rfl rfl rfl ?_
      refine g_iloadN (pc' := 24) C X175 d5_23 rfl rfl ?_
      refine g_callV (b := a1) (z := (⟨"java/lang/String", "charAt", "(I)C"⟩ : MethodName)) (y := (⟨"java/lang/String", "charAt", "(I)C"⟩ : MethodName)) (argsL := [(.int (0 : Int32))]) (st := []) (pc' := 27) C X175 d5_24 (wq hw 120 rfl) (wq hw 121 rfl) (notFace_of_selects (args := #[]) (mvT C.hZ (wq hw 123 rfl))) (wq hw 123 rfl) (wq hw 122 rfl) (wq hw 8 rfl) (wq hw 124 rfl) (by decide) (rmsca l Z a0 hw [] a1 (0 : Int32) v1_ xs cs_ fm HJ0 n0 FXJ0 hStrJ0 (by decide) c176) (W := 0) (by decide) (by decide) (ce := 2) (sl := 12) rfl rfl (by decide) (by decide) rfl (Str_exa hStrJ0) e175 rfl pd_34 rfl (Nat.le_refl _) rfl (fun rv177 T177 L177 X177 Q177 => ?_)
      obtain ⟨q177, Nq177, e177⟩ := Q177
      have N177 := Fr.app N175 Nq177
      subst q177
      show Go p.tables e below _ (T177.setTop (mkF m 27 #[.val (.ref a1), .val (.ref b1), .val (.int (0 : Int32)), .unset] [(.int (own_g xs (0 : Int32)))]))
      refine g_istoreN (pc' := 28) (Ls' := #[.val (.ref a1), .val (.ref b1), .val (.int (0 : Int32)), .val (.int (own_g xs (0 : Int32)))]) C X177 d5_27 rfl rfl ?_
      refine g_iloadN (pc' := 29) C X177 d5_28 rfl rfl ?_
      by_cases c178 : (own_g xs (0 : Int32)) = (10 : Int32)
      · refine g_lswY (pc' := 64) (k := (10 : Int32)) (o := 35) C X177 d5_29 rfl c178 (by decide) (by decide) (by decide) ?_
        refine g_aloadN (pc' := 65) C X177 d5_64 rfl rfl rfl ?_
        refine g_ldcH (vs := [(.int (92 : Int32)), (.int (110 : Int32))]) (z := (2 : Int32)) (pc' := 67) (n := 8) C X177 hS KzJ0 (own_ew hw) chJ0 (by decide) d5_65 (wq hw 142 rfl) (own_wS hw) e177 ⟨by decide, rfl⟩ (by decide) rfl (by decide) (by decide) (ce := 4) (sl := 24) rfl rfl (by decide) (by decide) rfl (fun b179 T179 h179 ck179 bb179 kk179 C X179 e179 E179 hS Kz179 A179 Fc179 Fv179 V179 L179 ch179 sx179 => ?_)
        have sf179_180 := CHr.safe ch179 (Bld_lt1 hBJ0) sfJ0
        have FX_179 := FX_ext FXJ0 E179
        have hStrJ0_179 := Str_ext hStrJ0 E179
        have hBJ0_179 := Bld_ext hBJ0 E179
        have Z179 := Nat.le_trans ZJ0 E179.1
        have K179 := KJ0.ext E179
        have nl179_181 : ¬ (vJ0 = b179) := (sx179 vJ0 sf179_180).1
        have nl179_182 : ¬ (vJ0 = bb179) := (sx179 vJ0 sf179_180).2
        have nl179_183 : ¬ (b1 = b179) := (sx179 b1 (Safe.exa C.hZ.alike (Bld_exa hBJ0_179) (by decide) (by decide))).1
        have nl179_184 : ¬ (b1 = bb179) := (sx179 b1 (Safe.exa C.hZ.alike (Bld_exa hBJ0_179) (by decide) (by decide))).2
        refine g_callV (b := b1) (z := (⟨"java/lang/StringBuilder", "append", "(Ljava/lang/String;)Ljava/lang/StringBuilder;"⟩ : MethodName)) (y := (⟨"java/lang/StringBuilder", "append", "(Ljava/lang/String;)Ljava/lang/StringBuilder;"⟩ : MethodName)) (argsL := [(.ref b179)]) (st := []) (pc' := 70) C X179 d5_67 (wq hw 143 rfl) (wq hw 144 rfl) (notFace_of_selects (args := #[]) (mvT C.hZ (wq hw 146 rfl))) (wq hw 146 rfl) (wq hw 145 rfl) (wq hw 33 rfl) (wq hw 147 rfl) (by decide) (rmapS l Z a0 hw [] b1 b179 vJ0 zJ0 cJ0 bb179 kk179 (92 : Int32) (110 : Int32) cs_ fm h179 n0 Z179 FX_179 hBJ0_179 A179 Fv179 Fc179 V179 (by have := hkJ0; omega) gn_b1 gn_vJ0 nbJ0 ⟨by decide, by decide⟩ ⟨by decide, by decide⟩ nl179_183 nl179_184 nl179_181 nl179_182) (W := 0) (by decide) (by decide) (ce := 5) (sl := 64) rfl rfl (by decide) (by decide) rfl (Bld_exa hBJ0_179) e179 rfl pd_35 rfl (Nat.le_refl _) rfl (fun rv185 T185 L185 X185 Q185 => ?_)
        obtain ⟨w185, z2185, q185, Nq185, Kq185, P185_0, xp185_0, xp185_1, xp185_2⟩ := Q185
        have N185 := Fr.app N177 Nq185
        have ne185_186 : ¬ (b179 = w185) := xp185_0 b179 A179.lt (Ne.symm nl179_181)
        have ne185_187 : ¬ (bb179 = w185) := xp185_0 bb179 V179.lt (Ne.symm nl179_182)
        have ne185_188 : ¬ (a1 = w185) := xp185_0 a1 (Str_lt0 hStrJ0_179) naJ0
        have ne185_189 : ¬ (v1_ = w185) := xp185_0 v1_ (Str_lt1 hStrJ0_179) nvJ0
        have sz_w185 := own_msz xp185_0 sz_vJ0 K179.1
        have gn_w185 := xp185_1
        have hs185 : ∀ x ∈ [b1, vJ0], Safe Z own_EL _ _ x := (sfS (Safe.exa C.hZ.alike (Bld_exa hBJ0_179) (by decide) (by decide)) (sfS sf179_180 sf0))
        have sf185_190 := Safe.keep Kq185 hs185 ch179.1 sf179_180
        have sf185_191 := Safe.keep Kq185 hs185 ch179.1 (own_msf xp185_0 sf179_180)
        have ch185 := ch179.1.keep Kq185 hs185
        have FX_185 := FX_keep FX_179 Kq185 ((allS (Bld_pl0 hBJ0_179) (allS (Bld_pl1 hBJ0_179) all0)))
        have hStrJ0_185 := Str_keep hStrJ0_179 Kq185 (ninS ne1_3 (ninS naJ0 nin0)) (ninS ne1_4 (ninS nvJ0 nin0))
        have A179_185 := A179.keep Kq185
        have Fc179_185 := Fc179.keep Kq185 (ninS (Ne.symm nl179_183) (ninS (Ne.symm nl179_181) nin0))
        have Fv179_185 := Fv179.keep Kq185 (ninS (Ne.symm nl179_183) (ninS (Ne.symm nl179_181) nin0))
        have V179_185 := V179.keep Kq185 (ninS (Ne.symm nl179_184) (ninS (Ne.symm nl179_182) nin0))
        have Z185 := Nat.le_trans Z179 Kq185.1
        have Kz185 := Nat.le_trans Kz179 Kq185.1
        have K185 := K179.trans Kq185 (allS (Or.inr sz_b1) (allS (Or.inr sz_vJ0) all0))
        subst q185
        show Go p.tables e below _ (T185.setTop (mkF m 70 #[.val (.ref a1), .val (.ref b1), .val (.int (0 : Int32)), .val (.int (own_g xs (0 : Int32)))] [(.ref b1)]))
        refine g_pop (pc' := 71) C X185 d5_70 rfl rfl ?_
        refine g_goto (pc' := 100) C X185 d5_71 (by decide) (by decide) ?_
        refine g_iinc (pc' := 103) (Ls' := #[.val (.ref a1), .val (.ref b1), .val (.int ((0 : Int32) + (1 : Int32))), .val (.int (own_g xs (0 : Int32)))]) C X185 d5_100 rfl rfl rfl ?_
        refine g_goto (pc' := 14) C X185 d5_103 (by decide) (by decide) ?_
        exact J1 _ _ _ _ _ w185 z2185 (cJ0 ++ [(92 : Int32), (110 : Int32)]) C (X185.mono (by decide) (by decide)) hS rfl Kz185 ch185 sf185_191 N185 Z185 K185 FX_185 hStrJ0_185 P185_0 sz_w185 gn_w185 xp185_2 ne185_188 ne185_189 (own_turn hRJ0 (Nat.le_trans hl4 (by decide)) c176 (by decide) (own_es1 c178)) (by have := hkJ0; rw [List.length_append]; show cJ0.length + 2 ≤ _; omega)
      · by_cases c192 : (own_g xs (0 : Int32)) = (13 : Int32)
        · refine g_lswY (pc' := 74) (k := (13 : Int32)) (o := 45) C X177 d5_29 rfl c192 (by decide) (by decide) (by decide) ?_
          refine g_aloadN (pc' := 75) C X177 d5_74 rfl rfl rfl ?_
          refine g_ldcH (vs := [(.int (92 : Int32)), (.int (114 : Int32))]) (z := (2 : Int32)) (pc' := 77) (n := 8) C X177 hS KzJ0 (own_ew hw) chJ0 (by decide) d5_75 (wq hw 224 rfl) (own_wS hw) e177 ⟨by decide, rfl⟩ (by decide) rfl (by decide) (by decide) (ce := 4) (sl := 24) rfl rfl (by decide) (by decide) rfl (fun b193 T193 h193 ck193 bb193 kk193 C X193 e193 E193 hS Kz193 A193 Fc193 Fv193 V193 L193 ch193 sx193 => ?_)
          have sf193_194 := CHr.safe ch193 (Bld_lt1 hBJ0) sfJ0
          have FX_193 := FX_ext FXJ0 E193
          have hStrJ0_193 := Str_ext hStrJ0 E193
          have hBJ0_193 := Bld_ext hBJ0 E193
          have Z193 := Nat.le_trans ZJ0 E193.1
          have K193 := KJ0.ext E193
          have nl193_195 : ¬ (vJ0 = b193) := (sx193 vJ0 sf193_194).1
          have nl193_196 : ¬ (vJ0 = bb193) := (sx193 vJ0 sf193_194).2
          have nl193_197 : ¬ (b1 = b193) := (sx193 b1 (Safe.exa C.hZ.alike (Bld_exa hBJ0_193) (by decide) (by decide))).1
          have nl193_198 : ¬ (b1 = bb193) := (sx193 b1 (Safe.exa C.hZ.alike (Bld_exa hBJ0_193) (by decide) (by decide))).2
          refine g_callV (b := b1) (z := (⟨"java/lang/StringBuilder", "append", "(Ljava/lang/String;)Ljava/lang/StringBuilder;"⟩ : MethodName)) (y := (⟨"java/lang/StringBuilder", "append", "(Ljava/lang/String;)Ljava/lang/StringBuilder;"⟩ : MethodName)) (argsL := [(.ref b193)]) (st := []) (pc' := 80) C X193 d5_77 (wq hw 143 rfl) (wq hw 144 rfl) (notFace_of_selects (args := #[]) (mvT C.hZ (wq hw 146 rfl))) (wq hw 146 rfl) (wq hw 145 rfl) (wq hw 33 rfl) (wq hw 147 rfl) (by decide) (rmapS l Z a0 hw [] b1 b193 vJ0 zJ0 cJ0 bb193 kk193 (92 : Int32) (114 : Int32) cs_ fm h193 n0 Z193 FX_193 hBJ0_193 A193 Fv193 Fc193 V193 (by have := hkJ0; omega) gn_b1 gn_vJ0 nbJ0 ⟨by decide, by decide⟩ ⟨by decide, by decide⟩ nl193_197 nl193_198 nl193_195 nl193_196) (W := 0) (by decide) (by decide) (ce := 5) (sl := 64) rfl rfl (by decide) (by decide) rfl (Bld_exa hBJ0_193) e193 rfl pd_35 rfl (Nat.le_refl _) rfl (fun rv199 T199 L199 X199 Q199 => ?_)
          obtain ⟨w199, z2199, q199, Nq199, Kq199, P199_0, xp199_0, xp199_1, xp199_2⟩ := Q199
          have N199 := Fr.app N177 Nq199
          have ne199_200 : ¬ (b193 = w199) := xp199_0 b193 A193.lt (Ne.symm nl193_195)
          have ne199_201 : ¬ (bb193 = w199) := xp199_0 bb193 V193.lt (Ne.symm nl193_196)
          have ne199_202 : ¬ (a1 = w199) := xp199_0 a1 (Str_lt0 hStrJ0_193) naJ0
          have ne199_203 : ¬ (v1_ = w199) := xp199_0 v1_ (Str_lt1 hStrJ0_193) nvJ0
          have sz_w199 := own_msz xp199_0 sz_vJ0 K193.1
          have gn_w199 := xp199_1
          have hs199 : ∀ x ∈ [b1, vJ0], Safe Z own_EL _ _ x := (sfS (Safe.exa C.hZ.alike (Bld_exa hBJ0_193) (by decide) (by decide)) (sfS sf193_194 sf0))
          have sf199_204 := Safe.keep Kq199 hs199 ch193.1 sf193_194
          have sf199_205 := Safe.keep Kq199 hs199 ch193.1 (own_msf xp199_0 sf193_194)
          have ch199 := ch193.1.keep Kq199 hs199
          have FX_199 := FX_keep FX_193 Kq199 ((allS (Bld_pl0 hBJ0_193) (allS (Bld_pl1 hBJ0_193) all0)))
          have hStrJ0_199 := Str_keep hStrJ0_193 Kq199 (ninS ne1_3 (ninS naJ0 nin0)) (ninS ne1_4 (ninS nvJ0 nin0))
          have A193_199 := A193.keep Kq199
          have Fc193_199 := Fc193.keep Kq199 (ninS (Ne.symm nl193_197) (ninS (Ne.symm nl193_195) nin0))
          have Fv193_199 := Fv193.keep Kq199 (ninS (Ne.symm nl193_197) (ninS (Ne.symm nl193_195) nin0))
          have V193_199 := V193.keep Kq199 (ninS (Ne.symm nl193_198) (ninS (Ne.symm nl193_196) nin0))
          have Z199 := Nat.le_trans Z193 Kq199.1
          have Kz199 := Nat.le_trans Kz193 Kq199.1
          have K199 := K193.trans Kq199 (allS (Or.inr sz_b1) (allS (Or.inr sz_vJ0) all0))
          subst q199
          show Go p.tables e below _ (T199.setTop (mkF m 80 #[.val (.ref a1), .val (.ref b1), .val (.int (0 : Int32)), .val (.int (own_g xs (0 : Int32)))] [(.ref b1)]))
          refine g_pop (pc' := 81) C X199 d5_80 rfl rfl ?_
          refine g_goto (pc' := 100) C X199 d5_81 (by decide) (by decide) ?_
          refine g_iinc (pc' := 103) (Ls' := #[.val (.ref a1), .val (.ref b1), .val (.int ((0 : Int32) + (1 : Int32))), .val (.int (own_g xs (0 : Int32)))]) C X199 d5_100 rfl rfl rfl ?_
          refine g_goto (pc' := 14) C X199 d5_103 (by decide) (by decide) ?_
          exact J1 _ _ _ _ _ w199 z2199 (cJ0 ++ [(92 : Int32), (114 : Int32)]) C (X199.mono (by decide) (by decide)) hS rfl Kz199 ch199 sf199_205 N199 Z199 K199 FX_199 hStrJ0_199 P199_0 sz_w199 gn_w199 xp199_2 ne199_202 ne199_203 (own_turn hRJ0 (Nat.le_trans hl4 (by decide)) c176 (by decide) (own_es2 c178 c192)) (by have := hkJ0; rw [List.length_append]; show cJ0.length + 2 ≤ _; omega)
        · by_cases c206 : (own_g xs (0 : Int32)) = (92 : Int32)
          · refine g_lswY (pc' := 84) (k := (92 : Int32)) (o := 55) C X177 d5_29 rfl c206 (by decide) (by decide) (by decide) ?_
            refine g_aloadN (pc' := 85) C X177 d5_84 rfl rfl rfl ?_
            refine g_ldcH (vs := [(.int (92 : Int32)), (.int (92 : Int32))]) (z := (2 : Int32)) (pc' := 87) (n := 8) C X177 hS KzJ0 (own_ew hw) chJ0 (by decide) d5_85 (wq hw 178 rfl) (own_wS hw) e177 ⟨by decide, rfl⟩ (by decide) rfl (by decide) (by decide) (ce := 4) (sl := 24) rfl rfl (by decide) (by decide) rfl (fun b207 T207 h207 ck207 bb207 kk207 C X207 e207 E207 hS Kz207 A207 Fc207 Fv207 V207 L207 ch207 sx207 => ?_)
            have sf207_208 := CHr.safe ch207 (Bld_lt1 hBJ0) sfJ0
            have FX_207 := FX_ext FXJ0 E207
            have hStrJ0_207 := Str_ext hStrJ0 E207
            have hBJ0_207 := Bld_ext hBJ0 E207
            have Z207 := Nat.le_trans ZJ0 E207.1
            have K207 := KJ0.ext E207
            have nl207_209 : ¬ (vJ0 = b207) := (sx207 vJ0 sf207_208).1
            have nl207_210 : ¬ (vJ0 = bb207) := (sx207 vJ0 sf207_208).2
            have nl207_211 : ¬ (b1 = b207) := (sx207 b1 (Safe.exa C.hZ.alike (Bld_exa hBJ0_207) (by decide) (by decide))).1
            have nl207_212 : ¬ (b1 = bb207) := (sx207 b1 (Safe.exa C.hZ.alike (Bld_exa hBJ0_207) (by decide) (by decide))).2
            refine g_callV (b := b1) (z := (⟨"java/lang/StringBuilder", "append", "(Ljava/lang/String;)Ljava/lang/StringBuilder;"⟩ : MethodName)) (y := (⟨"java/lang/StringBuilder", "append", "(Ljava/lang/String;)Ljava/lang/StringBuilder;"⟩ : MethodName)) (argsL := [(.ref b207)]) (st := []) (pc' := 90) C X207 d5_87 (wq hw 143 rfl) (wq hw 144 rfl) (notFace_of_selects (args := #[]) (mvT C.hZ (wq hw 146 rfl))) (wq hw 146 rfl) (wq hw 145 rfl) (wq hw 33 rfl) (wq hw 147 rfl) (by decide) (rmapS l Z a0 hw [] b1 b207 vJ0 zJ0 cJ0 bb207 kk207 (92 : Int32) (92 : Int32) cs_ fm h207 n0 Z207 FX_207 hBJ0_207 A207 Fv207 Fc207 V207 (by have := hkJ0; omega) gn_b1 gn_vJ0 nbJ0 ⟨by decide, by decide⟩ ⟨by decide, by decide⟩ nl207_211 nl207_212 nl207_209 nl207_210) (W := 0) (by decide) (by decide) (ce := 5) (sl := 64) rfl rfl (by decide) (by decide) rfl (Bld_exa hBJ0_207) e207 rfl pd_35 rfl (Nat.le_refl _) rfl (fun rv213 T213 L213 X213 Q213 => ?_)
            obtain ⟨w213, z2213, q213, Nq213, Kq213, P213_0, xp213_0, xp213_1, xp213_2⟩ := Q213
            have N213 := Fr.app N177 Nq213
            have ne213_214 : ¬ (b207 = w213) := xp213_0 b207 A207.lt (Ne.symm nl207_209)
            have ne213_215 : ¬ (bb207 = w213) := xp213_0 bb207 V207.lt (Ne.symm nl207_210)
            have ne213_216 : ¬ (a1 = w213) := xp213_0 a1 (Str_lt0 hStrJ0_207) naJ0
            have ne213_217 : ¬ (v1_ = w213) := xp213_0 v1_ (Str_lt1 hStrJ0_207) nvJ0
            have sz_w213 := own_msz xp213_0 sz_vJ0 K207.1
            have gn_w213 := xp213_1
            have hs213 : ∀ x ∈ [b1, vJ0], Safe Z own_EL _ _ x := (sfS (Safe.exa C.hZ.alike (Bld_exa hBJ0_207) (by decide) (by decide)) (sfS sf207_208 sf0))
            have sf213_218 := Safe.keep Kq213 hs213 ch207.1 sf207_208
            have sf213_219 := Safe.keep Kq213 hs213 ch207.1 (own_msf xp213_0 sf207_208)
            have ch213 := ch207.1.keep Kq213 hs213
            have FX_213 := FX_keep FX_207 Kq213 ((allS (Bld_pl0 hBJ0_207) (allS (Bld_pl1 hBJ0_207) all0)))
            have hStrJ0_213 := Str_keep hStrJ0_207 Kq213 (ninS ne1_3 (ninS naJ0 nin0)) (ninS ne1_4 (ninS nvJ0 nin0))
            have A207_213 := A207.keep Kq213
            have Fc207_213 := Fc207.keep Kq213 (ninS (Ne.symm nl207_211) (ninS (Ne.symm nl207_209) nin0))
            have Fv207_213 := Fv207.keep Kq213 (ninS (Ne.symm nl207_211) (ninS (Ne.symm nl207_209) nin0))
            have V207_213 := V207.keep Kq213 (ninS (Ne.symm nl207_212) (ninS (Ne.symm nl207_210) nin0))
            have Z213 := Nat.le_trans Z207 Kq213.1
            have Kz213 := Nat.le_trans Kz207 Kq213.1
            have K213 := K207.trans Kq213 (allS (Or.inr sz_b1) (allS (Or.inr sz_vJ0) all0))
            subst q213
            show Go p.tables e below _ (T213.setTop (mkF m 90 #[.val (.ref a1), .val (.ref b1), .val (.int (0 : Int32)), .val (.int (own_g xs (0 : Int32)))] [(.ref b1)]))
            refine g_pop (pc' := 91) C X213 d5_90 rfl rfl ?_
            refine g_goto (pc' := 100) C X213 d5_91 (by decide) (by decide) ?_
            refine g_iinc (pc' := 103) (Ls' := #[.val (.ref a1), .val (.ref b1), .val (.int ((0 : Int32) + (1 : Int32))), .val (.int (own_g xs (0 : Int32)))]) C X213 d5_100 rfl rfl rfl ?_
            refine g_goto (pc' := 14) C X213 d5_103 (by decide) (by decide) ?_
            exact J1 _ _ _ _ _ w213 z2213 (cJ0 ++ [(92 : Int32), (92 : Int32)]) C (X213.mono (by decide) (by decide)) hS rfl Kz213 ch213 sf213_219 N213 Z213 K213 FX_213 hStrJ0_213 P213_0 sz_w213 gn_w213 xp213_2 ne213_216 ne213_217 (own_turn hRJ0 (Nat.le_trans hl4 (by decide)) c176 (by decide) (own_es3 c178 c192 c206)) (by have := hkJ0; rw [List.length_append]; show cJ0.length + 2 ≤ _; omega)
          · refine g_lswN (pc' := 94) C X177 d5_29 rfl (own_lsN c178 c192 c206) (by decide) (by decide) ?_
            refine g_aloadN (pc' := 95) C X177 d5_94 rfl rfl rfl ?_
            refine g_iloadN (pc' := 96) C X177 d5_95 rfl rfl ?_
            refine g_callV (b := b1) (z := (⟨"java/lang/StringBuilder", "append", "(C)Ljava/lang/StringBuilder;"⟩ : MethodName)) (y := (⟨"java/lang/StringBuilder", "append", "(C)Ljava/lang/StringBuilder;"⟩ : MethodName)) (argsL := [(.int (own_g xs (0 : Int32)))]) (st := []) (pc' := 99) C X177 d5_96 (wq hw 201 rfl) (wq hw 202 rfl) (notFace_of_selects (args := #[]) (mvT C.hZ (wq hw 204 rfl))) (wq hw 204 rfl) (wq hw 203 rfl) (wq hw 33 rfl) (wq hw 205 rfl) (by decide) (rmaps l Z a0 hw [] b1 (own_g xs (0 : Int32)) vJ0 zJ0 cJ0 cs_ fm HJ0 n0 ZJ0 FXJ0 hBJ0 (by have := hkJ0; omega) gn_b1 gn_vJ0 nbJ0 (own_g_all hStr.2.1 (⟨by decide, by decide⟩ : own_ch 0) _)) (W := 0) (by decide) (by decide) (ce := 4) (sl := 92) rfl rfl (by decide) (by decide) rfl (Bld_exa hBJ0) e177 rfl pd_36 rfl (Nat.le_refl _) rfl (fun rv220 T220 L220 X220 Q220 => ?_)
            obtain ⟨w220, z2220, q220, Nq220, Kq220, P220_0, xp220_0, xp220_1, xp220_2⟩ := Q220
            have N220 := Fr.app N177 Nq220
            have ne220_221 : ¬ (a1 = w220) := xp220_0 a1 (Str_lt0 hStrJ0) naJ0
            have ne220_222 : ¬ (v1_ = w220) := xp220_0 v1_ (Str_lt1 hStrJ0) nvJ0
            have sz_w220 := own_msz xp220_0 sz_vJ0 KJ0.1
            have gn_w220 := xp220_1
            have hs220 : ∀ x ∈ [b1, vJ0], Safe Z own_EL _ _ x := (sfS (Safe.exa C.hZ.alike (Bld_exa hBJ0) (by decide) (by decide)) (sfS sfJ0 sf0))
            have sf220_223 := Safe.keep Kq220 hs220 chJ0 sfJ0
            have sf220_224 := Safe.keep Kq220 hs220 chJ0 (own_msf xp220_0 sfJ0)
            have ch220 := chJ0.keep Kq220 hs220
            have FX_220 := FX_keep FXJ0 Kq220 ((allS (Bld_pl0 hBJ0) (allS (Bld_pl1 hBJ0) all0)))
            have hStrJ0_220 := Str_keep hStrJ0 Kq220 (ninS ne1_3 (ninS naJ0 nin0)) (ninS ne1_4 (ninS nvJ0 nin0))
            have Z220 := Nat.le_trans ZJ0 Kq220.1
            have Kz220 := Nat.le_trans KzJ0 Kq220.1
            have K220 := KJ0.trans Kq220 (allS (Or.inr sz_b1) (allS (Or.inr sz_vJ0) all0))
            subst q220
            show Go p.tables e below _ (T220.setTop (mkF m 99 #[.val (.ref a1), .val (.ref b1), .val (.int (0 : Int32)), .val (.int (own_g xs (0 : Int32)))] [(.ref b1)]))
            refine g_pop (pc' := 100) C X220 d5_99 rfl rfl ?_
            refine g_iinc (pc' := 103) (Ls' := #[.val (.ref a1), .val (.ref b1), .val (.int ((0 : Int32) + (1 : Int32))), .val (.int (own_g xs (0 : Int32)))]) C X220 d5_100 rfl rfl rfl ?_
            refine g_goto (pc' := 14) C X220 d5_103 (by decide) (by decide) ?_
            exact J1 _ _ _ _ _ w220 z2220 (cJ0 ++ [(own_g xs (0 : Int32))]) C (X220.mono (by decide) (by decide)) hS rfl Kz220 ch220 sf220_224 N220 Z220 K220 FX_220 hStrJ0_220 P220_0 sz_w220 gn_w220 xp220_2 ne220_221 ne220_222 (own_turn hRJ0 (Nat.le_trans hl4 (by decide)) c176 (by decide) (own_es4 c178 c192 c206)) (by have := hkJ0; rw [List.length_append]; show cJ0.length + 1 ≤ _; omega)
    · refine g_icmpY (pc' := 106) C X175 d5_19 (flt c176).2.1 (by decide) (by decide) ?_
      exact JE _ _ _ _ _ vJ0 zJ0 cJ0 _ _ C (X175.mono (by decide) (by decide)) hS e175 KzJ0 chJ0 sfJ0 N175 ZJ0 KJ0 FXJ0 hStrJ0 hBJ0 sz_vJ0 gn_vJ0 nbJ0 naJ0 nvJ0 (own_fin_ hRJ0 (Nat.le_trans hl4 (by decide)) c176 (by decide))
  exact J0 _ _ _ _ _ w6 (own_n xs) [] C (X6.mono (by decide) (by decide)) hS rfl Kz6 ch6 sf6_11 N6 Z6 K6 FX_6 hStr_6 P6_0 sz_w6 gn_w6 ne6_7 ne6_8 ne6_9 rfl (Nat.le_refl _)
theorem d1_0 : decode method_3_code 0 = .ok (.iload_n 0, 1) := by decide +kernel
theorem d1_1 : decode method_3_code 1 = .ok (.iconst 3, 1) := by decide +kernel
theorem d1_2 : decode method_3_code 2 = .ok (.iand, 1) := by decide +kernel
theorem d1_3 : decode method_3_code 3 = .ok (.istore_n 1, 1) := by decide +kernel
theorem d1_4 : decode method_3_code 4 = .ok (.iload_n 1, 1) := by decide +kernel
theorem d1_5 : decode method_3_code 5 = .ok (.ifCond .ne 6, 3) := by decide +kernel
theorem d1_8 : decode method_3_code 8 = .ok (.bipush 10, 2) := by decide +kernel
theorem d1_10 : decode method_3_code 10 = .ok (.ireturn, 1) := by decide +kernel
theorem d1_11 : decode method_3_code 11 = .ok (.iload_n 1, 1) := by decide +kernel
theorem d1_12 : decode method_3_code 12 = .ok (.iconst 1, 1) := by decide +kernel
theorem d1_13 : decode method_3_code 13 = .ok (.if_icmp .ne 6, 3) := by decide +kernel
theorem d1_16 : decode method_3_code 16 = .ok (.bipush 13, 2) := by decide +kernel
theorem d1_18 : decode method_3_code 18 = .ok (.ireturn, 1) := by decide +kernel
theorem d1_19 : decode method_3_code 19 = .ok (.iload_n 1, 1) := by decide +kernel
theorem d1_20 : decode method_3_code 20 = .ok (.iconst 2, 1) := by decide +kernel
theorem d1_21 : decode method_3_code 21 = .ok (.if_icmp .ne 6, 3) := by decide +kernel
theorem d1_24 : decode method_3_code 24 = .ok (.bipush 92, 2) := by decide +kernel
theorem d1_26 : decode method_3_code 26 = .ok (.ireturn, 1) := by decide +kernel
theorem d1_27 : decode method_3_code 27 = .ok (.iload_n 0, 1) := by decide +kernel
theorem d1_28 : decode method_3_code 28 = .ok (.iconst 2, 1) := by decide +kernel
theorem d1_29 : decode method_3_code 29 = .ok (.iushr, 1) := by decide +kernel
theorem d1_30 : decode method_3_code 30 = .ok (.i2c, 1) := by decide +kernel
theorem d1_31 : decode method_3_code 31 = .ok (.ireturn, 1) := by decide +kernel
def Fpk (p1 : Int32) : Int32 := (if (p1 &&& (3 : Int32)) = (0 : Int32) then (10 : Int32) else (if (p1 &&& (3 : Int32)) = (1 : Int32) then (13 : Int32) else (if (p1 &&& (3 : Int32)) = (2 : Int32) then (92 : Int32) else (nar .char ((p1.toUInt32 >>> ((2 : Int32) &&& 31).toUInt32).toInt32).toUInt32.toUInt16.toUInt32.toInt32))))
theorem Fpk_l0 (p1 : Int32) (h0 : (p1 &&& (3 : Int32)) = (0 : Int32)) : Fpk p1 = (10 : Int32) := by
  unfold Fpk; rw [if_pos h0]
theorem Fpk_l1 (p1 : Int32) (h0 : ¬ ((p1 &&& (3 : Int32)) = (0 : Int32))) (h1 : (p1 &&& (3 : Int32)) = (1 : Int32)) : Fpk p1 = (13 : Int32) := by
  unfold Fpk; rw [if_neg h0, if_pos h1]
theorem Fpk_l2 (p1 : Int32) (h0 : ¬ ((p1 &&& (3 : Int32)) = (0 : Int32))) (h1 : ¬ ((p1 &&& (3 : Int32)) = (1 : Int32))) (h2 : (p1 &&& (3 : Int32)) = (2 : Int32)) : Fpk p1 = (92 : Int32) := by
  unfold Fpk; rw [if_neg h0, if_neg h1, if_pos h2]
theorem Fpk_l3 (p1 : Int32) (h0 : ¬ ((p1 &&& (3 : Int32)) = (0 : Int32))) (h1 : ¬ ((p1 &&& (3 : Int32)) = (1 : Int32))) (h2 : ¬ ((p1 &&& (3 : Int32)) = (2 : Int32))) : Fpk p1 = (nar .char ((p1.toUInt32 >>> ((2 : Int32) &&& 31).toUInt32).toInt32).toUInt32.toUInt16.toUInt32.toInt32) := by
  unfold Fpk; rw [if_neg h0, if_neg h1, if_neg h2]
theorem ef_pk (m : MethodId) (p1 : Int32) : entryFrame m #[(.int p1)] 2 = mkF m 0 #[.val (.int p1), .unset] [] := by first | (simp [entryFrame, mkF, argsToLocals, Value.category]; done) | rfl
def Q_pk (Z : State) (p1 : Int32) (cs_ : Int32) (fm : Value) (h0 : Heap) (n0 : Nat) (v : Option Value) (h : Heap) (L : List Loc) : Prop := v = some (.int (Fpk p1)) ∧ Fr n0 L ∧ h = h0
set_option maxRecDepth 65536 in
set_option maxHeartbeats 40000000 in
theorem rmpk (l : Launch) (Z : State) (a0 : Array Value) (hw : ∀ d ∈ tables_1, d.before a0 Z = true) (ws : List Jvm.Cond) (p1 : Int32) (cs_ : Int32) (fm : Value) (h0 : Heap) (n0 : Nat) (hF : FX Z h0 cs_ fm) :
    MetFree l (⟨"org/vouchsafe/cli/OutputEscapePinLaw", "pick", "(I)C"⟩ : MethodName) (head1 (Jvm.Cond.code (⟨"org/vouchsafe/cli/OutputEscapePinLaw", "pick", "(I)C"⟩ : MethodName) method_3_code 2 (some .char) :: ws) ({ frames := 0, cells := 0, slots := 0, locals := 0 } : Room)) (fun a U => a = #[(.int p1)] ∧ Z.Warmed39 U.vm ∧ U.heap = h0) (fun _ _ _ _ _ => True) (fun _ U o U' => ∃ v L, o = .returned v ∧ Q_pk Z p1 cs_ fm h0 n0 v U'.heap L ∧ FrameEnd U o U' L ({ frames := 0, cells := 0, slots := 0, locals := 0 } : Room).cells ({ frames := 0, cells := 0, slots := 0, locals := 0 } : Room).slots) := by
  refine met_of (Ls := #[.val (.int p1), .unset]) (plainFor_of_name (by first | (simp [plainName, overriddenIn]; done) | decide +kernel)) (fun m => ef_pk m p1) ?_
  intro p e s m below meth c T0 C X0 e0
  obtain ⟨S_cs, hcs, S_fm, hfm, S_ad, S_hi, S_lo⟩ := id hF
  have N0 := Fr.nil n0
  refine g_iloadN (pc' := 1) C X0 d1_0 rfl rfl ?_
  refine g_iconst (pc' := 2) (v := (3 : Int32)) C X0 d1_1 rfl rfl ?_
  refine g_iand (pc' := 3) C X0 d1_2 rfl ?_
  refine g_istoreN (pc' := 4) (Ls' := #[.val (.int p1), .val (.int (p1 &&& (3 : Int32)))]) C X0 d1_3 rfl rfl ?_
  refine g_iloadN (pc' := 5) C X0 d1_4 rfl rfl ?_
  by_cases c1 : (p1 &&& (3 : Int32)) = (0 : Int32)
  · refine g_ifN (pc' := 8) C X0 d1_5 (teq c1).2 rfl ?_
    refine g_bipush (pc' := 10) (v := (10 : Int32)) C X0 d1_8 rfl rfl ?_
    exact g_retN C X0 (by simp) d1_10 (by decide) (by decide) ⟨congrArg (fun z => some (Value.int z)) (Fpk_l0 p1 c1).symm, N0, e0⟩
  · refine g_ifY (pc' := 11) C X0 d1_5 (feq c1).2 (by decide) (by decide) ?_
    refine g_iloadN (pc' := 12) C X0 d1_11 rfl rfl ?_
    refine g_iconst (pc' := 13) (v := (1 : Int32)) C X0 d1_12 rfl rfl ?_
    by_cases c2 : (p1 &&& (3 : Int32)) = (1 : Int32)
    · refine g_icmpN (pc' := 16) C X0 d1_13 (teq c2).2 rfl ?_
      refine g_bipush (pc' := 18) (v := (13 : Int32)) C X0 d1_16 rfl rfl ?_
      exact g_retN C X0 (by simp) d1_18 (by decide) (by decide) ⟨congrArg (fun z => some (Value.int z)) (Fpk_l1 p1 c1 c2).symm, N0, e0⟩
    · refine g_icmpY (pc' := 19) C X0 d1_13 (feq c2).2 (by decide) (by decide) ?_
      refine g_iloadN (pc' := 20) C X0 d1_19 rfl rfl ?_
      refine g_iconst (pc' := 21) (v := (2 : Int32)) C X0 d1_20 rfl rfl ?_
      by_cases c3 : (p1 &&& (3 : Int32)) = (2 : Int32)
      · refine g_icmpN (pc' := 24) C X0 d1_21 (teq c3).2 rfl ?_
        refine g_bipush (pc' := 26) (v := (92 : Int32)) C X0 d1_24 rfl rfl ?_
        exact g_retN C X0 (by simp) d1_26 (by decide) (by decide) ⟨congrArg (fun z => some (Value.int z)) (Fpk_l2 p1 c1 c2 c3).symm, N0, e0⟩
      · refine g_icmpY (pc' := 27) C X0 d1_21 (feq c3).2 (by decide) (by decide) ?_
        refine g_iloadN (pc' := 28) C X0 d1_27 rfl rfl ?_
        refine g_iconst (pc' := 29) (v := (2 : Int32)) C X0 d1_28 rfl rfl ?_
        refine g_iushr (pc' := 30) C X0 d1_29 rfl ?_
        refine g_i2c (pc' := 31) C X0 d1_30 rfl ?_
        exact g_retN C X0 (by simp) d1_31 (by decide) (by decide) ⟨congrArg (fun z => some (Value.int z)) (Fpk_l3 p1 c1 c2 c3).symm, N0, e0⟩
theorem own_pkc (p : Int32) : own_ch (Fpk p) := by
  have n : ∀ y : Int32, own_ch (nar .char y) := fun y => by
    have a := c_i2c y
    exact ⟨by show 0 ≤ (y.toUInt32.toUInt16.toUInt32.toInt32).toInt; omega, by show (y.toUInt32.toUInt16.toUInt32.toInt32).toInt ≤ 65535; omega⟩
  unfold Fpk
  split
  · exact ⟨by decide, by decide⟩
  · split
    · exact ⟨by decide, by decide⟩
    · split
      · exact ⟨by decide, by decide⟩
      · exact n _
def own_pt (lx : List Int32) (p2 p3 : Int32) : List Int32 := (if p3 = (10 : Int32) then (own_s (own_s lx p2 (92 : Int32)) (p2 + (1 : Int32)) (110 : Int32)) else (if p3 = (13 : Int32) then (own_s (own_s lx p2 (92 : Int32)) (p2 + (1 : Int32)) (114 : Int32)) else (if p3 = (92 : Int32) then (own_s (own_s lx p2 (92 : Int32)) (p2 + (1 : Int32)) (92 : Int32)) else (own_s lx p2 p3))))
theorem d43_0 : decode method_4_code 0 = .ok (.iload_n 2, 1) := by decide +kernel
theorem d43_1 : decode method_4_code 1 = .ok (.bipush 10, 2) := by decide +kernel
theorem d43_3 : decode method_4_code 3 = .ok (.if_icmp .ne 19, 3) := by decide +kernel
theorem d43_6 : decode method_4_code 6 = .ok (.aload_n 0, 1) := by decide +kernel
theorem d43_7 : decode method_4_code 7 = .ok (.iload_n 1, 1) := by decide +kernel
theorem d43_8 : decode method_4_code 8 = .ok (.bipush 92, 2) := by decide +kernel
theorem d43_10 : decode method_4_code 10 = .ok (.castore, 1) := by decide +kernel
theorem d43_11 : decode method_4_code 11 = .ok (.aload_n 0, 1) := by decide +kernel
theorem d43_12 : decode method_4_code 12 = .ok (.iload_n 1, 1) := by decide +kernel
theorem d43_13 : decode method_4_code 13 = .ok (.iconst 1, 1) := by decide +kernel
theorem d43_14 : decode method_4_code 14 = .ok (.iadd, 1) := by decide +kernel
theorem d43_15 : decode method_4_code 15 = .ok (.bipush 110, 2) := by decide +kernel
theorem d43_17 : decode method_4_code 17 = .ok (.castore, 1) := by decide +kernel
theorem d43_18 : decode method_4_code 18 = .ok (.iload_n 1, 1) := by decide +kernel
theorem d43_19 : decode method_4_code 19 = .ok (.iconst 2, 1) := by decide +kernel
theorem d43_20 : decode method_4_code 20 = .ok (.iadd, 1) := by decide +kernel
theorem d43_21 : decode method_4_code 21 = .ok (.ireturn, 1) := by decide +kernel
theorem d43_22 : decode method_4_code 22 = .ok (.iload_n 2, 1) := by decide +kernel
theorem d43_23 : decode method_4_code 23 = .ok (.bipush 13, 2) := by decide +kernel
theorem d43_25 : decode method_4_code 25 = .ok (.if_icmp .ne 19, 3) := by decide +kernel
theorem d43_28 : decode method_4_code 28 = .ok (.aload_n 0, 1) := by decide +kernel
theorem d43_29 : decode method_4_code 29 = .ok (.iload_n 1, 1) := by decide +kernel
theorem d43_30 : decode method_4_code 30 = .ok (.bipush 92, 2) := by decide +kernel
theorem d43_32 : decode method_4_code 32 = .ok (.castore, 1) := by decide +kernel
theorem d43_33 : decode method_4_code 33 = .ok (.aload_n 0, 1) := by decide +kernel
theorem d43_34 : decode method_4_code 34 = .ok (.iload_n 1, 1) := by decide +kernel
theorem d43_35 : decode method_4_code 35 = .ok (.iconst 1, 1) := by decide +kernel
theorem d43_36 : decode method_4_code 36 = .ok (.iadd, 1) := by decide +kernel
theorem d43_37 : decode method_4_code 37 = .ok (.bipush 114, 2) := by decide +kernel
theorem d43_39 : decode method_4_code 39 = .ok (.castore, 1) := by decide +kernel
theorem d43_40 : decode method_4_code 40 = .ok (.iload_n 1, 1) := by decide +kernel
theorem d43_41 : decode method_4_code 41 = .ok (.iconst 2, 1) := by decide +kernel
theorem d43_42 : decode method_4_code 42 = .ok (.iadd, 1) := by decide +kernel
theorem d43_43 : decode method_4_code 43 = .ok (.ireturn, 1) := by decide +kernel
theorem d43_44 : decode method_4_code 44 = .ok (.iload_n 2, 1) := by decide +kernel
theorem d43_45 : decode method_4_code 45 = .ok (.bipush 92, 2) := by decide +kernel
theorem d43_47 : decode method_4_code 47 = .ok (.if_icmp .ne 19, 3) := by decide +kernel
theorem d43_50 : decode method_4_code 50 = .ok (.aload_n 0, 1) := by decide +kernel
theorem d43_51 : decode method_4_code 51 = .ok (.iload_n 1, 1) := by decide +kernel
theorem d43_52 : decode method_4_code 52 = .ok (.bipush 92, 2) := by decide +kernel
theorem d43_54 : decode method_4_code 54 = .ok (.castore, 1) := by decide +kernel
theorem d43_55 : decode method_4_code 55 = .ok (.aload_n 0, 1) := by decide +kernel
theorem d43_56 : decode method_4_code 56 = .ok (.iload_n 1, 1) := by decide +kernel
theorem d43_57 : decode method_4_code 57 = .ok (.iconst 1, 1) := by decide +kernel
theorem d43_58 : decode method_4_code 58 = .ok (.iadd, 1) := by decide +kernel
theorem d43_59 : decode method_4_code 59 = .ok (.bipush 92, 2) := by decide +kernel
theorem d43_61 : decode method_4_code 61 = .ok (.castore, 1) := by decide +kernel
theorem d43_62 : decode method_4_code 62 = .ok (.iload_n 1, 1) := by decide +kernel
theorem d43_63 : decode method_4_code 63 = .ok (.iconst 2, 1) := by decide +kernel
theorem d43_64 : decode method_4_code 64 = .ok (.iadd, 1) := by decide +kernel
theorem d43_65 : decode method_4_code 65 = .ok (.ireturn, 1) := by decide +kernel
theorem d43_66 : decode method_4_code 66 = .ok (.aload_n 0, 1) := by decide +kernel
theorem d43_67 : decode method_4_code 67 = .ok (.iload_n 1, 1) := by decide +kernel
theorem d43_68 : decode method_4_code 68 = .ok (.iload_n 2, 1) := by decide +kernel
theorem d43_69 : decode method_4_code 69 = .ok (.castore, 1) := by decide +kernel
theorem d43_70 : decode method_4_code 70 = .ok (.iload_n 1, 1) := by decide +kernel
theorem d43_71 : decode method_4_code 71 = .ok (.iconst 1, 1) := by decide +kernel
theorem d43_72 : decode method_4_code 72 = .ok (.iadd, 1) := by decide +kernel
theorem d43_73 : decode method_4_code 73 = .ok (.ireturn, 1) := by decide +kernel
def Fpt (p2 : Int32) (p3 : Int32) : Int32 := (if p3 = (10 : Int32) then (p2 + (2 : Int32)) else (if p3 = (13 : Int32) then (p2 + (2 : Int32)) else (if p3 = (92 : Int32) then (p2 + (2 : Int32)) else (p2 + (1 : Int32)))))
theorem Fpt_l0 (p2 : Int32) (p3 : Int32) (h0 : p3 = (10 : Int32)) : Fpt p2 p3 = (p2 + (2 : Int32)) := by
  unfold Fpt; rw [if_pos h0]
theorem Fpt_l1 (p2 : Int32) (p3 : Int32) (h0 : ¬ (p3 = (10 : Int32))) (h1 : p3 = (13 : Int32)) : Fpt p2 p3 = (p2 + (2 : Int32)) := by
  unfold Fpt; rw [if_neg h0, if_pos h1]
theorem Fpt_l2 (p2 : Int32) (p3 : Int32) (h0 : ¬ (p3 = (10 : Int32))) (h1 : ¬ (p3 = (13 : Int32))) (h2 : p3 = (92 : Int32)) : Fpt p2 p3 = (p2 + (2 : Int32)) := by
  unfold Fpt; rw [if_neg h0, if_neg h1, if_pos h2]
theorem Fpt_l3 (p2 : Int32) (p3 : Int32) (h0 : ¬ (p3 = (10 : Int32))) (h1 : ¬ (p3 = (13 : Int32))) (h2 : ¬ (p3 = (92 : Int32))) : Fpt p2 p3 = (p2 + (1 : Int32)) := by
  unfold Fpt; rw [if_neg h0, if_neg h1, if_neg h2]
theorem ef_pt (m : MethodId) (a1 : Addr) (p2 : Int32) (p3 : Int32) : entryFrame m #[(.ref a1), (.int p2), (.int p3)] 3 = mkF m 0 #[.val (.ref a1), .val (.int p2), .val (.int p3)] [] := by first | (simp [entryFrame, mkF, argsToLocals, Value.category]; done) | rfl
def Q_pt (Z : State) (a1 : Addr) (p2 : Int32) (p3 : Int32) (k1 : ClassId) (lx : List Int32) (cs_ : Int32) (fm : Value) (h0 : Heap) (n0 : Nat) (vr : Option Value) (h : Heap) (L : List Loc) : Prop := (vr = some (.int (Fpt p2 p3))) ∧ (Fr n0 L) ∧ (Keep h0 h [a1]) ∧ (Arv Z h a1 k1 .char (8 : Int32) (own_vl (own_pt lx p2 p3)) (.int (0 : Int32)))
set_option maxRecDepth 65536 in
set_option maxHeartbeats 40000000 in
theorem rmpt (l : Launch) (Z : State) (a0 : Array Value) (hw : ∀ d ∈ tables_1, d.before a0 Z = true) (ws : List Jvm.Cond) (a1 : Addr) (p2 : Int32) (p3 : Int32) (k1 : ClassId) (lx : List Int32) (cs_ : Int32) (fm : Value) (h0 : Heap) (n0 : Nat) (Z0 : n0 ≤ h0.size) (hF : FX Z h0 cs_ fm) (V_b : Arv Z h0 a1 k1 .char (8 : Int32) (own_vl lx) (.int (0 : Int32))) (gn_a1 : n0 ≤ a1) (hl0 : ¬ (p2 < (0 : Int32))) (hl1 : p2 < (8 : Int32)) (hl2 : ¬ ((p2 + (1 : Int32)) < (0 : Int32))) (hl3 : (p2 + (1 : Int32)) < (8 : Int32)) (hp3 : own_ch p3) :
    MetFree l (⟨"org/vouchsafe/cli/OutputEscapePinLaw", "put", "([CIC)I"⟩ : MethodName) (head1 (Jvm.Cond.code (⟨"org/vouchsafe/cli/OutputEscapePinLaw", "put", "([CIC)I"⟩ : MethodName) method_4_code 3 (some .int) :: ws) ({ frames := 0, cells := 0, slots := 0, locals := 0 } : Room)) (fun a U => a = #[(.ref a1), (.int p2), (.int p3)] ∧ Z.Warmed39 U.vm ∧ U.heap = h0) (fun _ _ _ _ _ => True) (fun _ U o U' => ∃ v L, o = .returned v ∧ Q_pt Z a1 p2 p3 k1 lx cs_ fm h0 n0 v U'.heap L ∧ FrameEnd U o U' L ({ frames := 0, cells := 0, slots := 0, locals := 0 } : Room).cells ({ frames := 0, cells := 0, slots := 0, locals := 0 } : Room).slots) := by
  refine met_of (Ls := #[.val (.ref a1), .val (.int p2), .val (.int p3)]) (plainFor_of_name (by first | (simp [plainName, overriddenIn]; done) | decide +kernel)) (fun m => ef_pt m a1 p2 p3) ?_
  intro p e s m below meth c T0 C X0 e0
  obtain ⟨S_cs, hcs, S_fm, hfm, S_ad, S_hi, S_lo⟩ := id hF
  have N0 := Fr.nil n0
  have K0 : Keep h0 h0 [a1] := Keep.refl h0 _
  refine g_iloadN (pc' := 1) C X0 d43_0 rfl rfl ?_
  refine g_bipush (pc' := 3) (v := (10 : Int32)) C X0 d43_1 rfl rfl ?_
  by_cases c1 : p3 = (10 : Int32)
  · refine g_icmpN (pc' := 6) C X0 d43_3 (teq c1).2 rfl ?_
    refine g_aloadN (pc' := 7) C X0 d43_6 rfl rfl rfl ?_
    refine g_iloadN (pc' := 8) C X0 d43_7 rfl rfl ?_
    refine g_bipush (pc' := 10) (v := (92 : Int32)) C X0 d43_8 rfl rfl ?_
    refine g_stC (pc' := 11) (i := p2.toNatClampNeg) C X0 d43_10 e0 (V_b.pad (pad_rep _ _ (p2.toNatClampNeg + 1))) ⟨hl0, hl1⟩ rfl own_lts rfl (fun T2 h2 X2 e2 W2 V2q => ?_)
    have V2 : Arv Z h2 a1 k1 .char (8 : Int32) (own_vl (own_s lx p2 (92 : Int32))) (.int (0 : Int32)) := own_vl_set _ _ _ ▸ V2q
    have FX_2 := FX_wr hF W2
    have Z2 := Nat.le_trans Z0 (Nat.le_of_eq W2.size.symm)
    have N2 := Fr.snoc X2 N0 gn_a1
    have K2 := K0.wr W2 (Or.inl (List.mem_of_getElem? (i := 0) rfl))
    refine g_aloadN (pc' := 12) C X2 d43_11 rfl rfl rfl ?_
    refine g_iloadN (pc' := 13) C X2 d43_12 rfl rfl ?_
    refine g_iconst (pc' := 14) (v := (1 : Int32)) C X2 d43_13 rfl rfl ?_
    refine g_iadd (pc' := 15) C X2 d43_14 rfl ?_
    refine g_bipush (pc' := 17) (v := (110 : Int32)) C X2 d43_15 rfl rfl ?_
    refine g_stC (pc' := 18) (i := (p2 + (1 : Int32)).toNatClampNeg) C X2 d43_17 e2 (V2.pad (pad_rep _ _ ((p2 + (1 : Int32)).toNatClampNeg + 1))) ⟨hl2, hl3⟩ rfl own_lts rfl (fun T3 h3 X3 e3 W3 V3q => ?_)
    have V3 : Arv Z h3 a1 k1 .char (8 : Int32) (own_vl (own_s (own_s lx p2 (92 : Int32)) (p2 + (1 : Int32)) (110 : Int32))) (.int (0 : Int32)) := own_vl_set _ _ _ ▸ V3q
    have FX_3 := FX_wr FX_2 W3
    have Z3 := Nat.le_trans Z2 (Nat.le_of_eq W3.size.symm)
    have N3 := Fr.snoc X3 N2 gn_a1
    have K3 := K2.wr W3 (Or.inl (List.mem_of_getElem? (i := 0) rfl))
    refine g_iloadN (pc' := 19) C X3 d43_18 rfl rfl ?_
    refine g_iconst (pc' := 20) (v := (2 : Int32)) C X3 d43_19 rfl rfl ?_
    refine g_iadd (pc' := 21) C X3 d43_20 rfl ?_
    exact g_retI C X3 d43_21 (by decide) (by decide) ⟨congrArg (fun z => some (Value.int z)) (Fpt_l0 p2 p3 c1).symm, N3, (by rw [e3]; exact K3), (by rw [e3]; have aa := V3; unfold own_pt; rw [if_pos c1]; exact aa)⟩
  · refine g_icmpY (pc' := 22) C X0 d43_3 (feq c1).2 (by decide) (by decide) ?_
    refine g_iloadN (pc' := 23) C X0 d43_22 rfl rfl ?_
    refine g_bipush (pc' := 25) (v := (13 : Int32)) C X0 d43_23 rfl rfl ?_
    by_cases c4 : p3 = (13 : Int32)
    · refine g_icmpN (pc' := 28) C X0 d43_25 (teq c4).2 rfl ?_
      refine g_aloadN (pc' := 29) C X0 d43_28 rfl rfl rfl ?_
      refine g_iloadN (pc' := 30) C X0 d43_29 rfl rfl ?_
      refine g_bipush (pc' := 32) (v := (92 : Int32)) C X0 d43_30 rfl rfl ?_
      refine g_stC (pc' := 33) (i := p2.toNatClampNeg) C X0 d43_32 e0 (V_b.pad (pad_rep _ _ (p2.toNatClampNeg + 1))) ⟨hl0, hl1⟩ rfl own_lts rfl (fun T5 h5 X5 e5 W5 V5q => ?_)
      have V5 : Arv Z h5 a1 k1 .char (8 : Int32) (own_vl (own_s lx p2 (92 : Int32))) (.int (0 : Int32)) := own_vl_set _ _ _ ▸ V5q
      have FX_5 := FX_wr hF W5
      have Z5 := Nat.le_trans Z0 (Nat.le_of_eq W5.size.symm)
      have N5 := Fr.snoc X5 N0 gn_a1
      have K5 := K0.wr W5 (Or.inl (List.mem_of_getElem? (i := 0) rfl))
      refine g_aloadN (pc' := 34) C X5 d43_33 rfl rfl rfl ?_
      refine g_iloadN (pc' := 35) C X5 d43_34 rfl rfl ?_
      refine g_iconst (pc' := 36) (v := (1 : Int32)) C X5 d43_35 rfl rfl ?_
      refine g_iadd (pc' := 37) C X5 d43_36 rfl ?_
      refine g_bipush (pc' := 39) (v := (114 : Int32)) C X5 d43_37 rfl rfl ?_
      refine g_stC (pc' := 40) (i := (p2 + (1 : Int32)).toNatClampNeg) C X5 d43_39 e5 (V5.pad (pad_rep _ _ ((p2 + (1 : Int32)).toNatClampNeg + 1))) ⟨hl2, hl3⟩ rfl own_lts rfl (fun T6 h6 X6 e6 W6 V6q => ?_)
      have V6 : Arv Z h6 a1 k1 .char (8 : Int32) (own_vl (own_s (own_s lx p2 (92 : Int32)) (p2 + (1 : Int32)) (114 : Int32))) (.int (0 : Int32)) := own_vl_set _ _ _ ▸ V6q
      have FX_6 := FX_wr FX_5 W6
      have Z6 := Nat.le_trans Z5 (Nat.le_of_eq W6.size.symm)
      have N6 := Fr.snoc X6 N5 gn_a1
      have K6 := K5.wr W6 (Or.inl (List.mem_of_getElem? (i := 0) rfl))
      refine g_iloadN (pc' := 41) C X6 d43_40 rfl rfl ?_
      refine g_iconst (pc' := 42) (v := (2 : Int32)) C X6 d43_41 rfl rfl ?_
      refine g_iadd (pc' := 43) C X6 d43_42 rfl ?_
      exact g_retI C X6 d43_43 (by decide) (by decide) ⟨congrArg (fun z => some (Value.int z)) (Fpt_l1 p2 p3 c1 c4).symm, N6, (by rw [e6]; exact K6), (by rw [e6]; have aa := V6; unfold own_pt; rw [if_neg c1, if_pos c4]; exact aa)⟩
    · refine g_icmpY (pc' := 44) C X0 d43_25 (feq c4).2 (by decide) (by decide) ?_
      refine g_iloadN (pc' := 45) C X0 d43_44 rfl rfl ?_
      refine g_bipush (pc' := 47) (v := (92 : Int32)) C X0 d43_45 rfl rfl ?_
      by_cases c7 : p3 = (92 : Int32)
      · refine g_icmpN (pc' := 50) C X0 d43_47 (teq c7).2 rfl ?_
        refine g_aloadN (pc' := 51) C X0 d43_50 rfl rfl rfl ?_
        refine g_iloadN (pc' := 52) C X0 d43_51 rfl rfl ?_
        refine g_bipush (pc' := 54) (v := (92 : Int32)) C X0 d43_52 rfl rfl ?_
        refine g_stC (pc' := 55) (i := p2.toNatClampNeg) C X0 d43_54 e0 (V_b.pad (pad_rep _ _ (p2.toNatClampNeg + 1))) ⟨hl0, hl1⟩ rfl own_lts rfl (fun T8 h8 X8 e8 W8 V8q => ?_)
        have V8 : Arv Z h8 a1 k1 .char (8 : Int32) (own_vl (own_s lx p2 (92 : Int32))) (.int (0 : Int32)) := own_vl_set _ _ _ ▸ V8q
        have FX_8 := FX_wr hF W8
        have Z8 := Nat.le_trans Z0 (Nat.le_of_eq W8.size.symm)
        have N8 := Fr.snoc X8 N0 gn_a1
        have K8 := K0.wr W8 (Or.inl (List.mem_of_getElem? (i := 0) rfl))
        refine g_aloadN (pc' := 56) C X8 d43_55 rfl rfl rfl ?_
        refine g_iloadN (pc' := 57) C X8 d43_56 rfl rfl ?_
        refine g_iconst (pc' := 58) (v := (1 : Int32)) C X8 d43_57 rfl rfl ?_
        refine g_iadd (pc' := 59) C X8 d43_58 rfl ?_
        refine g_bipush (pc' := 61) (v := (92 : Int32)) C X8 d43_59 rfl rfl ?_
        refine g_stC (pc' := 62) (i := (p2 + (1 : Int32)).toNatClampNeg) C X8 d43_61 e8 (V8.pad (pad_rep _ _ ((p2 + (1 : Int32)).toNatClampNeg + 1))) ⟨hl2, hl3⟩ rfl own_lts rfl (fun T9 h9 X9 e9 W9 V9q => ?_)
        have V9 : Arv Z h9 a1 k1 .char (8 : Int32) (own_vl (own_s (own_s lx p2 (92 : Int32)) (p2 + (1 : Int32)) (92 : Int32))) (.int (0 : Int32)) := own_vl_set _ _ _ ▸ V9q
        have FX_9 := FX_wr FX_8 W9
        have Z9 := Nat.le_trans Z8 (Nat.le_of_eq W9.size.symm)
        have N9 := Fr.snoc X9 N8 gn_a1
        have K9 := K8.wr W9 (Or.inl (List.mem_of_getElem? (i := 0) rfl))
        refine g_iloadN (pc' := 63) C X9 d43_62 rfl rfl ?_
        refine g_iconst (pc' := 64) (v := (2 : Int32)) C X9 d43_63 rfl rfl ?_
        refine g_iadd (pc' := 65) C X9 d43_64 rfl ?_
        exact g_retI C X9 d43_65 (by decide) (by decide) ⟨congrArg (fun z => some (Value.int z)) (Fpt_l2 p2 p3 c1 c4 c7).symm, N9, (by rw [e9]; exact K9), (by rw [e9]; have aa := V9; unfold own_pt; rw [if_neg c1, if_neg c4, if_pos c7]; exact aa)⟩
      · refine g_icmpY (pc' := 66) C X0 d43_47 (feq c7).2 (by decide) (by decide) ?_
        refine g_aloadN (pc' := 67) C X0 d43_66 rfl rfl rfl ?_
        refine g_iloadN (pc' := 68) C X0 d43_67 rfl rfl ?_
        refine g_iloadN (pc' := 69) C X0 d43_68 rfl rfl ?_
        refine g_stC (pc' := 70) (i := p2.toNatClampNeg) C X0 d43_69 e0 (V_b.pad (pad_rep _ _ (p2.toNatClampNeg + 1))) ⟨hl0, hl1⟩ rfl own_lts rfl (fun T10 h10 X10 e10 W10 V10q => ?_)
        have V10 : Arv Z h10 a1 k1 .char (8 : Int32) (own_vl (own_s lx p2 (nar .char p3))) (.int (0 : Int32)) := own_vl_set _ _ _ ▸ V10q
        have FX_10 := FX_wr hF W10
        have Z10 := Nat.le_trans Z0 (Nat.le_of_eq W10.size.symm)
        have N10 := Fr.snoc X10 N0 gn_a1
        have K10 := K0.wr W10 (Or.inl (List.mem_of_getElem? (i := 0) rfl))
        refine g_iloadN (pc' := 71) C X10 d43_70 rfl rfl ?_
        refine g_iconst (pc' := 72) (v := (1 : Int32)) C X10 d43_71 rfl rfl ?_
        refine g_iadd (pc' := 73) C X10 d43_72 rfl ?_
        exact g_retI C X10 d43_73 (by decide) (by decide) ⟨congrArg (fun z => some (Value.int z)) (Fpt_l3 p2 p3 c1 c4 c7).symm, N10, (by rw [e10]; exact K10), (by rw [e10]; have aa := V10; rw [own_narc hp3] at aa; unfold own_pt; rw [if_neg c1, if_neg c4, if_neg c7]; exact aa)⟩
theorem d18_0 : decode method_5_code 0 = .ok (.iload_n 3, 1) := by decide +kernel
theorem d18_1 : decode method_5_code 1 = .ok (.iload_n 2, 1) := by decide +kernel
theorem d18_2 : decode method_5_code 2 = .ok (.if_icmp .ge 14, 3) := by decide +kernel
theorem d18_5 : decode method_5_code 5 = .ok (.aload_n 0, 1) := by decide +kernel
theorem d18_6 : decode method_5_code 6 = .ok (.iload_n 3, 1) := by decide +kernel
theorem d18_7 : decode method_5_code 7 = .ok (.invokevirtual 37, 3) := by decide +kernel
theorem d18_10 : decode method_5_code 10 = .ok (.aload_n 1, 1) := by decide +kernel
theorem d18_11 : decode method_5_code 11 = .ok (.iload_n 3, 1) := by decide +kernel
theorem d18_12 : decode method_5_code 12 = .ok (.caload, 1) := by decide +kernel
theorem d18_13 : decode method_5_code 13 = .ok (.if_icmp .ne 7, 3) := by decide +kernel
theorem d18_16 : decode method_5_code 16 = .ok (.iconst 1, 1) := by decide +kernel
theorem d18_17 : decode method_5_code 17 = .ok (.goto 4, 3) := by decide +kernel
theorem d18_21 : decode method_5_code 21 = .ok (.ireturn, 1) := by decide +kernel
theorem d18_20 : decode method_5_code 20 = .ok (.iconst 0, 1) := by decide +kernel
def Fsm (p3 : Int32) (p4 : Int32) (xs : List Int32) (lx : List Int32) : Int32 := (if p4 < p3 then (if (own_g xs p4) = (own_g lx p4) then (1 : Int32) else (0 : Int32)) else (1 : Int32))
theorem Fsm_l0 (p3 : Int32) (p4 : Int32) (xs : List Int32) (lx : List Int32) (h0 : p4 < p3) (h1 : (own_g xs p4) = (own_g lx p4)) : Fsm p3 p4 xs lx = (1 : Int32) := by
  unfold Fsm; rw [if_pos h0, if_pos h1]
theorem Fsm_l1 (p3 : Int32) (p4 : Int32) (xs : List Int32) (lx : List Int32) (h0 : p4 < p3) (h1 : ¬ ((own_g xs p4) = (own_g lx p4))) : Fsm p3 p4 xs lx = (0 : Int32) := by
  unfold Fsm; rw [if_pos h0, if_neg h1]
theorem Fsm_l2 (p3 : Int32) (p4 : Int32) (xs : List Int32) (lx : List Int32) (h0 : ¬ (p4 < p3)) : Fsm p3 p4 xs lx = (1 : Int32) := by
  unfold Fsm; rw [if_neg h0]
theorem ef_sm (m : MethodId) (a1 : Addr) (a2 : Addr) (p3 : Int32) (p4 : Int32) : entryFrame m #[(.ref a1), (.ref a2), (.int p3), (.int p4)] 4 = mkF m 0 #[.val (.ref a1), .val (.ref a2), .val (.int p3), .val (.int p4)] [] := by first | (simp [entryFrame, mkF, argsToLocals, Value.category]; done) | rfl
def Q_sm (Z : State) (a1 : Addr) (a2 : Addr) (p3 : Int32) (p4 : Int32) (v1_ : Addr) (xs : List Int32) (k1 : ClassId) (lx : List Int32) (cs_ : Int32) (fm : Value) (h0 : Heap) (n0 : Nat) (v : Option Value) (h : Heap) (L : List Loc) : Prop := v = some (.int (Fsm p3 p4 xs lx)) ∧ Fr n0 L ∧ h = h0
set_option maxRecDepth 65536 in
set_option maxHeartbeats 40000000 in
theorem rmsm (l : Launch) (Z : State) (a0 : Array Value) (hw : ∀ d ∈ tables_1, d.before a0 Z = true) (ws : List Jvm.Cond) (a1 : Addr) (a2 : Addr) (p3 : Int32) (p4 : Int32) (v1_ : Addr) (xs : List Int32) (k1 : ClassId) (lx : List Int32) (cs_ : Int32) (fm : Value) (h0 : Heap) (n0 : Nat) (hF : FX Z h0 cs_ fm) (hStr : Str Z h0 a1 v1_ xs) (V_b : Arv Z h0 a2 k1 .char (8 : Int32) (own_vl lx) (.int (0 : Int32))) (hle : p3 = own_n xs) (hk0 : ¬ (p4 < (0 : Int32))) (hk9 : p4 < (8 : Int32)) :
    MetFree l (⟨"org/vouchsafe/cli/OutputEscapePinLaw", "same", "(Ljava/lang/String;[CII)Z"⟩ : MethodName) (head1 (Jvm.Cond.code (⟨"org/vouchsafe/cli/OutputEscapePinLaw", "same", "(Ljava/lang/String;[CII)Z"⟩ : MethodName) method_5_code 4 (some .boolean) :: ws) ({ frames := 5, cells := 0, slots := 0, locals := 66 } : Room)) (fun a U => a = #[(.ref a1), (.ref a2), (.int p3), (.int p4)] ∧ Z.Warmed39 U.vm ∧ U.heap = h0) (fun _ _ _ _ _ => True) (fun _ U o U' => ∃ v L, o = .returned v ∧ Q_sm Z a1 a2 p3 p4 v1_ xs k1 lx cs_ fm h0 n0 v U'.heap L ∧ FrameEnd U o U' L ({ frames := 5, cells := 0, slots := 0, locals := 66 } : Room).cells ({ frames := 5, cells := 0, slots := 0, locals := 66 } : Room).slots) := by
  refine met_of (Ls := #[.val (.ref a1), .val (.ref a2), .val (.int p3), .val (.int p4)]) (plainFor_of_name (by first | (simp [plainName, overriddenIn]; done) | decide +kernel)) (fun m => ef_sm m a1 a2 p3 p4) ?_
  intro p e s m below meth c T0 C X0 e0
  obtain ⟨S_cs, hcs, S_fm, hfm, S_ad, S_hi, S_lo⟩ := id hF
  have N0 := Fr.nil n0
  refine g_iloadN (pc' := 1) C X0 d18_0 rfl rfl ?_
  refine g_iloadN (pc' := 2) C X0 d18_1 rfl rfl ?_
  by_cases c1 : p4 < p3
  · refine g_icmpN (pc' := 5) C X0 d18_2 (tlt c1).2.1 rfl ?_
    refine g_aloadN (pc' := 6) C X0 d18_5 rfl rfl rfl ?_
    refine g_iloadN (pc' := 7) C X0 d18_6 rfl rfl ?_
    refine g_callV (b := a1) (z := (⟨"java/lang/String", "charAt", "(I)C"⟩ : MethodName)) (y := (⟨"java/lang/String", "charAt", "(I)C"⟩ : MethodName)) (argsL := [(.int p4)]) (st := []) (pc' := 10) C X0 d18_7 (wq hw 223 rfl) (wq hw 121 rfl) (notFace_of_selects (args := #[]) (mvT C.hZ (wq hw 123 rfl))) (wq hw 123 rfl) (wq hw 122 rfl) (wq hw 8 rfl) (wq hw 124 rfl) (by decide) (rmsca l Z a0 hw [] a1 p4 v1_ xs cs_ fm h0 n0 hF hStr hk0 (hle ▸ c1)) (W := 0) (by decide) (by decide) (ce := 0) (sl := 0) rfl rfl (by decide) (by decide) rfl (Str_exa hStr) e0 rfl pd_34 rfl (Nat.le_refl _) rfl (fun rv2 T2 L2 X2 Q2 => ?_)
    obtain ⟨q2, Nq2, e2⟩ := Q2
    have N2 := Fr.app N0 Nq2
    subst q2
    show Go p.tables e below _ (T2.setTop (mkF m 10 #[.val (.ref a1), .val (.ref a2), .val (.int p3), .val (.int p4)] [(.int (own_g xs p4))]))
    refine g_aloadN (pc' := 11) C X2 d18_10 rfl rfl rfl ?_
    refine g_iloadN (pc' := 12) C X2 d18_11 rfl rfl ?_
    refine g_ldC (pc' := 13) (v := (.int (own_g lx p4))) C X2 d18_12 e2 V_b ⟨hk0, hk9⟩ (own_vl_get _ _) rfl ?_
    by_cases c3 : (own_g xs p4) = (own_g lx p4)
    · refine g_icmpN (pc' := 16) C X2 d18_13 (teq c3).2 rfl ?_
      refine g_iconst (pc' := 17) (v := (1 : Int32)) C X2 d18_16 rfl rfl ?_
      refine g_goto (pc' := 21) C X2 d18_17 (by decide) (by decide) ?_
      exact g_retN C X2 (by simp) d18_21 (by decide) (by decide) ⟨congrArg (fun z => some (Value.int z)) (Fsm_l0 p3 p4 xs lx c1 c3).symm, N2, e2⟩
    · refine g_icmpY (pc' := 20) C X2 d18_13 (feq c3).2 (by decide) (by decide) ?_
      refine g_iconst (pc' := 21) (v := (0 : Int32)) C X2 d18_20 rfl rfl ?_
      exact g_retN C X2 (by simp) d18_21 (by decide) (by decide) ⟨congrArg (fun z => some (Value.int z)) (Fsm_l1 p3 p4 xs lx c1 c3).symm, N2, e2⟩
  · refine g_icmpY (pc' := 16) C X0 d18_2 (flt c1).2.1 (by decide) (by decide) ?_
    refine g_iconst (pc' := 17) (v := (1 : Int32)) C X0 d18_16 rfl rfl ?_
    refine g_goto (pc' := 21) C X0 d18_17 (by decide) (by decide) ?_
    exact g_retN C X0 (by simp) d18_21 (by decide) (by decide) ⟨congrArg (fun z => some (Value.int z)) (Fsm_l2 p3 p4 xs lx c1).symm, N0, e0⟩
def own_pinv (k : Nat) (cs : List Int32) (pos : Int32) (buf : List Int32) : Prop := pos = own_n cs ∧ (∀ q, cs.getD q 0 = buf.getD q 0) ∧ cs.length ≤ 2 * k
theorem own_p0 : own_pinv 0 [] (0 : Int32) [] := ⟨rfl, fun _ => rfl, Nat.le_refl _⟩
theorem own_p2 {k : Nat} {cs buf : List Int32} {pos a b : Int32} (h : own_pinv k cs pos buf) (hk : k ≤ 3) : own_pinv (k + 1) (cs ++ [a, b]) (pos + (2 : Int32)) (own_s (own_s buf pos a) (pos + (1 : Int32)) b) := by
  obtain ⟨h1, h2, h3⟩ := h
  have e1 := own_ntn (cs := cs) (by omega)
  have n1 := own_n_snoc (x := a) h1 (by omega)
  have e2 := own_ntn (cs := cs ++ [a]) (by rw [List.length_append, List.length_singleton]; omega)
  refine ⟨own_n_snoc2 h1 (by omega), ?_, by rw [List.length_append]; show cs.length + 2 ≤ _; omega⟩
  rw [own_app2]
  exact own_s_sn (by rw [n1]; exact e2.symm) (own_s_sn (by rw [h1]; exact e1.symm) h2)
theorem own_p1 {k : Nat} {cs buf : List Int32} {pos a : Int32} (h : own_pinv k cs pos buf) (hk : k ≤ 3) : own_pinv (k + 1) (cs ++ [a]) (pos + (1 : Int32)) (own_s buf pos a) := by
  obtain ⟨h1, h2, h3⟩ := h
  have e1 := own_ntn (cs := cs) (by omega)
  exact ⟨own_n_snoc h1 (by omega), own_s_sn (by rw [h1]; exact e1.symm) h2, by rw [List.length_append, List.length_singleton]; omega⟩
theorem own_pS {k : Nat} {cs buf : List Int32} {pos x : Int32} (h : own_pinv k cs pos buf) (hk : k ≤ 3) : own_pinv (k + 1) (cs ++ own_es x) (Fpt pos x) (own_pt buf pos x) := by
  by_cases c1 : x = (10 : Int32)
  · rw [own_es1 c1, show Fpt pos x = pos + 2 by unfold Fpt; rw [if_pos c1], show own_pt buf pos x = _ by unfold own_pt; rw [if_pos c1]]; exact own_p2 h hk
  · by_cases c2 : x = (13 : Int32)
    · rw [own_es2 c1 c2, show Fpt pos x = pos + 2 by unfold Fpt; rw [if_neg c1, if_pos c2], show own_pt buf pos x = _ by unfold own_pt; rw [if_neg c1, if_pos c2]]; exact own_p2 h hk
    · by_cases c3 : x = (92 : Int32)
      · rw [own_es3 c1 c2 c3, show Fpt pos x = pos + 2 by unfold Fpt; rw [if_neg c1, if_neg c2, if_pos c3], show own_pt buf pos x = _ by unfold own_pt; rw [if_neg c1, if_neg c2, if_pos c3]]; exact own_p2 h hk
      · rw [own_es4 c1 c2 c3, show Fpt pos x = pos + 1 by unfold Fpt; rw [if_neg c1, if_neg c2, if_neg c3], show own_pt buf pos x = _ by unfold own_pt; rw [if_neg c1, if_neg c2, if_neg c3]]; exact own_p1 h hk
theorem own_pb {k : Nat} {cs buf : List Int32} {pos : Int32} (h : own_pinv k cs pos buf) (hk : k ≤ 3) : (¬ (pos < (0 : Int32))) ∧ pos < (8 : Int32) ∧ (¬ ((pos + (1 : Int32)) < (0 : Int32))) ∧ (pos + (1 : Int32)) < (8 : Int32) := by
  obtain ⟨h1, h2, h3⟩ := h
  have a := own_nI (cs := cs) (by omega)
  rw [← h1] at a
  have b := own_inc (i := pos) (by omega) (by omega)
  have z8 : (8 : Int32).toInt = 8 := by decide
  refine ⟨own_nlt (by omega), own_lt.mpr (by omega), own_nlt (by omega), own_lt.mpr (by omega)⟩
theorem own_sm {k : Nat} {cs buf : List Int32} {pos j : Int32} (h : own_pinv k cs pos buf) : ¬ Fsm pos j cs buf = 0 := by
  unfold Fsm
  have q : own_g cs j = own_g buf j := h.2.1 _
  rw [if_pos q]
  by_cases z : j < pos
  · rw [if_pos z]; decide
  · rw [if_neg z]; decide
theorem own_r5 (p : Int32) : ((p &&& (2147483647 : Int32)) % (5 : Int32)) = (0 : Int32) ∨ ((p &&& (2147483647 : Int32)) % (5 : Int32)) = (1 : Int32) ∨ ((p &&& (2147483647 : Int32)) % (5 : Int32)) = (2 : Int32) ∨ ((p &&& (2147483647 : Int32)) % (5 : Int32)) = (3 : Int32) ∨ ((p &&& (2147483647 : Int32)) % (5 : Int32)) = (4 : Int32) := by
  have a := c_mask p 2147483647 31 (by decide) (by decide)
  have b := (c_irem (p &&& (2147483647 : Int32)) 5 5 (by decide)).1 (by omega)
  have z1 : (1 : Int32).toInt = 1 := by decide
  have z2 : (2 : Int32).toInt = 2 := by decide
  have z3 : (3 : Int32).toInt = 3 := by decide
  have z4 : (4 : Int32).toInt = 4 := by decide
  simp only [← Int32.toInt_inj, own_z0, z1, z2, z3, z4]
  omega
theorem own_pv0 : own_pinv 0 [] (0 : Int32) [] := own_p0
theorem own_lw0  : (own_n []) = (0 : Int32) := (own_pv0 ).1.symm
theorem own_aw0  (j : Int32) : ¬ ((Fsm (0 : Int32) j [] []) = (0 : Int32)) := own_sm (own_pv0 )
theorem own_pv1 (x0 : Int32) : own_pinv 1 (own_esc [x0]) (Fpt (0 : Int32) x0) (own_pt [] (0 : Int32) x0) := by
  have e : ((own_esc [x0]) : List Int32) = ([] ++ own_es x0) := by simp [own_esc]
  rw [e]; exact (own_pS own_p0 (by decide))
theorem own_lw1 (x0 : Int32) : (own_n (own_esc [x0])) = (Fpt (0 : Int32) x0) := (own_pv1 x0).1.symm
theorem own_aw1 (x0 : Int32) (j : Int32) : ¬ ((Fsm (Fpt (0 : Int32) x0) j (own_esc [x0]) (own_pt [] (0 : Int32) x0)) = (0 : Int32)) := own_sm (own_pv1 x0)
theorem own_pv2 (x0 : Int32) (x1 : Int32) : own_pinv 2 (own_esc [x0, x1]) (Fpt (Fpt (0 : Int32) x0) x1) (own_pt (own_pt [] (0 : Int32) x0) (Fpt (0 : Int32) x0) x1) := by
  have e : ((own_esc [x0, x1]) : List Int32) = (([] ++ own_es x0) ++ own_es x1) := by simp [own_esc]
  rw [e]; exact (own_pS (own_pS own_p0 (by decide)) (by decide))
theorem own_lw2 (x0 : Int32) (x1 : Int32) : (own_n (own_esc [x0, x1])) = (Fpt (Fpt (0 : Int32) x0) x1) := (own_pv2 x0 x1).1.symm
theorem own_aw2 (x0 : Int32) (x1 : Int32) (j : Int32) : ¬ ((Fsm (Fpt (Fpt (0 : Int32) x0) x1) j (own_esc [x0, x1]) (own_pt (own_pt [] (0 : Int32) x0) (Fpt (0 : Int32) x0) x1)) = (0 : Int32)) := own_sm (own_pv2 x0 x1)
theorem own_pv3 (x0 : Int32) (x1 : Int32) (x2 : Int32) : own_pinv 3 (own_esc [x0, x1, x2]) (Fpt (Fpt (Fpt (0 : Int32) x0) x1) x2) (own_pt (own_pt (own_pt [] (0 : Int32) x0) (Fpt (0 : Int32) x0) x1) (Fpt (Fpt (0 : Int32) x0) x1) x2) := by
  have e : ((own_esc [x0, x1, x2]) : List Int32) = ((([] ++ own_es x0) ++ own_es x1) ++ own_es x2) := by simp [own_esc]
  rw [e]; exact (own_pS (own_pS (own_pS own_p0 (by decide)) (by decide)) (by decide))
theorem own_lw3 (x0 : Int32) (x1 : Int32) (x2 : Int32) : (own_n (own_esc [x0, x1, x2])) = (Fpt (Fpt (Fpt (0 : Int32) x0) x1) x2) := (own_pv3 x0 x1 x2).1.symm
theorem own_aw3 (x0 : Int32) (x1 : Int32) (x2 : Int32) (j : Int32) : ¬ ((Fsm (Fpt (Fpt (Fpt (0 : Int32) x0) x1) x2) j (own_esc [x0, x1, x2]) (own_pt (own_pt (own_pt [] (0 : Int32) x0) (Fpt (0 : Int32) x0) x1) (Fpt (Fpt (0 : Int32) x0) x1) x2)) = (0 : Int32)) := own_sm (own_pv3 x0 x1 x2)
theorem own_pv4 (x0 : Int32) (x1 : Int32) (x2 : Int32) (x3 : Int32) : own_pinv 4 (own_esc [x0, x1, x2, x3]) (Fpt (Fpt (Fpt (Fpt (0 : Int32) x0) x1) x2) x3) (own_pt (own_pt (own_pt (own_pt [] (0 : Int32) x0) (Fpt (0 : Int32) x0) x1) (Fpt (Fpt (0 : Int32) x0) x1) x2) (Fpt (Fpt (Fpt (0 : Int32) x0) x1) x2) x3) := by
  have e : ((own_esc [x0, x1, x2, x3]) : List Int32) = (((([] ++ own_es x0) ++ own_es x1) ++ own_es x2) ++ own_es x3) := by simp [own_esc]
  rw [e]; exact (own_pS (own_pS (own_pS (own_pS own_p0 (by decide)) (by decide)) (by decide)) (by decide))
theorem own_lw4 (x0 : Int32) (x1 : Int32) (x2 : Int32) (x3 : Int32) : (own_n (own_esc [x0, x1, x2, x3])) = (Fpt (Fpt (Fpt (Fpt (0 : Int32) x0) x1) x2) x3) := (own_pv4 x0 x1 x2 x3).1.symm
theorem own_aw4 (x0 : Int32) (x1 : Int32) (x2 : Int32) (x3 : Int32) (j : Int32) : ¬ ((Fsm (Fpt (Fpt (Fpt (Fpt (0 : Int32) x0) x1) x2) x3) j (own_esc [x0, x1, x2, x3]) (own_pt (own_pt (own_pt (own_pt [] (0 : Int32) x0) (Fpt (0 : Int32) x0) x1) (Fpt (Fpt (0 : Int32) x0) x1) x2) (Fpt (Fpt (Fpt (0 : Int32) x0) x1) x2) x3)) = (0 : Int32)) := own_sm (own_pv4 x0 x1 x2 x3)
theorem own_al1 {P : Int32 → Prop} {x0 : Int32} (h0 : P x0) : ∀ x ∈ [x0], P x := by
  intro x hx
  simp only [List.mem_cons, List.not_mem_nil, or_false] at hx
  rcases hx with rfl <;> assumption
theorem own_al2 {P : Int32 → Prop} {x0 : Int32} {x1 : Int32} (h0 : P x0) (h1 : P x1) : ∀ x ∈ [x0, x1], P x := by
  intro x hx
  simp only [List.mem_cons, List.not_mem_nil, or_false] at hx
  rcases hx with rfl | rfl <;> assumption
theorem own_al3 {P : Int32 → Prop} {x0 : Int32} {x1 : Int32} {x2 : Int32} (h0 : P x0) (h1 : P x1) (h2 : P x2) : ∀ x ∈ [x0, x1, x2], P x := by
  intro x hx
  simp only [List.mem_cons, List.not_mem_nil, or_false] at hx
  rcases hx with rfl | rfl | rfl <;> assumption
theorem own_al4 {P : Int32 → Prop} {x0 : Int32} {x1 : Int32} {x2 : Int32} {x3 : Int32} (h0 : P x0) (h1 : P x1) (h2 : P x2) (h3 : P x3) : ∀ x ∈ [x0, x1, x2, x3], P x := by
  intro x hx
  simp only [List.mem_cons, List.not_mem_nil, or_false] at hx
  rcases hx with rfl | rfl | rfl | rfl <;> assumption
theorem pd_37 : parseMethodDescriptor "(Ljava/lang/String;[CII)Z" = some ⟨[(.object "java/lang/String"), (.array .char), .int, .int], some .boolean⟩ := by decide +kernel
theorem pd_38 : parseMethodDescriptor "([C)V" = some ⟨[(.array .char)], none⟩ := by decide +kernel
theorem pd_39 : parseMethodDescriptor "(Ljava/lang/String;)Ljava/lang/String;" = some ⟨[(.object "java/lang/String")], some (.object "java/lang/String")⟩ := by decide +kernel
theorem pd_40 : parseMethodDescriptor "([CIC)I" = some ⟨[(.array .char), .int, .char], some .int⟩ := by decide +kernel
theorem ef_0 (m : MethodId) (p1 : Int32) (p2 : Int32) (p3 : Int32) (p4 : Int32) (p5 : Int32) : entryFrame m #[(.int p1), (.int p2), (.int p3), (.int p4), (.int p5)] maxLocals = mkF m 0 #[.val (.int p1), .val (.int p2), .val (.int p3), .val (.int p4), .val (.int p5), .unset, .unset, .unset, .unset, .unset, .unset, .unset, .unset, .unset] [] := by first | (simp [entryFrame, mkF, argsToLocals, Value.category, maxLocals]; done) | rfl
def Q_0 (Z : State) (p1 : Int32) (p2 : Int32) (p3 : Int32) (p4 : Int32) (p5 : Int32) (cs_ : Int32) (fm : Value) (h0 : Heap) (n0 : Nat) (v : Option Value) (h : Heap) (L : List Loc) : Prop := v = some (.int 1) ∧ Fr n0 L
set_option maxRecDepth 65536 in
set_option maxHeartbeats 40000000 in
theorem rm0 (l : Launch) (Z : State) (a0 : Array Value) (hw : ∀ d ∈ tables_1, d.before a0 Z = true) (ws : List Jvm.Cond) (p1 : Int32) (p2 : Int32) (p3 : Int32) (p4 : Int32) (p5 : Int32) (cs_ : Int32) (fm : Value) (h0 : Heap) (n0 : Nat) (Z0 : n0 ≤ h0.size) (hF : FX Z h0 cs_ fm) :
    MetFree l x (head1 (Jvm.Cond.code x code maxLocals ret :: ws) room_1) (fun a U => a = #[(.int p1), (.int p2), (.int p3), (.int p4), (.int p5)] ∧ Z.Warmed39 U.vm ∧ U.heap = h0 ∧ (fun U => CHv Z own_EL U.vm h0) U) (fun _ _ _ _ _ => True) (fun _ U o U' => ∃ v L, o = .returned v ∧ Q_0 Z p1 p2 p3 p4 p5 cs_ fm h0 n0 v U'.heap L ∧ ReturnedEndW U o U' L 40 4352) := by
  refine met_ofW (Ls := #[.val (.int p1), .val (.int p2), .val (.int p3), .val (.int p4), .val (.int p5), .unset, .unset, .unset, .unset, .unset, .unset, .unset, .unset, .unset]) (plainFor_of_name (by first | (simp [plainName, overriddenIn]; done) | decide +kernel)) (fun m => ef_0 m p1 p2 p3 p4 p5) ?_
  intro p e s m below meth c T0 hpx C X0 hS e0
  obtain ⟨S_cs, hcs, S_fm, hfm, S_ad, S_hi, S_lo⟩ := id hF
  have N0 := Fr.nil n0
  refine g_iloadN (pc' := 1) C X0 at_0 rfl rfl ?_
  refine g_ldc (pc' := 3) (v := (2147483647 : Int32)) C X0 at_1 (wq hw 0 rfl) rfl ?_
  refine g_iand (pc' := 4) C X0 at_3 rfl ?_
  refine g_iconst (pc' := 5) (v := (5 : Int32)) C X0 at_4 rfl rfl ?_
  refine g_irem (pc' := 6) C X0 at_5 (by decide) rfl ?_
  refine g_istore (pc' := 8) (Ls' := #[.val (.int p1), .val (.int p2), .val (.int p3), .val (.int p4), .val (.int p5), .val (.int ((p1 &&& (2147483647 : Int32)) % (5 : Int32))), .unset, .unset, .unset, .unset, .unset, .unset, .unset, .unset]) C X0 at_6 rfl rfl ?_
  refine g_iloadN (pc' := 9) C X0 at_8 rfl rfl ?_
  refine g_callS (y := (⟨"org/vouchsafe/cli/OutputEscapePinLaw", "pick", "(I)C"⟩ : MethodName)) (argsL := [(.int p2)]) (st := []) (pc' := 12) C X0 at_9 (wq hw 1 rfl) (wq hw 2 rfl) (wq hw 3 rfl) (wq hw 4 rfl) (by decide) (rmpk l Z a0 hw [] p2 cs_ fm h0 n0 hF) (W := 0) (by decide) (by decide) (ce := 0) (sl := 0) rfl rfl (by decide) (by decide) rfl e0 rfl pd_34 rfl (Nat.le_refl _) rfl (fun rv1 T1 L1 X1 Q1 => ?_)
  obtain ⟨q1, Nq1, e1⟩ := Q1
  have N1 := Fr.app N0 Nq1
  subst q1
  show Go p.tables e below _ (T1.setTop (mkF m 12 #[.val (.int p1), .val (.int p2), .val (.int p3), .val (.int p4), .val (.int p5), .val (.int ((p1 &&& (2147483647 : Int32)) % (5 : Int32))), .unset, .unset, .unset, .unset, .unset, .unset, .unset, .unset] [(.int (Fpk p2))]))
  refine g_istore (pc' := 14) (Ls' := #[.val (.int p1), .val (.int p2), .val (.int p3), .val (.int p4), .val (.int p5), .val (.int ((p1 &&& (2147483647 : Int32)) % (5 : Int32))), .val (.int (Fpk p2)), .unset, .unset, .unset, .unset, .unset, .unset, .unset]) C X1 at_12 rfl rfl ?_
  refine g_iloadN (pc' := 15) C X1 at_14 rfl rfl ?_
  refine g_callS (y := (⟨"org/vouchsafe/cli/OutputEscapePinLaw", "pick", "(I)C"⟩ : MethodName)) (argsL := [(.int p3)]) (st := []) (pc' := 18) C X1 at_15 (wq hw 1 rfl) (wq hw 2 rfl) (wq hw 3 rfl) (wq hw 4 rfl) (by decide) (rmpk l Z a0 hw [] p3 cs_ fm h0 n0 hF) (W := 0) (by decide) (by decide) (ce := 0) (sl := 0) rfl rfl (by decide) (by decide) rfl e1 rfl pd_34 rfl (Nat.le_refl _) rfl (fun rv2 T2 L2 X2 Q2 => ?_)
  obtain ⟨q2, Nq2, e2⟩ := Q2
  have N2 := Fr.app N1 Nq2
  subst q2
  show Go p.tables e below _ (T2.setTop (mkF m 18 #[.val (.int p1), .val (.int p2), .val (.int p3), .val (.int p4), .val (.int p5), .val (.int ((p1 &&& (2147483647 : Int32)) % (5 : Int32))), .val (.int (Fpk p2)), .unset, .unset, .unset, .unset, .unset, .unset, .unset] [(.int (Fpk p3))]))
  refine g_istore (pc' := 20) (Ls' := #[.val (.int p1), .val (.int p2), .val (.int p3), .val (.int p4), .val (.int p5), .val (.int ((p1 &&& (2147483647 : Int32)) % (5 : Int32))), .val (.int (Fpk p2)), .val (.int (Fpk p3)), .unset, .unset, .unset, .unset, .unset, .unset]) C X2 at_18 rfl rfl ?_
  refine g_iloadN (pc' := 21) C X2 at_20 rfl rfl ?_
  refine g_callS (y := (⟨"org/vouchsafe/cli/OutputEscapePinLaw", "pick", "(I)C"⟩ : MethodName)) (argsL := [(.int p4)]) (st := []) (pc' := 24) C X2 at_21 (wq hw 1 rfl) (wq hw 2 rfl) (wq hw 3 rfl) (wq hw 4 rfl) (by decide) (rmpk l Z a0 hw [] p4 cs_ fm h0 n0 hF) (W := 0) (by decide) (by decide) (ce := 0) (sl := 0) rfl rfl (by decide) (by decide) rfl e2 rfl pd_34 rfl (Nat.le_refl _) rfl (fun rv3 T3 L3 X3 Q3 => ?_)
  obtain ⟨q3, Nq3, e3⟩ := Q3
  have N3 := Fr.app N2 Nq3
  subst q3
  show Go p.tables e below _ (T3.setTop (mkF m 24 #[.val (.int p1), .val (.int p2), .val (.int p3), .val (.int p4), .val (.int p5), .val (.int ((p1 &&& (2147483647 : Int32)) % (5 : Int32))), .val (.int (Fpk p2)), .val (.int (Fpk p3)), .unset, .unset, .unset, .unset, .unset, .unset] [(.int (Fpk p4))]))
  refine g_istore (pc' := 26) (Ls' := #[.val (.int p1), .val (.int p2), .val (.int p3), .val (.int p4), .val (.int p5), .val (.int ((p1 &&& (2147483647 : Int32)) % (5 : Int32))), .val (.int (Fpk p2)), .val (.int (Fpk p3)), .val (.int (Fpk p4)), .unset, .unset, .unset, .unset, .unset]) C X3 at_24 rfl rfl ?_
  refine g_iload (pc' := 28) C X3 at_26 rfl rfl ?_
  refine g_callS (y := (⟨"org/vouchsafe/cli/OutputEscapePinLaw", "pick", "(I)C"⟩ : MethodName)) (argsL := [(.int p5)]) (st := []) (pc' := 31) C X3 at_28 (wq hw 1 rfl) (wq hw 2 rfl) (wq hw 3 rfl) (wq hw 4 rfl) (by decide) (rmpk l Z a0 hw [] p5 cs_ fm h0 n0 hF) (W := 0) (by decide) (by decide) (ce := 0) (sl := 0) rfl rfl (by decide) (by decide) rfl e3 rfl pd_34 rfl (Nat.le_refl _) rfl (fun rv4 T4 L4 X4 Q4 => ?_)
  obtain ⟨q4, Nq4, e4⟩ := Q4
  have N4 := Fr.app N3 Nq4
  subst q4
  show Go p.tables e below _ (T4.setTop (mkF m 31 #[.val (.int p1), .val (.int p2), .val (.int p3), .val (.int p4), .val (.int p5), .val (.int ((p1 &&& (2147483647 : Int32)) % (5 : Int32))), .val (.int (Fpk p2)), .val (.int (Fpk p3)), .val (.int (Fpk p4)), .unset, .unset, .unset, .unset, .unset] [(.int (Fpk p5))]))
  refine g_istore (pc' := 33) (Ls' := #[.val (.int p1), .val (.int p2), .val (.int p3), .val (.int p4), .val (.int p5), .val (.int ((p1 &&& (2147483647 : Int32)) % (5 : Int32))), .val (.int (Fpk p2)), .val (.int (Fpk p3)), .val (.int (Fpk p4)), .val (.int (Fpk p5)), .unset, .unset, .unset, .unset]) C X4 at_31 rfl rfl ?_
  have hch0 := own_pkc p2
  generalize Fpk p2 = x0 at hch0 ⊢
  have hch1 := own_pkc p3
  generalize Fpk p3 = x1 at hch1 ⊢
  have hch2 := own_pkc p4
  generalize Fpk p4 = x2 at hch2 ⊢
  have hch3 := own_pkc p5
  generalize Fpk p5 = x3 at hch3 ⊢
  have JS : ∀ (vmQ : Vm) (kQ : Nat) (TQ : State) (HQ : Heap) (LQ : List Loc) (lnQ : Int32) (arQ rQ wQ ouQ : Addr) (koQ : ClassId) (poQ : Int32) (esQ buQ : List Int32), Cx p (s.setVm vmQ) m meth c code maxLocals x.cls x.name ret Z → Stand p l e room_1 (s.setVm vmQ) m #[(.int p1), (.int p2), (.int p3), (.int p4), (.int p5)] below meth c TQ LQ 40 4352 → s.Since vmQ kQ → TQ.heap = HQ → kQ ≤ HQ.size → Fr n0 LQ → n0 ≤ HQ.size → FX Z HQ cs_ fm → Str Z HQ rQ wQ esQ → Arv Z HQ ouQ koQ .char (8 : Int32) (own_vl buQ) (.int (0 : Int32)) → own_n esQ = poQ → (∀ j, ¬ ((Fsm poQ j esQ buQ) = (0 : Int32))) → Go p.tables e below (EndW s (Q_0 Z p1 p2 p3 p4 p5 cs_ fm h0 n0) 40 4352) (TQ.setTop (mkF m 233 #[.val (.int p1), .val (.int p2), .val (.int p3), .val (.int p4), .val (.int p5), .val (.int lnQ), .val (.int x0), .val (.int x1), .val (.int x2), .val (.int x3), .val (.ref arQ), .val (.ref ouQ), .val (.ref rQ), .val (.int poQ)] [])) := by
    intro vmQ kQ TQ HQ LQ lnQ arQ rQ wQ ouQ koQ poQ esQ buQ C XQ hS eQ KzQ NQ ZQ FXQ hSQ VQ hleQ hsmQ
    refine g_aload (pc' := 235) C XQ at_233 rfl rfl rfl ?_
    refine g_callV (b := rQ) (z := (⟨"java/lang/String", "length", "()I"⟩ : MethodName)) (y := (⟨"java/lang/String", "length", "()I"⟩ : MethodName)) (argsL := []) (st := []) (pc' := 238) C XQ at_235 (wq hw 106 rfl) (wq hw 35 rfl) (notFace_of_selects (args := #[]) (mvT C.hZ (wq hw 37 rfl))) (wq hw 37 rfl) (wq hw 36 rfl) (wq hw 8 rfl) (wq hw 38 rfl) (by decide) (rmsl l Z a0 hw [] rQ wQ esQ cs_ fm HQ n0 FXQ hSQ) (W := 0) (by decide) (by decide) (ce := 40) (sl := 4352) rfl rfl (by decide) (by decide) rfl (Str_exa hSQ) eQ rfl pd_22 rfl (Nat.le_refl _) rfl (fun rv5 T5 L5 X5 Q5 => ?_)
    obtain ⟨q5, Nq5, e5⟩ := Q5
    have N5 := Fr.app NQ Nq5
    subst q5
    show Go p.tables e below _ (T5.setTop (mkF m 238 #[.val (.int p1), .val (.int p2), .val (.int p3), .val (.int p4), .val (.int p5), .val (.int lnQ), .val (.int x0), .val (.int x1), .val (.int x2), .val (.int x3), .val (.ref arQ), .val (.ref ouQ), .val (.ref rQ), .val (.int poQ)] [(.int (own_n esQ))]))
    refine g_iload (pc' := 240) C X5 at_238 rfl rfl ?_
    refine g_icmpY (pc' := 245) C X5 at_240 (teq hleQ).1 (by decide) (by decide) ?_
    refine g_aload (pc' := 247) C X5 at_245 rfl rfl rfl ?_
    refine g_aload (pc' := 249) C X5 at_247 rfl rfl rfl ?_
    refine g_iload (pc' := 251) C X5 at_249 rfl rfl ?_
    refine g_iconst (pc' := 252) (v := (0 : Int32)) C X5 at_251 rfl rfl ?_
    refine g_callS (y := (⟨"org/vouchsafe/cli/OutputEscapePinLaw", "same", "(Ljava/lang/String;[CII)Z"⟩ : MethodName)) (argsL := [(.ref rQ), (.ref ouQ), (.int poQ), (.int (0 : Int32))]) (st := []) (pc' := 255) C X5 at_252 (wq hw 107 rfl) (wq hw 108 rfl) (wq hw 3 rfl) (wq hw 109 rfl) (by decide) (rmsm l Z a0 hw [] rQ ouQ poQ (0 : Int32) wQ esQ koQ buQ cs_ fm HQ n0 FXQ hSQ VQ hleQ.symm (by decide) (by decide)) (W := 0) (by decide) (by decide) (ce := 40) (sl := 4352) rfl rfl (by decide) (by decide) rfl e5 rfl pd_37 rfl (Nat.le_refl _) rfl (fun rv6 T6 L6 X6 Q6 => ?_)
    obtain ⟨q6, Nq6, e6⟩ := Q6
    have N6 := Fr.app N5 Nq6
    subst q6
    show Go p.tables e below _ (T6.setTop (mkF m 255 #[.val (.int p1), .val (.int p2), .val (.int p3), .val (.int p4), .val (.int p5), .val (.int lnQ), .val (.int x0), .val (.int x1), .val (.int x2), .val (.int x3), .val (.ref arQ), .val (.ref ouQ), .val (.ref rQ), .val (.int poQ)] [(.int (Fsm poQ (0 : Int32) esQ buQ))]))
    refine g_ifN (pc' := 258) C X6 at_255 (feq (show ¬ ((Fsm poQ (0 : Int32) esQ buQ) = (0 : Int32)) from (hsmQ _))).1 rfl ?_
    refine g_aload (pc' := 260) C X6 at_258 rfl rfl rfl ?_
    refine g_aload (pc' := 262) C X6 at_260 rfl rfl rfl ?_
    refine g_iload (pc' := 264) C X6 at_262 rfl rfl ?_
    refine g_iconst (pc' := 265) (v := (1 : Int32)) C X6 at_264 rfl rfl ?_
    refine g_callS (y := (⟨"org/vouchsafe/cli/OutputEscapePinLaw", "same", "(Ljava/lang/String;[CII)Z"⟩ : MethodName)) (argsL := [(.ref rQ), (.ref ouQ), (.int poQ), (.int (1 : Int32))]) (st := []) (pc' := 268) C X6 at_265 (wq hw 107 rfl) (wq hw 108 rfl) (wq hw 3 rfl) (wq hw 109 rfl) (by decide) (rmsm l Z a0 hw [] rQ ouQ poQ (1 : Int32) wQ esQ koQ buQ cs_ fm HQ n0 FXQ hSQ VQ hleQ.symm (by decide) (by decide)) (W := 0) (by decide) (by decide) (ce := 40) (sl := 4352) rfl rfl (by decide) (by decide) rfl e6 rfl pd_37 rfl (Nat.le_refl _) rfl (fun rv7 T7 L7 X7 Q7 => ?_)
    obtain ⟨q7, Nq7, e7⟩ := Q7
    have N7 := Fr.app N6 Nq7
    subst q7
    show Go p.tables e below _ (T7.setTop (mkF m 268 #[.val (.int p1), .val (.int p2), .val (.int p3), .val (.int p4), .val (.int p5), .val (.int lnQ), .val (.int x0), .val (.int x1), .val (.int x2), .val (.int x3), .val (.ref arQ), .val (.ref ouQ), .val (.ref rQ), .val (.int poQ)] [(.int (Fsm poQ (1 : Int32) esQ buQ))]))
    refine g_ifN (pc' := 271) C X7 at_268 (feq (show ¬ ((Fsm poQ (1 : Int32) esQ buQ) = (0 : Int32)) from (hsmQ _))).1 rfl ?_
    refine g_aload (pc' := 273) C X7 at_271 rfl rfl rfl ?_
    refine g_aload (pc' := 275) C X7 at_273 rfl rfl rfl ?_
    refine g_iload (pc' := 277) C X7 at_275 rfl rfl ?_
    refine g_iconst (pc' := 278) (v := (2 : Int32)) C X7 at_277 rfl rfl ?_
    refine g_callS (y := (⟨"org/vouchsafe/cli/OutputEscapePinLaw", "same", "(Ljava/lang/String;[CII)Z"⟩ : MethodName)) (argsL := [(.ref rQ), (.ref ouQ), (.int poQ), (.int (2 : Int32))]) (st := []) (pc' := 281) C X7 at_278 (wq hw 107 rfl) (wq hw 108 rfl) (wq hw 3 rfl) (wq hw 109 rfl) (by decide) (rmsm l Z a0 hw [] rQ ouQ poQ (2 : Int32) wQ esQ koQ buQ cs_ fm HQ n0 FXQ hSQ VQ hleQ.symm (by decide) (by decide)) (W := 0) (by decide) (by decide) (ce := 40) (sl := 4352) rfl rfl (by decide) (by decide) rfl e7 rfl pd_37 rfl (Nat.le_refl _) rfl (fun rv8 T8 L8 X8 Q8 => ?_)
    obtain ⟨q8, Nq8, e8⟩ := Q8
    have N8 := Fr.app N7 Nq8
    subst q8
    show Go p.tables e below _ (T8.setTop (mkF m 281 #[.val (.int p1), .val (.int p2), .val (.int p3), .val (.int p4), .val (.int p5), .val (.int lnQ), .val (.int x0), .val (.int x1), .val (.int x2), .val (.int x3), .val (.ref arQ), .val (.ref ouQ), .val (.ref rQ), .val (.int poQ)] [(.int (Fsm poQ (2 : Int32) esQ buQ))]))
    refine g_ifN (pc' := 284) C X8 at_281 (feq (show ¬ ((Fsm poQ (2 : Int32) esQ buQ) = (0 : Int32)) from (hsmQ _))).1 rfl ?_
    refine g_aload (pc' := 286) C X8 at_284 rfl rfl rfl ?_
    refine g_aload (pc' := 288) C X8 at_286 rfl rfl rfl ?_
    refine g_iload (pc' := 290) C X8 at_288 rfl rfl ?_
    refine g_iconst (pc' := 291) (v := (3 : Int32)) C X8 at_290 rfl rfl ?_
    refine g_callS (y := (⟨"org/vouchsafe/cli/OutputEscapePinLaw", "same", "(Ljava/lang/String;[CII)Z"⟩ : MethodName)) (argsL := [(.ref rQ), (.ref ouQ), (.int poQ), (.int (3 : Int32))]) (st := []) (pc' := 294) C X8 at_291 (wq hw 107 rfl) (wq hw 108 rfl) (wq hw 3 rfl) (wq hw 109 rfl) (by decide) (rmsm l Z a0 hw [] rQ ouQ poQ (3 : Int32) wQ esQ koQ buQ cs_ fm HQ n0 FXQ hSQ VQ hleQ.symm (by decide) (by decide)) (W := 0) (by decide) (by decide) (ce := 40) (sl := 4352) rfl rfl (by decide) (by decide) rfl e8 rfl pd_37 rfl (Nat.le_refl _) rfl (fun rv9 T9 L9 X9 Q9 => ?_)
    obtain ⟨q9, Nq9, e9⟩ := Q9
    have N9 := Fr.app N8 Nq9
    subst q9
    show Go p.tables e below _ (T9.setTop (mkF m 294 #[.val (.int p1), .val (.int p2), .val (.int p3), .val (.int p4), .val (.int p5), .val (.int lnQ), .val (.int x0), .val (.int x1), .val (.int x2), .val (.int x3), .val (.ref arQ), .val (.ref ouQ), .val (.ref rQ), .val (.int poQ)] [(.int (Fsm poQ (3 : Int32) esQ buQ))]))
    refine g_ifN (pc' := 297) C X9 at_294 (feq (show ¬ ((Fsm poQ (3 : Int32) esQ buQ) = (0 : Int32)) from (hsmQ _))).1 rfl ?_
    refine g_aload (pc' := 299) C X9 at_297 rfl rfl rfl ?_
    refine g_aload (pc' := 301) C X9 at_299 rfl rfl rfl ?_
    refine g_iload (pc' := 303) C X9 at_301 rfl rfl ?_
    refine g_iconst (pc' := 304) (v := (4 : Int32)) C X9 at_303 rfl rfl ?_
    refine g_callS (y := (⟨"org/vouchsafe/cli/OutputEscapePinLaw", "same", "(Ljava/lang/String;[CII)Z"⟩ : MethodName)) (argsL := [(.ref rQ), (.ref ouQ), (.int poQ), (.int (4 : Int32))]) (st := []) (pc' := 307) C X9 at_304 (wq hw 107 rfl) (wq hw 108 rfl) (wq hw 3 rfl) (wq hw 109 rfl) (by decide) (rmsm l Z a0 hw [] rQ ouQ poQ (4 : Int32) wQ esQ koQ buQ cs_ fm HQ n0 FXQ hSQ VQ hleQ.symm (by decide) (by decide)) (W := 0) (by decide) (by decide) (ce := 40) (sl := 4352) rfl rfl (by decide) (by decide) rfl e9 rfl pd_37 rfl (Nat.le_refl _) rfl (fun rv10 T10 L10 X10 Q10 => ?_)
    obtain ⟨q10, Nq10, e10⟩ := Q10
    have N10 := Fr.app N9 Nq10
    subst q10
    show Go p.tables e below _ (T10.setTop (mkF m 307 #[.val (.int p1), .val (.int p2), .val (.int p3), .val (.int p4), .val (.int p5), .val (.int lnQ), .val (.int x0), .val (.int x1), .val (.int x2), .val (.int x3), .val (.ref arQ), .val (.ref ouQ), .val (.ref rQ), .val (.int poQ)] [(.int (Fsm poQ (4 : Int32) esQ buQ))]))
    refine g_ifN (pc' := 310) C X10 at_307 (feq (show ¬ ((Fsm poQ (4 : Int32) esQ buQ) = (0 : Int32)) from (hsmQ _))).1 rfl ?_
    refine g_aload (pc' := 312) C X10 at_310 rfl rfl rfl ?_
    refine g_aload (pc' := 314) C X10 at_312 rfl rfl rfl ?_
    refine g_iload (pc' := 316) C X10 at_314 rfl rfl ?_
    refine g_iconst (pc' := 317) (v := (5 : Int32)) C X10 at_316 rfl rfl ?_
    refine g_callS (y := (⟨"org/vouchsafe/cli/OutputEscapePinLaw", "same", "(Ljava/lang/String;[CII)Z"⟩ : MethodName)) (argsL := [(.ref rQ), (.ref ouQ), (.int poQ), (.int (5 : Int32))]) (st := []) (pc' := 320) C X10 at_317 (wq hw 107 rfl) (wq hw 108 rfl) (wq hw 3 rfl) (wq hw 109 rfl) (by decide) (rmsm l Z a0 hw [] rQ ouQ poQ (5 : Int32) wQ esQ koQ buQ cs_ fm HQ n0 FXQ hSQ VQ hleQ.symm (by decide) (by decide)) (W := 0) (by decide) (by decide) (ce := 40) (sl := 4352) rfl rfl (by decide) (by decide) rfl e10 rfl pd_37 rfl (Nat.le_refl _) rfl (fun rv11 T11 L11 X11 Q11 => ?_)
    obtain ⟨q11, Nq11, e11⟩ := Q11
    have N11 := Fr.app N10 Nq11
    subst q11
    show Go p.tables e below _ (T11.setTop (mkF m 320 #[.val (.int p1), .val (.int p2), .val (.int p3), .val (.int p4), .val (.int p5), .val (.int lnQ), .val (.int x0), .val (.int x1), .val (.int x2), .val (.int x3), .val (.ref arQ), .val (.ref ouQ), .val (.ref rQ), .val (.int poQ)] [(.int (Fsm poQ (5 : Int32) esQ buQ))]))
    refine g_ifN (pc' := 323) C X11 at_320 (feq (show ¬ ((Fsm poQ (5 : Int32) esQ buQ) = (0 : Int32)) from (hsmQ _))).1 rfl ?_
    refine g_aload (pc' := 325) C X11 at_323 rfl rfl rfl ?_
    refine g_aload (pc' := 327) C X11 at_325 rfl rfl rfl ?_
    refine g_iload (pc' := 329) C X11 at_327 rfl rfl ?_
    refine g_bipush (pc' := 331) (v := (6 : Int32)) C X11 at_329 rfl rfl ?_
    refine g_callS (y := (⟨"org/vouchsafe/cli/OutputEscapePinLaw", "same", "(Ljava/lang/String;[CII)Z"⟩ : MethodName)) (argsL := [(.ref rQ), (.ref ouQ), (.int poQ), (.int (6 : Int32))]) (st := []) (pc' := 334) C X11 at_331 (wq hw 107 rfl) (wq hw 108 rfl) (wq hw 3 rfl) (wq hw 109 rfl) (by decide) (rmsm l Z a0 hw [] rQ ouQ poQ (6 : Int32) wQ esQ koQ buQ cs_ fm HQ n0 FXQ hSQ VQ hleQ.symm (by decide) (by decide)) (W := 0) (by decide) (by decide) (ce := 40) (sl := 4352) rfl rfl (by decide) (by decide) rfl e11 rfl pd_37 rfl (Nat.le_refl _) rfl (fun rv12 T12 L12 X12 Q12 => ?_)
    obtain ⟨q12, Nq12, e12⟩ := Q12
    have N12 := Fr.app N11 Nq12
    subst q12
    show Go p.tables e below _ (T12.setTop (mkF m 334 #[.val (.int p1), .val (.int p2), .val (.int p3), .val (.int p4), .val (.int p5), .val (.int lnQ), .val (.int x0), .val (.int x1), .val (.int x2), .val (.int x3), .val (.ref arQ), .val (.ref ouQ), .val (.ref rQ), .val (.int poQ)] [(.int (Fsm poQ (6 : Int32) esQ buQ))]))
    refine g_ifN (pc' := 337) C X12 at_334 (feq (show ¬ ((Fsm poQ (6 : Int32) esQ buQ) = (0 : Int32)) from (hsmQ _))).1 rfl ?_
    refine g_aload (pc' := 339) C X12 at_337 rfl rfl rfl ?_
    refine g_aload (pc' := 341) C X12 at_339 rfl rfl rfl ?_
    refine g_iload (pc' := 343) C X12 at_341 rfl rfl ?_
    refine g_bipush (pc' := 345) (v := (7 : Int32)) C X12 at_343 rfl rfl ?_
    refine g_callS (y := (⟨"org/vouchsafe/cli/OutputEscapePinLaw", "same", "(Ljava/lang/String;[CII)Z"⟩ : MethodName)) (argsL := [(.ref rQ), (.ref ouQ), (.int poQ), (.int (7 : Int32))]) (st := []) (pc' := 348) C X12 at_345 (wq hw 107 rfl) (wq hw 108 rfl) (wq hw 3 rfl) (wq hw 109 rfl) (by decide) (rmsm l Z a0 hw [] rQ ouQ poQ (7 : Int32) wQ esQ koQ buQ cs_ fm HQ n0 FXQ hSQ VQ hleQ.symm (by decide) (by decide)) (W := 0) (by decide) (by decide) (ce := 40) (sl := 4352) rfl rfl (by decide) (by decide) rfl e12 rfl pd_37 rfl (Nat.le_refl _) rfl (fun rv13 T13 L13 X13 Q13 => ?_)
    obtain ⟨q13, Nq13, e13⟩ := Q13
    have N13 := Fr.app N12 Nq13
    subst q13
    show Go p.tables e below _ (T13.setTop (mkF m 348 #[.val (.int p1), .val (.int p2), .val (.int p3), .val (.int p4), .val (.int p5), .val (.int lnQ), .val (.int x0), .val (.int x1), .val (.int x2), .val (.int x3), .val (.ref arQ), .val (.ref ouQ), .val (.ref rQ), .val (.int poQ)] [(.int (Fsm poQ (7 : Int32) esQ buQ))]))
    refine g_ifN (pc' := 351) C X13 at_348 (feq (show ¬ ((Fsm poQ (7 : Int32) esQ buQ) = (0 : Int32)) from (hsmQ _))).1 rfl ?_
    refine g_iconst (pc' := 352) (v := (1 : Int32)) C X13 at_351 rfl rfl ?_
    refine g_goto (pc' := 356) C X13 at_352 (by decide) (by decide) ?_
    exact g_retNW C X13 hS (by rw [e13]; exact KzQ) (by simp) at_356 (by decide) (by decide) ⟨rfl, N13⟩
  refine g_iload (pc' := 35) C X4 at_33 rfl rfl ?_
  rcases own_r5 p1 with s14 | s14 | s14 | s14 | s14
  · refine own_cast (show T4.setTop (mkF m 35 #[.val (.int p1), .val (.int p2), .val (.int p3), .val (.int p4), .val (.int p5), .val (.int ((p1 &&& (2147483647 : Int32)) % (5 : Int32))), .val (.int x0), .val (.int x1), .val (.int x2), .val (.int x3), .unset, .unset, .unset, .unset] [(.int ((p1 &&& (2147483647 : Int32)) % (5 : Int32)))]) = T4.setTop (mkF m 35 #[.val (.int p1), .val (.int p2), .val (.int p3), .val (.int p4), .val (.int p5), .val (.int (0 : Int32)), .val (.int x0), .val (.int x1), .val (.int x2), .val (.int x3), .unset, .unset, .unset, .unset] [(.int (0 : Int32))]) from by rw [s14]) ?_
    refine g_ifN (pc' := 38) C X4 at_35 (teq (show (0 : Int32) = (0 : Int32) from (by decide))).2 rfl ?_
    refine g_iconst (pc' := 39) (v := (0 : Int32)) C X4 at_38 rfl rfl ?_
    refine g_newP (pc' := 41) (cap := 0) C X4 at_39 (wq hw 5 rfl) e4 (by decide) (by decide) (by decide) (ce := 1) (sl := 0) rfl rfl (by decide) (by decide) rfl (fun T15 h15 b15 ck15 g15 X15 e15 E15 A15 => ?_)
    have sf15_16 := Safe.ext E15 hpx (Safe.new (Nat.le_of_eq g15.symm))
    have ch15 := hpx.ext E15
    have FX_15 := FX_ext hF E15
    have gn_b15 : n0 ≤ b15 := Nat.le_trans Z0 (Nat.le_of_eq g15.symm)
    have Z15 := Nat.le_trans Z0 E15.1
    have Kz15 := Nat.le_trans (Nat.zero_le _) E15.1
    have V15 : Arv Z h15 b15 ck15 .char (0 : Int32) [] (.int (0 : Int32)) := A15.pad (pad_rep [] (.int (0 : Int32)) 0)
    refine g_astore (pc' := 43) (Ls' := #[.val (.int p1), .val (.int p2), .val (.int p3), .val (.int p4), .val (.int p5), .val (.int (0 : Int32)), .val (.int x0), .val (.int x1), .val (.int x2), .val (.int x3), .val (.ref b15), .unset, .unset, .unset]) C X15 at_41 rfl rfl rfl ?_
    refine g_goto (pc' := 143) C X15 at_43 (by decide) (by decide) ?_
    refine g_bipush (pc' := 145) (v := (8 : Int32)) C X15 at_143 rfl rfl ?_
    refine g_newPE (pc' := 147) (cap := 8) (ad := "[C") C X15 (by decide) at_145 (wq hw 5 rfl) e15 (by decide) (by decide) (by decide) (ce := 2) (sl := 8) rfl rfl (by decide) (by decide) rfl (fun T17 h17 b17 ck17 g17 X17 e17 E17 V17 A17 => ?_)
    have sf17_18 := Safe.ext E17 ch15 sf15_16
    have sf17_19 := Safe.ext E17 ch15 (Safe.new (Nat.le_of_eq g17.symm))
    have ch17 := ch15.ext E17
    have ne17_20 : ¬ (b15 = b17) := Nat.ne_of_lt (Nat.lt_of_lt_of_le V15.lt (Nat.le_of_eq g17.symm))
    have FX_17 := FX_ext FX_15 E17
    have V15_17 := V15.ext E17
    have gn_b17 : n0 ≤ b17 := Nat.le_trans Z15 (Nat.le_of_eq g17.symm)
    have Z17 := Nat.le_trans Z15 E17.1
    have Kz17 := Nat.le_trans Kz15 E17.1
    refine g_astore (pc' := 149) (Ls' := #[.val (.int p1), .val (.int p2), .val (.int p3), .val (.int p4), .val (.int p5), .val (.int (0 : Int32)), .val (.int x0), .val (.int x1), .val (.int x2), .val (.int x3), .val (.ref b15), .val (.ref b17), .unset, .unset]) C X17 at_147 rfl rfl rfl ?_
    refine g_new (pc' := 152) C X17 at_149 (wq hw 6 rfl) (wq hw 7 rfl) (wq hw 8 rfl) e17 (ce := 3) (sl := 12) rfl rfl (by decide) (by decide) rfl (fun T21 h21 b21 g21 X21 e21 E21 A21 D21 => ?_)
    have sf21_22 := Safe.ext E21 ch17 sf17_18
    have sf21_23 := Safe.ext E21 ch17 sf17_19
    have sf21_24 := Safe.ext E21 ch17 (Safe.new (Nat.le_of_eq g21.symm))
    have ch21 := ch17.ext E21
    have ne21_25 : ¬ (b15 = b21) := Nat.ne_of_lt (Nat.lt_of_lt_of_le V15_17.lt (Nat.le_of_eq g21.symm))
    have ne21_26 : ¬ (b17 = b21) := Nat.ne_of_lt (Nat.lt_of_lt_of_le A17.lt (Nat.le_of_eq g21.symm))
    have FX_21 := FX_ext FX_17 E21
    have V15_21 := V15_17.ext E21
    have A17_21 := A17.ext E21
    have V17_21 := V17.ext E21
    have gn_b21 : n0 ≤ b21 := Nat.le_trans Z17 (Nat.le_of_eq g21.symm)
    have Z21 := Nat.le_trans Z17 E21.1
    have Kz21 := Nat.le_trans Kz17 E21.1
    have F21_value : Fld Z h21 b21 "java/lang/String" "value" "[B" .null := D21 (Or.inr (wq hw 21 rfl)) (ty := (.array .byte)) (by decide)
    have F21_coder : Fld Z h21 b21 "java/lang/String" "coder" "B" (.int (0 : Int32)) := D21 (Or.inr (wq hw 22 rfl)) (ty := .byte) (by decide)
    refine g_dup (pc' := 153) C X21 at_152 rfl rfl ?_
    refine g_aload (pc' := 155) C X21 at_153 rfl rfl rfl ?_
    refine g_callIH (b := b21) (y := (⟨"java/lang/String", "<init>", "([C)V"⟩ : MethodName)) (argsL := [(.ref b15)]) (st := [(.ref b21)]) (pc' := 158) C X21 hS Kz21 (own_ew hw) ch21 rfl at_155 (wq hw 9 rfl) (wq hw 10 rfl) (wq hw 8 rfl) (wq hw 11 rfl) (by decide) (rmsid0 l Z a0 hw [] b21 b15 ck15 cs_ fm h21 n0 Z21 FX_21 A21 F21_value F21_coder V15_21 gn_b21) (W := 1) (by decide) (by decide) (ce := 7) (sl := 20) rfl rfl (by decide) (by decide) rfl e21 rfl pd_38 rfl (Nat.le_refl _) rfl (fun rv27 T27 L27 C X27 hS Q27 => ?_)
    obtain ⟨w27, q27, Nq27, Kq27, P27_0⟩ := Q27
    have N27 := Fr.app N4 Nq27
    have FX_27 := FX_keep FX_21 Kq27 ((allS (by obtain ⟨c_, _, h1_, _, _, h2_, _⟩ := A21; exact ⟨c_, h1_, h2_⟩) all0))
    have V15_27 := V15_21.keep Kq27 (ninS ne21_25 nin0)
    have A17_27 := A17_21.keep Kq27
    have V17_27 := V17_21.keep Kq27 (ninS ne21_26 nin0)
    have A21_27 := A21.keep Kq27
    have Z27 := Nat.le_trans Z21 Kq27.1
    have Kz27 := Nat.le_trans Kz21 Kq27.1
    subst q27
    show Go p.tables e below _ (T27.setTop (mkF m 158 #[.val (.int p1), .val (.int p2), .val (.int p3), .val (.int p4), .val (.int p5), .val (.int (0 : Int32)), .val (.int x0), .val (.int x1), .val (.int x2), .val (.int x3), .val (.ref b15), .val (.ref b17), .unset, .unset] [(.ref b21)]))
    refine g_callS (y := (⟨"org/vouchsafe/cli/Output", "escape", "(Ljava/lang/String;)Ljava/lang/String;"⟩ : MethodName)) (argsL := [(.ref b21)]) (st := []) (pc' := 161) C X27 at_158 (wq hw 27 rfl) (wq hw 28 rfl) (wq hw 29 rfl) (wq hw 30 rfl) (by decide) (rmes0 l Z a0 hw [] b21 w27 cs_ fm T27.heap n0 Z27 FX_27 P27_0) (W := 0) (by decide) (by decide) (ce := 11) (sl := 76) rfl rfl (by decide) (by decide) rfl rfl rfl pd_39 rfl (Nat.le_refl _) rfl (fun rv28 T28 L28 X28 Q28 => ?_)
    obtain ⟨r28, w28, q28, Nq28, Kq28, sz28_r, sz28_w, gn_r28, gn_w28, P28_0⟩ := Q28
    have N28 := Fr.app N27 Nq28
    have ne28_29 : ¬ (b15 = r28) := Nat.ne_of_lt (Nat.lt_of_lt_of_le V15_27.lt sz28_r)
    have ne28_30 : ¬ (b17 = r28) := Nat.ne_of_lt (Nat.lt_of_lt_of_le A17_27.lt sz28_r)
    have ne28_31 : ¬ (b21 = r28) := Nat.ne_of_lt (Nat.lt_of_lt_of_le A21_27.lt sz28_r)
    have ne28_32 : ¬ (w27 = r28) := Nat.ne_of_lt (Nat.lt_of_lt_of_le (Str_lt1 P27_0) sz28_r)
    have ne28_33 : ¬ (b15 = w28) := Nat.ne_of_lt (Nat.lt_of_lt_of_le V15_27.lt sz28_w)
    have ne28_34 : ¬ (b17 = w28) := Nat.ne_of_lt (Nat.lt_of_lt_of_le A17_27.lt sz28_w)
    have ne28_35 : ¬ (b21 = w28) := Nat.ne_of_lt (Nat.lt_of_lt_of_le A21_27.lt sz28_w)
    have ne28_36 : ¬ (w27 = w28) := Nat.ne_of_lt (Nat.lt_of_lt_of_le (Str_lt1 P27_0) sz28_w)
    have FX_28 := FX_keep FX_27 Kq28 (fun _ q => nomatch q)
    have V15_28 := V15_27.keep Kq28 nin0
    have A17_28 := A17_27.keep Kq28
    have V17_28 := V17_27.keep Kq28 nin0
    have A21_28 := A21_27.keep Kq28
    have P27_0_28 := Str_keep P27_0 Kq28 nin0 nin0
    have Z28 := Nat.le_trans Z27 Kq28.1
    have Kz28 := Nat.le_trans (Nat.le_refl _) Kq28.1
    subst q28
    show Go p.tables e below _ (T28.setTop (mkF m 161 #[.val (.int p1), .val (.int p2), .val (.int p3), .val (.int p4), .val (.int p5), .val (.int (0 : Int32)), .val (.int x0), .val (.int x1), .val (.int x2), .val (.int x3), .val (.ref b15), .val (.ref b17), .unset, .unset] [(.ref r28)]))
    refine g_astore (pc' := 163) (Ls' := #[.val (.int p1), .val (.int p2), .val (.int p3), .val (.int p4), .val (.int p5), .val (.int (0 : Int32)), .val (.int x0), .val (.int x1), .val (.int x2), .val (.int x3), .val (.ref b15), .val (.ref b17), .val (.ref r28), .unset]) C X28 at_161 rfl rfl rfl ?_
    refine g_iconst (pc' := 164) (v := (0 : Int32)) C X28 at_163 rfl rfl ?_
    refine g_istore (pc' := 166) (Ls' := #[.val (.int p1), .val (.int p2), .val (.int p3), .val (.int p4), .val (.int p5), .val (.int (0 : Int32)), .val (.int x0), .val (.int x1), .val (.int x2), .val (.int x3), .val (.ref b15), .val (.ref b17), .val (.ref r28), .val (.int (0 : Int32))]) C X28 at_164 rfl rfl ?_
    refine g_iload (pc' := 168) C X28 at_166 rfl rfl ?_
    refine g_ifY (pc' := 182) C X28 at_168 (flt (show ¬ ((0 : Int32) < (0 : Int32)) from (by decide))).2.2.2 (by decide) (by decide) ?_
    refine g_iload (pc' := 184) C X28 at_182 rfl rfl ?_
    refine g_iconst (pc' := 185) (v := (1 : Int32)) C X28 at_184 rfl rfl ?_
    refine g_icmpY (pc' := 199) C X28 at_185 (flt (show ¬ ((1 : Int32) < (0 : Int32)) from (by decide))).2.2.2 (by decide) (by decide) ?_
    refine g_iload (pc' := 201) C X28 at_199 rfl rfl ?_
    refine g_iconst (pc' := 202) (v := (2 : Int32)) C X28 at_201 rfl rfl ?_
    refine g_icmpY (pc' := 216) C X28 at_202 (flt (show ¬ ((2 : Int32) < (0 : Int32)) from (by decide))).2.2.2 (by decide) (by decide) ?_
    refine g_iload (pc' := 218) C X28 at_216 rfl rfl ?_
    refine g_iconst (pc' := 219) (v := (3 : Int32)) C X28 at_218 rfl rfl ?_
    refine g_icmpY (pc' := 233) C X28 at_219 (flt (show ¬ ((3 : Int32) < (0 : Int32)) from (by decide))).2.2.2 (by decide) (by decide) ?_
    exact JS _ _ _ _ _ (0 : Int32) b15 r28 w28 b17 ck17 (0 : Int32) [] [] C (X28.mono (by decide) (by decide)) hS rfl Kz28 N28 Z28 FX_28 P28_0 V17_28 (own_lw0) (own_aw0)
  · refine own_cast (show T4.setTop (mkF m 35 #[.val (.int p1), .val (.int p2), .val (.int p3), .val (.int p4), .val (.int p5), .val (.int ((p1 &&& (2147483647 : Int32)) % (5 : Int32))), .val (.int x0), .val (.int x1), .val (.int x2), .val (.int x3), .unset, .unset, .unset, .unset] [(.int ((p1 &&& (2147483647 : Int32)) % (5 : Int32)))]) = T4.setTop (mkF m 35 #[.val (.int p1), .val (.int p2), .val (.int p3), .val (.int p4), .val (.int p5), .val (.int (1 : Int32)), .val (.int x0), .val (.int x1), .val (.int x2), .val (.int x3), .unset, .unset, .unset, .unset] [(.int (1 : Int32))]) from by rw [s14]) ?_
    refine g_ifY (pc' := 46) C X4 at_35 (feq (show ¬ ((1 : Int32) = (0 : Int32)) from (by decide))).2 (by decide) (by decide) ?_
    refine g_iload (pc' := 48) C X4 at_46 rfl rfl ?_
    refine g_iconst (pc' := 49) (v := (1 : Int32)) C X4 at_48 rfl rfl ?_
    refine g_icmpN (pc' := 52) C X4 at_49 (teq (show (1 : Int32) = (1 : Int32) from (by decide))).2 rfl ?_
    refine g_iconst (pc' := 53) (v := (1 : Int32)) C X4 at_52 rfl rfl ?_
    refine g_newP (pc' := 55) (cap := 1) C X4 at_53 (wq hw 5 rfl) e4 (by decide) (by decide) (by decide) (ce := 1) (sl := 1) rfl rfl (by decide) (by decide) rfl (fun T37 h37 b37 ck37 g37 X37 e37 E37 A37 => ?_)
    have sf37_38 := Safe.ext E37 hpx (Safe.new (Nat.le_of_eq g37.symm))
    have ch37 := hpx.ext E37
    have FX_37 := FX_ext hF E37
    have gn_b37 : n0 ≤ b37 := Nat.le_trans Z0 (Nat.le_of_eq g37.symm)
    have Z37 := Nat.le_trans Z0 E37.1
    have Kz37 := Nat.le_trans (Nat.zero_le _) E37.1
    have V37 : Arv Z h37 b37 ck37 .char (1 : Int32) [(.int (0 : Int32))] (.int (0 : Int32)) := A37.pad (pad_rep [] (.int (0 : Int32)) 1)
    refine g_dup (pc' := 56) C X37 at_55 rfl rfl ?_
    refine g_iconst (pc' := 57) (v := (0 : Int32)) C X37 at_56 rfl rfl ?_
    refine g_iload (pc' := 59) C X37 at_57 rfl rfl ?_
    refine g_stC (pc' := 60) (i := 0) C X37 at_59 e37 V37 ⟨by decide, by decide⟩ rfl (show (0 : Nat) < 1 from by decide) rfl (fun T39 h39 X39 e39 W39 V39q => ?_)
    have V39 : Arv Z h39 b37 ck37 .char (1 : Int32) [(.int x0)] (.int (0 : Int32)) := by rw [(own_narc hch0)] at V39q; exact V39q
    have sf39_40 := Safe.wr W39 sf37_38 ch37 sf37_38
    have ch39 := ch37.wr W39 sf37_38
    have FX_39 := FX_wr FX_37 W39
    have Z39 := Nat.le_trans Z37 (Nat.le_of_eq W39.size.symm)
    have Kz39 := Nat.le_trans Kz37 (Nat.le_of_eq W39.size.symm)
    have N39 := Fr.snoc X39 N4 gn_b37
    refine g_astore (pc' := 62) (Ls' := #[.val (.int p1), .val (.int p2), .val (.int p3), .val (.int p4), .val (.int p5), .val (.int (1 : Int32)), .val (.int x0), .val (.int x1), .val (.int x2), .val (.int x3), .val (.ref b37), .unset, .unset, .unset]) C X39 at_60 rfl rfl rfl ?_
    refine g_goto (pc' := 143) C X39 at_62 (by decide) (by decide) ?_
    refine g_bipush (pc' := 145) (v := (8 : Int32)) C X39 at_143 rfl rfl ?_
    refine g_newPE (pc' := 147) (cap := 8) (ad := "[C") C X39 (by decide) at_145 (wq hw 5 rfl) e39 (by decide) (by decide) (by decide) (ce := 2) (sl := 9) rfl rfl (by decide) (by decide) rfl (fun T41 h41 b41 ck41 g41 X41 e41 E41 V41 A41 => ?_)
    have sf41_42 := Safe.ext E41 ch39 sf39_40
    have sf41_43 := Safe.ext E41 ch39 (Safe.new (Nat.le_of_eq g41.symm))
    have ch41 := ch39.ext E41
    have ne41_44 : ¬ (b37 = b41) := Nat.ne_of_lt (Nat.lt_of_lt_of_le V39.lt (Nat.le_of_eq g41.symm))
    have FX_41 := FX_ext FX_39 E41
    have V39_41 := V39.ext E41
    have gn_b41 : n0 ≤ b41 := Nat.le_trans Z39 (Nat.le_of_eq g41.symm)
    have Z41 := Nat.le_trans Z39 E41.1
    have Kz41 := Nat.le_trans Kz39 E41.1
    refine g_astore (pc' := 149) (Ls' := #[.val (.int p1), .val (.int p2), .val (.int p3), .val (.int p4), .val (.int p5), .val (.int (1 : Int32)), .val (.int x0), .val (.int x1), .val (.int x2), .val (.int x3), .val (.ref b37), .val (.ref b41), .unset, .unset]) C X41 at_147 rfl rfl rfl ?_
    refine g_new (pc' := 152) C X41 at_149 (wq hw 6 rfl) (wq hw 7 rfl) (wq hw 8 rfl) e41 (ce := 3) (sl := 13) rfl rfl (by decide) (by decide) rfl (fun T45 h45 b45 g45 X45 e45 E45 A45 D45 => ?_)
    have sf45_46 := Safe.ext E45 ch41 sf41_42
    have sf45_47 := Safe.ext E45 ch41 sf41_43
    have sf45_48 := Safe.ext E45 ch41 (Safe.new (Nat.le_of_eq g45.symm))
    have ch45 := ch41.ext E45
    have ne45_49 : ¬ (b37 = b45) := Nat.ne_of_lt (Nat.lt_of_lt_of_le V39_41.lt (Nat.le_of_eq g45.symm))
    have ne45_50 : ¬ (b41 = b45) := Nat.ne_of_lt (Nat.lt_of_lt_of_le A41.lt (Nat.le_of_eq g45.symm))
    have FX_45 := FX_ext FX_41 E45
    have V39_45 := V39_41.ext E45
    have A41_45 := A41.ext E45
    have V41_45 := V41.ext E45
    have gn_b45 : n0 ≤ b45 := Nat.le_trans Z41 (Nat.le_of_eq g45.symm)
    have Z45 := Nat.le_trans Z41 E45.1
    have Kz45 := Nat.le_trans Kz41 E45.1
    have F45_value : Fld Z h45 b45 "java/lang/String" "value" "[B" .null := D45 (Or.inr (wq hw 21 rfl)) (ty := (.array .byte)) (by decide)
    have F45_coder : Fld Z h45 b45 "java/lang/String" "coder" "B" (.int (0 : Int32)) := D45 (Or.inr (wq hw 22 rfl)) (ty := .byte) (by decide)
    refine g_dup (pc' := 153) C X45 at_152 rfl rfl ?_
    refine g_aload (pc' := 155) C X45 at_153 rfl rfl rfl ?_
    refine g_callI (b := b45) (y := (⟨"java/lang/String", "<init>", "([C)V"⟩ : MethodName)) (argsL := [(.ref b37)]) (st := [(.ref b45)]) (pc' := 158) C X45 rfl at_155 (wq hw 9 rfl) (wq hw 10 rfl) (wq hw 8 rfl) (wq hw 11 rfl) (by decide) (rmsid l Z a0 hw [] b45 b37 ck37 ([x0]) (1 : Int32) cs_ fm h45 n0 Z45 FX_45 A45 F45_value F45_coder V39_45 gn_b45 ne45_49 rfl (by show 1 ≤ 8; decide) (by decide) (own_al1 hch0)) (W := 1) (by decide) (by decide) (ce := 5) (sl := 61) rfl rfl (by decide) (by decide) rfl e45 rfl pd_38 rfl (Nat.le_refl _) rfl (fun rv51 T51 L51 X51 Q51 => ?_)
    obtain ⟨w51, q51, Nq51, Kq51, P51_0⟩ := Q51
    have N51 := Fr.app N39 Nq51
    have hs51 : ∀ x ∈ [b45], Safe Z own_EL _ _ x := (sfS sf45_48 sf0)
    have sf51_52 := Safe.keep Kq51 hs51 ch45 sf45_46
    have sf51_53 := Safe.keep Kq51 hs51 ch45 sf45_47
    have sf51_54 := Safe.keep Kq51 hs51 ch45 sf45_48
    have ch51 := ch45.keep Kq51 hs51
    have FX_51 := FX_keep FX_45 Kq51 ((allS (by obtain ⟨c_, _, h1_, _, _, h2_, _⟩ := A45; exact ⟨c_, h1_, h2_⟩) all0))
    have V39_51 := V39_45.keep Kq51 (ninS ne45_49 nin0)
    have A41_51 := A41_45.keep Kq51
    have V41_51 := V41_45.keep Kq51 (ninS ne45_50 nin0)
    have A45_51 := A45.keep Kq51
    have Z51 := Nat.le_trans Z45 Kq51.1
    have Kz51 := Nat.le_trans Kz45 Kq51.1
    subst q51
    show Go p.tables e below _ (T51.setTop (mkF m 158 #[.val (.int p1), .val (.int p2), .val (.int p3), .val (.int p4), .val (.int p5), .val (.int (1 : Int32)), .val (.int x0), .val (.int x1), .val (.int x2), .val (.int x3), .val (.ref b37), .val (.ref b41), .unset, .unset] [(.ref b45)]))
    refine g_callSH (y := (⟨"org/vouchsafe/cli/Output", "escape", "(Ljava/lang/String;)Ljava/lang/String;"⟩ : MethodName)) (argsL := [(.ref b45)]) (st := []) (pc' := 161) C X51 hS Kz51 (own_ew hw) ch51 at_158 (wq hw 27 rfl) (wq hw 28 rfl) (wq hw 29 rfl) (wq hw 30 rfl) (by decide) (rmes l Z a0 hw [] b45 w51 ([x0]) cs_ fm T51.heap n0 Z51 FX_51 P51_0 (by show 1 ≤ 4; decide)) (W := 0) (by decide) (by decide) (ce := 21) (sl := 437) rfl rfl (by decide) (by decide) rfl rfl rfl pd_39 rfl (Nat.le_refl _) rfl (fun rv55 T55 L55 C X55 hS Q55 => ?_)
    obtain ⟨r55, w55, q55, Nq55, Kq55, sz55_r, sz55_w, gn_r55, gn_w55, P55_0⟩ := Q55
    have N55 := Fr.app N51 Nq55
    have ne55_56 : ¬ (b37 = r55) := Nat.ne_of_lt (Nat.lt_of_lt_of_le V39_51.lt sz55_r)
    have ne55_57 : ¬ (b41 = r55) := Nat.ne_of_lt (Nat.lt_of_lt_of_le A41_51.lt sz55_r)
    have ne55_58 : ¬ (b45 = r55) := Nat.ne_of_lt (Nat.lt_of_lt_of_le A45_51.lt sz55_r)
    have ne55_59 : ¬ (w51 = r55) := Nat.ne_of_lt (Nat.lt_of_lt_of_le (Str_lt1 P51_0) sz55_r)
    have ne55_60 : ¬ (b37 = w55) := Nat.ne_of_lt (Nat.lt_of_lt_of_le V39_51.lt sz55_w)
    have ne55_61 : ¬ (b41 = w55) := Nat.ne_of_lt (Nat.lt_of_lt_of_le A41_51.lt sz55_w)
    have ne55_62 : ¬ (b45 = w55) := Nat.ne_of_lt (Nat.lt_of_lt_of_le A45_51.lt sz55_w)
    have ne55_63 : ¬ (w51 = w55) := Nat.ne_of_lt (Nat.lt_of_lt_of_le (Str_lt1 P51_0) sz55_w)
    have FX_55 := FX_keep FX_51 Kq55 (fun _ q => nomatch q)
    have V39_55 := V39_51.keep Kq55 nin0
    have A41_55 := A41_51.keep Kq55
    have V41_55 := V41_51.keep Kq55 nin0
    have A45_55 := A45_51.keep Kq55
    have P51_0_55 := Str_keep P51_0 Kq55 nin0 nin0
    have Z55 := Nat.le_trans Z51 Kq55.1
    have Kz55 := Nat.le_trans Kz51 Kq55.1
    subst q55
    show Go p.tables e below _ (T55.setTop (mkF m 161 #[.val (.int p1), .val (.int p2), .val (.int p3), .val (.int p4), .val (.int p5), .val (.int (1 : Int32)), .val (.int x0), .val (.int x1), .val (.int x2), .val (.int x3), .val (.ref b37), .val (.ref b41), .unset, .unset] [(.ref r55)]))
    refine g_astore (pc' := 163) (Ls' := #[.val (.int p1), .val (.int p2), .val (.int p3), .val (.int p4), .val (.int p5), .val (.int (1 : Int32)), .val (.int x0), .val (.int x1), .val (.int x2), .val (.int x3), .val (.ref b37), .val (.ref b41), .val (.ref r55), .unset]) C X55 at_161 rfl rfl rfl ?_
    refine g_iconst (pc' := 164) (v := (0 : Int32)) C X55 at_163 rfl rfl ?_
    refine g_istore (pc' := 166) (Ls' := #[.val (.int p1), .val (.int p2), .val (.int p3), .val (.int p4), .val (.int p5), .val (.int (1 : Int32)), .val (.int x0), .val (.int x1), .val (.int x2), .val (.int x3), .val (.ref b37), .val (.ref b41), .val (.ref r55), .val (.int (0 : Int32))]) C X55 at_164 rfl rfl ?_
    refine g_iload (pc' := 168) C X55 at_166 rfl rfl ?_
    refine g_ifN (pc' := 171) C X55 at_168 (tlt (show (0 : Int32) < (1 : Int32) from (by decide))).2.2.2 rfl ?_
    refine g_aload (pc' := 173) C X55 at_171 rfl rfl rfl ?_
    refine g_iload (pc' := 175) C X55 at_173 rfl rfl ?_
    refine g_iload (pc' := 177) C X55 at_175 rfl rfl ?_
    refine g_callS (y := (⟨"org/vouchsafe/cli/OutputEscapePinLaw", "put", "([CIC)I"⟩ : MethodName)) (argsL := [(.ref b41), (.int (0 : Int32)), (.int x0)]) (st := []) (pc' := 180) C X55 at_177 (wq hw 220 rfl) (wq hw 221 rfl) (wq hw 3 rfl) (wq hw 222 rfl) (by decide) (rmpt l Z a0 hw [] b41 (0 : Int32) x0 ck41 ([]) cs_ fm T55.heap n0 Z55 FX_55 V41_55 gn_b41 (by decide) (by decide) (by decide) (by decide) hch0) (W := 0) (by decide) (by decide) (ce := 21) (sl := 437) rfl rfl (by decide) (by decide) rfl rfl rfl pd_40 rfl (Nat.le_refl _) rfl (fun rv64 T64 L64 X64 Q64 => ?_)
    obtain ⟨q64, Nq64, Kq64, P64_0⟩ := Q64
    have N64 := Fr.app N55 Nq64
    have FX_64 := FX_keep FX_55 Kq64 ((allS (by obtain ⟨c_, A_, _⟩ := V41_55; exact ⟨c_, A_.1, A_.plain⟩) all0))
    have V39_64 := V39_55.keep Kq64 (ninS ne41_44 nin0)
    have A41_64 := A41_55.keep Kq64
    have A45_64 := A45_55.keep Kq64
    have P55_0_64 := Str_keep P55_0 Kq64 (ninS (Ne.symm ne55_57) nin0) (ninS (Ne.symm ne55_61) nin0)
    have Z64 := Nat.le_trans Z55 Kq64.1
    have Kz64 := Nat.le_trans (Nat.le_refl _) Kq64.1
    subst q64
    show Go p.tables e below _ (T64.setTop (mkF m 180 #[.val (.int p1), .val (.int p2), .val (.int p3), .val (.int p4), .val (.int p5), .val (.int (1 : Int32)), .val (.int x0), .val (.int x1), .val (.int x2), .val (.int x3), .val (.ref b37), .val (.ref b41), .val (.ref r55), .val (.int (0 : Int32))] [(.int (Fpt (0 : Int32) x0))]))
    refine g_istore (pc' := 182) (Ls' := #[.val (.int p1), .val (.int p2), .val (.int p3), .val (.int p4), .val (.int p5), .val (.int (1 : Int32)), .val (.int x0), .val (.int x1), .val (.int x2), .val (.int x3), .val (.ref b37), .val (.ref b41), .val (.ref r55), .val (.int (Fpt (0 : Int32) x0))]) C X64 at_180 rfl rfl ?_
    refine g_iload (pc' := 184) C X64 at_182 rfl rfl ?_
    refine g_iconst (pc' := 185) (v := (1 : Int32)) C X64 at_184 rfl rfl ?_
    refine g_icmpY (pc' := 199) C X64 at_185 (flt (show ¬ ((1 : Int32) < (1 : Int32)) from (by decide))).2.2.2 (by decide) (by decide) ?_
    refine g_iload (pc' := 201) C X64 at_199 rfl rfl ?_
    refine g_iconst (pc' := 202) (v := (2 : Int32)) C X64 at_201 rfl rfl ?_
    refine g_icmpY (pc' := 216) C X64 at_202 (flt (show ¬ ((2 : Int32) < (1 : Int32)) from (by decide))).2.2.2 (by decide) (by decide) ?_
    refine g_iload (pc' := 218) C X64 at_216 rfl rfl ?_
    refine g_iconst (pc' := 219) (v := (3 : Int32)) C X64 at_218 rfl rfl ?_
    refine g_icmpY (pc' := 233) C X64 at_219 (flt (show ¬ ((3 : Int32) < (1 : Int32)) from (by decide))).2.2.2 (by decide) (by decide) ?_
    exact JS _ _ _ _ _ (1 : Int32) b37 r55 w55 b41 ck41 (Fpt (0 : Int32) x0) (own_esc [x0]) (own_pt [] (0 : Int32) x0) C (X64.mono (by decide) (by decide)) hS rfl Kz64 N64 Z64 FX_64 P55_0_64 P64_0 (own_lw1 x0) (own_aw1 x0)
  · refine own_cast (show T4.setTop (mkF m 35 #[.val (.int p1), .val (.int p2), .val (.int p3), .val (.int p4), .val (.int p5), .val (.int ((p1 &&& (2147483647 : Int32)) % (5 : Int32))), .val (.int x0), .val (.int x1), .val (.int x2), .val (.int x3), .unset, .unset, .unset, .unset] [(.int ((p1 &&& (2147483647 : Int32)) % (5 : Int32)))]) = T4.setTop (mkF m 35 #[.val (.int p1), .val (.int p2), .val (.int p3), .val (.int p4), .val (.int p5), .val (.int (2 : Int32)), .val (.int x0), .val (.int x1), .val (.int x2), .val (.int x3), .unset, .unset, .unset, .unset] [(.int (2 : Int32))]) from by rw [s14]) ?_
    refine g_ifY (pc' := 46) C X4 at_35 (feq (show ¬ ((2 : Int32) = (0 : Int32)) from (by decide))).2 (by decide) (by decide) ?_
    refine g_iload (pc' := 48) C X4 at_46 rfl rfl ?_
    refine g_iconst (pc' := 49) (v := (1 : Int32)) C X4 at_48 rfl rfl ?_
    refine g_icmpY (pc' := 65) C X4 at_49 (feq (show ¬ ((2 : Int32) = (1 : Int32)) from (by decide))).2 (by decide) (by decide) ?_
    refine g_iload (pc' := 67) C X4 at_65 rfl rfl ?_
    refine g_iconst (pc' := 68) (v := (2 : Int32)) C X4 at_67 rfl rfl ?_
    refine g_icmpN (pc' := 71) C X4 at_68 (teq (show (2 : Int32) = (2 : Int32) from (by decide))).2 rfl ?_
    refine g_iconst (pc' := 72) (v := (2 : Int32)) C X4 at_71 rfl rfl ?_
    refine g_newP (pc' := 74) (cap := 2) C X4 at_72 (wq hw 5 rfl) e4 (by decide) (by decide) (by decide) (ce := 1) (sl := 2) rfl rfl (by decide) (by decide) rfl (fun T65 h65 b65 ck65 g65 X65 e65 E65 A65 => ?_)
    have sf65_66 := Safe.ext E65 hpx (Safe.new (Nat.le_of_eq g65.symm))
    have ch65 := hpx.ext E65
    have FX_65 := FX_ext hF E65
    have gn_b65 : n0 ≤ b65 := Nat.le_trans Z0 (Nat.le_of_eq g65.symm)
    have Z65 := Nat.le_trans Z0 E65.1
    have Kz65 := Nat.le_trans (Nat.zero_le _) E65.1
    have V65 : Arv Z h65 b65 ck65 .char (2 : Int32) [(.int (0 : Int32)), (.int (0 : Int32))] (.int (0 : Int32)) := A65.pad (pad_rep [] (.int (0 : Int32)) 2)
    refine g_dup (pc' := 75) C X65 at_74 rfl rfl ?_
    refine g_iconst (pc' := 76) (v := (0 : Int32)) C X65 at_75 rfl rfl ?_
    refine g_iload (pc' := 78) C X65 at_76 rfl rfl ?_
    refine g_stC (pc' := 79) (i := 0) C X65 at_78 e65 V65 ⟨by decide, by decide⟩ rfl (show (0 : Nat) < 2 from by decide) rfl (fun T67 h67 X67 e67 W67 V67q => ?_)
    have V67 : Arv Z h67 b65 ck65 .char (2 : Int32) [(.int x0), (.int (0 : Int32))] (.int (0 : Int32)) := by rw [(own_narc hch0)] at V67q; exact V67q
    have sf67_68 := Safe.wr W67 sf65_66 ch65 sf65_66
    have ch67 := ch65.wr W67 sf65_66
    have FX_67 := FX_wr FX_65 W67
    have Z67 := Nat.le_trans Z65 (Nat.le_of_eq W67.size.symm)
    have Kz67 := Nat.le_trans Kz65 (Nat.le_of_eq W67.size.symm)
    have N67 := Fr.snoc X67 N4 gn_b65
    refine g_dup (pc' := 80) C X67 at_79 rfl rfl ?_
    refine g_iconst (pc' := 81) (v := (1 : Int32)) C X67 at_80 rfl rfl ?_
    refine g_iload (pc' := 83) C X67 at_81 rfl rfl ?_
    refine g_stC (pc' := 84) (i := 1) C X67 at_83 e67 V67 ⟨by decide, by decide⟩ rfl (show (1 : Nat) < 2 from by decide) rfl (fun T69 h69 X69 e69 W69 V69q => ?_)
    have V69 : Arv Z h69 b65 ck65 .char (2 : Int32) [(.int x0), (.int x1)] (.int (0 : Int32)) := by rw [(own_narc hch1)] at V69q; exact V69q
    have sf69_70 := Safe.wr W69 sf67_68 ch67 sf67_68
    have ch69 := ch67.wr W69 sf67_68
    have FX_69 := FX_wr FX_67 W69
    have Z69 := Nat.le_trans Z67 (Nat.le_of_eq W69.size.symm)
    have Kz69 := Nat.le_trans Kz67 (Nat.le_of_eq W69.size.symm)
    have N69 := Fr.snoc X69 N67 gn_b65
    refine g_astore (pc' := 86) (Ls' := #[.val (.int p1), .val (.int p2), .val (.int p3), .val (.int p4), .val (.int p5), .val (.int (2 : Int32)), .val (.int x0), .val (.int x1), .val (.int x2), .val (.int x3), .val (.ref b65), .unset, .unset, .unset]) C X69 at_84 rfl rfl rfl ?_
    refine g_goto (pc' := 143) C X69 at_86 (by decide) (by decide) ?_
    refine g_bipush (pc' := 145) (v := (8 : Int32)) C X69 at_143 rfl rfl ?_
    refine g_newPE (pc' := 147) (cap := 8) (ad := "[C") C X69 (by decide) at_145 (wq hw 5 rfl) e69 (by decide) (by decide) (by decide) (ce := 2) (sl := 10) rfl rfl (by decide) (by decide) rfl (fun T71 h71 b71 ck71 g71 X71 e71 E71 V71 A71 => ?_)
    have sf71_72 := Safe.ext E71 ch69 sf69_70
    have sf71_73 := Safe.ext E71 ch69 (Safe.new (Nat.le_of_eq g71.symm))
    have ch71 := ch69.ext E71
    have ne71_74 : ¬ (b65 = b71) := Nat.ne_of_lt (Nat.lt_of_lt_of_le V69.lt (Nat.le_of_eq g71.symm))
    have FX_71 := FX_ext FX_69 E71
    have V69_71 := V69.ext E71
    have gn_b71 : n0 ≤ b71 := Nat.le_trans Z69 (Nat.le_of_eq g71.symm)
    have Z71 := Nat.le_trans Z69 E71.1
    have Kz71 := Nat.le_trans Kz69 E71.1
    refine g_astore (pc' := 149) (Ls' := #[.val (.int p1), .val (.int p2), .val (.int p3), .val (.int p4), .val (.int p5), .val (.int (2 : Int32)), .val (.int x0), .val (.int x1), .val (.int x2), .val (.int x3), .val (.ref b65), .val (.ref b71), .unset, .unset]) C X71 at_147 rfl rfl rfl ?_
    refine g_new (pc' := 152) C X71 at_149 (wq hw 6 rfl) (wq hw 7 rfl) (wq hw 8 rfl) e71 (ce := 3) (sl := 14) rfl rfl (by decide) (by decide) rfl (fun T75 h75 b75 g75 X75 e75 E75 A75 D75 => ?_)
    have sf75_76 := Safe.ext E75 ch71 sf71_72
    have sf75_77 := Safe.ext E75 ch71 sf71_73
    have sf75_78 := Safe.ext E75 ch71 (Safe.new (Nat.le_of_eq g75.symm))
    have ch75 := ch71.ext E75
    have ne75_79 : ¬ (b65 = b75) := Nat.ne_of_lt (Nat.lt_of_lt_of_le V69_71.lt (Nat.le_of_eq g75.symm))
    have ne75_80 : ¬ (b71 = b75) := Nat.ne_of_lt (Nat.lt_of_lt_of_le A71.lt (Nat.le_of_eq g75.symm))
    have FX_75 := FX_ext FX_71 E75
    have V69_75 := V69_71.ext E75
    have A71_75 := A71.ext E75
    have V71_75 := V71.ext E75
    have gn_b75 : n0 ≤ b75 := Nat.le_trans Z71 (Nat.le_of_eq g75.symm)
    have Z75 := Nat.le_trans Z71 E75.1
    have Kz75 := Nat.le_trans Kz71 E75.1
    have F75_value : Fld Z h75 b75 "java/lang/String" "value" "[B" .null := D75 (Or.inr (wq hw 21 rfl)) (ty := (.array .byte)) (by decide)
    have F75_coder : Fld Z h75 b75 "java/lang/String" "coder" "B" (.int (0 : Int32)) := D75 (Or.inr (wq hw 22 rfl)) (ty := .byte) (by decide)
    refine g_dup (pc' := 153) C X75 at_152 rfl rfl ?_
    refine g_aload (pc' := 155) C X75 at_153 rfl rfl rfl ?_
    refine g_callI (b := b75) (y := (⟨"java/lang/String", "<init>", "([C)V"⟩ : MethodName)) (argsL := [(.ref b65)]) (st := [(.ref b75)]) (pc' := 158) C X75 rfl at_155 (wq hw 9 rfl) (wq hw 10 rfl) (wq hw 8 rfl) (wq hw 11 rfl) (by decide) (rmsid l Z a0 hw [] b75 b65 ck65 ([x0, x1]) (2 : Int32) cs_ fm h75 n0 Z75 FX_75 A75 F75_value F75_coder V69_75 gn_b75 ne75_79 rfl (by show 2 ≤ 8; decide) (by decide) (own_al2 hch0 hch1)) (W := 1) (by decide) (by decide) (ce := 5) (sl := 62) rfl rfl (by decide) (by decide) rfl e75 rfl pd_38 rfl (Nat.le_refl _) rfl (fun rv81 T81 L81 X81 Q81 => ?_)
    obtain ⟨w81, q81, Nq81, Kq81, P81_0⟩ := Q81
    have N81 := Fr.app N69 Nq81
    have hs81 : ∀ x ∈ [b75], Safe Z own_EL _ _ x := (sfS sf75_78 sf0)
    have sf81_82 := Safe.keep Kq81 hs81 ch75 sf75_76
    have sf81_83 := Safe.keep Kq81 hs81 ch75 sf75_77
    have sf81_84 := Safe.keep Kq81 hs81 ch75 sf75_78
    have ch81 := ch75.keep Kq81 hs81
    have FX_81 := FX_keep FX_75 Kq81 ((allS (by obtain ⟨c_, _, h1_, _, _, h2_, _⟩ := A75; exact ⟨c_, h1_, h2_⟩) all0))
    have V69_81 := V69_75.keep Kq81 (ninS ne75_79 nin0)
    have A71_81 := A71_75.keep Kq81
    have V71_81 := V71_75.keep Kq81 (ninS ne75_80 nin0)
    have A75_81 := A75.keep Kq81
    have Z81 := Nat.le_trans Z75 Kq81.1
    have Kz81 := Nat.le_trans Kz75 Kq81.1
    subst q81
    show Go p.tables e below _ (T81.setTop (mkF m 158 #[.val (.int p1), .val (.int p2), .val (.int p3), .val (.int p4), .val (.int p5), .val (.int (2 : Int32)), .val (.int x0), .val (.int x1), .val (.int x2), .val (.int x3), .val (.ref b65), .val (.ref b71), .unset, .unset] [(.ref b75)]))
    refine g_callSH (y := (⟨"org/vouchsafe/cli/Output", "escape", "(Ljava/lang/String;)Ljava/lang/String;"⟩ : MethodName)) (argsL := [(.ref b75)]) (st := []) (pc' := 161) C X81 hS Kz81 (own_ew hw) ch81 at_158 (wq hw 27 rfl) (wq hw 28 rfl) (wq hw 29 rfl) (wq hw 30 rfl) (by decide) (rmes l Z a0 hw [] b75 w81 ([x0, x1]) cs_ fm T81.heap n0 Z81 FX_81 P81_0 (by show 2 ≤ 4; decide)) (W := 0) (by decide) (by decide) (ce := 21) (sl := 438) rfl rfl (by decide) (by decide) rfl rfl rfl pd_39 rfl (Nat.le_refl _) rfl (fun rv85 T85 L85 C X85 hS Q85 => ?_)
    obtain ⟨r85, w85, q85, Nq85, Kq85, sz85_r, sz85_w, gn_r85, gn_w85, P85_0⟩ := Q85
    have N85 := Fr.app N81 Nq85
    have ne85_86 : ¬ (b65 = r85) := Nat.ne_of_lt (Nat.lt_of_lt_of_le V69_81.lt sz85_r)
    have ne85_87 : ¬ (b71 = r85) := Nat.ne_of_lt (Nat.lt_of_lt_of_le A71_81.lt sz85_r)
    have ne85_88 : ¬ (b75 = r85) := Nat.ne_of_lt (Nat.lt_of_lt_of_le A75_81.lt sz85_r)
    have ne85_89 : ¬ (w81 = r85) := Nat.ne_of_lt (Nat.lt_of_lt_of_le (Str_lt1 P81_0) sz85_r)
    have ne85_90 : ¬ (b65 = w85) := Nat.ne_of_lt (Nat.lt_of_lt_of_le V69_81.lt sz85_w)
    have ne85_91 : ¬ (b71 = w85) := Nat.ne_of_lt (Nat.lt_of_lt_of_le A71_81.lt sz85_w)
    have ne85_92 : ¬ (b75 = w85) := Nat.ne_of_lt (Nat.lt_of_lt_of_le A75_81.lt sz85_w)
    have ne85_93 : ¬ (w81 = w85) := Nat.ne_of_lt (Nat.lt_of_lt_of_le (Str_lt1 P81_0) sz85_w)
    have FX_85 := FX_keep FX_81 Kq85 (fun _ q => nomatch q)
    have V69_85 := V69_81.keep Kq85 nin0
    have A71_85 := A71_81.keep Kq85
    have V71_85 := V71_81.keep Kq85 nin0
    have A75_85 := A75_81.keep Kq85
    have P81_0_85 := Str_keep P81_0 Kq85 nin0 nin0
    have Z85 := Nat.le_trans Z81 Kq85.1
    have Kz85 := Nat.le_trans Kz81 Kq85.1
    subst q85
    show Go p.tables e below _ (T85.setTop (mkF m 161 #[.val (.int p1), .val (.int p2), .val (.int p3), .val (.int p4), .val (.int p5), .val (.int (2 : Int32)), .val (.int x0), .val (.int x1), .val (.int x2), .val (.int x3), .val (.ref b65), .val (.ref b71), .unset, .unset] [(.ref r85)]))
    refine g_astore (pc' := 163) (Ls' := #[.val (.int p1), .val (.int p2), .val (.int p3), .val (.int p4), .val (.int p5), .val (.int (2 : Int32)), .val (.int x0), .val (.int x1), .val (.int x2), .val (.int x3), .val (.ref b65), .val (.ref b71), .val (.ref r85), .unset]) C X85 at_161 rfl rfl rfl ?_
    refine g_iconst (pc' := 164) (v := (0 : Int32)) C X85 at_163 rfl rfl ?_
    refine g_istore (pc' := 166) (Ls' := #[.val (.int p1), .val (.int p2), .val (.int p3), .val (.int p4), .val (.int p5), .val (.int (2 : Int32)), .val (.int x0), .val (.int x1), .val (.int x2), .val (.int x3), .val (.ref b65), .val (.ref b71), .val (.ref r85), .val (.int (0 : Int32))]) C X85 at_164 rfl rfl ?_
    refine g_iload (pc' := 168) C X85 at_166 rfl rfl ?_
    refine g_ifN (pc' := 171) C X85 at_168 (tlt (show (0 : Int32) < (2 : Int32) from (by decide))).2.2.2 rfl ?_
    refine g_aload (pc' := 173) C X85 at_171 rfl rfl rfl ?_
    refine g_iload (pc' := 175) C X85 at_173 rfl rfl ?_
    refine g_iload (pc' := 177) C X85 at_175 rfl rfl ?_
    refine g_callS (y := (⟨"org/vouchsafe/cli/OutputEscapePinLaw", "put", "([CIC)I"⟩ : MethodName)) (argsL := [(.ref b71), (.int (0 : Int32)), (.int x0)]) (st := []) (pc' := 180) C X85 at_177 (wq hw 220 rfl) (wq hw 221 rfl) (wq hw 3 rfl) (wq hw 222 rfl) (by decide) (rmpt l Z a0 hw [] b71 (0 : Int32) x0 ck71 ([]) cs_ fm T85.heap n0 Z85 FX_85 V71_85 gn_b71 (by decide) (by decide) (by decide) (by decide) hch0) (W := 0) (by decide) (by decide) (ce := 21) (sl := 438) rfl rfl (by decide) (by decide) rfl rfl rfl pd_40 rfl (Nat.le_refl _) rfl (fun rv94 T94 L94 X94 Q94 => ?_)
    obtain ⟨q94, Nq94, Kq94, P94_0⟩ := Q94
    have N94 := Fr.app N85 Nq94
    have FX_94 := FX_keep FX_85 Kq94 ((allS (by obtain ⟨c_, A_, _⟩ := V71_85; exact ⟨c_, A_.1, A_.plain⟩) all0))
    have V69_94 := V69_85.keep Kq94 (ninS ne71_74 nin0)
    have A71_94 := A71_85.keep Kq94
    have A75_94 := A75_85.keep Kq94
    have P85_0_94 := Str_keep P85_0 Kq94 (ninS (Ne.symm ne85_87) nin0) (ninS (Ne.symm ne85_91) nin0)
    have Z94 := Nat.le_trans Z85 Kq94.1
    have Kz94 := Nat.le_trans (Nat.le_refl _) Kq94.1
    subst q94
    show Go p.tables e below _ (T94.setTop (mkF m 180 #[.val (.int p1), .val (.int p2), .val (.int p3), .val (.int p4), .val (.int p5), .val (.int (2 : Int32)), .val (.int x0), .val (.int x1), .val (.int x2), .val (.int x3), .val (.ref b65), .val (.ref b71), .val (.ref r85), .val (.int (0 : Int32))] [(.int (Fpt (0 : Int32) x0))]))
    refine g_istore (pc' := 182) (Ls' := #[.val (.int p1), .val (.int p2), .val (.int p3), .val (.int p4), .val (.int p5), .val (.int (2 : Int32)), .val (.int x0), .val (.int x1), .val (.int x2), .val (.int x3), .val (.ref b65), .val (.ref b71), .val (.ref r85), .val (.int (Fpt (0 : Int32) x0))]) C X94 at_180 rfl rfl ?_
    refine g_iload (pc' := 184) C X94 at_182 rfl rfl ?_
    refine g_iconst (pc' := 185) (v := (1 : Int32)) C X94 at_184 rfl rfl ?_
    refine g_icmpN (pc' := 188) C X94 at_185 (tlt (show (1 : Int32) < (2 : Int32) from (by decide))).2.2.2 rfl ?_
    refine g_aload (pc' := 190) C X94 at_188 rfl rfl rfl ?_
    refine g_iload (pc' := 192) C X94 at_190 rfl rfl ?_
    refine g_iload (pc' := 194) C X94 at_192 rfl rfl ?_
    refine g_callS (y := (⟨"org/vouchsafe/cli/OutputEscapePinLaw", "put", "([CIC)I"⟩ : MethodName)) (argsL := [(.ref b71), (.int (Fpt (0 : Int32) x0)), (.int x1)]) (st := []) (pc' := 197) C X94 at_194 (wq hw 220 rfl) (wq hw 221 rfl) (wq hw 3 rfl) (wq hw 222 rfl) (by decide) (rmpt l Z a0 hw [] b71 (Fpt (0 : Int32) x0) x1 ck71 (own_pt [] (0 : Int32) x0) cs_ fm T94.heap n0 Z94 FX_94 P94_0 gn_b71 (own_pb (own_pv1 x0) (by decide)).1 (own_pb (own_pv1 x0) (by decide)).2.1 (own_pb (own_pv1 x0) (by decide)).2.2.1 (own_pb (own_pv1 x0) (by decide)).2.2.2 hch1) (W := 0) (by decide) (by decide) (ce := 21) (sl := 438) rfl rfl (by decide) (by decide) rfl rfl rfl pd_40 rfl (Nat.le_refl _) rfl (fun rv95 T95 L95 X95 Q95 => ?_)
    obtain ⟨q95, Nq95, Kq95, P95_0⟩ := Q95
    have N95 := Fr.app N94 Nq95
    have FX_95 := FX_keep FX_94 Kq95 ((allS (by obtain ⟨c_, A_, _⟩ := P94_0; exact ⟨c_, A_.1, A_.plain⟩) all0))
    have V69_95 := V69_94.keep Kq95 (ninS ne71_74 nin0)
    have A71_95 := A71_94.keep Kq95
    have A75_95 := A75_94.keep Kq95
    have P85_0_95 := Str_keep P85_0_94 Kq95 (ninS (Ne.symm ne85_87) nin0) (ninS (Ne.symm ne85_91) nin0)
    have Z95 := Nat.le_trans Z94 Kq95.1
    have Kz95 := Nat.le_trans Kz94 Kq95.1
    subst q95
    show Go p.tables e below _ (T95.setTop (mkF m 197 #[.val (.int p1), .val (.int p2), .val (.int p3), .val (.int p4), .val (.int p5), .val (.int (2 : Int32)), .val (.int x0), .val (.int x1), .val (.int x2), .val (.int x3), .val (.ref b65), .val (.ref b71), .val (.ref r85), .val (.int (Fpt (0 : Int32) x0))] [(.int (Fpt (Fpt (0 : Int32) x0) x1))]))
    refine g_istore (pc' := 199) (Ls' := #[.val (.int p1), .val (.int p2), .val (.int p3), .val (.int p4), .val (.int p5), .val (.int (2 : Int32)), .val (.int x0), .val (.int x1), .val (.int x2), .val (.int x3), .val (.ref b65), .val (.ref b71), .val (.ref r85), .val (.int (Fpt (Fpt (0 : Int32) x0) x1))]) C X95 at_197 rfl rfl ?_
    refine g_iload (pc' := 201) C X95 at_199 rfl rfl ?_
    refine g_iconst (pc' := 202) (v := (2 : Int32)) C X95 at_201 rfl rfl ?_
    refine g_icmpY (pc' := 216) C X95 at_202 (flt (show ¬ ((2 : Int32) < (2 : Int32)) from (by decide))).2.2.2 (by decide) (by decide) ?_
    refine g_iload (pc' := 218) C X95 at_216 rfl rfl ?_
    refine g_iconst (pc' := 219) (v := (3 : Int32)) C X95 at_218 rfl rfl ?_
    refine g_icmpY (pc' := 233) C X95 at_219 (flt (show ¬ ((3 : Int32) < (2 : Int32)) from (by decide))).2.2.2 (by decide) (by decide) ?_
    exact JS _ _ _ _ _ (2 : Int32) b65 r85 w85 b71 ck71 (Fpt (Fpt (0 : Int32) x0) x1) (own_esc [x0, x1]) (own_pt (own_pt [] (0 : Int32) x0) (Fpt (0 : Int32) x0) x1) C (X95.mono (by decide) (by decide)) hS rfl Kz95 N95 Z95 FX_95 P85_0_95 P95_0 (own_lw2 x0 x1) (own_aw2 x0 x1)
  · refine own_cast (show T4.setTop (mkF m 35 #[.val (.int p1), .val (.int p2), .val (.int p3), .val (.int p4), .val (.int p5), .val (.int ((p1 &&& (2147483647 : Int32)) % (5 : Int32))), .val (.int x0), .val (.int x1), .val (.int x2), .val (.int x3), .unset, .unset, .unset, .unset] [(.int ((p1 &&& (2147483647 : Int32)) % (5 : Int32)))]) = T4.setTop (mkF m 35 #[.val (.int p1), .val (.int p2), .val (.int p3), .val (.int p4), .val (.int p5), .val (.int (3 : Int32)), .val (.int x0), .val (.int x1), .val (.int x2), .val (.int x3), .unset, .unset, .unset, .unset] [(.int (3 : Int32))]) from by rw [s14]) ?_
    refine g_ifY (pc' := 46) C X4 at_35 (feq (show ¬ ((3 : Int32) = (0 : Int32)) from (by decide))).2 (by decide) (by decide) ?_
    refine g_iload (pc' := 48) C X4 at_46 rfl rfl ?_
    refine g_iconst (pc' := 49) (v := (1 : Int32)) C X4 at_48 rfl rfl ?_
    refine g_icmpY (pc' := 65) C X4 at_49 (feq (show ¬ ((3 : Int32) = (1 : Int32)) from (by decide))).2 (by decide) (by decide) ?_
    refine g_iload (pc' := 67) C X4 at_65 rfl rfl ?_
    refine g_iconst (pc' := 68) (v := (2 : Int32)) C X4 at_67 rfl rfl ?_
    refine g_icmpY (pc' := 89) C X4 at_68 (feq (show ¬ ((3 : Int32) = (2 : Int32)) from (by decide))).2 (by decide) (by decide) ?_
    refine g_iload (pc' := 91) C X4 at_89 rfl rfl ?_
    refine g_iconst (pc' := 92) (v := (3 : Int32)) C X4 at_91 rfl rfl ?_
    refine g_icmpN (pc' := 95) C X4 at_92 (teq (show (3 : Int32) = (3 : Int32) from (by decide))).2 rfl ?_
    refine g_iconst (pc' := 96) (v := (3 : Int32)) C X4 at_95 rfl rfl ?_
    refine g_newP (pc' := 98) (cap := 3) C X4 at_96 (wq hw 5 rfl) e4 (by decide) (by decide) (by decide) (ce := 1) (sl := 3) rfl rfl (by decide) (by decide) rfl (fun T96 h96 b96 ck96 g96 X96 e96 E96 A96 => ?_)
    have sf96_97 := Safe.ext E96 hpx (Safe.new (Nat.le_of_eq g96.symm))
    have ch96 := hpx.ext E96
    have FX_96 := FX_ext hF E96
    have gn_b96 : n0 ≤ b96 := Nat.le_trans Z0 (Nat.le_of_eq g96.symm)
    have Z96 := Nat.le_trans Z0 E96.1
    have Kz96 := Nat.le_trans (Nat.zero_le _) E96.1
    have V96 : Arv Z h96 b96 ck96 .char (3 : Int32) [(.int (0 : Int32)), (.int (0 : Int32)), (.int (0 : Int32))] (.int (0 : Int32)) := A96.pad (pad_rep [] (.int (0 : Int32)) 3)
    refine g_dup (pc' := 99) C X96 at_98 rfl rfl ?_
    refine g_iconst (pc' := 100) (v := (0 : Int32)) C X96 at_99 rfl rfl ?_
    refine g_iload (pc' := 102) C X96 at_100 rfl rfl ?_
    refine g_stC (pc' := 103) (i := 0) C X96 at_102 e96 V96 ⟨by decide, by decide⟩ rfl (show (0 : Nat) < 3 from by decide) rfl (fun T98 h98 X98 e98 W98 V98q => ?_)
    have V98 : Arv Z h98 b96 ck96 .char (3 : Int32) [(.int x0), (.int (0 : Int32)), (.int (0 : Int32))] (.int (0 : Int32)) := by rw [(own_narc hch0)] at V98q; exact V98q
    have sf98_99 := Safe.wr W98 sf96_97 ch96 sf96_97
    have ch98 := ch96.wr W98 sf96_97
    have FX_98 := FX_wr FX_96 W98
    have Z98 := Nat.le_trans Z96 (Nat.le_of_eq W98.size.symm)
    have Kz98 := Nat.le_trans Kz96 (Nat.le_of_eq W98.size.symm)
    have N98 := Fr.snoc X98 N4 gn_b96
    refine g_dup (pc' := 104) C X98 at_103 rfl rfl ?_
    refine g_iconst (pc' := 105) (v := (1 : Int32)) C X98 at_104 rfl rfl ?_
    refine g_iload (pc' := 107) C X98 at_105 rfl rfl ?_
    refine g_stC (pc' := 108) (i := 1) C X98 at_107 e98 V98 ⟨by decide, by decide⟩ rfl (show (1 : Nat) < 3 from by decide) rfl (fun T100 h100 X100 e100 W100 V100q => ?_)
    have V100 : Arv Z h100 b96 ck96 .char (3 : Int32) [(.int x0), (.int x1), (.int (0 : Int32))] (.int (0 : Int32)) := by rw [(own_narc hch1)] at V100q; exact V100q
    have sf100_101 := Safe.wr W100 sf98_99 ch98 sf98_99
    have ch100 := ch98.wr W100 sf98_99
    have FX_100 := FX_wr FX_98 W100
    have Z100 := Nat.le_trans Z98 (Nat.le_of_eq W100.size.symm)
    have Kz100 := Nat.le_trans Kz98 (Nat.le_of_eq W100.size.symm)
    have N100 := Fr.snoc X100 N98 gn_b96
    refine g_dup (pc' := 109) C X100 at_108 rfl rfl ?_
    refine g_iconst (pc' := 110) (v := (2 : Int32)) C X100 at_109 rfl rfl ?_
    refine g_iload (pc' := 112) C X100 at_110 rfl rfl ?_
    refine g_stC (pc' := 113) (i := 2) C X100 at_112 e100 V100 ⟨by decide, by decide⟩ rfl (show (2 : Nat) < 3 from by decide) rfl (fun T102 h102 X102 e102 W102 V102q => ?_)
    have V102 : Arv Z h102 b96 ck96 .char (3 : Int32) [(.int x0), (.int x1), (.int x2)] (.int (0 : Int32)) := by rw [(own_narc hch2)] at V102q; exact V102q
    have sf102_103 := Safe.wr W102 sf100_101 ch100 sf100_101
    have ch102 := ch100.wr W102 sf100_101
    have FX_102 := FX_wr FX_100 W102
    have Z102 := Nat.le_trans Z100 (Nat.le_of_eq W102.size.symm)
    have Kz102 := Nat.le_trans Kz100 (Nat.le_of_eq W102.size.symm)
    have N102 := Fr.snoc X102 N100 gn_b96
    refine g_astore (pc' := 115) (Ls' := #[.val (.int p1), .val (.int p2), .val (.int p3), .val (.int p4), .val (.int p5), .val (.int (3 : Int32)), .val (.int x0), .val (.int x1), .val (.int x2), .val (.int x3), .val (.ref b96), .unset, .unset, .unset]) C X102 at_113 rfl rfl rfl ?_
    refine g_goto (pc' := 143) C X102 at_115 (by decide) (by decide) ?_
    refine g_bipush (pc' := 145) (v := (8 : Int32)) C X102 at_143 rfl rfl ?_
    refine g_newPE (pc' := 147) (cap := 8) (ad := "[C") C X102 (by decide) at_145 (wq hw 5 rfl) e102 (by decide) (by decide) (by decide) (ce := 2) (sl := 11) rfl rfl (by decide) (by decide) rfl (fun T104 h104 b104 ck104 g104 X104 e104 E104 V104 A104 => ?_)
    have sf104_105 := Safe.ext E104 ch102 sf102_103
    have sf104_106 := Safe.ext E104 ch102 (Safe.new (Nat.le_of_eq g104.symm))
    have ch104 := ch102.ext E104
    have ne104_107 : ¬ (b96 = b104) := Nat.ne_of_lt (Nat.lt_of_lt_of_le V102.lt (Nat.le_of_eq g104.symm))
    have FX_104 := FX_ext FX_102 E104
    have V102_104 := V102.ext E104
    have gn_b104 : n0 ≤ b104 := Nat.le_trans Z102 (Nat.le_of_eq g104.symm)
    have Z104 := Nat.le_trans Z102 E104.1
    have Kz104 := Nat.le_trans Kz102 E104.1
    refine g_astore (pc' := 149) (Ls' := #[.val (.int p1), .val (.int p2), .val (.int p3), .val (.int p4), .val (.int p5), .val (.int (3 : Int32)), .val (.int x0), .val (.int x1), .val (.int x2), .val (.int x3), .val (.ref b96), .val (.ref b104), .unset, .unset]) C X104 at_147 rfl rfl rfl ?_
    refine g_new (pc' := 152) C X104 at_149 (wq hw 6 rfl) (wq hw 7 rfl) (wq hw 8 rfl) e104 (ce := 3) (sl := 15) rfl rfl (by decide) (by decide) rfl (fun T108 h108 b108 g108 X108 e108 E108 A108 D108 => ?_)
    have sf108_109 := Safe.ext E108 ch104 sf104_105
    have sf108_110 := Safe.ext E108 ch104 sf104_106
    have sf108_111 := Safe.ext E108 ch104 (Safe.new (Nat.le_of_eq g108.symm))
    have ch108 := ch104.ext E108
    have ne108_112 : ¬ (b96 = b108) := Nat.ne_of_lt (Nat.lt_of_lt_of_le V102_104.lt (Nat.le_of_eq g108.symm))
    have ne108_113 : ¬ (b104 = b108) := Nat.ne_of_lt (Nat.lt_of_lt_of_le A104.lt (Nat.le_of_eq g108.symm))
    have FX_108 := FX_ext FX_104 E108
    have V102_108 := V102_104.ext E108
    have A104_108 := A104.ext E108
    have V104_108 := V104.ext E108
    have gn_b108 : n0 ≤ b108 := Nat.le_trans Z104 (Nat.le_of_eq g108.symm)
    have Z108 := Nat.le_trans Z104 E108.1
    have Kz108 := Nat.le_trans Kz104 E108.1
    have F108_value : Fld Z h108 b108 "java/lang/String" "value" "[B" .null := D108 (Or.inr (wq hw 21 rfl)) (ty := (.array .byte)) (by decide)
    have F108_coder : Fld Z h108 b108 "java/lang/String" "coder" "B" (.int (0 : Int32)) := D108 (Or.inr (wq hw 22 rfl)) (ty := .byte) (by decide)
    refine g_dup (pc' := 153) C X108 at_152 rfl rfl ?_
    refine g_aload (pc' := 155) C X108 at_153 rfl rfl rfl ?_
    refine g_callI (b := b108) (y := (⟨"java/lang/String", "<init>", "([C)V"⟩ : MethodName)) (argsL := [(.ref b96)]) (st := [(.ref b108)]) (pc' := 158) C X108 rfl at_155 (wq hw 9 rfl) (wq hw 10 rfl) (wq hw 8 rfl) (wq hw 11 rfl) (by decide) (rmsid l Z a0 hw [] b108 b96 ck96 ([x0, x1, x2]) (3 : Int32) cs_ fm h108 n0 Z108 FX_108 A108 F108_value F108_coder V102_108 gn_b108 ne108_112 rfl (by show 3 ≤ 8; decide) (by decide) (own_al3 hch0 hch1 hch2)) (W := 1) (by decide) (by decide) (ce := 5) (sl := 63) rfl rfl (by decide) (by decide) rfl e108 rfl pd_38 rfl (Nat.le_refl _) rfl (fun rv114 T114 L114 X114 Q114 => ?_)
    obtain ⟨w114, q114, Nq114, Kq114, P114_0⟩ := Q114
    have N114 := Fr.app N102 Nq114
    have hs114 : ∀ x ∈ [b108], Safe Z own_EL _ _ x := (sfS sf108_111 sf0)
    have sf114_115 := Safe.keep Kq114 hs114 ch108 sf108_109
    have sf114_116 := Safe.keep Kq114 hs114 ch108 sf108_110
    have sf114_117 := Safe.keep Kq114 hs114 ch108 sf108_111
    have ch114 := ch108.keep Kq114 hs114
    have FX_114 := FX_keep FX_108 Kq114 ((allS (by obtain ⟨c_, _, h1_, _, _, h2_, _⟩ := A108; exact ⟨c_, h1_, h2_⟩) all0))
    have V102_114 := V102_108.keep Kq114 (ninS ne108_112 nin0)
    have A104_114 := A104_108.keep Kq114
    have V104_114 := V104_108.keep Kq114 (ninS ne108_113 nin0)
    have A108_114 := A108.keep Kq114
    have Z114 := Nat.le_trans Z108 Kq114.1
    have Kz114 := Nat.le_trans Kz108 Kq114.1
    subst q114
    show Go p.tables e below _ (T114.setTop (mkF m 158 #[.val (.int p1), .val (.int p2), .val (.int p3), .val (.int p4), .val (.int p5), .val (.int (3 : Int32)), .val (.int x0), .val (.int x1), .val (.int x2), .val (.int x3), .val (.ref b96), .val (.ref b104), .unset, .unset] [(.ref b108)]))
    refine g_callSH (y := (⟨"org/vouchsafe/cli/Output", "escape", "(Ljava/lang/String;)Ljava/lang/String;"⟩ : MethodName)) (argsL := [(.ref b108)]) (st := []) (pc' := 161) C X114 hS Kz114 (own_ew hw) ch114 at_158 (wq hw 27 rfl) (wq hw 28 rfl) (wq hw 29 rfl) (wq hw 30 rfl) (by decide) (rmes l Z a0 hw [] b108 w114 ([x0, x1, x2]) cs_ fm T114.heap n0 Z114 FX_114 P114_0 (by show 3 ≤ 4; decide)) (W := 0) (by decide) (by decide) (ce := 21) (sl := 439) rfl rfl (by decide) (by decide) rfl rfl rfl pd_39 rfl (Nat.le_refl _) rfl (fun rv118 T118 L118 C X118 hS Q118 => ?_)
    obtain ⟨r118, w118, q118, Nq118, Kq118, sz118_r, sz118_w, gn_r118, gn_w118, P118_0⟩ := Q118
    have N118 := Fr.app N114 Nq118
    have ne118_119 : ¬ (b96 = r118) := Nat.ne_of_lt (Nat.lt_of_lt_of_le V102_114.lt sz118_r)
    have ne118_120 : ¬ (b104 = r118) := Nat.ne_of_lt (Nat.lt_of_lt_of_le A104_114.lt sz118_r)
    have ne118_121 : ¬ (b108 = r118) := Nat.ne_of_lt (Nat.lt_of_lt_of_le A108_114.lt sz118_r)
    have ne118_122 : ¬ (w114 = r118) := Nat.ne_of_lt (Nat.lt_of_lt_of_le (Str_lt1 P114_0) sz118_r)
    have ne118_123 : ¬ (b96 = w118) := Nat.ne_of_lt (Nat.lt_of_lt_of_le V102_114.lt sz118_w)
    have ne118_124 : ¬ (b104 = w118) := Nat.ne_of_lt (Nat.lt_of_lt_of_le A104_114.lt sz118_w)
    have ne118_125 : ¬ (b108 = w118) := Nat.ne_of_lt (Nat.lt_of_lt_of_le A108_114.lt sz118_w)
    have ne118_126 : ¬ (w114 = w118) := Nat.ne_of_lt (Nat.lt_of_lt_of_le (Str_lt1 P114_0) sz118_w)
    have FX_118 := FX_keep FX_114 Kq118 (fun _ q => nomatch q)
    have V102_118 := V102_114.keep Kq118 nin0
    have A104_118 := A104_114.keep Kq118
    have V104_118 := V104_114.keep Kq118 nin0
    have A108_118 := A108_114.keep Kq118
    have P114_0_118 := Str_keep P114_0 Kq118 nin0 nin0
    have Z118 := Nat.le_trans Z114 Kq118.1
    have Kz118 := Nat.le_trans Kz114 Kq118.1
    subst q118
    show Go p.tables e below _ (T118.setTop (mkF m 161 #[.val (.int p1), .val (.int p2), .val (.int p3), .val (.int p4), .val (.int p5), .val (.int (3 : Int32)), .val (.int x0), .val (.int x1), .val (.int x2), .val (.int x3), .val (.ref b96), .val (.ref b104), .unset, .unset] [(.ref r118)]))
    refine g_astore (pc' := 163) (Ls' := #[.val (.int p1), .val (.int p2), .val (.int p3), .val (.int p4), .val (.int p5), .val (.int (3 : Int32)), .val (.int x0), .val (.int x1), .val (.int x2), .val (.int x3), .val (.ref b96), .val (.ref b104), .val (.ref r118), .unset]) C X118 at_161 rfl rfl rfl ?_
    refine g_iconst (pc' := 164) (v := (0 : Int32)) C X118 at_163 rfl rfl ?_
    refine g_istore (pc' := 166) (Ls' := #[.val (.int p1), .val (.int p2), .val (.int p3), .val (.int p4), .val (.int p5), .val (.int (3 : Int32)), .val (.int x0), .val (.int x1), .val (.int x2), .val (.int x3), .val (.ref b96), .val (.ref b104), .val (.ref r118), .val (.int (0 : Int32))]) C X118 at_164 rfl rfl ?_
    refine g_iload (pc' := 168) C X118 at_166 rfl rfl ?_
    refine g_ifN (pc' := 171) C X118 at_168 (tlt (show (0 : Int32) < (3 : Int32) from (by decide))).2.2.2 rfl ?_
    refine g_aload (pc' := 173) C X118 at_171 rfl rfl rfl ?_
    refine g_iload (pc' := 175) C X118 at_173 rfl rfl ?_
    refine g_iload (pc' := 177) C X118 at_175 rfl rfl ?_
    refine g_callS (y := (⟨"org/vouchsafe/cli/OutputEscapePinLaw", "put", "([CIC)I"⟩ : MethodName)) (argsL := [(.ref b104), (.int (0 : Int32)), (.int x0)]) (st := []) (pc' := 180) C X118 at_177 (wq hw 220 rfl) (wq hw 221 rfl) (wq hw 3 rfl) (wq hw 222 rfl) (by decide) (rmpt l Z a0 hw [] b104 (0 : Int32) x0 ck104 ([]) cs_ fm T118.heap n0 Z118 FX_118 V104_118 gn_b104 (by decide) (by decide) (by decide) (by decide) hch0) (W := 0) (by decide) (by decide) (ce := 21) (sl := 439) rfl rfl (by decide) (by decide) rfl rfl rfl pd_40 rfl (Nat.le_refl _) rfl (fun rv127 T127 L127 X127 Q127 => ?_)
    obtain ⟨q127, Nq127, Kq127, P127_0⟩ := Q127
    have N127 := Fr.app N118 Nq127
    have FX_127 := FX_keep FX_118 Kq127 ((allS (by obtain ⟨c_, A_, _⟩ := V104_118; exact ⟨c_, A_.1, A_.plain⟩) all0))
    have V102_127 := V102_118.keep Kq127 (ninS ne104_107 nin0)
    have A104_127 := A104_118.keep Kq127
    have A108_127 := A108_118.keep Kq127
    have P118_0_127 := Str_keep P118_0 Kq127 (ninS (Ne.symm ne118_120) nin0) (ninS (Ne.symm ne118_124) nin0)
    have Z127 := Nat.le_trans Z118 Kq127.1
    have Kz127 := Nat.le_trans (Nat.le_refl _) Kq127.1
    subst q127
    show Go p.tables e below _ (T127.setTop (mkF m 180 #[.val (.int p1), .val (.int p2), .val (.int p3), .val (.int p4), .val (.int p5), .val (.int (3 : Int32)), .val (.int x0), .val (.int x1), .val (.int x2), .val (.int x3), .val (.ref b96), .val (.ref b104), .val (.ref r118), .val (.int (0 : Int32))] [(.int (Fpt (0 : Int32) x0))]))
    refine g_istore (pc' := 182) (Ls' := #[.val (.int p1), .val (.int p2), .val (.int p3), .val (.int p4), .val (.int p5), .val (.int (3 : Int32)), .val (.int x0), .val (.int x1), .val (.int x2), .val (.int x3), .val (.ref b96), .val (.ref b104), .val (.ref r118), .val (.int (Fpt (0 : Int32) x0))]) C X127 at_180 rfl rfl ?_
    refine g_iload (pc' := 184) C X127 at_182 rfl rfl ?_
    refine g_iconst (pc' := 185) (v := (1 : Int32)) C X127 at_184 rfl rfl ?_
    refine g_icmpN (pc' := 188) C X127 at_185 (tlt (show (1 : Int32) < (3 : Int32) from (by decide))).2.2.2 rfl ?_
    refine g_aload (pc' := 190) C X127 at_188 rfl rfl rfl ?_
    refine g_iload (pc' := 192) C X127 at_190 rfl rfl ?_
    refine g_iload (pc' := 194) C X127 at_192 rfl rfl ?_
    refine g_callS (y := (⟨"org/vouchsafe/cli/OutputEscapePinLaw", "put", "([CIC)I"⟩ : MethodName)) (argsL := [(.ref b104), (.int (Fpt (0 : Int32) x0)), (.int x1)]) (st := []) (pc' := 197) C X127 at_194 (wq hw 220 rfl) (wq hw 221 rfl) (wq hw 3 rfl) (wq hw 222 rfl) (by decide) (rmpt l Z a0 hw [] b104 (Fpt (0 : Int32) x0) x1 ck104 (own_pt [] (0 : Int32) x0) cs_ fm T127.heap n0 Z127 FX_127 P127_0 gn_b104 (own_pb (own_pv1 x0) (by decide)).1 (own_pb (own_pv1 x0) (by decide)).2.1 (own_pb (own_pv1 x0) (by decide)).2.2.1 (own_pb (own_pv1 x0) (by decide)).2.2.2 hch1) (W := 0) (by decide) (by decide) (ce := 21) (sl := 439) rfl rfl (by decide) (by decide) rfl rfl rfl pd_40 rfl (Nat.le_refl _) rfl (fun rv128 T128 L128 X128 Q128 => ?_)
    obtain ⟨q128, Nq128, Kq128, P128_0⟩ := Q128
    have N128 := Fr.app N127 Nq128
    have FX_128 := FX_keep FX_127 Kq128 ((allS (by obtain ⟨c_, A_, _⟩ := P127_0; exact ⟨c_, A_.1, A_.plain⟩) all0))
    have V102_128 := V102_127.keep Kq128 (ninS ne104_107 nin0)
    have A104_128 := A104_127.keep Kq128
    have A108_128 := A108_127.keep Kq128
    have P118_0_128 := Str_keep P118_0_127 Kq128 (ninS (Ne.symm ne118_120) nin0) (ninS (Ne.symm ne118_124) nin0)
    have Z128 := Nat.le_trans Z127 Kq128.1
    have Kz128 := Nat.le_trans Kz127 Kq128.1
    subst q128
    show Go p.tables e below _ (T128.setTop (mkF m 197 #[.val (.int p1), .val (.int p2), .val (.int p3), .val (.int p4), .val (.int p5), .val (.int (3 : Int32)), .val (.int x0), .val (.int x1), .val (.int x2), .val (.int x3), .val (.ref b96), .val (.ref b104), .val (.ref r118), .val (.int (Fpt (0 : Int32) x0))] [(.int (Fpt (Fpt (0 : Int32) x0) x1))]))
    refine g_istore (pc' := 199) (Ls' := #[.val (.int p1), .val (.int p2), .val (.int p3), .val (.int p4), .val (.int p5), .val (.int (3 : Int32)), .val (.int x0), .val (.int x1), .val (.int x2), .val (.int x3), .val (.ref b96), .val (.ref b104), .val (.ref r118), .val (.int (Fpt (Fpt (0 : Int32) x0) x1))]) C X128 at_197 rfl rfl ?_
    refine g_iload (pc' := 201) C X128 at_199 rfl rfl ?_
    refine g_iconst (pc' := 202) (v := (2 : Int32)) C X128 at_201 rfl rfl ?_
    refine g_icmpN (pc' := 205) C X128 at_202 (tlt (show (2 : Int32) < (3 : Int32) from (by decide))).2.2.2 rfl ?_
    refine g_aload (pc' := 207) C X128 at_205 rfl rfl rfl ?_
    refine g_iload (pc' := 209) C X128 at_207 rfl rfl ?_
    refine g_iload (pc' := 211) C X128 at_209 rfl rfl ?_
    refine g_callS (y := (⟨"org/vouchsafe/cli/OutputEscapePinLaw", "put", "([CIC)I"⟩ : MethodName)) (argsL := [(.ref b104), (.int (Fpt (Fpt (0 : Int32) x0) x1)), (.int x2)]) (st := []) (pc' := 214) C X128 at_211 (wq hw 220 rfl) (wq hw 221 rfl) (wq hw 3 rfl) (wq hw 222 rfl) (by decide) (rmpt l Z a0 hw [] b104 (Fpt (Fpt (0 : Int32) x0) x1) x2 ck104 (own_pt (own_pt [] (0 : Int32) x0) (Fpt (0 : Int32) x0) x1) cs_ fm T128.heap n0 Z128 FX_128 P128_0 gn_b104 (own_pb (own_pv2 x0 x1) (by decide)).1 (own_pb (own_pv2 x0 x1) (by decide)).2.1 (own_pb (own_pv2 x0 x1) (by decide)).2.2.1 (own_pb (own_pv2 x0 x1) (by decide)).2.2.2 hch2) (W := 0) (by decide) (by decide) (ce := 21) (sl := 439) rfl rfl (by decide) (by decide) rfl rfl rfl pd_40 rfl (Nat.le_refl _) rfl (fun rv129 T129 L129 X129 Q129 => ?_)
    obtain ⟨q129, Nq129, Kq129, P129_0⟩ := Q129
    have N129 := Fr.app N128 Nq129
    have FX_129 := FX_keep FX_128 Kq129 ((allS (by obtain ⟨c_, A_, _⟩ := P128_0; exact ⟨c_, A_.1, A_.plain⟩) all0))
    have V102_129 := V102_128.keep Kq129 (ninS ne104_107 nin0)
    have A104_129 := A104_128.keep Kq129
    have A108_129 := A108_128.keep Kq129
    have P118_0_129 := Str_keep P118_0_128 Kq129 (ninS (Ne.symm ne118_120) nin0) (ninS (Ne.symm ne118_124) nin0)
    have Z129 := Nat.le_trans Z128 Kq129.1
    have Kz129 := Nat.le_trans Kz128 Kq129.1
    subst q129
    show Go p.tables e below _ (T129.setTop (mkF m 214 #[.val (.int p1), .val (.int p2), .val (.int p3), .val (.int p4), .val (.int p5), .val (.int (3 : Int32)), .val (.int x0), .val (.int x1), .val (.int x2), .val (.int x3), .val (.ref b96), .val (.ref b104), .val (.ref r118), .val (.int (Fpt (Fpt (0 : Int32) x0) x1))] [(.int (Fpt (Fpt (Fpt (0 : Int32) x0) x1) x2))]))
    refine g_istore (pc' := 216) (Ls' := #[.val (.int p1), .val (.int p2), .val (.int p3), .val (.int p4), .val (.int p5), .val (.int (3 : Int32)), .val (.int x0), .val (.int x1), .val (.int x2), .val (.int x3), .val (.ref b96), .val (.ref b104), .val (.ref r118), .val (.int (Fpt (Fpt (Fpt (0 : Int32) x0) x1) x2))]) C X129 at_214 rfl rfl ?_
    refine g_iload (pc' := 218) C X129 at_216 rfl rfl ?_
    refine g_iconst (pc' := 219) (v := (3 : Int32)) C X129 at_218 rfl rfl ?_
    refine g_icmpY (pc' := 233) C X129 at_219 (flt (show ¬ ((3 : Int32) < (3 : Int32)) from (by decide))).2.2.2 (by decide) (by decide) ?_
    exact JS _ _ _ _ _ (3 : Int32) b96 r118 w118 b104 ck104 (Fpt (Fpt (Fpt (0 : Int32) x0) x1) x2) (own_esc [x0, x1, x2]) (own_pt (own_pt (own_pt [] (0 : Int32) x0) (Fpt (0 : Int32) x0) x1) (Fpt (Fpt (0 : Int32) x0) x1) x2) C (X129.mono (by decide) (by decide)) hS rfl Kz129 N129 Z129 FX_129 P118_0_129 P129_0 (own_lw3 x0 x1 x2) (own_aw3 x0 x1 x2)
  · refine own_cast (show T4.setTop (mkF m 35 #[.val (.int p1), .val (.int p2), .val (.int p3), .val (.int p4), .val (.int p5), .val (.int ((p1 &&& (2147483647 : Int32)) % (5 : Int32))), .val (.int x0), .val (.int x1), .val (.int x2), .val (.int x3), .unset, .unset, .unset, .unset] [(.int ((p1 &&& (2147483647 : Int32)) % (5 : Int32)))]) = T4.setTop (mkF m 35 #[.val (.int p1), .val (.int p2), .val (.int p3), .val (.int p4), .val (.int p5), .val (.int (4 : Int32)), .val (.int x0), .val (.int x1), .val (.int x2), .val (.int x3), .unset, .unset, .unset, .unset] [(.int (4 : Int32))]) from by rw [s14]) ?_
    refine g_ifY (pc' := 46) C X4 at_35 (feq (show ¬ ((4 : Int32) = (0 : Int32)) from (by decide))).2 (by decide) (by decide) ?_
    refine g_iload (pc' := 48) C X4 at_46 rfl rfl ?_
    refine g_iconst (pc' := 49) (v := (1 : Int32)) C X4 at_48 rfl rfl ?_
    refine g_icmpY (pc' := 65) C X4 at_49 (feq (show ¬ ((4 : Int32) = (1 : Int32)) from (by decide))).2 (by decide) (by decide) ?_
    refine g_iload (pc' := 67) C X4 at_65 rfl rfl ?_
    refine g_iconst (pc' := 68) (v := (2 : Int32)) C X4 at_67 rfl rfl ?_
    refine g_icmpY (pc' := 89) C X4 at_68 (feq (show ¬ ((4 : Int32) = (2 : Int32)) from (by decide))).2 (by decide) (by decide) ?_
    refine g_iload (pc' := 91) C X4 at_89 rfl rfl ?_
    refine g_iconst (pc' := 92) (v := (3 : Int32)) C X4 at_91 rfl rfl ?_
    refine g_icmpY (pc' := 118) C X4 at_92 (feq (show ¬ ((4 : Int32) = (3 : Int32)) from (by decide))).2 (by decide) (by decide) ?_
    refine g_iconst (pc' := 119) (v := (4 : Int32)) C X4 at_118 rfl rfl ?_
    refine g_newP (pc' := 121) (cap := 4) C X4 at_119 (wq hw 5 rfl) e4 (by decide) (by decide) (by decide) (ce := 1) (sl := 4) rfl rfl (by decide) (by decide) rfl (fun T130 h130 b130 ck130 g130 X130 e130 E130 A130 => ?_)
    have sf130_131 := Safe.ext E130 hpx (Safe.new (Nat.le_of_eq g130.symm))
    have ch130 := hpx.ext E130
    have FX_130 := FX_ext hF E130
    have gn_b130 : n0 ≤ b130 := Nat.le_trans Z0 (Nat.le_of_eq g130.symm)
    have Z130 := Nat.le_trans Z0 E130.1
    have Kz130 := Nat.le_trans (Nat.zero_le _) E130.1
    have V130 : Arv Z h130 b130 ck130 .char (4 : Int32) [(.int (0 : Int32)), (.int (0 : Int32)), (.int (0 : Int32)), (.int (0 : Int32))] (.int (0 : Int32)) := A130.pad (pad_rep [] (.int (0 : Int32)) 4)
    refine g_dup (pc' := 122) C X130 at_121 rfl rfl ?_
    refine g_iconst (pc' := 123) (v := (0 : Int32)) C X130 at_122 rfl rfl ?_
    refine g_iload (pc' := 125) C X130 at_123 rfl rfl ?_
    refine g_stC (pc' := 126) (i := 0) C X130 at_125 e130 V130 ⟨by decide, by decide⟩ rfl (show (0 : Nat) < 4 from by decide) rfl (fun T132 h132 X132 e132 W132 V132q => ?_)
    have V132 : Arv Z h132 b130 ck130 .char (4 : Int32) [(.int x0), (.int (0 : Int32)), (.int (0 : Int32)), (.int (0 : Int32))] (.int (0 : Int32)) := by rw [(own_narc hch0)] at V132q; exact V132q
    have sf132_133 := Safe.wr W132 sf130_131 ch130 sf130_131
    have ch132 := ch130.wr W132 sf130_131
    have FX_132 := FX_wr FX_130 W132
    have Z132 := Nat.le_trans Z130 (Nat.le_of_eq W132.size.symm)
    have Kz132 := Nat.le_trans Kz130 (Nat.le_of_eq W132.size.symm)
    have N132 := Fr.snoc X132 N4 gn_b130
    refine g_dup (pc' := 127) C X132 at_126 rfl rfl ?_
    refine g_iconst (pc' := 128) (v := (1 : Int32)) C X132 at_127 rfl rfl ?_
    refine g_iload (pc' := 130) C X132 at_128 rfl rfl ?_
    refine g_stC (pc' := 131) (i := 1) C X132 at_130 e132 V132 ⟨by decide, by decide⟩ rfl (show (1 : Nat) < 4 from by decide) rfl (fun T134 h134 X134 e134 W134 V134q => ?_)
    have V134 : Arv Z h134 b130 ck130 .char (4 : Int32) [(.int x0), (.int x1), (.int (0 : Int32)), (.int (0 : Int32))] (.int (0 : Int32)) := by rw [(own_narc hch1)] at V134q; exact V134q
    have sf134_135 := Safe.wr W134 sf132_133 ch132 sf132_133
    have ch134 := ch132.wr W134 sf132_133
    have FX_134 := FX_wr FX_132 W134
    have Z134 := Nat.le_trans Z132 (Nat.le_of_eq W134.size.symm)
    have Kz134 := Nat.le_trans Kz132 (Nat.le_of_eq W134.size.symm)
    have N134 := Fr.snoc X134 N132 gn_b130
    refine g_dup (pc' := 132) C X134 at_131 rfl rfl ?_
    refine g_iconst (pc' := 133) (v := (2 : Int32)) C X134 at_132 rfl rfl ?_
    refine g_iload (pc' := 135) C X134 at_133 rfl rfl ?_
    refine g_stC (pc' := 136) (i := 2) C X134 at_135 e134 V134 ⟨by decide, by decide⟩ rfl (show (2 : Nat) < 4 from by decide) rfl (fun T136 h136 X136 e136 W136 V136q => ?_)
    have V136 : Arv Z h136 b130 ck130 .char (4 : Int32) [(.int x0), (.int x1), (.int x2), (.int (0 : Int32))] (.int (0 : Int32)) := by rw [(own_narc hch2)] at V136q; exact V136q
    have sf136_137 := Safe.wr W136 sf134_135 ch134 sf134_135
    have ch136 := ch134.wr W136 sf134_135
    have FX_136 := FX_wr FX_134 W136
    have Z136 := Nat.le_trans Z134 (Nat.le_of_eq W136.size.symm)
    have Kz136 := Nat.le_trans Kz134 (Nat.le_of_eq W136.size.symm)
    have N136 := Fr.snoc X136 N134 gn_b130
    refine g_dup (pc' := 137) C X136 at_136 rfl rfl ?_
    refine g_iconst (pc' := 138) (v := (3 : Int32)) C X136 at_137 rfl rfl ?_
    refine g_iload (pc' := 140) C X136 at_138 rfl rfl ?_
    refine g_stC (pc' := 141) (i := 3) C X136 at_140 e136 V136 ⟨by decide, by decide⟩ rfl (show (3 : Nat) < 4 from by decide) rfl (fun T138 h138 X138 e138 W138 V138q => ?_)
    have V138 : Arv Z h138 b130 ck130 .char (4 : Int32) [(.int x0), (.int x1), (.int x2), (.int x3)] (.int (0 : Int32)) := by rw [(own_narc hch3)] at V138q; exact V138q
    have sf138_139 := Safe.wr W138 sf136_137 ch136 sf136_137
    have ch138 := ch136.wr W138 sf136_137
    have FX_138 := FX_wr FX_136 W138
    have Z138 := Nat.le_trans Z136 (Nat.le_of_eq W138.size.symm)
    have Kz138 := Nat.le_trans Kz136 (Nat.le_of_eq W138.size.symm)
    have N138 := Fr.snoc X138 N136 gn_b130
    refine g_astore (pc' := 143) (Ls' := #[.val (.int p1), .val (.int p2), .val (.int p3), .val (.int p4), .val (.int p5), .val (.int (4 : Int32)), .val (.int x0), .val (.int x1), .val (.int x2), .val (.int x3), .val (.ref b130), .unset, .unset, .unset]) C X138 at_141 rfl rfl rfl ?_
    refine g_bipush (pc' := 145) (v := (8 : Int32)) C X138 at_143 rfl rfl ?_
    refine g_newPE (pc' := 147) (cap := 8) (ad := "[C") C X138 (by decide) at_145 (wq hw 5 rfl) e138 (by decide) (by decide) (by decide) (ce := 2) (sl := 12) rfl rfl (by decide) (by decide) rfl (fun T140 h140 b140 ck140 g140 X140 e140 E140 V140 A140 => ?_)
    have sf140_141 := Safe.ext E140 ch138 sf138_139
    have sf140_142 := Safe.ext E140 ch138 (Safe.new (Nat.le_of_eq g140.symm))
    have ch140 := ch138.ext E140
    have ne140_143 : ¬ (b130 = b140) := Nat.ne_of_lt (Nat.lt_of_lt_of_le V138.lt (Nat.le_of_eq g140.symm))
    have FX_140 := FX_ext FX_138 E140
    have V138_140 := V138.ext E140
    have gn_b140 : n0 ≤ b140 := Nat.le_trans Z138 (Nat.le_of_eq g140.symm)
    have Z140 := Nat.le_trans Z138 E140.1
    have Kz140 := Nat.le_trans Kz138 E140.1
    refine g_astore (pc' := 149) (Ls' := #[.val (.int p1), .val (.int p2), .val (.int p3), .val (.int p4), .val (.int p5), .val (.int (4 : Int32)), .val (.int x0), .val (.int x1), .val (.int x2), .val (.int x3), .val (.ref b130), .val (.ref b140), .unset, .unset]) C X140 at_147 rfl rfl rfl ?_
    refine g_new (pc' := 152) C X140 at_149 (wq hw 6 rfl) (wq hw 7 rfl) (wq hw 8 rfl) e140 (ce := 3) (sl := 16) rfl rfl (by decide) (by decide) rfl (fun T144 h144 b144 g144 X144 e144 E144 A144 D144 => ?_)
    have sf144_145 := Safe.ext E144 ch140 sf140_141
    have sf144_146 := Safe.ext E144 ch140 sf140_142
    have sf144_147 := Safe.ext E144 ch140 (Safe.new (Nat.le_of_eq g144.symm))
    have ch144 := ch140.ext E144
    have ne144_148 : ¬ (b130 = b144) := Nat.ne_of_lt (Nat.lt_of_lt_of_le V138_140.lt (Nat.le_of_eq g144.symm))
    have ne144_149 : ¬ (b140 = b144) := Nat.ne_of_lt (Nat.lt_of_lt_of_le A140.lt (Nat.le_of_eq g144.symm))
    have FX_144 := FX_ext FX_140 E144
    have V138_144 := V138_140.ext E144
    have A140_144 := A140.ext E144
    have V140_144 := V140.ext E144
    have gn_b144 : n0 ≤ b144 := Nat.le_trans Z140 (Nat.le_of_eq g144.symm)
    have Z144 := Nat.le_trans Z140 E144.1
    have Kz144 := Nat.le_trans Kz140 E144.1
    have F144_value : Fld Z h144 b144 "java/lang/String" "value" "[B" .null := D144 (Or.inr (wq hw 21 rfl)) (ty := (.array .byte)) (by decide)
    have F144_coder : Fld Z h144 b144 "java/lang/String" "coder" "B" (.int (0 : Int32)) := D144 (Or.inr (wq hw 22 rfl)) (ty := .byte) (by decide)
    refine g_dup (pc' := 153) C X144 at_152 rfl rfl ?_
    refine g_aload (pc' := 155) C X144 at_153 rfl rfl rfl ?_
    refine g_callI (b := b144) (y := (⟨"java/lang/String", "<init>", "([C)V"⟩ : MethodName)) (argsL := [(.ref b130)]) (st := [(.ref b144)]) (pc' := 158) C X144 rfl at_155 (wq hw 9 rfl) (wq hw 10 rfl) (wq hw 8 rfl) (wq hw 11 rfl) (by decide) (rmsid l Z a0 hw [] b144 b130 ck130 ([x0, x1, x2, x3]) (4 : Int32) cs_ fm h144 n0 Z144 FX_144 A144 F144_value F144_coder V138_144 gn_b144 ne144_148 rfl (by show 4 ≤ 8; decide) (by decide) (own_al4 hch0 hch1 hch2 hch3)) (W := 1) (by decide) (by decide) (ce := 5) (sl := 64) rfl rfl (by decide) (by decide) rfl e144 rfl pd_38 rfl (Nat.le_refl _) rfl (fun rv150 T150 L150 X150 Q150 => ?_)
    obtain ⟨w150, q150, Nq150, Kq150, P150_0⟩ := Q150
    have N150 := Fr.app N138 Nq150
    have hs150 : ∀ x ∈ [b144], Safe Z own_EL _ _ x := (sfS sf144_147 sf0)
    have sf150_151 := Safe.keep Kq150 hs150 ch144 sf144_145
    have sf150_152 := Safe.keep Kq150 hs150 ch144 sf144_146
    have sf150_153 := Safe.keep Kq150 hs150 ch144 sf144_147
    have ch150 := ch144.keep Kq150 hs150
    have FX_150 := FX_keep FX_144 Kq150 ((allS (by obtain ⟨c_, _, h1_, _, _, h2_, _⟩ := A144; exact ⟨c_, h1_, h2_⟩) all0))
    have V138_150 := V138_144.keep Kq150 (ninS ne144_148 nin0)
    have A140_150 := A140_144.keep Kq150
    have V140_150 := V140_144.keep Kq150 (ninS ne144_149 nin0)
    have A144_150 := A144.keep Kq150
    have Z150 := Nat.le_trans Z144 Kq150.1
    have Kz150 := Nat.le_trans Kz144 Kq150.1
    subst q150
    show Go p.tables e below _ (T150.setTop (mkF m 158 #[.val (.int p1), .val (.int p2), .val (.int p3), .val (.int p4), .val (.int p5), .val (.int (4 : Int32)), .val (.int x0), .val (.int x1), .val (.int x2), .val (.int x3), .val (.ref b130), .val (.ref b140), .unset, .unset] [(.ref b144)]))
    refine g_callSH (y := (⟨"org/vouchsafe/cli/Output", "escape", "(Ljava/lang/String;)Ljava/lang/String;"⟩ : MethodName)) (argsL := [(.ref b144)]) (st := []) (pc' := 161) C X150 hS Kz150 (own_ew hw) ch150 at_158 (wq hw 27 rfl) (wq hw 28 rfl) (wq hw 29 rfl) (wq hw 30 rfl) (by decide) (rmes l Z a0 hw [] b144 w150 ([x0, x1, x2, x3]) cs_ fm T150.heap n0 Z150 FX_150 P150_0 (by show 4 ≤ 4; decide)) (W := 0) (by decide) (by decide) (ce := 21) (sl := 440) rfl rfl (by decide) (by decide) rfl rfl rfl pd_39 rfl (Nat.le_refl _) rfl (fun rv154 T154 L154 C X154 hS Q154 => ?_)
    obtain ⟨r154, w154, q154, Nq154, Kq154, sz154_r, sz154_w, gn_r154, gn_w154, P154_0⟩ := Q154
    have N154 := Fr.app N150 Nq154
    have ne154_155 : ¬ (b130 = r154) := Nat.ne_of_lt (Nat.lt_of_lt_of_le V138_150.lt sz154_r)
    have ne154_156 : ¬ (b140 = r154) := Nat.ne_of_lt (Nat.lt_of_lt_of_le A140_150.lt sz154_r)
    have ne154_157 : ¬ (b144 = r154) := Nat.ne_of_lt (Nat.lt_of_lt_of_le A144_150.lt sz154_r)
    have ne154_158 : ¬ (w150 = r154) := Nat.ne_of_lt (Nat.lt_of_lt_of_le (Str_lt1 P150_0) sz154_r)
    have ne154_159 : ¬ (b130 = w154) := Nat.ne_of_lt (Nat.lt_of_lt_of_le V138_150.lt sz154_w)
    have ne154_160 : ¬ (b140 = w154) := Nat.ne_of_lt (Nat.lt_of_lt_of_le A140_150.lt sz154_w)
    have ne154_161 : ¬ (b144 = w154) := Nat.ne_of_lt (Nat.lt_of_lt_of_le A144_150.lt sz154_w)
    have ne154_162 : ¬ (w150 = w154) := Nat.ne_of_lt (Nat.lt_of_lt_of_le (Str_lt1 P150_0) sz154_w)
    have FX_154 := FX_keep FX_150 Kq154 (fun _ q => nomatch q)
    have V138_154 := V138_150.keep Kq154 nin0
    have A140_154 := A140_150.keep Kq154
    have V140_154 := V140_150.keep Kq154 nin0
    have A144_154 := A144_150.keep Kq154
    have P150_0_154 := Str_keep P150_0 Kq154 nin0 nin0
    have Z154 := Nat.le_trans Z150 Kq154.1
    have Kz154 := Nat.le_trans Kz150 Kq154.1
    subst q154
    show Go p.tables e below _ (T154.setTop (mkF m 161 #[.val (.int p1), .val (.int p2), .val (.int p3), .val (.int p4), .val (.int p5), .val (.int (4 : Int32)), .val (.int x0), .val (.int x1), .val (.int x2), .val (.int x3), .val (.ref b130), .val (.ref b140), .unset, .unset] [(.ref r154)]))
    refine g_astore (pc' := 163) (Ls' := #[.val (.int p1), .val (.int p2), .val (.int p3), .val (.int p4), .val (.int p5), .val (.int (4 : Int32)), .val (.int x0), .val (.int x1), .val (.int x2), .val (.int x3), .val (.ref b130), .val (.ref b140), .val (.ref r154), .unset]) C X154 at_161 rfl rfl rfl ?_
    refine g_iconst (pc' := 164) (v := (0 : Int32)) C X154 at_163 rfl rfl ?_
    refine g_istore (pc' := 166) (Ls' := #[.val (.int p1), .val (.int p2), .val (.int p3), .val (.int p4), .val (.int p5), .val (.int (4 : Int32)), .val (.int x0), .val (.int x1), .val (.int x2), .val (.int x3), .val (.ref b130), .val (.ref b140), .val (.ref r154), .val (.int (0 : Int32))]) C X154 at_164 rfl rfl ?_
    refine g_iload (pc' := 168) C X154 at_166 rfl rfl ?_
    refine g_ifN (pc' := 171) C X154 at_168 (tlt (show (0 : Int32) < (4 : Int32) from (by decide))).2.2.2 rfl ?_
    refine g_aload (pc' := 173) C X154 at_171 rfl rfl rfl ?_
    refine g_iload (pc' := 175) C X154 at_173 rfl rfl ?_
    refine g_iload (pc' := 177) C X154 at_175 rfl rfl ?_
    refine g_callS (y := (⟨"org/vouchsafe/cli/OutputEscapePinLaw", "put", "([CIC)I"⟩ : MethodName)) (argsL := [(.ref b140), (.int (0 : Int32)), (.int x0)]) (st := []) (pc' := 180) C X154 at_177 (wq hw 220 rfl) (wq hw 221 rfl) (wq hw 3 rfl) (wq hw 222 rfl) (by decide) (rmpt l Z a0 hw [] b140 (0 : Int32) x0 ck140 ([]) cs_ fm T154.heap n0 Z154 FX_154 V140_154 gn_b140 (by decide) (by decide) (by decide) (by decide) hch0) (W := 0) (by decide) (by decide) (ce := 21) (sl := 440) rfl rfl (by decide) (by decide) rfl rfl rfl pd_40 rfl (Nat.le_refl _) rfl (fun rv163 T163 L163 X163 Q163 => ?_)
    obtain ⟨q163, Nq163, Kq163, P163_0⟩ := Q163
    have N163 := Fr.app N154 Nq163
    have FX_163 := FX_keep FX_154 Kq163 ((allS (by obtain ⟨c_, A_, _⟩ := V140_154; exact ⟨c_, A_.1, A_.plain⟩) all0))
    have V138_163 := V138_154.keep Kq163 (ninS ne140_143 nin0)
    have A140_163 := A140_154.keep Kq163
    have A144_163 := A144_154.keep Kq163
    have P154_0_163 := Str_keep P154_0 Kq163 (ninS (Ne.symm ne154_156) nin0) (ninS (Ne.symm ne154_160) nin0)
    have Z163 := Nat.le_trans Z154 Kq163.1
    have Kz163 := Nat.le_trans (Nat.le_refl _) Kq163.1
    subst q163
    show Go p.tables e below _ (T163.setTop (mkF m 180 #[.val (.int p1), .val (.int p2), .val (.int p3), .val (.int p4), .val (.int p5), .val (.int (4 : Int32)), .val (.int x0), .val (.int x1), .val (.int x2), .val (.int x3), .val (.ref b130), .val (.ref b140), .val (.ref r154), .val (.int (0 : Int32))] [(.int (Fpt (0 : Int32) x0))]))
    refine g_istore (pc' := 182) (Ls' := #[.val (.int p1), .val (.int p2), .val (.int p3), .val (.int p4), .val (.int p5), .val (.int (4 : Int32)), .val (.int x0), .val (.int x1), .val (.int x2), .val (.int x3), .val (.ref b130), .val (.ref b140), .val (.ref r154), .val (.int (Fpt (0 : Int32) x0))]) C X163 at_180 rfl rfl ?_
    refine g_iload (pc' := 184) C X163 at_182 rfl rfl ?_
    refine g_iconst (pc' := 185) (v := (1 : Int32)) C X163 at_184 rfl rfl ?_
    refine g_icmpN (pc' := 188) C X163 at_185 (tlt (show (1 : Int32) < (4 : Int32) from (by decide))).2.2.2 rfl ?_
    refine g_aload (pc' := 190) C X163 at_188 rfl rfl rfl ?_
    refine g_iload (pc' := 192) C X163 at_190 rfl rfl ?_
    refine g_iload (pc' := 194) C X163 at_192 rfl rfl ?_
    refine g_callS (y := (⟨"org/vouchsafe/cli/OutputEscapePinLaw", "put", "([CIC)I"⟩ : MethodName)) (argsL := [(.ref b140), (.int (Fpt (0 : Int32) x0)), (.int x1)]) (st := []) (pc' := 197) C X163 at_194 (wq hw 220 rfl) (wq hw 221 rfl) (wq hw 3 rfl) (wq hw 222 rfl) (by decide) (rmpt l Z a0 hw [] b140 (Fpt (0 : Int32) x0) x1 ck140 (own_pt [] (0 : Int32) x0) cs_ fm T163.heap n0 Z163 FX_163 P163_0 gn_b140 (own_pb (own_pv1 x0) (by decide)).1 (own_pb (own_pv1 x0) (by decide)).2.1 (own_pb (own_pv1 x0) (by decide)).2.2.1 (own_pb (own_pv1 x0) (by decide)).2.2.2 hch1) (W := 0) (by decide) (by decide) (ce := 21) (sl := 440) rfl rfl (by decide) (by decide) rfl rfl rfl pd_40 rfl (Nat.le_refl _) rfl (fun rv164 T164 L164 X164 Q164 => ?_)
    obtain ⟨q164, Nq164, Kq164, P164_0⟩ := Q164
    have N164 := Fr.app N163 Nq164
    have FX_164 := FX_keep FX_163 Kq164 ((allS (by obtain ⟨c_, A_, _⟩ := P163_0; exact ⟨c_, A_.1, A_.plain⟩) all0))
    have V138_164 := V138_163.keep Kq164 (ninS ne140_143 nin0)
    have A140_164 := A140_163.keep Kq164
    have A144_164 := A144_163.keep Kq164
    have P154_0_164 := Str_keep P154_0_163 Kq164 (ninS (Ne.symm ne154_156) nin0) (ninS (Ne.symm ne154_160) nin0)
    have Z164 := Nat.le_trans Z163 Kq164.1
    have Kz164 := Nat.le_trans Kz163 Kq164.1
    subst q164
    show Go p.tables e below _ (T164.setTop (mkF m 197 #[.val (.int p1), .val (.int p2), .val (.int p3), .val (.int p4), .val (.int p5), .val (.int (4 : Int32)), .val (.int x0), .val (.int x1), .val (.int x2), .val (.int x3), .val (.ref b130), .val (.ref b140), .val (.ref r154), .val (.int (Fpt (0 : Int32) x0))] [(.int (Fpt (Fpt (0 : Int32) x0) x1))]))
    refine g_istore (pc' := 199) (Ls' := #[.val (.int p1), .val (.int p2), .val (.int p3), .val (.int p4), .val (.int p5), .val (.int (4 : Int32)), .val (.int x0), .val (.int x1), .val (.int x2), .val (.int x3), .val (.ref b130), .val (.ref b140), .val (.ref r154), .val (.int (Fpt (Fpt (0 : Int32) x0) x1))]) C X164 at_197 rfl rfl ?_
    refine g_iload (pc' := 201) C X164 at_199 rfl rfl ?_
    refine g_iconst (pc' := 202) (v := (2 : Int32)) C X164 at_201 rfl rfl ?_
    refine g_icmpN (pc' := 205) C X164 at_202 (tlt (show (2 : Int32) < (4 : Int32) from (by decide))).2.2.2 rfl ?_
    refine g_aload (pc' := 207) C X164 at_205 rfl rfl rfl ?_
    refine g_iload (pc' := 209) C X164 at_207 rfl rfl ?_
    refine g_iload (pc' := 211) C X164 at_209 rfl rfl ?_
    refine g_callS (y := (⟨"org/vouchsafe/cli/OutputEscapePinLaw", "put", "([CIC)I"⟩ : MethodName)) (argsL := [(.ref b140), (.int (Fpt (Fpt (0 : Int32) x0) x1)), (.int x2)]) (st := []) (pc' := 214) C X164 at_211 (wq hw 220 rfl) (wq hw 221 rfl) (wq hw 3 rfl) (wq hw 222 rfl) (by decide) (rmpt l Z a0 hw [] b140 (Fpt (Fpt (0 : Int32) x0) x1) x2 ck140 (own_pt (own_pt [] (0 : Int32) x0) (Fpt (0 : Int32) x0) x1) cs_ fm T164.heap n0 Z164 FX_164 P164_0 gn_b140 (own_pb (own_pv2 x0 x1) (by decide)).1 (own_pb (own_pv2 x0 x1) (by decide)).2.1 (own_pb (own_pv2 x0 x1) (by decide)).2.2.1 (own_pb (own_pv2 x0 x1) (by decide)).2.2.2 hch2) (W := 0) (by decide) (by decide) (ce := 21) (sl := 440) rfl rfl (by decide) (by decide) rfl rfl rfl pd_40 rfl (Nat.le_refl _) rfl (fun rv165 T165 L165 X165 Q165 => ?_)
    obtain ⟨q165, Nq165, Kq165, P165_0⟩ := Q165
    have N165 := Fr.app N164 Nq165
    have FX_165 := FX_keep FX_164 Kq165 ((allS (by obtain ⟨c_, A_, _⟩ := P164_0; exact ⟨c_, A_.1, A_.plain⟩) all0))
    have V138_165 := V138_164.keep Kq165 (ninS ne140_143 nin0)
    have A140_165 := A140_164.keep Kq165
    have A144_165 := A144_164.keep Kq165
    have P154_0_165 := Str_keep P154_0_164 Kq165 (ninS (Ne.symm ne154_156) nin0) (ninS (Ne.symm ne154_160) nin0)
    have Z165 := Nat.le_trans Z164 Kq165.1
    have Kz165 := Nat.le_trans Kz164 Kq165.1
    subst q165
    show Go p.tables e below _ (T165.setTop (mkF m 214 #[.val (.int p1), .val (.int p2), .val (.int p3), .val (.int p4), .val (.int p5), .val (.int (4 : Int32)), .val (.int x0), .val (.int x1), .val (.int x2), .val (.int x3), .val (.ref b130), .val (.ref b140), .val (.ref r154), .val (.int (Fpt (Fpt (0 : Int32) x0) x1))] [(.int (Fpt (Fpt (Fpt (0 : Int32) x0) x1) x2))]))
    refine g_istore (pc' := 216) (Ls' := #[.val (.int p1), .val (.int p2), .val (.int p3), .val (.int p4), .val (.int p5), .val (.int (4 : Int32)), .val (.int x0), .val (.int x1), .val (.int x2), .val (.int x3), .val (.ref b130), .val (.ref b140), .val (.ref r154), .val (.int (Fpt (Fpt (Fpt (0 : Int32) x0) x1) x2))]) C X165 at_214 rfl rfl ?_
    refine g_iload (pc' := 218) C X165 at_216 rfl rfl ?_
    refine g_iconst (pc' := 219) (v := (3 : Int32)) C X165 at_218 rfl rfl ?_
    refine g_icmpN (pc' := 222) C X165 at_219 (tlt (show (3 : Int32) < (4 : Int32) from (by decide))).2.2.2 rfl ?_
    refine g_aload (pc' := 224) C X165 at_222 rfl rfl rfl ?_
    refine g_iload (pc' := 226) C X165 at_224 rfl rfl ?_
    refine g_iload (pc' := 228) C X165 at_226 rfl rfl ?_
    refine g_callS (y := (⟨"org/vouchsafe/cli/OutputEscapePinLaw", "put", "([CIC)I"⟩ : MethodName)) (argsL := [(.ref b140), (.int (Fpt (Fpt (Fpt (0 : Int32) x0) x1) x2)), (.int x3)]) (st := []) (pc' := 231) C X165 at_228 (wq hw 220 rfl) (wq hw 221 rfl) (wq hw 3 rfl) (wq hw 222 rfl) (by decide) (rmpt l Z a0 hw [] b140 (Fpt (Fpt (Fpt (0 : Int32) x0) x1) x2) x3 ck140 (own_pt (own_pt (own_pt [] (0 : Int32) x0) (Fpt (0 : Int32) x0) x1) (Fpt (Fpt (0 : Int32) x0) x1) x2) cs_ fm T165.heap n0 Z165 FX_165 P165_0 gn_b140 (own_pb (own_pv3 x0 x1 x2) (by decide)).1 (own_pb (own_pv3 x0 x1 x2) (by decide)).2.1 (own_pb (own_pv3 x0 x1 x2) (by decide)).2.2.1 (own_pb (own_pv3 x0 x1 x2) (by decide)).2.2.2 hch3) (W := 0) (by decide) (by decide) (ce := 21) (sl := 440) rfl rfl (by decide) (by decide) rfl rfl rfl pd_40 rfl (Nat.le_refl _) rfl (fun rv166 T166 L166 X166 Q166 => ?_)
    obtain ⟨q166, Nq166, Kq166, P166_0⟩ := Q166
    have N166 := Fr.app N165 Nq166
    have FX_166 := FX_keep FX_165 Kq166 ((allS (by obtain ⟨c_, A_, _⟩ := P165_0; exact ⟨c_, A_.1, A_.plain⟩) all0))
    have V138_166 := V138_165.keep Kq166 (ninS ne140_143 nin0)
    have A140_166 := A140_165.keep Kq166
    have A144_166 := A144_165.keep Kq166
    have P154_0_166 := Str_keep P154_0_165 Kq166 (ninS (Ne.symm ne154_156) nin0) (ninS (Ne.symm ne154_160) nin0)
    have Z166 := Nat.le_trans Z165 Kq166.1
    have Kz166 := Nat.le_trans Kz165 Kq166.1
    subst q166
    show Go p.tables e below _ (T166.setTop (mkF m 231 #[.val (.int p1), .val (.int p2), .val (.int p3), .val (.int p4), .val (.int p5), .val (.int (4 : Int32)), .val (.int x0), .val (.int x1), .val (.int x2), .val (.int x3), .val (.ref b130), .val (.ref b140), .val (.ref r154), .val (.int (Fpt (Fpt (Fpt (0 : Int32) x0) x1) x2))] [(.int (Fpt (Fpt (Fpt (Fpt (0 : Int32) x0) x1) x2) x3))]))
    refine g_istore (pc' := 233) (Ls' := #[.val (.int p1), .val (.int p2), .val (.int p3), .val (.int p4), .val (.int p5), .val (.int (4 : Int32)), .val (.int x0), .val (.int x1), .val (.int x2), .val (.int x3), .val (.ref b130), .val (.ref b140), .val (.ref r154), .val (.int (Fpt (Fpt (Fpt (Fpt (0 : Int32) x0) x1) x2) x3))]) C X166 at_231 rfl rfl ?_
    exact JS _ _ _ _ _ (4 : Int32) b130 r154 w154 b140 ck140 (Fpt (Fpt (Fpt (Fpt (0 : Int32) x0) x1) x2) x3) (own_esc [x0, x1, x2, x3]) (own_pt (own_pt (own_pt (own_pt [] (0 : Int32) x0) (Fpt (0 : Int32) x0) x1) (Fpt (Fpt (0 : Int32) x0) x1) x2) (Fpt (Fpt (Fpt (0 : Int32) x0) x1) x2) x3) C (X166.mono (by decide) (by decide)) hS rfl Kz166 N166 Z166 FX_166 P154_0_166 P166_0 (own_lw4 x0 x1 x2 x3) (own_aw4 x0 x1 x2 x3)
theorem own_eqi {args : Array Value} {s : State} {t : Term} {v : Int32} (h : (Jvm.Cond.eq t (.int v)).value args s none s [] = some true) : t.eval args s none [] s = some (.int v) := by
  simp only [Cond.value, Term.eval] at h
  cases ht : t.eval args s none [] s with
  | none => simp [ht] at h
  | some x => cases x <;> simp [ht] at h ⊢; exact h
theorem own_eqr {args : Array Value} {s : State} {t u : Term} {a : Addr} (h : (Jvm.Cond.eq t u).value args s none s [] = some true) (hu : u.eval args s none [] s = some (.ref a)) : t.eval args s none [] s = some (.ref a) := by
  simp only [Cond.value, hu] at h
  cases ht : t.eval args s none [] s with
  | none => simp [ht] at h
  | some x => cases x <;> simp [ht] at h ⊢; exact h
theorem own_len {args : Array Value} {s : State} {t : Term} {a : Addr} {cl : Cell} {ty : FieldType} {n : Int32} (ht : t.eval args s none [] s = some (.ref a)) (A : Arr s s.heap a cl ty) (h : (Term.length t).eval args s none [] s = some (.int n)) : cl.slots.size < 2 ^ 31 ∧ cl.slots.size.toInt32 = n := by
  have ha : s.arrayAt? a = some cl := A.fin (Vm.Alike.refl _)
  by_cases q : cl.slots.size < 2 ^ 31
  · rw [len_f ht ha q] at h
    exact ⟨q, Value.int.inj (Option.some.inj h)⟩
  · simp [Term.eval, ht, ha, q] at h
theorem own_fld {args : Array Value} {s : State} {t : Term} {C n d : String} {a : Addr} {v : Value} (ht : t.eval args s none [] s = some (.ref a)) (hv : (Term.field t C n d).eval args s none [] s = some v) : Fld s s.heap a C n d v := Fld.start ((fld_at ht).symm.trans hv)
set_option maxRecDepth 65536 in
set_option maxHeartbeats 40000000 in
theorem comes_1 {Post : Tables → Env → Array Value → State → Outcome → State → Prop} (hpost : ∀ tb e args s v u, (limb_1_1.after args s (.returned v) u = true ∧ limb_1_2.after args s (.returned v) u = true ∧ True) → ReturnedEndW s (.returned v) u (Jvm.fieldLocs frame_1_writes args s ++ Jvm.arrayLocs frame_1_arrays args s ++ Jvm.staticLocs frame_1_statics s) 40 4352 → Post tb e args s (.returned v) u) :
    ArmFor flags0 classFile x code maxLocals ret World_1 tables_1 room_1 Calls_1 rest_1 Pre_1 Post := by
  intro l hfl _ _ p e ha hc hk s m args below hf hA hF happ hP
  obtain ⟨hcalls, hrest, hpre⟩ := hP
  obtain ⟨-, -, -, hnamed, -, -, -, hat⟩ := (Spec.applies_iff hf).mp happ
  obtain ⟨hg, hnr⟩ := and_e (Cond.before_iff.mp (show (Jvm.Cond.and given_1 narrow_1).before args s = true from hpre))
  obtain ⟨gg1, gg2⟩ := and_e hg
  obtain ⟨gg3, gg4⟩ := and_e gg2
  obtain ⟨gg5, gg6⟩ := and_e gg4
  obtain ⟨gg7, gg8⟩ := and_e gg6
  obtain ⟨gg9, gg10⟩ := and_e gg8
  obtain ⟨w0, w1, w2, w3, w4, rfl⟩ : ∃ w0 w1 w2 w3 w4 : Value, args = #[w0, w1, w2, w3, w4] := by
    have hs : args.size = 5 := by simpa [Cond.value, given_1] using gg1
    obtain ⟨L⟩ := args
    match L, hs with
    | [w0, w1, w2, w3, w4], _ => exact ⟨w0, w1, w2, w3, w4, rfl⟩
  have hw := fun d (hd : d ∈ tables_1) => atoms_spec (ws := Jvm.Cond.code x code maxLocals ret :: tables_1) hat d (List.mem_cons_of_mem _ hd)
  have hfit : Fit s := fun {y c} hc i hi => by
    obtain ⟨ha, rfl⟩ := Array.getElem?_eq_some_iff.mp hc
    have q := List.all_eq_true.mp ((Array.all_eq_true_iff_forall_mem.mp hF) _ (Array.getElem_mem ha)) i (List.mem_range.mpr hi)
    simpa [Array.getElem?_eq_getElem hi] using q
  obtain ⟨i0, ei0⟩ := is_v gg3
  obtain rfl : w0 = (.int i0) := Option.some.inj ei0
  obtain ⟨i1, ei1⟩ := is_v gg5
  obtain rfl : w1 = (.int i1) := Option.some.inj ei1
  obtain ⟨i2, ei2⟩ := is_v gg7
  obtain rfl : w2 = (.int i2) := Option.some.inj ei2
  obtain ⟨i3, ei3⟩ := is_v gg9
  obtain rfl : w3 = (.int i3) := Option.some.inj ei3
  obtain ⟨i4, ei4⟩ := is_v gg10
  obtain rfl : w4 = (.int i4) := Option.some.inj ei4
  obtain ⟨hsets, hown0⟩ := atoms_of _ (rest_1_c_eq ▸ (show rest_1_c.before _ s = true from hrest))
  obtain ⟨cs, ev_cs⟩ := is_v (Cond.before_iff.mp (hsets _ (List.mem_of_getElem? (i := 1) rfl)))
  have S_cs := Sta.start ev_cs (Or.inl (hsets _ (List.mem_of_getElem? (i := 0) rfl)))
  have hcw := hsets _ (List.mem_of_getElem? (i := 2) rfl)
  have hcs : ¬ (cs = (0 : Int32)) := own_neqi ev_cs (Cond.before_iff.mp hcw)
  obtain ⟨fm, ev_fm, hrf⟩ := Cond.isRef_spec (show (Jvm.Cond.isRef _).holds _ s none s [] = true from (hsets _ (List.mem_of_getElem? (i := 8) rfl)))
  have S_fm := Sta.start ev_fm (Or.inl (hsets _ (List.mem_of_getElem? (i := 7) rfl)))
  have hfm : fm.category = 1 := by cases fm <;> first | rfl | (simp [Value.isRef] at hrf)
  have S_ad := Sta.start (own_eqi (Cond.before_iff.mp (hsets _ (List.mem_of_getElem? (i := 12) rfl)))) (Or.inl (hsets _ (List.mem_of_getElem? (i := 11) rfl)))
  have S_hi := Sta.start (own_eqi (Cond.before_iff.mp (hsets _ (List.mem_of_getElem? (i := 15) rfl)))) (Or.inl (hsets _ (List.mem_of_getElem? (i := 14) rfl)))
  have S_lo := Sta.start (own_eqi (Cond.before_iff.mp (hsets _ (List.mem_of_getElem? (i := 18) rfl)))) (Or.inl (hsets _ (List.mem_of_getElem? (i := 17) rfl)))
  have hFX : FX s s.heap cs fm := ⟨S_cs, hcs, S_fm, hfm, S_ad, S_hi, S_lo⟩
  have hCH : CHv s own_EL s.vm s.heap := CHv.start (own_ew hw) (fun p hp => by
      simp only [own_EL, List.mem_cons, List.not_mem_nil, or_false] at hp
      rcases hp with rfl | rfl | rfl | rfl
      · exact hcalls.1 _ (List.mem_of_getElem? (i := 0) rfl)
      · exact hcalls.1 _ (List.mem_of_getElem? (i := 1) rfl)
      · exact hcalls.1 _ (List.mem_of_getElem? (i := 2) rfl)
      · exact hcalls.1 _ (List.mem_of_getElem? (i := 3) rfl)) hcw (wq hw 20 rfl) (wq hw 7 rfl)
  obtain ⟨n, o, h1, h2, h3, _, L, rfl, ⟨hv, N⟩, hq⟩ := rm0 l s _ hw tables_1 i0 i1 i2 i3 i4 cs fm s.heap s.heap.size (Nat.le_refl _) hFX p e ha hc hk s m _ below hf ((Spec.applies_iff_loose hf).mp happ).1 ⟨rfl, State.Warmed39.refl s, rfl, hCH⟩ trivial
  subst hv
  refine ⟨n, _, h1, h2, h3, hpost _ _ _ _ _ _ ⟨Cond.after_iff.mpr rfl, Cond.after_iff.mpr (eq_i res_at (Term.int_eval (1)) rfl), trivial⟩ ⟨hq.1, hq.2.1, hq.2.2.1, (hq.2.2.2.sift fun y hy => Or.inr (N y hy)).mono (by decide) (by decide)⟩⟩
theorem main_1_1 : Claimed_1_1 := comes_1 fun _ _ _ _ _ _ h hF => ⟨h.1, hF⟩
theorem main_1_2 : Claimed_1_2 := comes_1 fun _ _ _ _ _ _ h hF => ⟨h.2.1, hF⟩
end Jvm.Pilot.@@N@@
namespace Jvm.Pilot.@@N@@
open Jvm Jvm.ClassFile Sem Op Lib Jvm.Free Jvm.Stand Jvm.Pilot.@@N@@.Jvm.D
/-! MADE BY PROGRAM (witnessworld.py) out of the Statement's table words and the real class files: 24 classes; the members and pool entries that the words name. The judged class is class 1, her method 1. -/
namespace start1
open Jvm.ClassFile
def u (s : String) : CpInfo := .utf8 (stringToUtf16 s)
/-- a pool by its gaps: so many unusable entries, then the entry; so many at the end -/
def gap : Nat → List CpInfo → List CpInfo
  | 0, r => r
  | n + 1, r => .unusable :: gap n r
def poolList (es : List (Nat × CpInfo)) (last : Nat) : List CpInfo := es.foldr (fun e r => gap e.1 (e.2 :: r)) (gap last [])
def pool (es : List (Nat × CpInfo)) (last : Nat) : Array CpInfo := ⟨poolList es last⟩
def fileOf (pool : Array CpInfo) (this : Nat) (attrs : Array Attribute := #[]) (ms : Array MethodInfo := #[]) (fl : Nat := 33) (sup : Nat := 0) (ifs : Array Nat := #[]) (fds : Array FieldInfo := #[]) : ClassFile where
  minorVersion := 0
  majorVersion := 65
  constantPool := pool
  accessFlags := fl
  thisClass := this
  superClass := sup
  interfaces := ifs
  fields := fds
  methods := ms
  attributes := attrs
def plain (name : String) (sup : Option ClassId) : Class where
  name := name
  kind := .ordinary
  loader := none
  accessFlags := 33
  super := sup
  interfaces := #[]
  cf := none
  fields := #[]
  methods := #[]
  instanceTypes := #[]
  staticTypes := #[]
  resolved := #[]
  callSites := []
  init := .initialized
  statics := none
  mirror := none

def pool0 : Array CpInfo := pool [(5, u "<init>"), (0, u "()V"), (1, .class_ 10), (1, u "java/lang/Object"), (85, u "clone"), (0, u "()Ljava/lang/Object;")] 26

def k0c0 : Code := { maxStack := 0, maxLocals := 1, code := object_method_1_code, exceptionTable := #[], attributes := #[] }
def k0m0 : Method := { name := "<init>", desc := "()V", sig := { parameters := [], returnType := none }, accessFlags := 1, code := some k0c0 }
def k0m1 : Method := { name := "clone", desc := "()Ljava/lang/Object;", sig := { parameters := [], returnType := some (.object "java/lang/Object") }, accessFlags := 260, code := none }
/-- java/lang/Object -/
def k0 : Class := { plain "java/lang/Object" none with
  accessFlags := 33
  interfaces := #[]
  cf := some (fileOf pool0 8 #[] #[{ accessFlags := 1, nameIndex := 5, descriptorIndex := 6, attributes := #[] }, { accessFlags := 260, nameIndex := 96, descriptorIndex := 97, attributes := #[] }] 33 0 #[] #[])
  fields := #[]
  methods := #[k0m0, k0m1]
  instanceTypes := #[]
  staticTypes := #[]
  resolved := Array.replicate 124 none
  statics := none }

def pool1 : Array CpInfo := pool [(2, .class_ 4), (1, u "java/lang/Object"), (0, u "<init>"), (0, u "()V"), (0, .integer 2147483647), (0, .methodref 9 10), (0, .class_ 11), (0, .nameAndType 12 13), (0, u "org/vouchsafe/cli/OutputEscapePinLaw"), (0, u "pick"), (0, u "(I)C"), (0, .class_ 15), (0, u "java/lang/String"), (0, .methodref 14 17), (0, .nameAndType 5 18), (0, u "([C)V"), (0, .methodref 20 21), (0, .class_ 22), (0, .nameAndType 23 24), (0, u "org/vouchsafe/cli/Output"), (0, u "escape"), (0, u "(Ljava/lang/String;)Ljava/lang/String;"), (0, .methodref 9 26), (0, .nameAndType 27 28), (0, u "put"), (0, u "([CIC)I"), (0, .methodref 14 30), (0, .nameAndType 31 32), (0, u "length"), (0, u "()I"), (0, .methodref 9 34), (0, .nameAndType 35 36), (0, u "same"), (0, u "(Ljava/lang/String;[CII)Z"), (0, .methodref 14 38), (0, .nameAndType 39 13), (0, u "charAt"), (2, u "law"), (0, u "(IIIII)Z")] 5

def k1m0 : Method := { name := "<init>", desc := "()V", sig := { parameters := [], returnType := none }, accessFlags := 1, code := none }
def k1c1 : Code := { maxStack := 4, maxLocals := 14, code := code, exceptionTable := #[], attributes := #[] }
def k1m1 : Method := { name := "law", desc := "(IIIII)Z", sig := { parameters := [.int, .int, .int, .int, .int], returnType := some .boolean }, accessFlags := 9, code := some k1c1 }
def k1c2 : Code := { maxStack := 2, maxLocals := 2, code := method_3_code, exceptionTable := #[], attributes := #[] }
def k1m2 : Method := { name := "pick", desc := "(I)C", sig := { parameters := [.int], returnType := some .char }, accessFlags := 10, code := some k1c2 }
def k1c3 : Code := { maxStack := 3, maxLocals := 3, code := method_4_code, exceptionTable := #[], attributes := #[] }
def k1m3 : Method := { name := "put", desc := "([CIC)I", sig := { parameters := [(.array .char), .int, .char], returnType := some .int }, accessFlags := 10, code := some k1c3 }
def k1c4 : Code := { maxStack := 3, maxLocals := 4, code := method_5_code, exceptionTable := #[], attributes := #[] }
def k1m4 : Method := { name := "same", desc := "(Ljava/lang/String;[CII)Z", sig := { parameters := [(.object "java/lang/String"), (.array .char), .int, .int], returnType := some .boolean }, accessFlags := 10, code := some k1c4 }
/-- org/vouchsafe/cli/OutputEscapePinLaw -/
def k1 : Class := { plain "org/vouchsafe/cli/OutputEscapePinLaw" (some 0) with
  accessFlags := 49
  interfaces := #[]
  cf := some (fileOf pool1 9 #[] #[{ accessFlags := 1, nameIndex := 5, descriptorIndex := 6, attributes := #[] }, { accessFlags := 9, nameIndex := 42, descriptorIndex := 43, attributes := #[] }, { accessFlags := 10, nameIndex := 12, descriptorIndex := 13, attributes := #[] }, { accessFlags := 10, nameIndex := 27, descriptorIndex := 28, attributes := #[] }, { accessFlags := 10, nameIndex := 35, descriptorIndex := 36, attributes := #[] }] 49 2 #[] #[])
  fields := #[]
  methods := #[k1m0, k1m1, k1m2, k1m3, k1m4]
  instanceTypes := #[]
  staticTypes := #[]
  resolved := Array.replicate 49 none
  statics := none }

def pool2 : Array CpInfo := pool [(1, .class_ 2), (0, u "java/io/Serializable"), (0, .class_ 4), (0, u "java/lang/Object")] 2

/-- java/io/Serializable -/
def k2 : Class := { plain "java/io/Serializable" (some 0) with
  accessFlags := 1537
  interfaces := #[]
  cf := some (fileOf pool2 1 #[] #[] 1537 3 #[] #[])
  fields := #[]
  methods := #[]
  instanceTypes := #[]
  staticTypes := #[]
  resolved := Array.replicate 7 none
  statics := none }

def pool3 : Array CpInfo := pool [(1, .class_ 2), (0, u "java/lang/Comparable"), (0, .class_ 4), (0, u "java/lang/Object")] 7

/-- java/lang/Comparable -/
def k3 : Class := { plain "java/lang/Comparable" (some 0) with
  accessFlags := 1537
  interfaces := #[]
  cf := some (fileOf pool3 1 #[] #[] 1537 3 #[] #[])
  fields := #[]
  methods := #[]
  instanceTypes := #[]
  staticTypes := #[]
  resolved := Array.replicate 12 none
  statics := none }

def pool4 : Array CpInfo := pool [(2, .class_ 4), (1, u "java/lang/CharSequence"), (42, .class_ 48), (0, u "java/lang/CharSequence$1CodePointIterator"), (10, .class_ 60), (0, u "java/lang/CharSequence$1CharIterator"), (5, .class_ 67), (0, u "java/lang/Object")] 63

/-- java/lang/CharSequence -/
def k4 : Class := { plain "java/lang/CharSequence" (some 0) with
  accessFlags := 1537
  interfaces := #[]
  cf := some (fileOf pool4 2 #[.nestMembers #[47, 59]] #[] 1537 66 #[] #[])
  fields := #[]
  methods := #[]
  instanceTypes := #[]
  staticTypes := #[]
  resolved := Array.replicate 131 none
  statics := none }

def pool5 : Array CpInfo := pool [(1, .class_ 2), (0, u "java/lang/constant/Constable"), (0, .class_ 4), (0, u "java/lang/Object")] 6

/-- java/lang/constant/Constable -/
def k5 : Class := { plain "java/lang/constant/Constable" (some 0) with
  accessFlags := 1537
  interfaces := #[]
  cf := some (fileOf pool5 1 #[] #[] 1537 3 #[] #[])
  fields := #[]
  methods := #[]
  instanceTypes := #[]
  staticTypes := #[]
  resolved := Array.replicate 11 none
  statics := none }

def pool6 : Array CpInfo := pool [(1, .class_ 2), (0, u "java/lang/constant/ConstantDesc"), (0, .class_ 4), (0, u "java/lang/Object")] 32

/-- java/lang/constant/ConstantDesc -/
def k6 : Class := { plain "java/lang/constant/ConstantDesc" (some 0) with
  accessFlags := 1537
  interfaces := #[]
  cf := some (fileOf pool6 1 #[] #[] 1537 3 #[] #[])
  fields := #[]
  methods := #[]
  instanceTypes := #[]
  staticTypes := #[]
  resolved := Array.replicate 37 none
  statics := none }

def pool7 : Array CpInfo := pool [(1, .methodref 2 3), (0, .class_ 4), (0, .nameAndType 5 6), (0, u "java/lang/Object"), (0, u "<init>"), (0, u "()V"), (0, .string 8), (0, u ""), (0, .fieldref 10 11), (0, .class_ 12), (0, .nameAndType 13 14), (0, u "java/lang/String"), (0, u "value"), (0, u "[B"), (0, .fieldref 10 16), (0, .nameAndType 17 18), (0, u "coder"), (0, u "B"), (2, u "hash"), (0, u "I"), (2, u "hashIsZero"), (0, u "Z"), (0, .methodref 10 28), (0, .nameAndType 5 29), (0, u "([CIILjava/lang/Void;)V"), (6, u "checkBoundsOffCount"), (0, u "(III)I"), (0, .fieldref 10 39), (0, .nameAndType 40 26), (0, u "COMPACT_STRINGS"), (1, .class_ 44), (1, u "java/lang/StringUTF16"), (0, u "compress"), (1, .methodref 42 48), (0, .nameAndType 49 50), (0, u "coderFromArrayLen"), (0, u "([BI)B"), (3, .methodref 55 56), (0, .class_ 57), (0, .nameAndType 58 59), (0, u "java/util/Arrays"), (0, u "copyOfRange"), (0, u "([BII)[B"), (46, .methodref 107 108), (0, .class_ 109), (0, .nameAndType 110 111), (0, u "java/lang/StringLatin1"), (0, u "inflate"), (0, u "([BI[BII)V"), (30, u "()Z"), (34, .methodref 42 178), (0, .nameAndType 45 179), (0, u "([CII)[B"), (13, .class_ 195), (1, u "java/lang/System"), (16, .methodref 193 213), (0, .nameAndType 214 215), (0, u "arraycopy"), (0, u "(Ljava/lang/Object;ILjava/lang/Object;II)V"), (118, u "()I"), (0, .methodref 10 336), (0, .nameAndType 17 337), (0, u "()B"), (2, u "()[B"), (22, u "([BI)C"), (27, u "(II)V"), (35, u "(I)C"), (61, .methodref 10 490), (0, .nameAndType 5 491), (0, u "(Ljava/lang/AbstractStringBuilder;Ljava/lang/Void;)V"), (0, .methodref 10 493), (0, .nameAndType 494 142), (0, u "isLatin1"), (0, .methodref 107 496), (0, .nameAndType 497 363), (0, u "charAt"), (0, .methodref 42 496), (2, u "checkIndex"), (4, .nameAndType 507 334), (0, u "length"), (24, u "getBytes"), (16, .methodref 550 506), (0, .class_ 551), (0, u "java/lang/AbstractStringBuilder"), (0, .methodref 550 553), (0, .nameAndType 554 340), (0, u "getValue"), (20, .class_ 576), (0, u "java/lang/CharSequence"), (22, u "CASE_INSENSITIVE_ORDER"), (0, u "Ljava/util/Comparator;"), (220, u "([BIB)V"), (188, u "([C)V"), (36, .methodref 550 493), (0, .fieldref 550 1049), (0, .nameAndType 1050 26), (0, u "maybeLatin1"), (2, .fieldref 1054 1055), (0, .class_ 1056), (0, .nameAndType 1057 1058), (0, u "jdk/internal/util/Preconditions"), (0, u "SIOOBE_FORMATTER"), (0, u "Ljava/util/function/BiFunction;"), (0, .methodref 1054 1060), (0, .nameAndType 501 1061), (0, u "(IILjava/util/function/BiFunction;)I"), (2, u "(IIILjava/util/function/BiFunction;)I"), (0, .methodref 1054 1066), (0, .nameAndType 1067 1064), (0, u "checkFromIndexSize"), (33, u "serialPersistentFields"), (0, u "[Ljava/io/ObjectStreamField;"), (0, .class_ 1104), (0, u "java/lang/String$CaseInsensitiveComparator"), (1, .class_ 1107), (0, u "java/io/Serializable"), (0, .class_ 1109), (0, u "java/lang/Comparable"), (0, .class_ 1111), (0, u "java/lang/constant/Constable"), (0, .class_ 1113), (0, u "java/lang/constant/ConstantDesc"), (2, u "serialVersionUID"), (0, u "J"), (3, u "REPL"), (0, u "C"), (2, u "LATIN1"), (1, u "UTF16"), (105, u "(Ljava/lang/StringBuilder;)V")] 217

def k7m0 : Method := { name := "<init>", desc := "()V", sig := { parameters := [], returnType := none }, accessFlags := 1, code := none }
def k7c1 : Code := { maxStack := 5, maxLocals := 2, code := jdk_42_method_3_code, exceptionTable := #[], attributes := #[] }
def k7m1 : Method := { name := "<init>", desc := "([C)V", sig := { parameters := [(.array .char)], returnType := none }, accessFlags := 1, code := some k7c1 }
def k7c2 : Code := { maxStack := 3, maxLocals := 2, code := jdk_42_method_53_code, exceptionTable := #[], attributes := #[] }
def k7m2 : Method := { name := "<init>", desc := "(Ljava/lang/StringBuilder;)V", sig := { parameters := [(.object "java/lang/StringBuilder")], returnType := none }, accessFlags := 1, code := some k7c2 }
def k7c3 : Code := { maxStack := 2, maxLocals := 1, code := jdk_42_method_54_code, exceptionTable := #[], attributes := #[] }
def k7m3 : Method := { name := "length", desc := "()I", sig := { parameters := [], returnType := some .int }, accessFlags := 1, code := some k7c3 }
def k7c4 : Code := { maxStack := 2, maxLocals := 2, code := jdk_42_method_56_code, exceptionTable := #[], attributes := #[] }
def k7m4 : Method := { name := "charAt", desc := "(I)C", sig := { parameters := [.int], returnType := some .char }, accessFlags := 1, code := some k7c4 }
def k7c5 : Code := { maxStack := 5, maxLocals := 4, code := jdk_42_method_147_code, exceptionTable := #[], attributes := #[] }
def k7m5 : Method := { name := "getBytes", desc := "([BIB)V", sig := { parameters := [(.array .byte), .int, .byte], returnType := none }, accessFlags := 0, code := some k7c5 }
def k7c6 : Code := { maxStack := 4, maxLocals := 6, code := jdk_42_method_149_code, exceptionTable := #[], attributes := #[] }
def k7m6 : Method := { name := "<init>", desc := "([CIILjava/lang/Void;)V", sig := { parameters := [(.array .char), .int, .int, (.object "java/lang/Void")], returnType := none }, accessFlags := 2, code := some k7c6 }
def k7c7 : Code := { maxStack := 5, maxLocals := 5, code := jdk_42_method_150_code, exceptionTable := #[], attributes := #[] }
def k7m7 : Method := { name := "<init>", desc := "(Ljava/lang/AbstractStringBuilder;Ljava/lang/Void;)V", sig := { parameters := [(.object "java/lang/AbstractStringBuilder"), (.object "java/lang/Void")], returnType := none }, accessFlags := 0, code := some k7c7 }
def k7c8 : Code := { maxStack := 1, maxLocals := 1, code := jdk_42_method_152_code, exceptionTable := #[], attributes := #[] }
def k7m8 : Method := { name := "coder", desc := "()B", sig := { parameters := [], returnType := some .byte }, accessFlags := 0, code := some k7c8 }
def k7c9 : Code := { maxStack := 1, maxLocals := 1, code := jdk_42_method_154_code, exceptionTable := #[], attributes := #[] }
def k7m9 : Method := { name := "isLatin1", desc := "()Z", sig := { parameters := [], returnType := some .boolean }, accessFlags := 0, code := some k7c9 }
def k7c10 : Code := { maxStack := 3, maxLocals := 2, code := jdk_42_method_155_code, exceptionTable := #[], attributes := #[] }
def k7m10 : Method := { name := "checkIndex", desc := "(II)V", sig := { parameters := [.int, .int], returnType := none }, accessFlags := 8, code := some k7c10 }
def k7c11 : Code := { maxStack := 4, maxLocals := 3, code := jdk_42_method_157_code, exceptionTable := #[], attributes := #[] }
def k7m11 : Method := { name := "checkBoundsOffCount", desc := "(III)I", sig := { parameters := [.int, .int, .int], returnType := some .int }, accessFlags := 8, code := some k7c11 }
/-- java/lang/String -/
def k7 : Class := { plain "java/lang/String" (some 0) with
  accessFlags := 49
  interfaces := #[2, 3, 4, 5, 6]
  cf := some (fileOf pool7 10 #[.nestMembers #[1103]] #[{ accessFlags := 1, nameIndex := 5, descriptorIndex := 6, attributes := #[] }, { accessFlags := 1, nameIndex := 5, descriptorIndex := 1010, attributes := #[] }, { accessFlags := 1, nameIndex := 5, descriptorIndex := 1233, attributes := #[] }, { accessFlags := 1, nameIndex := 507, descriptorIndex := 334, attributes := #[] }, { accessFlags := 1, nameIndex := 497, descriptorIndex := 427, attributes := #[] }, { accessFlags := 0, nameIndex := 532, descriptorIndex := 821, attributes := #[] }, { accessFlags := 2, nameIndex := 5, descriptorIndex := 29, attributes := #[] }, { accessFlags := 0, nameIndex := 5, descriptorIndex := 491, attributes := #[] }, { accessFlags := 0, nameIndex := 17, descriptorIndex := 337, attributes := #[] }, { accessFlags := 0, nameIndex := 494, descriptorIndex := 142, attributes := #[] }, { accessFlags := 8, nameIndex := 501, descriptorIndex := 391, attributes := #[] }, { accessFlags := 8, nameIndex := 36, descriptorIndex := 37, attributes := #[] }] 49 2 #[1106, 1108, 575, 1110, 1112] #[{ accessFlags := 18, nameIndex := 13, descriptorIndex := 14, attributes := #[] }, { accessFlags := 18, nameIndex := 17, descriptorIndex := 18, attributes := #[] }, { accessFlags := 2, nameIndex := 21, descriptorIndex := 22, attributes := #[] }, { accessFlags := 2, nameIndex := 25, descriptorIndex := 26, attributes := #[] }, { accessFlags := 26, nameIndex := 1116, descriptorIndex := 1117, attributes := #[] }, { accessFlags := 24, nameIndex := 40, descriptorIndex := 26, attributes := #[] }, { accessFlags := 26, nameIndex := 1101, descriptorIndex := 1102, attributes := #[] }, { accessFlags := 26, nameIndex := 1121, descriptorIndex := 1122, attributes := #[] }, { accessFlags := 25, nameIndex := 599, descriptorIndex := 600, attributes := #[] }, { accessFlags := 24, nameIndex := 1125, descriptorIndex := 18, attributes := #[] }, { accessFlags := 24, nameIndex := 1127, descriptorIndex := 18, attributes := #[] }])
  fields := #[{ name := "value", type := (.array .byte), accessFlags := 18, slot := 0, constantValue := 0 }, { name := "coder", type := .byte, accessFlags := 18, slot := 1, constantValue := 0 }, { name := "hash", type := .int, accessFlags := 2, slot := 2, constantValue := 0 }, { name := "hashIsZero", type := .boolean, accessFlags := 2, slot := 3, constantValue := 0 }, { name := "serialVersionUID", type := .long, accessFlags := 26, slot := 0, constantValue := 0 }, { name := "COMPACT_STRINGS", type := .boolean, accessFlags := 24, slot := 1, constantValue := 0 }, { name := "serialPersistentFields", type := (.array (.object "java/io/ObjectStreamField")), accessFlags := 26, slot := 2, constantValue := 0 }, { name := "REPL", type := .char, accessFlags := 26, slot := 3, constantValue := 0 }, { name := "CASE_INSENSITIVE_ORDER", type := (.object "java/util/Comparator"), accessFlags := 25, slot := 4, constantValue := 0 }, { name := "LATIN1", type := .byte, accessFlags := 24, slot := 5, constantValue := 0 }, { name := "UTF16", type := .byte, accessFlags := 24, slot := 6, constantValue := 0 }]
  methods := #[k7m0, k7m1, k7m2, k7m3, k7m4, k7m5, k7m6, k7m7, k7m8, k7m9, k7m10, k7m11]
  instanceTypes := #[(.array .byte), .byte, .int, .boolean]
  staticTypes := #[.long, .boolean, (.array (.object "java/io/ObjectStreamField")), .char, (.object "java/util/Comparator"), .byte, .byte]
  resolved := Array.replicate 1451 none
  statics := some 0 }

def pool8 : Array CpInfo := pool [(2, .class_ 4), (1, u "java/lang/Object"), (0, u "<init>"), (0, u "()V"), (0, .class_ 8), (0, u "java/lang/StringBuilder"), (2, .class_ 13), (1, u "org/vouchsafe/cli/Output"), (0, u "text"), (0, u "Ljava/lang/StringBuilder;"), (3, u "(Ljava/lang/String;)Ljava/lang/String;"), (0, .methodref 7 21), (0, .nameAndType 22 23), (0, u "append"), (0, u "(Ljava/lang/String;)Ljava/lang/StringBuilder;"), (4, u "escape"), (0, .methodref 7 30), (0, .nameAndType 22 31), (0, u "(C)Ljava/lang/StringBuilder;"), (10, .methodref 7 43), (0, .nameAndType 44 45), (0, u "toString"), (0, u "()Ljava/lang/String;"), (0, .methodref 47 48), (0, .class_ 49), (0, .nameAndType 50 51), (0, u "java/lang/String"), (0, u "length"), (0, u "()I"), (0, .methodref 7 53), (0, .nameAndType 5 54), (0, u "(I)V"), (0, .methodref 47 56), (0, .nameAndType 57 58), (0, u "charAt"), (0, u "(I)C"), (0, .string 60), (0, u "\\n"), (0, .string 62), (0, u "\\r"), (0, .string 64), (0, u "\\\\"), (6, u "WORD"), (0, u "Ljava/util/regex/Pattern;")] 50

def k8m0 : Method := { name := "<init>", desc := "()V", sig := { parameters := [], returnType := none }, accessFlags := 0, code := none }
def k8c1 : Code := { maxStack := 3, maxLocals := 4, code := prog_58_method_5_code, exceptionTable := #[], attributes := #[] }
def k8m1 : Method := { name := "escape", desc := "(Ljava/lang/String;)Ljava/lang/String;", sig := { parameters := [(.object "java/lang/String")], returnType := some (.object "java/lang/String") }, accessFlags := 8, code := some k8c1 }
/-- org/vouchsafe/cli/Output -/
def k8 : Class := { plain "org/vouchsafe/cli/Output" (some 0) with
  accessFlags := 48
  interfaces := #[]
  cf := some (fileOf pool8 11 #[] #[{ accessFlags := 0, nameIndex := 5, descriptorIndex := 6, attributes := #[] }, { accessFlags := 8, nameIndex := 28, descriptorIndex := 19, attributes := #[] }] 48 2 #[] #[{ accessFlags := 26, nameIndex := 71, descriptorIndex := 72, attributes := #[] }, { accessFlags := 18, nameIndex := 14, descriptorIndex := 15, attributes := #[] }])
  fields := #[{ name := "WORD", type := (.object "java/util/regex/Pattern"), accessFlags := 26, slot := 0, constantValue := 0 }, { name := "text", type := (.object "java/lang/StringBuilder"), accessFlags := 18, slot := 0, constantValue := 0 }]
  methods := #[k8m0, k8m1]
  instanceTypes := #[(.object "java/lang/StringBuilder")]
  staticTypes := #[(.object "java/util/regex/Pattern")]
  resolved := Array.replicate 123 none
  statics := none }

def pool9 : Array CpInfo := pool [(1, .class_ 2), (0, u "java/lang/Appendable"), (0, .class_ 4), (0, u "java/lang/Object")] 9

/-- java/lang/Appendable -/
def k9 : Class := { plain "java/lang/Appendable" (some 0) with
  accessFlags := 1537
  interfaces := #[]
  cf := some (fileOf pool9 1 #[] #[] 1537 3 #[] #[])
  fields := #[]
  methods := #[]
  instanceTypes := #[]
  staticTypes := #[]
  resolved := Array.replicate 14 none
  statics := none }

def pool10 : Array CpInfo := pool [(1, .class_ 2), (0, u "java/lang/String"), (0, .methodref 4 5), (0, .class_ 6), (0, .nameAndType 7 8), (0, u "java/lang/Object"), (0, u "<init>"), (0, u "()V"), (1, .class_ 12), (1, u "java/lang/AbstractStringBuilder"), (0, u "EMPTYVALUE"), (0, u "[B"), (0, .fieldref 10 16), (0, .nameAndType 17 14), (0, u "value"), (0, .fieldref 1 19), (0, .nameAndType 20 21), (0, u "COMPACT_STRINGS"), (0, u "Z"), (0, .fieldref 10 23), (0, .nameAndType 24 25), (0, u "coder"), (0, u "B"), (0, .methodref 27 28), (0, .class_ 29), (0, .nameAndType 30 31), (0, u "java/lang/StringUTF16"), (0, u "newBytesFor"), (0, u "(I)[B"), (0, .methodref 1 33), (0, .nameAndType 34 35), (0, u "length"), (0, u "()I"), (3, .integer 2147483647), (0, .methodref 1 41), (0, .nameAndType 24 42), (0, u "()B"), (2, u "append"), (0, u "(Ljava/lang/String;)Ljava/lang/AbstractStringBuilder;"), (1, .class_ 49), (0, u "java/lang/CharSequence"), (19, u "(Ljava/lang/String;)V"), (5, u "maybeLatin1"), (3, .fieldref 10 80), (0, .nameAndType 81 82), (0, u "count"), (0, u "I"), (0, .methodref 10 84), (0, .nameAndType 85 86), (0, u "isLatin1"), (0, u "()Z"), (1, .class_ 90), (1, u "java/lang/StringLatin1"), (9, .methodref 10 101), (0, .nameAndType 102 103), (0, u "ensureCapacityInternal"), (0, u "(I)V"), (0, .methodref 10 105), (0, .nameAndType 106 107), (0, u "newCapacity"), (0, u "(I)I"), (0, .methodref 109 110), (0, .class_ 111), (0, .nameAndType 112 113), (0, u "java/util/Arrays"), (0, u "copyOf"), (0, u "([BI)[B"), (0, .methodref 115 116), (0, .class_ 117), (0, .nameAndType 118 119), (0, u "jdk/internal/util/ArraysSupport"), (0, u "newLength"), (0, u "(III)I"), (5, .methodref 88 126), (0, .nameAndType 127 128), (0, u "inflate"), (0, u "([BI[BII)V"), (7, u "([BII)V"), (54, .methodref 88 192), (0, .nameAndType 193 194), (0, u "canEncode"), (0, u "(C)Z"), (0, .methodref 10 196), (0, .nameAndType 127 8), (0, .methodref 27 198), (0, .nameAndType 199 136), (0, u "putCharSB"), (8, .methodref 10 209), (0, .nameAndType 210 211), (0, u "putStringAt"), (0, u "(ILjava/lang/String;)V"), (5, u "inflateIfNeededFor"), (2, .nameAndType 221 222), (0, u "getBytes"), (0, u "([BIB)V"), (69, u "(C)Ljava/lang/AbstractStringBuilder;"), (104, .methodref 10 398), (0, .nameAndType 217 69), (0, .methodref 1 220), (3, u "()[B"), (40, .class_ 445), (0, u "java/lang/Appendable"), (106, u "getValue")] 56

def k10m0 : Method := { name := "<init>", desc := "()V", sig := { parameters := [], returnType := none }, accessFlags := 0, code := none }
def k10c1 : Code := { maxStack := 2, maxLocals := 2, code := jdk_68_method_2_code, exceptionTable := #[], attributes := #[] }
def k10m1 : Method := { name := "<init>", desc := "(I)V", sig := { parameters := [.int], returnType := none }, accessFlags := 0, code := some k10c1 }
def k10c2 : Code := { maxStack := 1, maxLocals := 1, code := jdk_68_method_6_code, exceptionTable := #[], attributes := #[] }
def k10m2 : Method := { name := "length", desc := "()I", sig := { parameters := [], returnType := some .int }, accessFlags := 1, code := some k10c2 }
def k10c3 : Code := { maxStack := 4, maxLocals := 3, code := jdk_68_method_9_code, exceptionTable := #[], attributes := #[] }
def k10m3 : Method := { name := "ensureCapacityInternal", desc := "(I)V", sig := { parameters := [.int], returnType := none }, accessFlags := 2, code := some k10c3 }
def k10c4 : Code := { maxStack := 5, maxLocals := 6, code := jdk_68_method_10_code, exceptionTable := #[], attributes := #[] }
def k10m4 : Method := { name := "newCapacity", desc := "(I)I", sig := { parameters := [.int], returnType := some .int }, accessFlags := 2, code := some k10c4 }
def k10c5 : Code := { maxStack := 5, maxLocals := 2, code := jdk_68_method_11_code, exceptionTable := #[], attributes := #[] }
def k10m5 : Method := { name := "inflate", desc := "()V", sig := { parameters := [], returnType := none }, accessFlags := 2, code := some k10c5 }
def k10c6 : Code := { maxStack := 3, maxLocals := 3, code := jdk_68_method_22_code, exceptionTable := #[], attributes := #[] }
def k10m6 : Method := { name := "append", desc := "(Ljava/lang/String;)Ljava/lang/AbstractStringBuilder;", sig := { parameters := [(.object "java/lang/String")], returnType := some (.object "java/lang/AbstractStringBuilder") }, accessFlags := 1, code := some k10c6 }
def k10c7 : Code := { maxStack := 5, maxLocals := 2, code := jdk_68_method_31_code, exceptionTable := #[], attributes := #[] }
def k10m7 : Method := { name := "append", desc := "(C)Ljava/lang/AbstractStringBuilder;", sig := { parameters := [.char], returnType := some (.object "java/lang/AbstractStringBuilder") }, accessFlags := 1, code := some k10c7 }
def k10c8 : Code := { maxStack := 1, maxLocals := 1, code := jdk_68_method_64_code, exceptionTable := #[], attributes := #[] }
def k10m8 : Method := { name := "getValue", desc := "()[B", sig := { parameters := [], returnType := some (.array .byte) }, accessFlags := 16, code := some k10c8 }
def k10c9 : Code := { maxStack := 1, maxLocals := 1, code := jdk_68_method_68_code, exceptionTable := #[], attributes := #[] }
def k10m9 : Method := { name := "isLatin1", desc := "()Z", sig := { parameters := [], returnType := some .boolean }, accessFlags := 16, code := some k10c9 }
def k10c10 : Code := { maxStack := 2, maxLocals := 2, code := jdk_68_method_71_code, exceptionTable := #[], attributes := #[] }
def k10m10 : Method := { name := "inflateIfNeededFor", desc := "(Ljava/lang/String;)V", sig := { parameters := [(.object "java/lang/String")], returnType := none }, accessFlags := 2, code := some k10c10 }
def k10c11 : Code := { maxStack := 4, maxLocals := 3, code := jdk_68_method_73_code, exceptionTable := #[], attributes := #[] }
def k10m11 : Method := { name := "putStringAt", desc := "(ILjava/lang/String;)V", sig := { parameters := [.int, (.object "java/lang/String")], returnType := none }, accessFlags := 2, code := some k10c11 }
/-- java/lang/AbstractStringBuilder -/
def k10 : Class := { plain "java/lang/AbstractStringBuilder" (some 0) with
  accessFlags := 1056
  interfaces := #[9, 4]
  cf := some (fileOf pool10 10 #[] #[{ accessFlags := 0, nameIndex := 7, descriptorIndex := 8, attributes := #[] }, { accessFlags := 0, nameIndex := 7, descriptorIndex := 103, attributes := #[] }, { accessFlags := 1, nameIndex := 34, descriptorIndex := 35, attributes := #[] }, { accessFlags := 2, nameIndex := 102, descriptorIndex := 103, attributes := #[] }, { accessFlags := 2, nameIndex := 106, descriptorIndex := 107, attributes := #[] }, { accessFlags := 2, nameIndex := 127, descriptorIndex := 8, attributes := #[] }, { accessFlags := 1, nameIndex := 45, descriptorIndex := 46, attributes := #[] }, { accessFlags := 1, nameIndex := 45, descriptorIndex := 292, attributes := #[] }, { accessFlags := 16, nameIndex := 552, descriptorIndex := 403, attributes := #[] }, { accessFlags := 16, nameIndex := 85, descriptorIndex := 86, attributes := #[] }, { accessFlags := 2, nameIndex := 217, descriptorIndex := 69, attributes := #[] }, { accessFlags := 2, nameIndex := 210, descriptorIndex := 211, attributes := #[] }] 1056 4 #[444, 48] #[{ accessFlags := 0, nameIndex := 17, descriptorIndex := 14, attributes := #[] }, { accessFlags := 0, nameIndex := 24, descriptorIndex := 25, attributes := #[] }, { accessFlags := 0, nameIndex := 75, descriptorIndex := 21, attributes := #[] }, { accessFlags := 0, nameIndex := 81, descriptorIndex := 82, attributes := #[] }, { accessFlags := 26, nameIndex := 13, descriptorIndex := 14, attributes := #[] }])
  fields := #[{ name := "value", type := (.array .byte), accessFlags := 0, slot := 0, constantValue := 0 }, { name := "coder", type := .byte, accessFlags := 0, slot := 1, constantValue := 0 }, { name := "maybeLatin1", type := .boolean, accessFlags := 0, slot := 2, constantValue := 0 }, { name := "count", type := .int, accessFlags := 0, slot := 3, constantValue := 0 }, { name := "EMPTYVALUE", type := (.array .byte), accessFlags := 26, slot := 0, constantValue := 0 }]
  methods := #[k10m0, k10m1, k10m2, k10m3, k10m4, k10m5, k10m6, k10m7, k10m8, k10m9, k10m10, k10m11]
  instanceTypes := #[(.array .byte), .byte, .boolean, .int]
  staticTypes := #[(.array .byte)]
  resolved := Array.replicate 609 none
  statics := none }

def pool11 : Array CpInfo := pool [(1, .methodref 2 3), (0, .class_ 4), (0, .nameAndType 5 6), (0, u "java/lang/AbstractStringBuilder"), (0, u "<init>"), (0, u "(I)V"), (11, .class_ 20), (1, u "java/lang/String"), (3, .class_ 26), (1, u "java/lang/StringBuilder"), (0, u "append"), (0, u "(Ljava/lang/String;)Ljava/lang/StringBuilder;"), (0, .methodref 2 30), (0, .nameAndType 27 31), (0, u "(Ljava/lang/String;)Ljava/lang/AbstractStringBuilder;"), (18, .methodref 2 51), (0, .nameAndType 27 52), (0, u "(C)Ljava/lang/AbstractStringBuilder;"), (84, .methodref 18 138), (0, .nameAndType 5 139), (0, u "(Ljava/lang/StringBuilder;)V"), (5, u "()V"), (10, u "()I"), (129, u "(C)Ljava/lang/StringBuilder;"), (56, .methodref 2 344), (0, .nameAndType 345 156), (0, u "length"), (3, .class_ 350), (0, u "java/lang/Appendable"), (0, .class_ 352), (0, u "java/io/Serializable"), (0, .class_ 354), (0, u "java/lang/Comparable"), (0, .class_ 356), (0, u "java/lang/CharSequence"), (0, u "serialVersionUID"), (0, u "J"), (40, u "toString"), (0, u "()Ljava/lang/String;")] 21

def k11m0 : Method := { name := "<init>", desc := "()V", sig := { parameters := [], returnType := none }, accessFlags := 1, code := none }
def k11c1 : Code := { maxStack := 2, maxLocals := 2, code := jdk_67_method_2_code, exceptionTable := #[], attributes := #[] }
def k11m1 : Method := { name := "<init>", desc := "(I)V", sig := { parameters := [.int], returnType := none }, accessFlags := 1, code := some k11c1 }
def k11c2 : Code := { maxStack := 2, maxLocals := 2, code := jdk_67_method_7_code, exceptionTable := #[], attributes := #[] }
def k11m2 : Method := { name := "append", desc := "(Ljava/lang/String;)Ljava/lang/StringBuilder;", sig := { parameters := [(.object "java/lang/String")], returnType := some (.object "java/lang/StringBuilder") }, accessFlags := 1, code := some k11c2 }
def k11c3 : Code := { maxStack := 2, maxLocals := 2, code := jdk_67_method_14_code, exceptionTable := #[], attributes := #[] }
def k11m3 : Method := { name := "append", desc := "(C)Ljava/lang/StringBuilder;", sig := { parameters := [.char], returnType := some (.object "java/lang/StringBuilder") }, accessFlags := 1, code := some k11c3 }
def k11c4 : Code := { maxStack := 3, maxLocals := 1, code := jdk_67_method_42_code, exceptionTable := #[], attributes := #[] }
def k11m4 : Method := { name := "toString", desc := "()Ljava/lang/String;", sig := { parameters := [], returnType := some (.object "java/lang/String") }, accessFlags := 1, code := some k11c4 }
def k11c5 : Code := { maxStack := 1, maxLocals := 1, code := jdk_67_method_93_code, exceptionTable := #[], attributes := #[] }
def k11m5 : Method := { name := "length", desc := "()I", sig := { parameters := [], returnType := some .int }, accessFlags := 4161, code := some k11c5 }
/-- java/lang/StringBuilder -/
def k11 : Class := { plain "java/lang/StringBuilder" (some 10) with
  accessFlags := 49
  interfaces := #[9, 2, 3, 4]
  cf := some (fileOf pool11 24 #[] #[{ accessFlags := 1, nameIndex := 5, descriptorIndex := 145, attributes := #[] }, { accessFlags := 1, nameIndex := 5, descriptorIndex := 6, attributes := #[] }, { accessFlags := 1, nameIndex := 27, descriptorIndex := 28, attributes := #[] }, { accessFlags := 1, nameIndex := 27, descriptorIndex := 286, attributes := #[] }, { accessFlags := 1, nameIndex := 399, descriptorIndex := 400, attributes := #[] }, { accessFlags := 4161, nameIndex := 345, descriptorIndex := 156, attributes := #[] }] 49 2 #[349, 351, 353, 355] #[{ accessFlags := 24, nameIndex := 357, descriptorIndex := 358, attributes := #[] }])
  fields := #[{ name := "serialVersionUID", type := .long, accessFlags := 24, slot := 0, constantValue := 0 }]
  methods := #[k11m0, k11m1, k11m2, k11m3, k11m4, k11m5]
  instanceTypes := #[(.array .byte), .byte, .boolean, .int]
  staticTypes := #[.long]
  resolved := Array.replicate 422 none
  statics := none }

def pool12 : Array CpInfo := pool [(2, .class_ 4), (1, u "java/lang/Object"), (0, u "<init>"), (0, u "()V"), (7, .class_ 16), (1, u "java/util/Arrays"), (57, .class_ 76), (1, u "java/util/Arrays$NaturalOrder"), (32, u "()Ljava/lang/Object;"), (3, .class_ 115), (1, u "java/util/Arrays$LegacyMergeSort"), (1, u "Z"), (10, .nameAndType 129 109), (0, u "clone"), (9, u "copyOfRange"), (10, .methodref 151 152), (0, .class_ 153), (0, .nameAndType 154 155), (0, u "java/lang/System"), (0, u "arraycopy"), (0, u "(Ljava/lang/Object;ILjava/lang/Object;II)V"), (146, u "copyOf"), (1, .methodref 305 306), (0, .class_ 307), (0, .nameAndType 308 309), (0, u "java/lang/Math"), (0, u "min"), (0, u "(II)I"), (0, .methodref 311 128), (0, .class_ 312), (0, u "[B"), (26, .methodref 14 340), (0, .nameAndType 341 342), (0, u "copyOfRangeByte"), (0, u "([BII)[B"), (0, .methodref 14 344), (0, .nameAndType 345 346), (0, u "checkLength"), (0, u "(II)V"), (28, .class_ 376), (0, u "java/util/Arrays$ArrayList"), (68, u "$assertionsDisabled"), (269, u "MIN_ARRAY_SORT_GRAN"), (0, u "I"), (2, u "INSERTIONSORT_THRESHOLD"), (149, u "([BI)[B"), (105, .class_ 976), (0, u "java/util/Arrays$ArrayItr")] 52

def k12m0 : Method := { name := "<init>", desc := "()V", sig := { parameters := [], returnType := none }, accessFlags := 2, code := none }
def k12c1 : Code := { maxStack := 6, maxLocals := 3, code := jdk_65_method_121_code, exceptionTable := #[], attributes := #[] }
def k12m1 : Method := { name := "copyOf", desc := "([BI)[B", sig := { parameters := [(.array .byte), .int], returnType := some (.array .byte) }, accessFlags := 9, code := some k12c1 }
def k12c2 : Code := { maxStack := 4, maxLocals := 2, code := jdk_65_method_131_code, exceptionTable := #[], attributes := #[] }
def k12m2 : Method := { name := "checkLength", desc := "(II)V", sig := { parameters := [.int, .int], returnType := none }, accessFlags := 10, code := some k12c2 }
def k12c3 : Code := { maxStack := 3, maxLocals := 3, code := jdk_65_method_132_code, exceptionTable := #[], attributes := #[] }
def k12m3 : Method := { name := "copyOfRange", desc := "([BII)[B", sig := { parameters := [(.array .byte), .int, .int], returnType := some (.array .byte) }, accessFlags := 9, code := some k12c3 }
def k12c4 : Code := { maxStack := 6, maxLocals := 5, code := jdk_65_method_133_code, exceptionTable := #[], attributes := #[] }
def k12m4 : Method := { name := "copyOfRangeByte", desc := "([BII)[B", sig := { parameters := [(.array .byte), .int, .int], returnType := some (.array .byte) }, accessFlags := 10, code := some k12c4 }
/-- java/util/Arrays -/
def k12 : Class := { plain "java/util/Arrays" (some 0) with
  accessFlags := 49
  interfaces := #[]
  cf := some (fileOf pool12 14 #[.nestMembers #[975, 375, 113, 74]] #[{ accessFlags := 2, nameIndex := 5, descriptorIndex := 6, attributes := #[] }, { accessFlags := 9, nameIndex := 302, descriptorIndex := 869, attributes := #[] }, { accessFlags := 10, nameIndex := 345, descriptorIndex := 346, attributes := #[] }, { accessFlags := 9, nameIndex := 139, descriptorIndex := 342, attributes := #[] }, { accessFlags := 10, nameIndex := 341, descriptorIndex := 342, attributes := #[] }] 49 2 #[] #[{ accessFlags := 26, nameIndex := 715, descriptorIndex := 716, attributes := #[] }, { accessFlags := 26, nameIndex := 719, descriptorIndex := 716, attributes := #[] }, { accessFlags := 4120, nameIndex := 445, descriptorIndex := 117, attributes := #[] }])
  fields := #[{ name := "MIN_ARRAY_SORT_GRAN", type := .int, accessFlags := 26, slot := 0, constantValue := 0 }, { name := "INSERTIONSORT_THRESHOLD", type := .int, accessFlags := 26, slot := 1, constantValue := 0 }, { name := "$assertionsDisabled", type := .boolean, accessFlags := 4120, slot := 2, constantValue := 0 }]
  methods := #[k12m0, k12m1, k12m2, k12m3, k12m4]
  instanceTypes := #[]
  staticTypes := #[.int, .int, .boolean]
  resolved := Array.replicate 1029 none
  statics := none }

def pool13 : Array CpInfo := pool [(1, .class_ 2), (0, u "java/lang/Cloneable"), (0, .class_ 4), (0, u "java/lang/Object")] 2

/-- java/lang/Cloneable -/
def k13 : Class := { plain "java/lang/Cloneable" (some 0) with
  accessFlags := 1537
  interfaces := #[]
  cf := some (fileOf pool13 1 #[] #[] 1537 3 #[] #[])
  fields := #[]
  methods := #[]
  instanceTypes := #[]
  staticTypes := #[]
  resolved := Array.replicate 7 none
  statics := none }

def pool14 : Array CpInfo := pool [(3, .class_ 4), (0, u "java/lang/String"), (1, .class_ 8), (1, u "java/lang/Object"), (0, u "<init>"), (0, u "()V"), (0, .methodref 12 13), (0, .class_ 14), (0, .nameAndType 15 16), (0, u "java/lang/StringUTF16"), (0, u "newBytesLength"), (0, u "(I)I"), (3, .integer 1073741823), (23, .fieldref 12 45), (0, .nameAndType 46 47), (0, u "$assertionsDisabled"), (0, u "Z"), (0, .methodref 12 49), (0, .nameAndType 50 51), (0, u "length"), (0, u "([B)I"), (7, .fieldref 12 60), (0, .nameAndType 61 62), (0, u "HI_BYTE_SHIFT"), (0, u "I"), (0, .fieldref 12 64), (0, .nameAndType 65 62), (0, u "LO_BYTE_SHIFT"), (1, .methodref 12 68), (0, .nameAndType 69 70), (0, u "checkIndex"), (0, u "(I[B)V"), (0, .methodref 12 72), (0, .nameAndType 73 74), (0, u "getChar"), (0, u "([BI)C"), (24, u "(II[B)V"), (7, .methodref 12 108), (0, .nameAndType 109 110), (0, u "newBytesFor"), (0, u "(I)[B"), (0, .methodref 12 112), (0, .nameAndType 113 114), (0, u "putChar"), (0, u "([BII)V"), (0, .methodref 12 116), (0, .nameAndType 117 118), (0, u "compress"), (0, u "([CI[BII)I"), (0, .methodref 12 120), (0, .nameAndType 121 122), (0, u "toBytes"), (0, u "([CII)[B"), (17, u "inflate"), (0, u "([BI[BII)V"), (31, .methodref 12 174), (0, .nameAndType 175 99), (0, u "checkBoundsOffCount"), (85, u "coderFromArrayLen"), (0, u "([BI)B"), (18, u "(III)I"), (87, .class_ 371), (1, u "java/lang/StringUTF16$LinesSpliterator"), (20, u "charAt"), (21, .methodref 3 415), (0, .nameAndType 69 416), (0, u "(II)V"), (2, .methodref 3 420), (0, .nameAndType 175 281), (9, u "MAX_LENGTH"), (155, u "putCharSB"), (40, .class_ 628), (0, u "java/lang/StringUTF16$CodePointsSpliterator"), (0, .class_ 630), (0, u "java/lang/StringUTF16$CharsSpliterator")] 4

def k14m0 : Method := { name := "<init>", desc := "()V", sig := { parameters := [], returnType := none }, accessFlags := 0, code := none }
def k14c1 : Code := { maxStack := 1, maxLocals := 1, code := jdk_52_method_2_code, exceptionTable := #[], attributes := #[] }
def k14m1 : Method := { name := "newBytesFor", desc := "(I)[B", sig := { parameters := [.int], returnType := some (.array .byte) }, accessFlags := 9, code := some k14c1 }
def k14c2 : Code := { maxStack := 4, maxLocals := 1, code := jdk_52_method_3_code, exceptionTable := #[], attributes := #[] }
def k14m2 : Method := { name := "newBytesLength", desc := "(I)I", sig := { parameters := [.int], returnType := some .int }, accessFlags := 9, code := some k14c2 }
def k14c3 : Code := { maxStack := 4, maxLocals := 3, code := jdk_52_method_4_code, exceptionTable := #[], attributes := #[] }
def k14m3 : Method := { name := "putChar", desc := "([BII)V", sig := { parameters := [(.array .byte), .int, .int], returnType := none }, accessFlags := 8, code := some k14c3 }
def k14c4 : Code := { maxStack := 3, maxLocals := 2, code := jdk_52_method_5_code, exceptionTable := #[], attributes := #[] }
def k14m4 : Method := { name := "getChar", desc := "([BI)C", sig := { parameters := [(.array .byte), .int], returnType := some .char }, accessFlags := 8, code := some k14c4 }
def k14c5 : Code := { maxStack := 2, maxLocals := 1, code := jdk_52_method_6_code, exceptionTable := #[], attributes := #[] }
def k14m5 : Method := { name := "length", desc := "([B)I", sig := { parameters := [(.array .byte)], returnType := some .int }, accessFlags := 9, code := some k14c5 }
def k14c6 : Code := { maxStack := 4, maxLocals := 5, code := jdk_52_method_14_code, exceptionTable := #[], attributes := #[] }
def k14m6 : Method := { name := "toBytes", desc := "([CII)[B", sig := { parameters := [(.array .char), .int, .int], returnType := some (.array .byte) }, accessFlags := 9, code := some k14c6 }
def k14c7 : Code := { maxStack := 2, maxLocals := 2, code := jdk_52_method_15_code, exceptionTable := #[], attributes := #[] }
def k14m7 : Method := { name := "coderFromArrayLen", desc := "([BI)B", sig := { parameters := [(.array .byte), .int], returnType := some .byte }, accessFlags := 8, code := some k14c7 }
def k14c8 : Code := { maxStack := 5, maxLocals := 6, code := jdk_52_method_16_code, exceptionTable := #[], attributes := #[] }
def k14m8 : Method := { name := "compress", desc := "([CII)[B", sig := { parameters := [(.array .char), .int, .int], returnType := some (.array .byte) }, accessFlags := 9, code := some k14c8 }
def k14c9 : Code := { maxStack := 3, maxLocals := 7, code := jdk_52_method_21_code, exceptionTable := #[], attributes := #[] }
def k14m9 : Method := { name := "compress", desc := "([CI[BII)I", sig := { parameters := [(.array .char), .int, (.array .byte), .int, .int], returnType := some .int }, accessFlags := 9, code := some k14c9 }
def k14c10 : Code := { maxStack := 3, maxLocals := 3, code := jdk_52_method_71_code, exceptionTable := #[], attributes := #[] }
def k14m10 : Method := { name := "putCharSB", desc := "([BII)V", sig := { parameters := [(.array .byte), .int, .int], returnType := none }, accessFlags := 9, code := some k14c10 }
def k14c11 : Code := { maxStack := 2, maxLocals := 2, code := jdk_52_method_83_code, exceptionTable := #[], attributes := #[] }
def k14m11 : Method := { name := "charAt", desc := "([BI)C", sig := { parameters := [(.array .byte), .int], returnType := some .char }, accessFlags := 9, code := some k14c11 }
def k14c12 : Code := { maxStack := 4, maxLocals := 6, code := jdk_52_method_86_code, exceptionTable := #[], attributes := #[] }
def k14m12 : Method := { name := "inflate", desc := "([BI[BII)V", sig := { parameters := [(.array .byte), .int, (.array .byte), .int, .int], returnType := none }, accessFlags := 9, code := some k14c12 }
def k14c13 : Code := { maxStack := 2, maxLocals := 2, code := jdk_52_method_91_code, exceptionTable := #[], attributes := #[] }
def k14m13 : Method := { name := "checkIndex", desc := "(I[B)V", sig := { parameters := [.int, (.array .byte)], returnType := none }, accessFlags := 9, code := some k14c13 }
def k14c14 : Code := { maxStack := 3, maxLocals := 3, code := jdk_52_method_94_code, exceptionTable := #[], attributes := #[] }
def k14m14 : Method := { name := "checkBoundsOffCount", desc := "(II[B)V", sig := { parameters := [.int, .int, (.array .byte)], returnType := none }, accessFlags := 9, code := some k14c14 }
/-- java/lang/StringUTF16 -/
def k14 : Class := { plain "java/lang/StringUTF16" (some 0) with
  accessFlags := 48
  interfaces := #[]
  cf := some (fileOf pool14 12 #[.nestMembers #[627, 629, 369]] #[{ accessFlags := 0, nameIndex := 9, descriptorIndex := 10, attributes := #[] }, { accessFlags := 9, nameIndex := 109, descriptorIndex := 110, attributes := #[] }, { accessFlags := 9, nameIndex := 15, descriptorIndex := 16, attributes := #[] }, { accessFlags := 8, nameIndex := 113, descriptorIndex := 114, attributes := #[] }, { accessFlags := 8, nameIndex := 73, descriptorIndex := 74, attributes := #[] }, { accessFlags := 9, nameIndex := 50, descriptorIndex := 51, attributes := #[] }, { accessFlags := 9, nameIndex := 121, descriptorIndex := 122, attributes := #[] }, { accessFlags := 8, nameIndex := 261, descriptorIndex := 262, attributes := #[] }, { accessFlags := 9, nameIndex := 117, descriptorIndex := 122, attributes := #[] }, { accessFlags := 9, nameIndex := 117, descriptorIndex := 118, attributes := #[] }, { accessFlags := 9, nameIndex := 586, descriptorIndex := 114, attributes := #[] }, { accessFlags := 9, nameIndex := 392, descriptorIndex := 74, attributes := #[] }, { accessFlags := 9, nameIndex := 140, descriptorIndex := 141, attributes := #[] }, { accessFlags := 9, nameIndex := 69, descriptorIndex := 70, attributes := #[] }, { accessFlags := 9, nameIndex := 175, descriptorIndex := 99, attributes := #[] }] 48 6 #[] #[{ accessFlags := 26, nameIndex := 61, descriptorIndex := 62, attributes := #[] }, { accessFlags := 26, nameIndex := 65, descriptorIndex := 62, attributes := #[] }, { accessFlags := 24, nameIndex := 430, descriptorIndex := 62, attributes := #[] }, { accessFlags := 4120, nameIndex := 46, descriptorIndex := 47, attributes := #[] }])
  fields := #[{ name := "HI_BYTE_SHIFT", type := .int, accessFlags := 26, slot := 0, constantValue := 0 }, { name := "LO_BYTE_SHIFT", type := .int, accessFlags := 26, slot := 1, constantValue := 0 }, { name := "MAX_LENGTH", type := .int, accessFlags := 24, slot := 2, constantValue := 0 }, { name := "$assertionsDisabled", type := .boolean, accessFlags := 4120, slot := 3, constantValue := 0 }]
  methods := #[k14m0, k14m1, k14m2, k14m3, k14m4, k14m5, k14m6, k14m7, k14m8, k14m9, k14m10, k14m11, k14m12, k14m13, k14m14]
  instanceTypes := #[]
  staticTypes := #[.int, .int, .int, .boolean]
  resolved := Array.replicate 635 none
  statics := some 1 }

def pool15 : Array CpInfo := pool [(1, .class_ 2), (0, u "java/lang/String"), (1, .class_ 6), (1, u "java/lang/Object"), (0, u "<init>"), (0, u "()V"), (0, .methodref 1 10), (0, .nameAndType 11 12), (0, u "checkIndex"), (0, u "(II)V"), (1, .class_ 16), (1, u "java/lang/StringLatin1"), (0, u "inflate"), (2, .class_ 22), (1, u "java/lang/StringUTF16"), (3, .nameAndType 17 27), (0, u "([BI[BII)V"), (25, u "([BI)C"), (36, u "canEncode"), (14, u "(C)Z"), (15, u "$assertionsDisabled"), (0, u "Z"), (98, .class_ 223), (1, u "java/lang/StringLatin1$LinesSpliterator"), (16, .methodref 20 26), (11, u "charAt"), (137, .class_ 391), (0, u "java/lang/StringLatin1$CharsSpliterator")] 3

def k15m0 : Method := { name := "<init>", desc := "()V", sig := { parameters := [], returnType := none }, accessFlags := 0, code := none }
def k15c1 : Code := { maxStack := 2, maxLocals := 2, code := jdk_43_method_2_code, exceptionTable := #[], attributes := #[] }
def k15m1 : Method := { name := "charAt", desc := "([BI)C", sig := { parameters := [(.array .byte), .int], returnType := some .char }, accessFlags := 9, code := some k15c1 }
def k15c2 : Code := { maxStack := 2, maxLocals := 1, code := jdk_43_method_3_code, exceptionTable := #[], attributes := #[] }
def k15m2 : Method := { name := "canEncode", desc := "(C)Z", sig := { parameters := [.char], returnType := some .boolean }, accessFlags := 9, code := some k15c2 }
def k15c3 : Code := { maxStack := 5, maxLocals := 5, code := jdk_43_method_50_code, exceptionTable := #[], attributes := #[] }
def k15m3 : Method := { name := "inflate", desc := "([BI[BII)V", sig := { parameters := [(.array .byte), .int, (.array .byte), .int, .int], returnType := none }, accessFlags := 9, code := some k15c3 }
/-- java/lang/StringLatin1 -/
def k15 : Class := { plain "java/lang/StringLatin1" (some 0) with
  accessFlags := 48
  interfaces := #[]
  cf := some (fileOf pool15 14 #[.nestMembers #[390, 221]] #[{ accessFlags := 0, nameIndex := 7, descriptorIndex := 8, attributes := #[] }, { accessFlags := 9, nameIndex := 252, descriptorIndex := 53, attributes := #[] }, { accessFlags := 9, nameIndex := 90, descriptorIndex := 105, attributes := #[] }, { accessFlags := 9, nameIndex := 17, descriptorIndex := 27, attributes := #[] }] 48 4 #[] #[{ accessFlags := 4120, nameIndex := 121, descriptorIndex := 122, attributes := #[] }])
  fields := #[{ name := "$assertionsDisabled", type := .boolean, accessFlags := 4120, slot := 0, constantValue := 0 }]
  methods := #[k15m0, k15m1, k15m2, k15m3]
  instanceTypes := #[]
  staticTypes := #[.boolean]
  resolved := Array.replicate 395 none
  statics := none }

def pool16 : Array CpInfo := pool [(2, .class_ 4), (1, u "java/lang/Object"), (0, u "<init>"), (0, u "()V"), (17, .class_ 26), (1, u "jdk/internal/util/Preconditions"), (6, u "checkIndex"), (15, u "checkFromIndexSize"), (5, .class_ 56), (0, u "jdk/internal/util/Preconditions$4"), (57, .class_ 115), (0, u "jdk/internal/util/Preconditions$1"), (7, u "SIOOBE_FORMATTER"), (0, u "Ljava/util/function/BiFunction;"), (0, .class_ 126), (0, u "jdk/internal/util/Preconditions$2"), (3, u "AIOOBE_FORMATTER"), (0, .class_ 132), (0, u "jdk/internal/util/Preconditions$3"), (3, u "IOOBE_FORMATTER"), (41, u "(IILjava/util/function/BiFunction;)I"), (4, u "(IIILjava/util/function/BiFunction;)I")] 10

def k16m0 : Method := { name := "<init>", desc := "()V", sig := { parameters := [], returnType := none }, accessFlags := 1, code := none }
def k16c1 : Code := { maxStack := 3, maxLocals := 3, code := jdk_41_method_11_code, exceptionTable := #[], attributes := #[] }
def k16m1 : Method := { name := "checkIndex", desc := "(IILjava/util/function/BiFunction;)I", sig := { parameters := [.int, .int, (.object "java/util/function/BiFunction")], returnType := some .int }, accessFlags := 9, code := some k16c1 }
def k16c2 : Code := { maxStack := 4, maxLocals := 4, code := jdk_41_method_13_code, exceptionTable := #[], attributes := #[] }
def k16m2 : Method := { name := "checkFromIndexSize", desc := "(IIILjava/util/function/BiFunction;)I", sig := { parameters := [.int, .int, .int, (.object "java/util/function/BiFunction")], returnType := some .int }, accessFlags := 9, code := some k16c2 }
/-- jdk/internal/util/Preconditions -/
def k16 : Class := { plain "jdk/internal/util/Preconditions" (some 0) with
  accessFlags := 33
  interfaces := #[]
  cf := some (fileOf pool16 24 #[.nestMembers #[55, 131, 125, 114]] #[{ accessFlags := 1, nameIndex := 5, descriptorIndex := 6, attributes := #[] }, { accessFlags := 9, nameIndex := 33, descriptorIndex := 178, attributes := #[] }, { accessFlags := 9, nameIndex := 49, descriptorIndex := 183, attributes := #[] }] 33 2 #[] #[{ accessFlags := 25, nameIndex := 123, descriptorIndex := 124, attributes := #[] }, { accessFlags := 25, nameIndex := 130, descriptorIndex := 124, attributes := #[] }, { accessFlags := 25, nameIndex := 136, descriptorIndex := 124, attributes := #[] }])
  fields := #[{ name := "SIOOBE_FORMATTER", type := (.object "java/util/function/BiFunction"), accessFlags := 25, slot := 0, constantValue := 0 }, { name := "AIOOBE_FORMATTER", type := (.object "java/util/function/BiFunction"), accessFlags := 25, slot := 1, constantValue := 0 }, { name := "IOOBE_FORMATTER", type := (.object "java/util/function/BiFunction"), accessFlags := 25, slot := 2, constantValue := 0 }]
  methods := #[k16m0, k16m1, k16m2]
  instanceTypes := #[]
  staticTypes := #[(.object "java/util/function/BiFunction"), (.object "java/util/function/BiFunction"), (.object "java/util/function/BiFunction")]
  resolved := Array.replicate 194 none
  statics := some 2 }

def pool17 : Array CpInfo := pool [(2, .class_ 4), (1, u "java/lang/Object"), (0, u "<init>"), (0, u "()V"), (1, .class_ 10), (1, u "java/lang/System"), (0, u "allowSecurityManager"), (0, u "I"), (16, u "cons"), (0, u "Ljava/io/Console;"), (77, .class_ 110), (1, u "java/lang/System$CallersHolder"), (43, u "initialErrStream"), (0, u "Ljava/io/PrintStream;"), (19, u "security"), (0, u "Ljava/lang/SecurityManager;"), (31, .class_ 209), (0, u "java/lang/System$1"), (7, u "props"), (0, u "Ljava/util/Properties;"), (2, u "lineSeparator"), (0, u "Ljava/lang/String;"), (96, .class_ 321), (1, u "java/lang/System$LoggerFinder"), (5, .class_ 328), (0, u "java/lang/System$Logger"), (67, u "err"), (2, u "out"), (91, u "notSupportedJnuEncoding"), (15, u "in"), (17, u "initialIn"), (0, u "Ljava/io/InputStream;"), (35, u "bootLayer"), (0, u "Ljava/lang/ModuleLayer;"), (99, .class_ 664), (0, u "java/lang/System$2"), (9, u "NEVER"), (2, u "MAYBE"), (49, u "arraycopy"), (0, u "(Ljava/lang/Object;ILjava/lang/Object;II)V"), (72, .class_ 802), (0, u "java/lang/System$Logger$Level")] 31

def k17m0 : Method := { name := "<init>", desc := "()V", sig := { parameters := [], returnType := none }, accessFlags := 2, code := none }
def k17m1 : Method := { name := "arraycopy", desc := "(Ljava/lang/Object;ILjava/lang/Object;II)V", sig := { parameters := [(.object "java/lang/Object"), .int, (.object "java/lang/Object"), .int, .int], returnType := none }, accessFlags := 265, code := none }
/-- java/lang/System -/
def k17 : Class := { plain "java/lang/System" (some 0) with
  accessFlags := 49
  interfaces := #[]
  cf := some (fileOf pool17 8 #[.nestMembers #[319, 327, 801, 108, 663, 208]] #[{ accessFlags := 2, nameIndex := 5, descriptorIndex := 6, attributes := #[] }, { accessFlags := 265, nameIndex := 727, descriptorIndex := 728, attributes := #[] }] 49 2 #[] #[{ accessFlags := 25, nameIndex := 507, descriptorIndex := 526, attributes := #[] }, { accessFlags := 25, nameIndex := 399, descriptorIndex := 155, attributes := #[] }, { accessFlags := 25, nameIndex := 396, descriptorIndex := 155, attributes := #[] }, { accessFlags := 10, nameIndex := 525, descriptorIndex := 526, attributes := #[] }, { accessFlags := 26, nameIndex := 674, descriptorIndex := 12, attributes := #[] }, { accessFlags := 26, nameIndex := 677, descriptorIndex := 12, attributes := #[] }, { accessFlags := 10, nameIndex := 11, descriptorIndex := 12, attributes := #[] }, { accessFlags := 74, nameIndex := 175, descriptorIndex := 176, attributes := #[] }, { accessFlags := 10, nameIndex := 491, descriptorIndex := 222, attributes := #[] }, { accessFlags := 74, nameIndex := 29, descriptorIndex := 30, attributes := #[] }, { accessFlags := 74, nameIndex := 154, descriptorIndex := 155, attributes := #[] }, { accessFlags := 10, nameIndex := 217, descriptorIndex := 218, attributes := #[] }, { accessFlags := 10, nameIndex := 221, descriptorIndex := 222, attributes := #[] }, { accessFlags := 8, nameIndex := 562, descriptorIndex := 563, attributes := #[] }])
  fields := #[{ name := "in", type := (.object "java/io/InputStream"), accessFlags := 25, slot := 0, constantValue := 0 }, { name := "out", type := (.object "java/io/PrintStream"), accessFlags := 25, slot := 1, constantValue := 0 }, { name := "err", type := (.object "java/io/PrintStream"), accessFlags := 25, slot := 2, constantValue := 0 }, { name := "initialIn", type := (.object "java/io/InputStream"), accessFlags := 10, slot := 3, constantValue := 0 }, { name := "NEVER", type := .int, accessFlags := 26, slot := 4, constantValue := 0 }, { name := "MAYBE", type := .int, accessFlags := 26, slot := 5, constantValue := 0 }, { name := "allowSecurityManager", type := .int, accessFlags := 10, slot := 6, constantValue := 0 }, { name := "security", type := (.object "java/lang/SecurityManager"), accessFlags := 74, slot := 7, constantValue := 0 }, { name := "notSupportedJnuEncoding", type := (.object "java/lang/String"), accessFlags := 10, slot := 8, constantValue := 0 }, { name := "cons", type := (.object "java/io/Console"), accessFlags := 74, slot := 9, constantValue := 0 }, { name := "initialErrStream", type := (.object "java/io/PrintStream"), accessFlags := 74, slot := 10, constantValue := 0 }, { name := "props", type := (.object "java/util/Properties"), accessFlags := 10, slot := 11, constantValue := 0 }, { name := "lineSeparator", type := (.object "java/lang/String"), accessFlags := 10, slot := 12, constantValue := 0 }, { name := "bootLayer", type := (.object "java/lang/ModuleLayer"), accessFlags := 8, slot := 13, constantValue := 0 }]
  methods := #[k17m0, k17m1]
  instanceTypes := #[]
  staticTypes := #[(.object "java/io/InputStream"), (.object "java/io/PrintStream"), (.object "java/io/PrintStream"), (.object "java/io/InputStream"), .int, .int, .int, (.object "java/lang/SecurityManager"), (.object "java/lang/String"), (.object "java/io/Console"), (.object "java/io/PrintStream"), (.object "java/util/Properties"), (.object "java/lang/String"), (.object "java/lang/ModuleLayer")]
  resolved := Array.replicate 834 none
  statics := none }

def pool18 : Array CpInfo := pool [(9, u "<init>"), (6, .class_ 18), (1, u "java/lang/Object"), (0, u "()V"), (1, .class_ 23), (1, u "jdk/internal/util/ArraysSupport"), (0, u "LOG2_ARRAY_LONG_INDEX_SCALE"), (0, u "I"), (2, u "U"), (0, u "Ljdk/internal/misc/Unsafe;"), (8, u "BIG_ENDIAN"), (0, u "Z"), (8, u "LOG2_BYTE_BIT_SIZE"), (4, u "LOG2_ARRAY_INT_INDEX_SCALE"), (54, u "JLA"), (0, u "Ljdk/internal/access/JavaLangAccess;"), (11, u "LOG2_ARRAY_BOOLEAN_INDEX_SCALE"), (9, u "LOG2_ARRAY_BYTE_INDEX_SCALE"), (5, u "LOG2_ARRAY_CHAR_INDEX_SCALE"), (5, u "LOG2_ARRAY_SHORT_INDEX_SCALE"), (18, u "LOG2_ARRAY_FLOAT_INDEX_SCALE"), (24, u "LOG2_ARRAY_DOUBLE_INDEX_SCALE"), (6, .methodref 195 196), (0, .class_ 197), (0, .nameAndType 198 199), (0, u "java/lang/Math"), (0, u "max"), (0, u "(II)I"), (0, .integer 2147483639), (76, u "T_BOOLEAN"), (2, u "T_CHAR"), (1, u "T_FLOAT"), (1, u "T_DOUBLE"), (1, u "T_BYTE"), (1, u "T_SHORT"), (1, u "T_INT"), (1, u "T_LONG"), (1, u "SOFT_MAX_ARRAY_LENGTH"), (56, u "newLength"), (0, u "(III)I")] 25

def k18m0 : Method := { name := "<init>", desc := "()V", sig := { parameters := [], returnType := none }, accessFlags := 2, code := none }
def k18c1 : Code := { maxStack := 3, maxLocals := 4, code := jdk_48_method_27_code, exceptionTable := #[], attributes := #[] }
def k18m1 : Method := { name := "newLength", desc := "(III)I", sig := { parameters := [.int, .int, .int], returnType := some .int }, accessFlags := 9, code := some k18c1 }
/-- jdk/internal/util/ArraysSupport -/
def k18 : Class := { plain "jdk/internal/util/ArraysSupport" (some 0) with
  accessFlags := 33
  interfaces := #[]
  cf := some (fileOf pool18 21 #[] #[{ accessFlags := 2, nameIndex := 9, descriptorIndex := 19, attributes := #[] }, { accessFlags := 9, nameIndex := 351, descriptorIndex := 352, attributes := #[] }] 33 16 #[] #[{ accessFlags := 24, nameIndex := 28, descriptorIndex := 29, attributes := #[] }, { accessFlags := 26, nameIndex := 38, descriptorIndex := 39, attributes := #[] }, { accessFlags := 25, nameIndex := 121, descriptorIndex := 25, attributes := #[] }, { accessFlags := 25, nameIndex := 131, descriptorIndex := 25, attributes := #[] }, { accessFlags := 25, nameIndex := 137, descriptorIndex := 25, attributes := #[] }, { accessFlags := 25, nameIndex := 143, descriptorIndex := 25, attributes := #[] }, { accessFlags := 25, nameIndex := 53, descriptorIndex := 25, attributes := #[] }, { accessFlags := 25, nameIndex := 24, descriptorIndex := 25, attributes := #[] }, { accessFlags := 25, nameIndex := 162, descriptorIndex := 25, attributes := #[] }, { accessFlags := 25, nameIndex := 187, descriptorIndex := 25, attributes := #[] }, { accessFlags := 26, nameIndex := 48, descriptorIndex := 25, attributes := #[] }, { accessFlags := 25, nameIndex := 277, descriptorIndex := 25, attributes := #[] }, { accessFlags := 25, nameIndex := 280, descriptorIndex := 25, attributes := #[] }, { accessFlags := 25, nameIndex := 282, descriptorIndex := 25, attributes := #[] }, { accessFlags := 25, nameIndex := 284, descriptorIndex := 25, attributes := #[] }, { accessFlags := 25, nameIndex := 286, descriptorIndex := 25, attributes := #[] }, { accessFlags := 25, nameIndex := 288, descriptorIndex := 25, attributes := #[] }, { accessFlags := 25, nameIndex := 290, descriptorIndex := 25, attributes := #[] }, { accessFlags := 25, nameIndex := 292, descriptorIndex := 25, attributes := #[] }, { accessFlags := 26, nameIndex := 108, descriptorIndex := 109, attributes := #[] }, { accessFlags := 25, nameIndex := 294, descriptorIndex := 25, attributes := #[] }])
  fields := #[{ name := "U", type := (.object "jdk/internal/misc/Unsafe"), accessFlags := 24, slot := 0, constantValue := 0 }, { name := "BIG_ENDIAN", type := .boolean, accessFlags := 26, slot := 1, constantValue := 0 }, { name := "LOG2_ARRAY_BOOLEAN_INDEX_SCALE", type := .int, accessFlags := 25, slot := 2, constantValue := 0 }, { name := "LOG2_ARRAY_BYTE_INDEX_SCALE", type := .int, accessFlags := 25, slot := 3, constantValue := 0 }, { name := "LOG2_ARRAY_CHAR_INDEX_SCALE", type := .int, accessFlags := 25, slot := 4, constantValue := 0 }, { name := "LOG2_ARRAY_SHORT_INDEX_SCALE", type := .int, accessFlags := 25, slot := 5, constantValue := 0 }, { name := "LOG2_ARRAY_INT_INDEX_SCALE", type := .int, accessFlags := 25, slot := 6, constantValue := 0 }, { name := "LOG2_ARRAY_LONG_INDEX_SCALE", type := .int, accessFlags := 25, slot := 7, constantValue := 0 }, { name := "LOG2_ARRAY_FLOAT_INDEX_SCALE", type := .int, accessFlags := 25, slot := 8, constantValue := 0 }, { name := "LOG2_ARRAY_DOUBLE_INDEX_SCALE", type := .int, accessFlags := 25, slot := 9, constantValue := 0 }, { name := "LOG2_BYTE_BIT_SIZE", type := .int, accessFlags := 26, slot := 10, constantValue := 0 }, { name := "T_BOOLEAN", type := .int, accessFlags := 25, slot := 11, constantValue := 0 }, { name := "T_CHAR", type := .int, accessFlags := 25, slot := 12, constantValue := 0 }, { name := "T_FLOAT", type := .int, accessFlags := 25, slot := 13, constantValue := 0 }, { name := "T_DOUBLE", type := .int, accessFlags := 25, slot := 14, constantValue := 0 }, { name := "T_BYTE", type := .int, accessFlags := 25, slot := 15, constantValue := 0 }, { name := "T_SHORT", type := .int, accessFlags := 25, slot := 16, constantValue := 0 }, { name := "T_INT", type := .int, accessFlags := 25, slot := 17, constantValue := 0 }, { name := "T_LONG", type := .int, accessFlags := 25, slot := 18, constantValue := 0 }, { name := "JLA", type := (.object "jdk/internal/access/JavaLangAccess"), accessFlags := 26, slot := 19, constantValue := 0 }, { name := "SOFT_MAX_ARRAY_LENGTH", type := .int, accessFlags := 25, slot := 20, constantValue := 0 }]
  methods := #[k18m0, k18m1]
  instanceTypes := #[]
  staticTypes := #[(.object "jdk/internal/misc/Unsafe"), .boolean, .int, .int, .int, .int, .int, .int, .int, .int, .int, .int, .int, .int, .int, .int, .int, .int, .int, (.object "jdk/internal/access/JavaLangAccess"), .int]
  resolved := Array.replicate 378 none
  statics := none }

def pool19 : Array CpInfo := pool [(1, .class_ 2), (0, u "java/lang/Math"), (1, .class_ 6), (1, u "java/lang/Object"), (0, u "<init>"), (0, u "()V"), (89, .class_ 100), (1, u "java/lang/Math$RandomNumberGeneratorHolder"), (71, u "negativeZeroFloatBits"), (0, u "J"), (2, u "negativeZeroDoubleBits"), (21, u "max"), (2, u "min"), (43, u "$assertionsDisabled"), (0, u "Z"), (88, u "(II)I"), (2, u "twoToTheDoubleScaleDown"), (0, u "D"), (4, u "twoToTheDoubleScaleUp"), (9, u "E"), (3, u "PI"), (2, u "TAU"), (2, u "DEGREES_TO_RADIANS"), (0, u "RADIANS_TO_DEGREES")] 94

def k19m0 : Method := { name := "<init>", desc := "()V", sig := { parameters := [], returnType := none }, accessFlags := 2, code := none }
def k19c1 : Code := { maxStack := 2, maxLocals := 2, code := jdk_29_method_65_code, exceptionTable := #[], attributes := #[] }
def k19m1 : Method := { name := "max", desc := "(II)I", sig := { parameters := [.int, .int], returnType := some .int }, accessFlags := 9, code := some k19c1 }
def k19c2 : Code := { maxStack := 2, maxLocals := 2, code := jdk_29_method_69_code, exceptionTable := #[], attributes := #[] }
def k19m2 : Method := { name := "min", desc := "(II)I", sig := { parameters := [.int, .int], returnType := some .int }, accessFlags := 9, code := some k19c2 }
/-- java/lang/Math -/
def k19 : Class := { plain "java/lang/Math" (some 0) with
  accessFlags := 49
  interfaces := #[]
  cf := some (fileOf pool19 1 #[.nestMembers #[98]] #[{ accessFlags := 2, nameIndex := 7, descriptorIndex := 8, attributes := #[] }, { accessFlags := 9, nameIndex := 198, descriptorIndex := 335, attributes := #[] }, { accessFlags := 9, nameIndex := 201, descriptorIndex := 335, attributes := #[] }] 49 4 #[] #[{ accessFlags := 25, nameIndex := 354, descriptorIndex := 339, attributes := #[] }, { accessFlags := 25, nameIndex := 358, descriptorIndex := 339, attributes := #[] }, { accessFlags := 25, nameIndex := 361, descriptorIndex := 339, attributes := #[] }, { accessFlags := 26, nameIndex := 364, descriptorIndex := 339, attributes := #[] }, { accessFlags := 26, nameIndex := 365, descriptorIndex := 339, attributes := #[] }, { accessFlags := 26, nameIndex := 172, descriptorIndex := 173, attributes := #[] }, { accessFlags := 26, nameIndex := 176, descriptorIndex := 173, attributes := #[] }, { accessFlags := 8, nameIndex := 344, descriptorIndex := 339, attributes := #[] }, { accessFlags := 8, nameIndex := 338, descriptorIndex := 339, attributes := #[] }, { accessFlags := 4120, nameIndex := 245, descriptorIndex := 246, attributes := #[] }])
  fields := #[{ name := "E", type := .double, accessFlags := 25, slot := 0, constantValue := 0 }, { name := "PI", type := .double, accessFlags := 25, slot := 1, constantValue := 0 }, { name := "TAU", type := .double, accessFlags := 25, slot := 2, constantValue := 0 }, { name := "DEGREES_TO_RADIANS", type := .double, accessFlags := 26, slot := 3, constantValue := 0 }, { name := "RADIANS_TO_DEGREES", type := .double, accessFlags := 26, slot := 4, constantValue := 0 }, { name := "negativeZeroFloatBits", type := .long, accessFlags := 26, slot := 5, constantValue := 0 }, { name := "negativeZeroDoubleBits", type := .long, accessFlags := 26, slot := 6, constantValue := 0 }, { name := "twoToTheDoubleScaleUp", type := .double, accessFlags := 8, slot := 7, constantValue := 0 }, { name := "twoToTheDoubleScaleDown", type := .double, accessFlags := 8, slot := 8, constantValue := 0 }, { name := "$assertionsDisabled", type := .boolean, accessFlags := 4120, slot := 9, constantValue := 0 }]
  methods := #[k19m0, k19m1, k19m2]
  instanceTypes := #[]
  staticTypes := #[.double, .double, .double, .double, .double, .long, .long, .double, .double, .boolean]
  resolved := Array.replicate 460 none
  statics := none }

/-- the primitive byte -/
def k20 : Class := { plain "byte" none with kind := .primitive 'B', accessFlags := 0x411 }
/-- [B -/
def k21 : Class := { plain "[B" (some 0) with kind := .array 20 .byte, interfaces := #[13, 2], accessFlags := 1041 }

/-- the primitive char -/
def k22 : Class := { plain "char" none with kind := .primitive 'C', accessFlags := 0x411 }
/-- [C -/
def k23 : Class := { plain "[C" (some 0) with kind := .array 22 .char, interfaces := #[13, 2], accessFlags := 1041 }

def heap : Heap := #[{ cls := 7, slots := #[.long 0, .int 1, .null, .int 0, .null, .int 0, .int 0], vm := .statics 7 },
  { cls := 14, slots := #[.int 0, .int 8, .int 0, .int 1], vm := .statics 14 },
  { cls := 16, slots := #[.null, .null, .null], vm := .statics 16 }]
def classes : Array Class := #[k0, k1, k2, k3, k4, k5, k6, k7, k8, k9, k10, k11, k12, k13, k14, k15, k16, k17, k18, k19, k20, k21, k22, k23]
def interned : List (Array UInt16 × Addr) := []
def slotsUsed : Nat := 14
def theMethod : MethodId := ⟨1, 1⟩
def args0 : Array Value := #[.int 5, .int 5, .int 5, .int 5, .int 5]
def aboutOver (below : List Frame) : State where
  vm := { classes := classes, interned := interned.toArray }
  heap := heap
  slotsUsed := slotsUsed
  threads := #[{ frames := .invoking theMethod args0 :: below }]
def below0 : List Frame := [.native { method := ⟨0, 0⟩, args := #[] }]
def about1 : State := aboutOver below0
def p0 : Program := .bare "" "" ""
def e0 : Env := launch0.env 0 0 0
theorem w_frames : about1.frames = Frame.invoking theMethod args0 :: below0 := rfl
set_option maxRecDepth 65536 in
theorem w_args : argsFit about1.vm theMethod args0 = true := by decide +kernel
set_option maxRecDepth 65536 in
theorem w_heap : heapFits about1 = true := by decide +kernel
set_option maxRecDepth 65536 in
theorem w_runnable : about1.curStatus? = some .runnable := by decide +kernel
set_option maxRecDepth 65536 in
theorem w_alone : about1.alone = true := by decide +kernel
set_option maxRecDepth 65536 in
theorem w_named : about1.methodNamed? x = some theMethod := by decide +kernel
set_option maxRecDepth 65536 in
theorem w_hears : about1.hears theMethod below0 = true := by decide +kernel
set_option maxRecDepth 65536 in
theorem w_ripe : about1.ripe theMethod args0 below0 = true := by decide +kernel
theorem w_running : about1.status = .running := rfl
set_option maxRecDepth 65536 in
theorem w_room : about1.hasRoom e0.platform room_1 = true :=
  launch0.hasRoom_least _ room_1 (by decide +kernel) (by decide +kernel) (by decide +kernel) (by decide +kernel) (by decide +kernel) (by decide +kernel)
theorem allAtoms_all (ts : List Jvm.Cond) (a : Array Jvm.Value) (st : Jvm.State) : (allAtoms ts).before a st = ts.all (fun c => c.before a st) := by
  induction ts with
  | nil => rfl
  | cons c t ih =>
    show (Jvm.Cond.and c (allAtoms t)).before a st = _
    rw [Jvm.Cond.before_and, ih, List.all_cons]
def words1 : List Jvm.Cond := Jvm.Cond.code x code maxLocals ret :: tables_1
/-- a 'code' word, met by the world's own term for the bytes: nothing is compared byte by byte -/
theorem code_word {y : MethodName} {bytes : ByteArray} {mx : Nat} {rt : Option FieldType} {a : Array Value} {s : State} {m : MethodId} {meth : Method} {c : Code} (h1 : s.methodNamed? y = some m) (h2 : s.vm.method? m = some meth) (h3 : meth.code = some c) (h4 : c.code = bytes)
    (h5 : (c.maxLocals == mx && c.exceptionTable.isEmpty && decide (c.maxStack ≤ mostOperands) && decide (meth.sig.returnType = rt) && !meth.locks && decide (parseMethodDescriptor y.desc = some meth.sig)) = true) : (Jvm.Cond.code y bytes mx rt).before a s = true := by
  simp only [Bool.and_eq_true, beq_iff_eq, Bool.not_eq_true', decide_eq_true_eq] at h5
  obtain ⟨⟨⟨⟨⟨g1, g2⟩, g3⟩, g4⟩, g5⟩, g6⟩ := h5
  simp [Cond.before, Cond.holds, Cond.value, h1, h2, h3, h4, g1, g2, g3, g4, g5, g6]
def isCode : Jvm.Cond → Bool
  | .code _ _ _ _ => true
  | _ => false
theorem all_split {L : List Jvm.Cond} {P : Jvm.Cond → Bool} (h1 : L.all (fun c => isCode c || P c) = true) (h2 : ∀ c ∈ L.filter isCode, P c = true) : L.all P = true := by
  refine List.all_eq_true.mpr fun c hc => ?_
  have h := List.all_eq_true.mp h1 c hc
  rcases Bool.eq_false_or_eq_true (isCode c) with hi | hi
  · exact h2 c (List.mem_filter.mpr ⟨hc, hi⟩)
  · simpa [hi] using h
set_option maxRecDepth 65536 in
theorem w_c0 : (Jvm.Cond.code x code maxLocals ret).before args0 about1 = true := code_word (m := ⟨1, 1⟩) (meth := k1m1) (c := k1c1) (by decide +kernel) rfl rfl rfl (by decide +kernel)
set_option maxRecDepth 65536 in
theorem w_c1 : (Jvm.Cond.code ({ cls := "org/vouchsafe/cli/OutputEscapePinLaw", name := "pick", desc := "(I)C" } : Jvm.MethodName) method_3_code (2 : Nat) (Option.some Jvm.ClassFile.FieldType.char)).before args0 about1 = true := code_word (m := ⟨1, 2⟩) (meth := k1m2) (c := k1c2) (by decide +kernel) rfl rfl rfl (by decide +kernel)
set_option maxRecDepth 65536 in
theorem w_c2 : (Jvm.Cond.code ({ cls := "java/lang/String", name := "<init>", desc := "([C)V" } : Jvm.MethodName) jdk_42_method_3_code (2 : Nat) (Option.none : Option Jvm.ClassFile.FieldType)).before args0 about1 = true := code_word (m := ⟨7, 1⟩) (meth := k7m1) (c := k7c1) (by decide +kernel) rfl rfl rfl (by decide +kernel)
set_option maxRecDepth 65536 in
theorem w_c3 : (Jvm.Cond.code ({ cls := "java/lang/String", name := "<init>", desc := "([CIILjava/lang/Void;)V" } : Jvm.MethodName) jdk_42_method_149_code (6 : Nat) (Option.none : Option Jvm.ClassFile.FieldType)).before args0 about1 = true := code_word (m := ⟨7, 6⟩) (meth := k7m6) (c := k7c6) (by decide +kernel) rfl rfl rfl (by decide +kernel)
set_option maxRecDepth 65536 in
theorem w_c4 : (Jvm.Cond.code ({ cls := "java/lang/Object", name := "<init>", desc := "()V" } : Jvm.MethodName) object_method_1_code (1 : Nat) (Option.none : Option Jvm.ClassFile.FieldType)).before args0 about1 = true := code_word (m := ⟨0, 0⟩) (meth := k0m0) (c := k0c0) (by decide +kernel) rfl rfl rfl (by decide +kernel)
set_option maxRecDepth 65536 in
theorem w_c5 : (Jvm.Cond.code ({ cls := "org/vouchsafe/cli/Output", name := "escape", desc := "(Ljava/lang/String;)Ljava/lang/String;" } : Jvm.MethodName) prog_58_method_5_code (4 : Nat) (Option.some (Jvm.ClassFile.FieldType.object "java/lang/String"))).before args0 about1 = true := code_word (m := ⟨8, 1⟩) (meth := k8m1) (c := k8c1) (by decide +kernel) rfl rfl rfl (by decide +kernel)
set_option maxRecDepth 65536 in
theorem w_c6 : (Jvm.Cond.code ({ cls := "java/lang/String", name := "length", desc := "()I" } : Jvm.MethodName) jdk_42_method_54_code (1 : Nat) (Option.some Jvm.ClassFile.FieldType.int)).before args0 about1 = true := code_word (m := ⟨7, 3⟩) (meth := k7m3) (c := k7c3) (by decide +kernel) rfl rfl rfl (by decide +kernel)
set_option maxRecDepth 65536 in
theorem w_c7 : (Jvm.Cond.code ({ cls := "java/lang/String", name := "coder", desc := "()B" } : Jvm.MethodName) jdk_42_method_152_code (1 : Nat) (Option.some Jvm.ClassFile.FieldType.byte)).before args0 about1 = true := code_word (m := ⟨7, 8⟩) (meth := k7m8) (c := k7c8) (by decide +kernel) rfl rfl rfl (by decide +kernel)
set_option maxRecDepth 65536 in
theorem w_c8 : (Jvm.Cond.code ({ cls := "java/lang/StringBuilder", name := "<init>", desc := "(I)V" } : Jvm.MethodName) jdk_67_method_2_code (2 : Nat) (Option.none : Option Jvm.ClassFile.FieldType)).before args0 about1 = true := code_word (m := ⟨11, 1⟩) (meth := k11m1) (c := k11c1) (by decide +kernel) rfl rfl rfl (by decide +kernel)
set_option maxRecDepth 65536 in
theorem w_c9 : (Jvm.Cond.code ({ cls := "java/lang/AbstractStringBuilder", name := "<init>", desc := "(I)V" } : Jvm.MethodName) jdk_68_method_2_code (2 : Nat) (Option.none : Option Jvm.ClassFile.FieldType)).before args0 about1 = true := code_word (m := ⟨10, 1⟩) (meth := k10m1) (c := k10c1) (by decide +kernel) rfl rfl rfl (by decide +kernel)
set_option maxRecDepth 65536 in
theorem w_c10 : (Jvm.Cond.code ({ cls := "java/lang/StringBuilder", name := "toString", desc := "()Ljava/lang/String;" } : Jvm.MethodName) jdk_67_method_42_code (1 : Nat) (Option.some (Jvm.ClassFile.FieldType.object "java/lang/String"))).before args0 about1 = true := code_word (m := ⟨11, 4⟩) (meth := k11m4) (c := k11c4) (by decide +kernel) rfl rfl rfl (by decide +kernel)
set_option maxRecDepth 65536 in
theorem w_c11 : (Jvm.Cond.code ({ cls := "java/lang/String", name := "<init>", desc := "(Ljava/lang/StringBuilder;)V" } : Jvm.MethodName) jdk_42_method_53_code (2 : Nat) (Option.none : Option Jvm.ClassFile.FieldType)).before args0 about1 = true := code_word (m := ⟨7, 2⟩) (meth := k7m2) (c := k7c2) (by decide +kernel) rfl rfl rfl (by decide +kernel)
set_option maxRecDepth 65536 in
theorem w_c12 : (Jvm.Cond.code ({ cls := "java/lang/String", name := "<init>", desc := "(Ljava/lang/AbstractStringBuilder;Ljava/lang/Void;)V" } : Jvm.MethodName) jdk_42_method_150_code (5 : Nat) (Option.none : Option Jvm.ClassFile.FieldType)).before args0 about1 = true := code_word (m := ⟨7, 7⟩) (meth := k7m7) (c := k7c7) (by decide +kernel) rfl rfl rfl (by decide +kernel)
set_option maxRecDepth 65536 in
theorem w_c13 : (Jvm.Cond.code ({ cls := "java/lang/AbstractStringBuilder", name := "getValue", desc := "()[B" } : Jvm.MethodName) jdk_68_method_64_code (1 : Nat) (Option.some (Jvm.ClassFile.FieldType.array Jvm.ClassFile.FieldType.byte))).before args0 about1 = true := code_word (m := ⟨10, 8⟩) (meth := k10m8) (c := k10c8) (by decide +kernel) rfl rfl rfl (by decide +kernel)
set_option maxRecDepth 65536 in
theorem w_c14 : (Jvm.Cond.code ({ cls := "java/lang/StringBuilder", name := "length", desc := "()I" } : Jvm.MethodName) jdk_67_method_93_code (1 : Nat) (Option.some Jvm.ClassFile.FieldType.int)).before args0 about1 = true := code_word (m := ⟨11, 5⟩) (meth := k11m5) (c := k11c5) (by decide +kernel) rfl rfl rfl (by decide +kernel)
set_option maxRecDepth 65536 in
theorem w_c15 : (Jvm.Cond.code ({ cls := "java/lang/AbstractStringBuilder", name := "length", desc := "()I" } : Jvm.MethodName) jdk_68_method_6_code (1 : Nat) (Option.some Jvm.ClassFile.FieldType.int)).before args0 about1 = true := code_word (m := ⟨10, 2⟩) (meth := k10m2) (c := k10c2) (by decide +kernel) rfl rfl rfl (by decide +kernel)
set_option maxRecDepth 65536 in
theorem w_c16 : (Jvm.Cond.code ({ cls := "java/lang/AbstractStringBuilder", name := "isLatin1", desc := "()Z" } : Jvm.MethodName) jdk_68_method_68_code (1 : Nat) (Option.some Jvm.ClassFile.FieldType.boolean)).before args0 about1 = true := code_word (m := ⟨10, 9⟩) (meth := k10m9) (c := k10c9) (by decide +kernel) rfl rfl rfl (by decide +kernel)
set_option maxRecDepth 65536 in
theorem w_c17 : (Jvm.Cond.code ({ cls := "java/util/Arrays", name := "copyOfRange", desc := "([BII)[B" } : Jvm.MethodName) jdk_65_method_132_code (3 : Nat) (Option.some (Jvm.ClassFile.FieldType.array Jvm.ClassFile.FieldType.byte))).before args0 about1 = true := code_word (m := ⟨12, 3⟩) (meth := k12m3) (c := k12c3) (by decide +kernel) rfl rfl rfl (by decide +kernel)
set_option maxRecDepth 65536 in
theorem w_c18 : (Jvm.Cond.code ({ cls := "org/vouchsafe/cli/OutputEscapePinLaw", name := "same", desc := "(Ljava/lang/String;[CII)Z" } : Jvm.MethodName) method_5_code (4 : Nat) (Option.some Jvm.ClassFile.FieldType.boolean)).before args0 about1 = true := code_word (m := ⟨1, 4⟩) (meth := k1m4) (c := k1c4) (by decide +kernel) rfl rfl rfl (by decide +kernel)
set_option maxRecDepth 65536 in
theorem w_c19 : (Jvm.Cond.code ({ cls := "java/lang/StringUTF16", name := "compress", desc := "([CII)[B" } : Jvm.MethodName) jdk_52_method_16_code (6 : Nat) (Option.some (Jvm.ClassFile.FieldType.array Jvm.ClassFile.FieldType.byte))).before args0 about1 = true := code_word (m := ⟨14, 8⟩) (meth := k14m8) (c := k14c8) (by decide +kernel) rfl rfl rfl (by decide +kernel)
set_option maxRecDepth 65536 in
theorem w_c20 : (Jvm.Cond.code ({ cls := "java/lang/StringUTF16", name := "compress", desc := "([CI[BII)I" } : Jvm.MethodName) jdk_52_method_21_code (7 : Nat) (Option.some Jvm.ClassFile.FieldType.int)).before args0 about1 = true := code_word (m := ⟨14, 9⟩) (meth := k14m9) (c := k14c9) (by decide +kernel) rfl rfl rfl (by decide +kernel)
set_option maxRecDepth 65536 in
theorem w_c21 : (Jvm.Cond.code ({ cls := "java/lang/StringUTF16", name := "coderFromArrayLen", desc := "([BI)B" } : Jvm.MethodName) jdk_52_method_15_code (2 : Nat) (Option.some Jvm.ClassFile.FieldType.byte)).before args0 about1 = true := code_word (m := ⟨14, 7⟩) (meth := k14m7) (c := k14c7) (by decide +kernel) rfl rfl rfl (by decide +kernel)
set_option maxRecDepth 65536 in
theorem w_c22 : (Jvm.Cond.code ({ cls := "java/lang/String", name := "charAt", desc := "(I)C" } : Jvm.MethodName) jdk_42_method_56_code (2 : Nat) (Option.some Jvm.ClassFile.FieldType.char)).before args0 about1 = true := code_word (m := ⟨7, 4⟩) (meth := k7m4) (c := k7c4) (by decide +kernel) rfl rfl rfl (by decide +kernel)
set_option maxRecDepth 65536 in
theorem w_c23 : (Jvm.Cond.code ({ cls := "java/lang/String", name := "isLatin1", desc := "()Z" } : Jvm.MethodName) jdk_42_method_154_code (1 : Nat) (Option.some Jvm.ClassFile.FieldType.boolean)).before args0 about1 = true := code_word (m := ⟨7, 9⟩) (meth := k7m9) (c := k7c9) (by decide +kernel) rfl rfl rfl (by decide +kernel)
set_option maxRecDepth 65536 in
theorem w_c24 : (Jvm.Cond.code ({ cls := "java/lang/StringLatin1", name := "charAt", desc := "([BI)C" } : Jvm.MethodName) jdk_43_method_2_code (2 : Nat) (Option.some Jvm.ClassFile.FieldType.char)).before args0 about1 = true := code_word (m := ⟨15, 1⟩) (meth := k15m1) (c := k15c1) (by decide +kernel) rfl rfl rfl (by decide +kernel)
set_option maxRecDepth 65536 in
theorem w_c25 : (Jvm.Cond.code ({ cls := "java/lang/String", name := "checkIndex", desc := "(II)V" } : Jvm.MethodName) jdk_42_method_155_code (2 : Nat) (Option.none : Option Jvm.ClassFile.FieldType)).before args0 about1 = true := code_word (m := ⟨7, 10⟩) (meth := k7m10) (c := k7c10) (by decide +kernel) rfl rfl rfl (by decide +kernel)
set_option maxRecDepth 65536 in
theorem w_c26 : (Jvm.Cond.code ({ cls := "jdk/internal/util/Preconditions", name := "checkIndex", desc := "(IILjava/util/function/BiFunction;)I" } : Jvm.MethodName) jdk_41_method_11_code (3 : Nat) (Option.some Jvm.ClassFile.FieldType.int)).before args0 about1 = true := code_word (m := ⟨16, 1⟩) (meth := k16m1) (c := k16c1) (by decide +kernel) rfl rfl rfl (by decide +kernel)
set_option maxRecDepth 65536 in
theorem w_c27 : (Jvm.Cond.code ({ cls := "java/lang/StringBuilder", name := "append", desc := "(Ljava/lang/String;)Ljava/lang/StringBuilder;" } : Jvm.MethodName) jdk_67_method_7_code (2 : Nat) (Option.some (Jvm.ClassFile.FieldType.object "java/lang/StringBuilder"))).before args0 about1 = true := code_word (m := ⟨11, 2⟩) (meth := k11m2) (c := k11c2) (by decide +kernel) rfl rfl rfl (by decide +kernel)
set_option maxRecDepth 65536 in
theorem w_c28 : (Jvm.Cond.code ({ cls := "java/lang/AbstractStringBuilder", name := "append", desc := "(Ljava/lang/String;)Ljava/lang/AbstractStringBuilder;" } : Jvm.MethodName) jdk_68_method_22_code (3 : Nat) (Option.some (Jvm.ClassFile.FieldType.object "java/lang/AbstractStringBuilder"))).before args0 about1 = true := code_word (m := ⟨10, 6⟩) (meth := k10m6) (c := k10c6) (by decide +kernel) rfl rfl rfl (by decide +kernel)
set_option maxRecDepth 65536 in
theorem w_c29 : (Jvm.Cond.code ({ cls := "java/lang/AbstractStringBuilder", name := "ensureCapacityInternal", desc := "(I)V" } : Jvm.MethodName) jdk_68_method_9_code (3 : Nat) (Option.none : Option Jvm.ClassFile.FieldType)).before args0 about1 = true := code_word (m := ⟨10, 3⟩) (meth := k10m3) (c := k10c3) (by decide +kernel) rfl rfl rfl (by decide +kernel)
set_option maxRecDepth 65536 in
theorem w_c30 : (Jvm.Cond.code ({ cls := "java/lang/AbstractStringBuilder", name := "putStringAt", desc := "(ILjava/lang/String;)V" } : Jvm.MethodName) jdk_68_method_73_code (3 : Nat) (Option.none : Option Jvm.ClassFile.FieldType)).before args0 about1 = true := code_word (m := ⟨10, 11⟩) (meth := k10m11) (c := k10c11) (by decide +kernel) rfl rfl rfl (by decide +kernel)
set_option maxRecDepth 65536 in
theorem w_c31 : (Jvm.Cond.code ({ cls := "java/lang/AbstractStringBuilder", name := "inflateIfNeededFor", desc := "(Ljava/lang/String;)V" } : Jvm.MethodName) jdk_68_method_71_code (2 : Nat) (Option.none : Option Jvm.ClassFile.FieldType)).before args0 about1 = true := code_word (m := ⟨10, 10⟩) (meth := k10m10) (c := k10c10) (by decide +kernel) rfl rfl rfl (by decide +kernel)
set_option maxRecDepth 65536 in
theorem w_c32 : (Jvm.Cond.code ({ cls := "java/lang/String", name := "getBytes", desc := "([BIB)V" } : Jvm.MethodName) jdk_42_method_147_code (4 : Nat) (Option.none : Option Jvm.ClassFile.FieldType)).before args0 about1 = true := code_word (m := ⟨7, 5⟩) (meth := k7m5) (c := k7c5) (by decide +kernel) rfl rfl rfl (by decide +kernel)
set_option maxRecDepth 65536 in
theorem w_c33 : (Jvm.Cond.code ({ cls := "java/lang/AbstractStringBuilder", name := "newCapacity", desc := "(I)I" } : Jvm.MethodName) jdk_68_method_10_code (6 : Nat) (Option.some Jvm.ClassFile.FieldType.int)).before args0 about1 = true := code_word (m := ⟨10, 4⟩) (meth := k10m4) (c := k10c4) (by decide +kernel) rfl rfl rfl (by decide +kernel)
set_option maxRecDepth 65536 in
theorem w_c34 : (Jvm.Cond.code ({ cls := "jdk/internal/util/ArraysSupport", name := "newLength", desc := "(III)I" } : Jvm.MethodName) jdk_48_method_27_code (4 : Nat) (Option.some Jvm.ClassFile.FieldType.int)).before args0 about1 = true := code_word (m := ⟨18, 1⟩) (meth := k18m1) (c := k18c1) (by decide +kernel) rfl rfl rfl (by decide +kernel)
set_option maxRecDepth 65536 in
theorem w_c35 : (Jvm.Cond.code ({ cls := "java/lang/Math", name := "max", desc := "(II)I" } : Jvm.MethodName) jdk_29_method_65_code (2 : Nat) (Option.some Jvm.ClassFile.FieldType.int)).before args0 about1 = true := code_word (m := ⟨19, 1⟩) (meth := k19m1) (c := k19c1) (by decide +kernel) rfl rfl rfl (by decide +kernel)
set_option maxRecDepth 65536 in
theorem w_c36 : (Jvm.Cond.code ({ cls := "java/util/Arrays", name := "copyOf", desc := "([BI)[B" } : Jvm.MethodName) jdk_65_method_121_code (3 : Nat) (Option.some (Jvm.ClassFile.FieldType.array Jvm.ClassFile.FieldType.byte))).before args0 about1 = true := code_word (m := ⟨12, 1⟩) (meth := k12m1) (c := k12c1) (by decide +kernel) rfl rfl rfl (by decide +kernel)
set_option maxRecDepth 65536 in
theorem w_c37 : (Jvm.Cond.code ({ cls := "java/lang/Math", name := "min", desc := "(II)I" } : Jvm.MethodName) jdk_29_method_69_code (2 : Nat) (Option.some Jvm.ClassFile.FieldType.int)).before args0 about1 = true := code_word (m := ⟨19, 2⟩) (meth := k19m2) (c := k19c2) (by decide +kernel) rfl rfl rfl (by decide +kernel)
set_option maxRecDepth 65536 in
theorem w_c38 : (Jvm.Cond.code ({ cls := "java/lang/StringBuilder", name := "append", desc := "(C)Ljava/lang/StringBuilder;" } : Jvm.MethodName) jdk_67_method_14_code (2 : Nat) (Option.some (Jvm.ClassFile.FieldType.object "java/lang/StringBuilder"))).before args0 about1 = true := code_word (m := ⟨11, 3⟩) (meth := k11m3) (c := k11c3) (by decide +kernel) rfl rfl rfl (by decide +kernel)
set_option maxRecDepth 65536 in
theorem w_c39 : (Jvm.Cond.code ({ cls := "java/lang/AbstractStringBuilder", name := "append", desc := "(C)Ljava/lang/AbstractStringBuilder;" } : Jvm.MethodName) jdk_68_method_31_code (2 : Nat) (Option.some (Jvm.ClassFile.FieldType.object "java/lang/AbstractStringBuilder"))).before args0 about1 = true := code_word (m := ⟨10, 7⟩) (meth := k10m7) (c := k10c7) (by decide +kernel) rfl rfl rfl (by decide +kernel)
set_option maxRecDepth 65536 in
theorem w_c40 : (Jvm.Cond.code ({ cls := "java/lang/StringLatin1", name := "canEncode", desc := "(C)Z" } : Jvm.MethodName) jdk_43_method_3_code (1 : Nat) (Option.some Jvm.ClassFile.FieldType.boolean)).before args0 about1 = true := code_word (m := ⟨15, 2⟩) (meth := k15m2) (c := k15c2) (by decide +kernel) rfl rfl rfl (by decide +kernel)
set_option maxRecDepth 65536 in
theorem w_c41 : (Jvm.Cond.code ({ cls := "java/util/Arrays", name := "copyOfRangeByte", desc := "([BII)[B" } : Jvm.MethodName) jdk_65_method_133_code (5 : Nat) (Option.some (Jvm.ClassFile.FieldType.array Jvm.ClassFile.FieldType.byte))).before args0 about1 = true := code_word (m := ⟨12, 4⟩) (meth := k12m4) (c := k12c4) (by decide +kernel) rfl rfl rfl (by decide +kernel)
set_option maxRecDepth 65536 in
theorem w_c42 : (Jvm.Cond.code ({ cls := "java/util/Arrays", name := "checkLength", desc := "(II)V" } : Jvm.MethodName) jdk_65_method_131_code (2 : Nat) (Option.none : Option Jvm.ClassFile.FieldType)).before args0 about1 = true := code_word (m := ⟨12, 2⟩) (meth := k12m2) (c := k12c2) (by decide +kernel) rfl rfl rfl (by decide +kernel)
set_option maxRecDepth 65536 in
theorem w_c43 : (Jvm.Cond.code ({ cls := "org/vouchsafe/cli/OutputEscapePinLaw", name := "put", desc := "([CIC)I" } : Jvm.MethodName) method_4_code (3 : Nat) (Option.some Jvm.ClassFile.FieldType.int)).before args0 about1 = true := code_word (m := ⟨1, 3⟩) (meth := k1m3) (c := k1c3) (by decide +kernel) rfl rfl rfl (by decide +kernel)
set_option maxRecDepth 65536 in
theorem w_c44 : (Jvm.Cond.code ({ cls := "java/lang/StringUTF16", name := "toBytes", desc := "([CII)[B" } : Jvm.MethodName) jdk_52_method_14_code (5 : Nat) (Option.some (Jvm.ClassFile.FieldType.array Jvm.ClassFile.FieldType.byte))).before args0 about1 = true := code_word (m := ⟨14, 6⟩) (meth := k14m6) (c := k14c6) (by decide +kernel) rfl rfl rfl (by decide +kernel)
set_option maxRecDepth 65536 in
theorem w_c45 : (Jvm.Cond.code ({ cls := "java/lang/StringUTF16", name := "newBytesFor", desc := "(I)[B" } : Jvm.MethodName) jdk_52_method_2_code (1 : Nat) (Option.some (Jvm.ClassFile.FieldType.array Jvm.ClassFile.FieldType.byte))).before args0 about1 = true := code_word (m := ⟨14, 1⟩) (meth := k14m1) (c := k14c1) (by decide +kernel) rfl rfl rfl (by decide +kernel)
set_option maxRecDepth 65536 in
theorem w_c46 : (Jvm.Cond.code ({ cls := "java/lang/StringUTF16", name := "newBytesLength", desc := "(I)I" } : Jvm.MethodName) jdk_52_method_3_code (1 : Nat) (Option.some Jvm.ClassFile.FieldType.int)).before args0 about1 = true := code_word (m := ⟨14, 2⟩) (meth := k14m2) (c := k14c2) (by decide +kernel) rfl rfl rfl (by decide +kernel)
set_option maxRecDepth 65536 in
theorem w_c47 : (Jvm.Cond.code ({ cls := "java/lang/StringUTF16", name := "putChar", desc := "([BII)V" } : Jvm.MethodName) jdk_52_method_4_code (3 : Nat) (Option.none : Option Jvm.ClassFile.FieldType)).before args0 about1 = true := code_word (m := ⟨14, 3⟩) (meth := k14m3) (c := k14c3) (by decide +kernel) rfl rfl rfl (by decide +kernel)
set_option maxRecDepth 65536 in
theorem w_c48 : (Jvm.Cond.code ({ cls := "java/lang/StringUTF16", name := "getChar", desc := "([BI)C" } : Jvm.MethodName) jdk_52_method_5_code (2 : Nat) (Option.some Jvm.ClassFile.FieldType.char)).before args0 about1 = true := code_word (m := ⟨14, 4⟩) (meth := k14m4) (c := k14c4) (by decide +kernel) rfl rfl rfl (by decide +kernel)
set_option maxRecDepth 65536 in
theorem w_c49 : (Jvm.Cond.code ({ cls := "java/lang/StringUTF16", name := "charAt", desc := "([BI)C" } : Jvm.MethodName) jdk_52_method_83_code (2 : Nat) (Option.some Jvm.ClassFile.FieldType.char)).before args0 about1 = true := code_word (m := ⟨14, 11⟩) (meth := k14m11) (c := k14c11) (by decide +kernel) rfl rfl rfl (by decide +kernel)
set_option maxRecDepth 65536 in
theorem w_c50 : (Jvm.Cond.code ({ cls := "java/lang/StringUTF16", name := "checkIndex", desc := "(I[B)V" } : Jvm.MethodName) jdk_52_method_91_code (2 : Nat) (Option.none : Option Jvm.ClassFile.FieldType)).before args0 about1 = true := code_word (m := ⟨14, 13⟩) (meth := k14m13) (c := k14c13) (by decide +kernel) rfl rfl rfl (by decide +kernel)
set_option maxRecDepth 65536 in
theorem w_c51 : (Jvm.Cond.code ({ cls := "java/lang/StringUTF16", name := "length", desc := "([B)I" } : Jvm.MethodName) jdk_52_method_6_code (1 : Nat) (Option.some Jvm.ClassFile.FieldType.int)).before args0 about1 = true := code_word (m := ⟨14, 5⟩) (meth := k14m5) (c := k14c5) (by decide +kernel) rfl rfl rfl (by decide +kernel)
set_option maxRecDepth 65536 in
theorem w_c52 : (Jvm.Cond.code ({ cls := "java/lang/AbstractStringBuilder", name := "inflate", desc := "()V" } : Jvm.MethodName) jdk_68_method_11_code (2 : Nat) (Option.none : Option Jvm.ClassFile.FieldType)).before args0 about1 = true := code_word (m := ⟨10, 5⟩) (meth := k10m5) (c := k10c5) (by decide +kernel) rfl rfl rfl (by decide +kernel)
set_option maxRecDepth 65536 in
theorem w_c53 : (Jvm.Cond.code ({ cls := "java/lang/StringLatin1", name := "inflate", desc := "([BI[BII)V" } : Jvm.MethodName) jdk_43_method_50_code (5 : Nat) (Option.none : Option Jvm.ClassFile.FieldType)).before args0 about1 = true := code_word (m := ⟨15, 3⟩) (meth := k15m3) (c := k15c3) (by decide +kernel) rfl rfl rfl (by decide +kernel)
set_option maxRecDepth 65536 in
theorem w_c54 : (Jvm.Cond.code ({ cls := "java/lang/StringUTF16", name := "inflate", desc := "([BI[BII)V" } : Jvm.MethodName) jdk_52_method_86_code (6 : Nat) (Option.none : Option Jvm.ClassFile.FieldType)).before args0 about1 = true := code_word (m := ⟨14, 12⟩) (meth := k14m12) (c := k14c12) (by decide +kernel) rfl rfl rfl (by decide +kernel)
set_option maxRecDepth 65536 in
theorem w_c55 : (Jvm.Cond.code ({ cls := "java/lang/StringUTF16", name := "checkBoundsOffCount", desc := "(II[B)V" } : Jvm.MethodName) jdk_52_method_94_code (3 : Nat) (Option.none : Option Jvm.ClassFile.FieldType)).before args0 about1 = true := code_word (m := ⟨14, 14⟩) (meth := k14m14) (c := k14c14) (by decide +kernel) rfl rfl rfl (by decide +kernel)
set_option maxRecDepth 65536 in
theorem w_c56 : (Jvm.Cond.code ({ cls := "java/lang/String", name := "checkBoundsOffCount", desc := "(III)I" } : Jvm.MethodName) jdk_42_method_157_code (3 : Nat) (Option.some Jvm.ClassFile.FieldType.int)).before args0 about1 = true := code_word (m := ⟨7, 11⟩) (meth := k7m11) (c := k7c11) (by decide +kernel) rfl rfl rfl (by decide +kernel)
set_option maxRecDepth 65536 in
theorem w_c57 : (Jvm.Cond.code ({ cls := "jdk/internal/util/Preconditions", name := "checkFromIndexSize", desc := "(IIILjava/util/function/BiFunction;)I" } : Jvm.MethodName) jdk_41_method_13_code (4 : Nat) (Option.some Jvm.ClassFile.FieldType.int)).before args0 about1 = true := code_word (m := ⟨16, 2⟩) (meth := k16m2) (c := k16c2) (by decide +kernel) rfl rfl rfl (by decide +kernel)
set_option maxRecDepth 65536 in
theorem w_c58 : (Jvm.Cond.code ({ cls := "java/lang/StringUTF16", name := "putCharSB", desc := "([BII)V" } : Jvm.MethodName) jdk_52_method_71_code (3 : Nat) (Option.none : Option Jvm.ClassFile.FieldType)).before args0 about1 = true := code_word (m := ⟨14, 10⟩) (meth := k14m10) (c := k14c10) (by decide +kernel) rfl rfl rfl (by decide +kernel)
def codes1 : List Jvm.Cond := [Jvm.Cond.code x code maxLocals ret, Jvm.Cond.code ({ cls := "org/vouchsafe/cli/OutputEscapePinLaw", name := "pick", desc := "(I)C" } : Jvm.MethodName) method_3_code (2 : Nat) (Option.some Jvm.ClassFile.FieldType.char), Jvm.Cond.code ({ cls := "java/lang/String", name := "<init>", desc := "([C)V" } : Jvm.MethodName) jdk_42_method_3_code (2 : Nat) (Option.none : Option Jvm.ClassFile.FieldType), Jvm.Cond.code ({ cls := "java/lang/String", name := "<init>", desc := "([CIILjava/lang/Void;)V" } : Jvm.MethodName) jdk_42_method_149_code (6 : Nat) (Option.none : Option Jvm.ClassFile.FieldType), Jvm.Cond.code ({ cls := "java/lang/Object", name := "<init>", desc := "()V" } : Jvm.MethodName) object_method_1_code (1 : Nat) (Option.none : Option Jvm.ClassFile.FieldType), Jvm.Cond.code ({ cls := "org/vouchsafe/cli/Output", name := "escape", desc := "(Ljava/lang/String;)Ljava/lang/String;" } : Jvm.MethodName) prog_58_method_5_code (4 : Nat) (Option.some (Jvm.ClassFile.FieldType.object "java/lang/String")), Jvm.Cond.code ({ cls := "java/lang/String", name := "length", desc := "()I" } : Jvm.MethodName) jdk_42_method_54_code (1 : Nat) (Option.some Jvm.ClassFile.FieldType.int), Jvm.Cond.code ({ cls := "java/lang/String", name := "coder", desc := "()B" } : Jvm.MethodName) jdk_42_method_152_code (1 : Nat) (Option.some Jvm.ClassFile.FieldType.byte), Jvm.Cond.code ({ cls := "java/lang/StringBuilder", name := "<init>", desc := "(I)V" } : Jvm.MethodName) jdk_67_method_2_code (2 : Nat) (Option.none : Option Jvm.ClassFile.FieldType), Jvm.Cond.code ({ cls := "java/lang/AbstractStringBuilder", name := "<init>", desc := "(I)V" } : Jvm.MethodName) jdk_68_method_2_code (2 : Nat) (Option.none : Option Jvm.ClassFile.FieldType), Jvm.Cond.code ({ cls := "java/lang/StringBuilder", name := "toString", desc := "()Ljava/lang/String;" } : Jvm.MethodName) jdk_67_method_42_code (1 : Nat) (Option.some (Jvm.ClassFile.FieldType.object "java/lang/String")), Jvm.Cond.code ({ cls := "java/lang/String", name := "<init>", desc := "(Ljava/lang/StringBuilder;)V" } : Jvm.MethodName) jdk_42_method_53_code (2 : Nat) (Option.none : Option Jvm.ClassFile.FieldType), Jvm.Cond.code ({ cls := "java/lang/String", name := "<init>", desc := "(Ljava/lang/AbstractStringBuilder;Ljava/lang/Void;)V" } : Jvm.MethodName) jdk_42_method_150_code (5 : Nat) (Option.none : Option Jvm.ClassFile.FieldType), Jvm.Cond.code ({ cls := "java/lang/AbstractStringBuilder", name := "getValue", desc := "()[B" } : Jvm.MethodName) jdk_68_method_64_code (1 : Nat) (Option.some (Jvm.ClassFile.FieldType.array Jvm.ClassFile.FieldType.byte)), Jvm.Cond.code ({ cls := "java/lang/StringBuilder", name := "length", desc := "()I" } : Jvm.MethodName) jdk_67_method_93_code (1 : Nat) (Option.some Jvm.ClassFile.FieldType.int), Jvm.Cond.code ({ cls := "java/lang/AbstractStringBuilder", name := "length", desc := "()I" } : Jvm.MethodName) jdk_68_method_6_code (1 : Nat) (Option.some Jvm.ClassFile.FieldType.int), Jvm.Cond.code ({ cls := "java/lang/AbstractStringBuilder", name := "isLatin1", desc := "()Z" } : Jvm.MethodName) jdk_68_method_68_code (1 : Nat) (Option.some Jvm.ClassFile.FieldType.boolean), Jvm.Cond.code ({ cls := "java/util/Arrays", name := "copyOfRange", desc := "([BII)[B" } : Jvm.MethodName) jdk_65_method_132_code (3 : Nat) (Option.some (Jvm.ClassFile.FieldType.array Jvm.ClassFile.FieldType.byte)), Jvm.Cond.code ({ cls := "org/vouchsafe/cli/OutputEscapePinLaw", name := "same", desc := "(Ljava/lang/String;[CII)Z" } : Jvm.MethodName) method_5_code (4 : Nat) (Option.some Jvm.ClassFile.FieldType.boolean), Jvm.Cond.code ({ cls := "java/lang/StringUTF16", name := "compress", desc := "([CII)[B" } : Jvm.MethodName) jdk_52_method_16_code (6 : Nat) (Option.some (Jvm.ClassFile.FieldType.array Jvm.ClassFile.FieldType.byte)), Jvm.Cond.code ({ cls := "java/lang/StringUTF16", name := "compress", desc := "([CI[BII)I" } : Jvm.MethodName) jdk_52_method_21_code (7 : Nat) (Option.some Jvm.ClassFile.FieldType.int), Jvm.Cond.code ({ cls := "java/lang/StringUTF16", name := "coderFromArrayLen", desc := "([BI)B" } : Jvm.MethodName) jdk_52_method_15_code (2 : Nat) (Option.some Jvm.ClassFile.FieldType.byte), Jvm.Cond.code ({ cls := "java/lang/String", name := "charAt", desc := "(I)C" } : Jvm.MethodName) jdk_42_method_56_code (2 : Nat) (Option.some Jvm.ClassFile.FieldType.char), Jvm.Cond.code ({ cls := "java/lang/String", name := "isLatin1", desc := "()Z" } : Jvm.MethodName) jdk_42_method_154_code (1 : Nat) (Option.some Jvm.ClassFile.FieldType.boolean), Jvm.Cond.code ({ cls := "java/lang/StringLatin1", name := "charAt", desc := "([BI)C" } : Jvm.MethodName) jdk_43_method_2_code (2 : Nat) (Option.some Jvm.ClassFile.FieldType.char), Jvm.Cond.code ({ cls := "java/lang/String", name := "checkIndex", desc := "(II)V" } : Jvm.MethodName) jdk_42_method_155_code (2 : Nat) (Option.none : Option Jvm.ClassFile.FieldType), Jvm.Cond.code ({ cls := "jdk/internal/util/Preconditions", name := "checkIndex", desc := "(IILjava/util/function/BiFunction;)I" } : Jvm.MethodName) jdk_41_method_11_code (3 : Nat) (Option.some Jvm.ClassFile.FieldType.int), Jvm.Cond.code ({ cls := "java/lang/StringBuilder", name := "append", desc := "(Ljava/lang/String;)Ljava/lang/StringBuilder;" } : Jvm.MethodName) jdk_67_method_7_code (2 : Nat) (Option.some (Jvm.ClassFile.FieldType.object "java/lang/StringBuilder")), Jvm.Cond.code ({ cls := "java/lang/AbstractStringBuilder", name := "append", desc := "(Ljava/lang/String;)Ljava/lang/AbstractStringBuilder;" } : Jvm.MethodName) jdk_68_method_22_code (3 : Nat) (Option.some (Jvm.ClassFile.FieldType.object "java/lang/AbstractStringBuilder")), Jvm.Cond.code ({ cls := "java/lang/AbstractStringBuilder", name := "ensureCapacityInternal", desc := "(I)V" } : Jvm.MethodName) jdk_68_method_9_code (3 : Nat) (Option.none : Option Jvm.ClassFile.FieldType), Jvm.Cond.code ({ cls := "java/lang/AbstractStringBuilder", name := "putStringAt", desc := "(ILjava/lang/String;)V" } : Jvm.MethodName) jdk_68_method_73_code (3 : Nat) (Option.none : Option Jvm.ClassFile.FieldType), Jvm.Cond.code ({ cls := "java/lang/AbstractStringBuilder", name := "inflateIfNeededFor", desc := "(Ljava/lang/String;)V" } : Jvm.MethodName) jdk_68_method_71_code (2 : Nat) (Option.none : Option Jvm.ClassFile.FieldType), Jvm.Cond.code ({ cls := "java/lang/String", name := "getBytes", desc := "([BIB)V" } : Jvm.MethodName) jdk_42_method_147_code (4 : Nat) (Option.none : Option Jvm.ClassFile.FieldType), Jvm.Cond.code ({ cls := "java/lang/AbstractStringBuilder", name := "newCapacity", desc := "(I)I" } : Jvm.MethodName) jdk_68_method_10_code (6 : Nat) (Option.some Jvm.ClassFile.FieldType.int), Jvm.Cond.code ({ cls := "jdk/internal/util/ArraysSupport", name := "newLength", desc := "(III)I" } : Jvm.MethodName) jdk_48_method_27_code (4 : Nat) (Option.some Jvm.ClassFile.FieldType.int), Jvm.Cond.code ({ cls := "java/lang/Math", name := "max", desc := "(II)I" } : Jvm.MethodName) jdk_29_method_65_code (2 : Nat) (Option.some Jvm.ClassFile.FieldType.int), Jvm.Cond.code ({ cls := "java/util/Arrays", name := "copyOf", desc := "([BI)[B" } : Jvm.MethodName) jdk_65_method_121_code (3 : Nat) (Option.some (Jvm.ClassFile.FieldType.array Jvm.ClassFile.FieldType.byte)), Jvm.Cond.code ({ cls := "java/lang/Math", name := "min", desc := "(II)I" } : Jvm.MethodName) jdk_29_method_69_code (2 : Nat) (Option.some Jvm.ClassFile.FieldType.int), Jvm.Cond.code ({ cls := "java/lang/StringBuilder", name := "append", desc := "(C)Ljava/lang/StringBuilder;" } : Jvm.MethodName) jdk_67_method_14_code (2 : Nat) (Option.some (Jvm.ClassFile.FieldType.object "java/lang/StringBuilder")), Jvm.Cond.code ({ cls := "java/lang/AbstractStringBuilder", name := "append", desc := "(C)Ljava/lang/AbstractStringBuilder;" } : Jvm.MethodName) jdk_68_method_31_code (2 : Nat) (Option.some (Jvm.ClassFile.FieldType.object "java/lang/AbstractStringBuilder")), Jvm.Cond.code ({ cls := "java/lang/StringLatin1", name := "canEncode", desc := "(C)Z" } : Jvm.MethodName) jdk_43_method_3_code (1 : Nat) (Option.some Jvm.ClassFile.FieldType.boolean), Jvm.Cond.code ({ cls := "java/util/Arrays", name := "copyOfRangeByte", desc := "([BII)[B" } : Jvm.MethodName) jdk_65_method_133_code (5 : Nat) (Option.some (Jvm.ClassFile.FieldType.array Jvm.ClassFile.FieldType.byte)), Jvm.Cond.code ({ cls := "java/util/Arrays", name := "checkLength", desc := "(II)V" } : Jvm.MethodName) jdk_65_method_131_code (2 : Nat) (Option.none : Option Jvm.ClassFile.FieldType), Jvm.Cond.code ({ cls := "org/vouchsafe/cli/OutputEscapePinLaw", name := "put", desc := "([CIC)I" } : Jvm.MethodName) method_4_code (3 : Nat) (Option.some Jvm.ClassFile.FieldType.int), Jvm.Cond.code ({ cls := "java/lang/StringUTF16", name := "toBytes", desc := "([CII)[B" } : Jvm.MethodName) jdk_52_method_14_code (5 : Nat) (Option.some (Jvm.ClassFile.FieldType.array Jvm.ClassFile.FieldType.byte)), Jvm.Cond.code ({ cls := "java/lang/StringUTF16", name := "newBytesFor", desc := "(I)[B" } : Jvm.MethodName) jdk_52_method_2_code (1 : Nat) (Option.some (Jvm.ClassFile.FieldType.array Jvm.ClassFile.FieldType.byte)), Jvm.Cond.code ({ cls := "java/lang/StringUTF16", name := "newBytesLength", desc := "(I)I" } : Jvm.MethodName) jdk_52_method_3_code (1 : Nat) (Option.some Jvm.ClassFile.FieldType.int), Jvm.Cond.code ({ cls := "java/lang/StringUTF16", name := "putChar", desc := "([BII)V" } : Jvm.MethodName) jdk_52_method_4_code (3 : Nat) (Option.none : Option Jvm.ClassFile.FieldType), Jvm.Cond.code ({ cls := "java/lang/StringUTF16", name := "getChar", desc := "([BI)C" } : Jvm.MethodName) jdk_52_method_5_code (2 : Nat) (Option.some Jvm.ClassFile.FieldType.char), Jvm.Cond.code ({ cls := "java/lang/StringUTF16", name := "charAt", desc := "([BI)C" } : Jvm.MethodName) jdk_52_method_83_code (2 : Nat) (Option.some Jvm.ClassFile.FieldType.char), Jvm.Cond.code ({ cls := "java/lang/StringUTF16", name := "checkIndex", desc := "(I[B)V" } : Jvm.MethodName) jdk_52_method_91_code (2 : Nat) (Option.none : Option Jvm.ClassFile.FieldType), Jvm.Cond.code ({ cls := "java/lang/StringUTF16", name := "length", desc := "([B)I" } : Jvm.MethodName) jdk_52_method_6_code (1 : Nat) (Option.some Jvm.ClassFile.FieldType.int), Jvm.Cond.code ({ cls := "java/lang/AbstractStringBuilder", name := "inflate", desc := "()V" } : Jvm.MethodName) jdk_68_method_11_code (2 : Nat) (Option.none : Option Jvm.ClassFile.FieldType), Jvm.Cond.code ({ cls := "java/lang/StringLatin1", name := "inflate", desc := "([BI[BII)V" } : Jvm.MethodName) jdk_43_method_50_code (5 : Nat) (Option.none : Option Jvm.ClassFile.FieldType), Jvm.Cond.code ({ cls := "java/lang/StringUTF16", name := "inflate", desc := "([BI[BII)V" } : Jvm.MethodName) jdk_52_method_86_code (6 : Nat) (Option.none : Option Jvm.ClassFile.FieldType), Jvm.Cond.code ({ cls := "java/lang/StringUTF16", name := "checkBoundsOffCount", desc := "(II[B)V" } : Jvm.MethodName) jdk_52_method_94_code (3 : Nat) (Option.none : Option Jvm.ClassFile.FieldType), Jvm.Cond.code ({ cls := "java/lang/String", name := "checkBoundsOffCount", desc := "(III)I" } : Jvm.MethodName) jdk_42_method_157_code (3 : Nat) (Option.some Jvm.ClassFile.FieldType.int), Jvm.Cond.code ({ cls := "jdk/internal/util/Preconditions", name := "checkFromIndexSize", desc := "(IIILjava/util/function/BiFunction;)I" } : Jvm.MethodName) jdk_41_method_13_code (4 : Nat) (Option.some Jvm.ClassFile.FieldType.int), Jvm.Cond.code ({ cls := "java/lang/StringUTF16", name := "putCharSB", desc := "([BII)V" } : Jvm.MethodName) jdk_52_method_71_code (3 : Nat) (Option.none : Option Jvm.ClassFile.FieldType)]
set_option maxRecDepth 65536 in
theorem codes_eq : words1.filter isCode = codes1 := rfl
theorem w_codes : ∀ c ∈ words1.filter isCode, c.before args0 about1 = true := by
  rw [codes_eq]
  intro c hc
  simp only [codes1, List.mem_cons, List.not_mem_nil, or_false] at hc
  rcases hc with rfl | rfl | rfl | rfl | rfl | rfl | rfl | rfl | rfl | rfl | rfl | rfl | rfl | rfl | rfl | rfl | rfl | rfl | rfl | rfl | rfl | rfl | rfl | rfl | rfl | rfl | rfl | rfl | rfl | rfl | rfl | rfl | rfl | rfl | rfl | rfl | rfl | rfl | rfl | rfl | rfl | rfl | rfl | rfl | rfl | rfl | rfl | rfl | rfl | rfl | rfl | rfl | rfl | rfl | rfl | rfl | rfl | rfl | rfl
  · exact w_c0
  · exact w_c1
  · exact w_c2
  · exact w_c3
  · exact w_c4
  · exact w_c5
  · exact w_c6
  · exact w_c7
  · exact w_c8
  · exact w_c9
  · exact w_c10
  · exact w_c11
  · exact w_c12
  · exact w_c13
  · exact w_c14
  · exact w_c15
  · exact w_c16
  · exact w_c17
  · exact w_c18
  · exact w_c19
  · exact w_c20
  · exact w_c21
  · exact w_c22
  · exact w_c23
  · exact w_c24
  · exact w_c25
  · exact w_c26
  · exact w_c27
  · exact w_c28
  · exact w_c29
  · exact w_c30
  · exact w_c31
  · exact w_c32
  · exact w_c33
  · exact w_c34
  · exact w_c35
  · exact w_c36
  · exact w_c37
  · exact w_c38
  · exact w_c39
  · exact w_c40
  · exact w_c41
  · exact w_c42
  · exact w_c43
  · exact w_c44
  · exact w_c45
  · exact w_c46
  · exact w_c47
  · exact w_c48
  · exact w_c49
  · exact w_c50
  · exact w_c51
  · exact w_c52
  · exact w_c53
  · exact w_c54
  · exact w_c55
  · exact w_c56
  · exact w_c57
  · exact w_c58
set_option maxRecDepth 65536 in
theorem w_t1 : (words1.take 24).all (fun c => isCode c || c.before args0 about1) = true := by decide +kernel
set_option maxRecDepth 65536 in
theorem w_t2 : ((words1.drop 24).take 24).all (fun c => isCode c || c.before args0 about1) = true := by decide +kernel
set_option maxRecDepth 65536 in
theorem w_t3 : (((words1.drop 24).drop 24).take 24).all (fun c => isCode c || c.before args0 about1) = true := by decide +kernel
set_option maxRecDepth 65536 in
theorem w_t4 : ((((words1.drop 24).drop 24).drop 24).take 24).all (fun c => isCode c || c.before args0 about1) = true := by decide +kernel
set_option maxRecDepth 65536 in
theorem w_t5 : (((((words1.drop 24).drop 24).drop 24).drop 24).take 24).all (fun c => isCode c || c.before args0 about1) = true := by decide +kernel
set_option maxRecDepth 65536 in
theorem w_t6 : ((((((words1.drop 24).drop 24).drop 24).drop 24).drop 24).take 24).all (fun c => isCode c || c.before args0 about1) = true := by decide +kernel
set_option maxRecDepth 65536 in
theorem w_t7 : (((((((words1.drop 24).drop 24).drop 24).drop 24).drop 24).drop 24).take 24).all (fun c => isCode c || c.before args0 about1) = true := by decide +kernel
set_option maxRecDepth 65536 in
theorem w_t8 : ((((((((words1.drop 24).drop 24).drop 24).drop 24).drop 24).drop 24).drop 24).take 24).all (fun c => isCode c || c.before args0 about1) = true := by decide +kernel
set_option maxRecDepth 65536 in
theorem w_t9 : (((((((((words1.drop 24).drop 24).drop 24).drop 24).drop 24).drop 24).drop 24).drop 24).take 24).all (fun c => isCode c || c.before args0 about1) = true := by decide +kernel
set_option maxRecDepth 65536 in
theorem w_t10 : ((((((((((words1.drop 24).drop 24).drop 24).drop 24).drop 24).drop 24).drop 24).drop 24).drop 24).take 24).all (fun c => isCode c || c.before args0 about1) = true := by decide +kernel
set_option maxRecDepth 65536 in
theorem w_t11 : (((((((((((words1.drop 24).drop 24).drop 24).drop 24).drop 24).drop 24).drop 24).drop 24).drop 24).drop 24).take 24).all (fun c => isCode c || c.before args0 about1) = true := by decide +kernel
set_option maxRecDepth 65536 in
theorem w_t12 : (((((((((((words1.drop 24).drop 24).drop 24).drop 24).drop 24).drop 24).drop 24).drop 24).drop 24).drop 24).drop 24).all (fun c => isCode c || c.before args0 about1) = true := by decide +kernel
theorem w_tables : (allAtoms (Jvm.Cond.code x code maxLocals ret :: tables_1)).before args0 about1 = true := by
  rw [allAtoms_all]
  show words1.all (fun c => c.before args0 about1) = true
  refine all_split ?_ w_codes
  rw [← List.take_append_drop 24 words1, List.all_append, w_t1, ← List.take_append_drop 24 (words1.drop 24), List.all_append, w_t2, ← List.take_append_drop 24 ((words1.drop 24).drop 24), List.all_append, w_t3, ← List.take_append_drop 24 (((words1.drop 24).drop 24).drop 24), List.all_append, w_t4, ← List.take_append_drop 24 ((((words1.drop 24).drop 24).drop 24).drop 24), List.all_append, w_t5, ← List.take_append_drop 24 (((((words1.drop 24).drop 24).drop 24).drop 24).drop 24), List.all_append, w_t6, ← List.take_append_drop 24 ((((((words1.drop 24).drop 24).drop 24).drop 24).drop 24).drop 24), List.all_append, w_t7, ← List.take_append_drop 24 (((((((words1.drop 24).drop 24).drop 24).drop 24).drop 24).drop 24).drop 24), List.all_append, w_t8, ← List.take_append_drop 24 ((((((((words1.drop 24).drop 24).drop 24).drop 24).drop 24).drop 24).drop 24).drop 24), List.all_append, w_t9, ← List.take_append_drop 24 (((((((((words1.drop 24).drop 24).drop 24).drop 24).drop 24).drop 24).drop 24).drop 24).drop 24), List.all_append, w_t10, ← List.take_append_drop 24 ((((((((((words1.drop 24).drop 24).drop 24).drop 24).drop 24).drop 24).drop 24).drop 24).drop 24).drop 24), List.all_append, w_t11, w_t12]
  rfl
set_option maxRecDepth 65536 in
theorem w_rest : rest_1_c.before args0 about1 = true := by decide +kernel
set_option maxRecDepth 65536 in
theorem w_case : (Jvm.Cond.and given_1 narrow_1).before args0 about1 = true := by decide +kernel
set_option maxRecDepth 65536 in
theorem w_consts : constsHeld consts_1 about1 := Jvm.Lit.constsHeldB_iff.mp (by decide +kernel)
theorem w_applies : (headSpec (Jvm.Cond.code x code maxLocals ret :: tables_1) room_1).applies x e0.platform about1 = true :=
  (Spec.applies_iff w_frames).mpr ⟨w_running, w_runnable, w_alone, w_named, w_hears, w_ripe, w_room, w_tables⟩
theorem atStart : AtStart classFile x code maxLocals ret World_1 tables_1 room_1 Calls_1 rest_1 Pre_1 launch0 p0 e0 about1 theMethod args0 below0 :=
  ⟨lists_1, trivial, launch0.admits_env _ _ _, launch0.least_env, fairChoices_fair.cas, fairChoices_fair.clock, w_frames, w_args, w_heap, w_applies, ⟨w_consts, trivial⟩, w_rest, w_case⟩
end start1
theorem witness_1 : WitnessClaimed_1 := ⟨start1.p0, start1.e0, start1.about1, start1.theMethod, start1.args0, start1.below0, start1.atStart⟩
end Jvm.Pilot.@@N@@
