import JvmDerived
import JvmDerived.Pilot.@@N@@Statement
import JvmDerived.Pilot.@@N@@Code
set_option linter.unusedVariables false
set_option linter.unusedSimpArgs false
namespace Jvm.Pilot.@@N@@
open Jvm Jvm.ClassFile Sem Op Lib Jvm.Free Jvm.Stand Jvm.LawKit Jvm.RoadKit Bundle Jvm.Pilot.@@N@@.Jvm.D
section OwnKit
variable {p : Program} {l : Launch} {e : Env} {R : Room} {s : State} {m : MethodId} {args : Array Value} {below : List Frame} {meth : Method} {c : Code} {T : State} {locs : List Loc} {cells slots : Nat} {Z : State} {a0 : Array Value} {h : Heap} {bs : ByteArray} {own mnm : String} {mx : Nat} {rt : Option FieldType} {G : Outcome → State → Prop} {pc pc' : Nat} {Ls Ls' : Array Slot} {st : List Value}
/-- from T the run comes to an end of which G holds -/
def Go (tb : Tables) (e : Env) (below : List Frame) (G : Outcome → State → Prop) (T : State) : Prop := ∃ s₂ o, Steps tb e below T s₂ ∧ s₂.status = .running ∧ Ended s₂ below o ∧ G o s₂
theorem Go.step {tb : Tables} {T T' : State} (g : Go tb e below G T') (h : ∀ t, Steps tb e below T' t → Steps tb e below T t) : Go tb e below G T := by
  obtain ⟨s₂, o, h1, h2⟩ := g
  exact ⟨s₂, o, h _ h1, h2⟩
/-- what a walk knows of its own body -/
def Cx (p : Program) (s : State) (m : MethodId) (meth : Method) (c : Code) (bs : ByteArray) (mx : Nat) (own mnm : String) (rt : Option FieldType) (Z : State) : Prop :=
  p.tables.exec = Jvm.exec ∧ c.code = bs ∧ c.maxLocals = mx ∧ s.vm.findClass own = some m.cls ∧ meth.name = mnm ∧ meth.sig.returnType = rt ∧ meth.locks = false ∧ Z.Warmed39 s.vm
theorem Cx.hown (C : Cx p s m meth c bs mx own mnm rt Z) : s.vm.findClass own = some m.cls := C.2.2.2.1
theorem Cx.nm (C : Cx p s m meth c bs mx own mnm rt Z) : meth.name = mnm := C.2.2.2.2.1
theorem Cx.ret (C : Cx p s m meth c bs mx own mnm rt Z) : meth.sig.returnType = rt := C.2.2.2.2.2.1
theorem Cx.locks (C : Cx p s m meth c bs mx own mnm rt Z) : meth.locks = false := C.2.2.2.2.2.2.1
theorem Cx.hZ (C : Cx p s m meth c bs mx own mnm rt Z) : Z.Warmed39 s.vm := C.2.2.2.2.2.2.2
/-- the end: returned, Q of the value, the heap and the places written; the frame -/
def End (s : State) (Q : Option Value → Heap → List Loc → Prop) (ce sl : Nat) (o : Outcome) (U' : State) : Prop := ∃ v L, o = .returned v ∧ Q v U'.heap L ∧ FrameEnd s o U' L ce sl
theorem met_of {y : MethodName} {ws : List Jvm.Cond} {rm : Room} {as' : Array Value} {Q : Option Value → Heap → List Loc → Prop} {ce sl : Nat} (hpn : plainFor y = true) (hef : ∀ m, entryFrame m as' mx = mkF m 0 Ls [])
    (hbody : ∀ (p : Program) (e : Env) (s : State) (m : MethodId) (below : List Frame) (meth : Method) (c : Code) (T : State), Cx p s m meth c bs mx y.cls y.name rt Z → Stand p l e rm s m as' below meth c T [] 0 0 → T.heap = h → Go p.tables e below (End s Q ce sl) (T.setTop (mkF m 0 Ls []))) :
    MetFree l y (head1 (Jvm.Cond.code y bs mx rt :: ws) rm) (fun a U => a = as' ∧ Z.Warmed39 U.vm ∧ U.heap = h) (fun _ _ _ _ _ => True) (fun _ U o U' => ∃ v L, o = .returned v ∧ Q v U'.heap L ∧ FrameEnd U o U' L ce sl) := by
  refine MetFree.of_bodySF hpn hisR ?_
  intro p e s m args below meth c s₁ Bd hml0 hP hK
  obtain ⟨rfl, hZ, hh⟩ := hP
  have X0 : Stand p l e rm s m _ below meth c s₁ [] 0 0 := Stand.of_body Bd
  have e0 : s₁.heap = h := by rw [← hh, Bd.state]; rfl
  obtain ⟨s₂, o, h1, h2, h3, h4⟩ := hbody p e s m below meth c s₁ ⟨Bd.exec, Bd.bytes, hml0, findClass_of_methodNamed Bd.named, (name_of_methodNamed Bd.named Bd.method).1, Bd.returns, Bd.notSynchronized, hZ⟩ X0 e0
  exact ⟨s₂, o, castTop (hef m) h1, h2, h3, h4⟩

theorem g_iloadN (C : Cx p s m meth c bs mx own mnm rt Z) (X : Stand p l e R s m args below meth c T locs cells slots) {k : Fin 4} {v : Int32} (hd : decode bs pc = .ok (.iload_n k, 1)) (hl : Ls[k.val]? = some (.val (.int v))) (hn : pc + 1 = pc')
    (hr : Go p.tables e below G (T.setTop (mkF m pc' Ls (.int v :: st)))) : Go p.tables e below G (T.setTop (mkF m pc Ls st)) := by
  subst hn; exact hr.step fun t k => XS.iloadN X.here C.1 rfl (hb C.2.1 hd) hl k
theorem g_iload (C : Cx p s m meth c bs mx own mnm rt Z) (X : Stand p l e R s m args below meth c T locs cells slots) {k : Nat} {v : Int32} (hd : decode bs pc = .ok (.iload k, 2)) (hl : Ls[k]? = some (.val (.int v))) (hn : pc + 2 = pc')
    (hr : Go p.tables e below G (T.setTop (mkF m pc' Ls (.int v :: st)))) : Go p.tables e below G (T.setTop (mkF m pc Ls st)) := by
  subst hn; exact hr.step fun t k => XS.iload X.here C.1 rfl (hb C.2.1 hd) hl k
theorem g_istoreN (C : Cx p s m meth c bs mx own mnm rt Z) (X : Stand p l e R s m args below meth c T locs cells slots) {k : Fin 4} {v : Int32} (hd : decode bs pc = .ok (.istore_n k, 1)) (hl : storeLocals Ls k.val (.int v) = some Ls') (hn : pc + 1 = pc')
    (hr : Go p.tables e below G (T.setTop (mkF m pc' Ls' st))) : Go p.tables e below G (T.setTop (mkF m pc Ls (.int v :: st))) := by
  subst hn; exact hr.step fun t k => XS.istoreN X.here C.1 rfl (hb C.2.1 hd) rfl hl k
theorem g_istore (C : Cx p s m meth c bs mx own mnm rt Z) (X : Stand p l e R s m args below meth c T locs cells slots) {k : Nat} {v : Int32} (hd : decode bs pc = .ok (.istore k, 2)) (hl : storeLocals Ls k (.int v) = some Ls') (hn : pc + 2 = pc')
    (hr : Go p.tables e below G (T.setTop (mkF m pc' Ls' st))) : Go p.tables e below G (T.setTop (mkF m pc Ls (.int v :: st))) := by
  subst hn; exact hr.step fun t k => XS.istore X.here C.1 rfl (hb C.2.1 hd) rfl hl k
theorem g_aloadN (C : Cx p s m meth c bs mx own mnm rt Z) (X : Stand p l e R s m args below meth c T locs cells slots) {k : Fin 4} {v : Value} (hd : decode bs pc = .ok (.aload_n k, 1)) (hl : Ls[k.val]? = some (.val v)) (hv : v.isRef = true) (hn : pc + 1 = pc')
    (hr : Go p.tables e below G (T.setTop (mkF m pc' Ls (v :: st)))) : Go p.tables e below G (T.setTop (mkF m pc Ls st)) := by
  subst hn; exact hr.step fun t k => XS.aloadN X.here C.1 rfl (hb C.2.1 hd) hl hv k
theorem g_aload (C : Cx p s m meth c bs mx own mnm rt Z) (X : Stand p l e R s m args below meth c T locs cells slots) {k : Nat} {v : Value} (hd : decode bs pc = .ok (.aload k, 2)) (hl : Ls[k]? = some (.val v)) (hv : v.isRef = true) (hn : pc + 2 = pc')
    (hr : Go p.tables e below G (T.setTop (mkF m pc' Ls (v :: st)))) : Go p.tables e below G (T.setTop (mkF m pc Ls st)) := by
  subst hn; exact hr.step fun t k => XS.aload X.here C.1 rfl (hb C.2.1 hd) hl hv k
theorem g_astoreN (C : Cx p s m meth c bs mx own mnm rt Z) (X : Stand p l e R s m args below meth c T locs cells slots) {k : Fin 4} {v : Value} (hd : decode bs pc = .ok (.astore_n k, 1)) (hv : v.isRef = true) (hl : storeLocals Ls k.val v = some Ls') (hn : pc + 1 = pc')
    (hr : Go p.tables e below G (T.setTop (mkF m pc' Ls' st))) : Go p.tables e below G (T.setTop (mkF m pc Ls (v :: st))) := by
  subst hn; exact hr.step fun t k => XS.astoreN X.here C.1 rfl (hb C.2.1 hd) rfl hv hl k
theorem g_astore (C : Cx p s m meth c bs mx own mnm rt Z) (X : Stand p l e R s m args below meth c T locs cells slots) {k : Nat} {v : Value} (hd : decode bs pc = .ok (.astore k, 2)) (hv : v.isRef = true) (hl : storeLocals Ls k v = some Ls') (hn : pc + 2 = pc')
    (hr : Go p.tables e below G (T.setTop (mkF m pc' Ls' st))) : Go p.tables e below G (T.setTop (mkF m pc Ls (v :: st))) := by
  subst hn; exact hr.step fun t k => XS.astore X.here C.1 rfl (hb C.2.1 hd) rfl hv hl k
theorem g_iconst (C : Cx p s m meth c bs mx own mnm rt Z) (X : Stand p l e R s m args below meth c T locs cells slots) {i : Int} {v : Int32} (hd : decode bs pc = .ok (.iconst i, 1)) (hv : Int32.ofInt i = v) (hn : pc + 1 = pc')
    (hr : Go p.tables e below G (T.setTop (mkF m pc' Ls (.int v :: st)))) : Go p.tables e below G (T.setTop (mkF m pc Ls st)) := by
  subst hn; exact hr.step fun t k => XS.iconst X.here C.1 rfl (hb C.2.1 hd) (by rw [hv]; exact k)
theorem g_bipush (C : Cx p s m meth c bs mx own mnm rt Z) (X : Stand p l e R s m args below meth c T locs cells slots) {i : Int} {v : Int32} (hd : decode bs pc = .ok (.bipush i, 2)) (hv : (Int8.ofInt i).toInt32 = v) (hn : pc + 2 = pc')
    (hr : Go p.tables e below G (T.setTop (mkF m pc' Ls (.int v :: st)))) : Go p.tables e below G (T.setTop (mkF m pc Ls st)) := by
  subst hn; exact hr.step fun t k => XS.bipush X.here C.1 rfl (hb C.2.1 hd) (by rw [hv]; exact k)
theorem g_sipush (C : Cx p s m meth c bs mx own mnm rt Z) (X : Stand p l e R s m args below meth c T locs cells slots) {i : Int} {v : Int32} (hd : decode bs pc = .ok (.sipush i, 3)) (hv : (Int16.ofInt i).toInt32 = v) (hn : pc + 3 = pc')
    (hr : Go p.tables e below G (T.setTop (mkF m pc' Ls (.int v :: st)))) : Go p.tables e below G (T.setTop (mkF m pc Ls st)) := by
  subst hn; exact hr.step fun t k => XS.sipush X.here C.1 rfl (hb C.2.1 hd) (by rw [hv]; exact k)
theorem g_null (C : Cx p s m meth c bs mx own mnm rt Z) (X : Stand p l e R s m args below meth c T locs cells slots)  (hd : decode bs pc = .ok (.aconst_null, 1)) (hn : pc + 1 = pc')
    (hr : Go p.tables e below G (T.setTop (mkF m pc' Ls (.null :: st)))) : Go p.tables e below G (T.setTop (mkF m pc Ls st)) := by
  subst hn; exact hr.step fun t k => XS.aconstNull X.here C.1 rfl (hb C.2.1 hd) k
theorem g_iadd (C : Cx p s m meth c bs mx own mnm rt Z) (X : Stand p l e R s m args below meth c T locs cells slots) {x y : Int32} (hd : decode bs pc = .ok (.iadd, 1)) (hn : pc + 1 = pc')
    (hr : Go p.tables e below G (T.setTop (mkF m pc' Ls (.int (x + y) :: st)))) : Go p.tables e below G (T.setTop (mkF m pc Ls (.int y :: .int x :: st))) := by
  subst hn; exact hr.step fun t k => XS.iadd X.here C.1 rfl (hb C.2.1 hd) rfl k
theorem g_isub (C : Cx p s m meth c bs mx own mnm rt Z) (X : Stand p l e R s m args below meth c T locs cells slots) {x y : Int32} (hd : decode bs pc = .ok (.isub, 1)) (hn : pc + 1 = pc')
    (hr : Go p.tables e below G (T.setTop (mkF m pc' Ls (.int (x - y) :: st)))) : Go p.tables e below G (T.setTop (mkF m pc Ls (.int y :: .int x :: st))) := by
  subst hn; exact hr.step fun t k => XS.isub X.here C.1 rfl (hb C.2.1 hd) rfl k
theorem g_iand (C : Cx p s m meth c bs mx own mnm rt Z) (X : Stand p l e R s m args below meth c T locs cells slots) {x y : Int32} (hd : decode bs pc = .ok (.iand, 1)) (hn : pc + 1 = pc')
    (hr : Go p.tables e below G (T.setTop (mkF m pc' Ls (.int (x &&& y) :: st)))) : Go p.tables e below G (T.setTop (mkF m pc Ls (.int y :: .int x :: st))) := by
  subst hn; exact hr.step fun t k => XS.iand X.here C.1 rfl (hb C.2.1 hd) rfl k
theorem g_ior (C : Cx p s m meth c bs mx own mnm rt Z) (X : Stand p l e R s m args below meth c T locs cells slots) {x y : Int32} (hd : decode bs pc = .ok (.ior, 1)) (hn : pc + 1 = pc')
    (hr : Go p.tables e below G (T.setTop (mkF m pc' Ls (.int (x ||| y) :: st)))) : Go p.tables e below G (T.setTop (mkF m pc Ls (.int y :: .int x :: st))) := by
  subst hn; exact hr.step fun t k => XS.ior X.here C.1 rfl (hb C.2.1 hd) rfl k
theorem g_ishl (C : Cx p s m meth c bs mx own mnm rt Z) (X : Stand p l e R s m args below meth c T locs cells slots) {x y : Int32} (hd : decode bs pc = .ok (.ishl, 1)) (hn : pc + 1 = pc')
    (hr : Go p.tables e below G (T.setTop (mkF m pc' Ls (.int (x <<< (y &&& 31)) :: st)))) : Go p.tables e below G (T.setTop (mkF m pc Ls (.int y :: .int x :: st))) := by
  subst hn; exact hr.step fun t k => XS.ishl X.here C.1 rfl (hb C.2.1 hd) rfl k
theorem g_ishr (C : Cx p s m meth c bs mx own mnm rt Z) (X : Stand p l e R s m args below meth c T locs cells slots) {x y : Int32} (hd : decode bs pc = .ok (.ishr, 1)) (hn : pc + 1 = pc')
    (hr : Go p.tables e below G (T.setTop (mkF m pc' Ls (.int (x >>> (y &&& 31)) :: st)))) : Go p.tables e below G (T.setTop (mkF m pc Ls (.int y :: .int x :: st))) := by
  subst hn; exact hr.step fun t k => XS.ishr X.here C.1 rfl (hb C.2.1 hd) rfl k
theorem g_iushr (C : Cx p s m meth c bs mx own mnm rt Z) (X : Stand p l e R s m args below meth c T locs cells slots) {x y : Int32} (hd : decode bs pc = .ok (.iushr, 1)) (hn : pc + 1 = pc')
    (hr : Go p.tables e below G (T.setTop (mkF m pc' Ls (.int ((x.toUInt32 >>> (y &&& 31).toUInt32).toInt32) :: st)))) : Go p.tables e below G (T.setTop (mkF m pc Ls (.int y :: .int x :: st))) := by
  subst hn; exact hr.step fun t k => XS.iushr X.here C.1 rfl (hb C.2.1 hd) rfl k
theorem g_i2b (C : Cx p s m meth c bs mx own mnm rt Z) (X : Stand p l e R s m args below meth c T locs cells slots) {x : Int32} (hd : decode bs pc = .ok (.i2b, 1)) (hn : pc + 1 = pc')
    (hr : Go p.tables e below G (T.setTop (mkF m pc' Ls (.int x.toInt8.toInt32 :: st)))) : Go p.tables e below G (T.setTop (mkF m pc Ls (.int x :: st))) := by
  subst hn; exact hr.step fun t k => XS.i2b X.here C.1 rfl (hb C.2.1 hd) rfl k
theorem g_i2c (C : Cx p s m meth c bs mx own mnm rt Z) (X : Stand p l e R s m args below meth c T locs cells slots) {x : Int32} (hd : decode bs pc = .ok (.i2c, 1)) (hn : pc + 1 = pc')
    (hr : Go p.tables e below G (T.setTop (mkF m pc' Ls (.int x.toUInt32.toUInt16.toUInt32.toInt32 :: st)))) : Go p.tables e below G (T.setTop (mkF m pc Ls (.int x :: st))) := by
  subst hn; exact hr.step fun t k => XS.i2c X.here C.1 rfl (hb C.2.1 hd) rfl k
theorem g_dup (C : Cx p s m meth c bs mx own mnm rt Z) (X : Stand p l e R s m args below meth c T locs cells slots) {x : Value} (hd : decode bs pc = .ok (.dup, 1)) (hc : x.category = 1) (hn : pc + 1 = pc')
    (hr : Go p.tables e below G (T.setTop (mkF m pc' Ls (x :: x :: st)))) : Go p.tables e below G (T.setTop (mkF m pc Ls (x :: st))) := by
  subst hn; exact hr.step fun t k => XS.dup X.here C.1 rfl (hb C.2.1 hd) rfl hc k
theorem g_pop (C : Cx p s m meth c bs mx own mnm rt Z) (X : Stand p l e R s m args below meth c T locs cells slots) {x : Value} (hd : decode bs pc = .ok (.pop, 1)) (hc : x.category = 1) (hn : pc + 1 = pc')
    (hr : Go p.tables e below G (T.setTop (mkF m pc' Ls st))) : Go p.tables e below G (T.setTop (mkF m pc Ls (x :: st))) := by
  subst hn; exact hr.step fun t k => XS.pop X.here C.1 rfl (hb C.2.1 hd) rfl hc k
theorem g_dupX1 (C : Cx p s m meth c bs mx own mnm rt Z) (X : Stand p l e R s m args below meth c T locs cells slots) {x y : Value} (hd : decode bs pc = .ok (.dup_x1, 1)) (hc : x.category = 1) (hc' : y.category = 1) (hn : pc + 1 = pc')
    (hr : Go p.tables e below G (T.setTop (mkF m pc' Ls (x :: y :: x :: st)))) : Go p.tables e below G (T.setTop (mkF m pc Ls (x :: y :: st))) := by
  subst hn; exact hr.step fun t k => XS.dupX1 X.here C.1 rfl (hb C.2.1 hd) rfl hc hc' k
theorem g_iinc (C : Cx p s m meth c bs mx own mnm rt Z) (X : Stand p l e R s m args below meth c T locs cells slots) {k : Nat} {i : Int} {x : Int32} (hd : decode bs pc = .ok (.iinc k i, 3)) (hl : Ls[k]? = some (.val (.int x))) (hl' : storeLocals Ls k (.int (x + Int32.ofInt i)) = some Ls') (hn : pc + 3 = pc')
    (hr : Go p.tables e below G (T.setTop (mkF m pc' Ls' st))) : Go p.tables e below G (T.setTop (mkF m pc Ls st)) := by
  subst hn; exact hr.step fun t k => XS.iinc X.here C.1 rfl (hb C.2.1 hd) hl hl' k
theorem g_goto (C : Cx p s m meth c bs mx own mnm rt Z) (X : Stand p l e R s m args below meth c T locs cells slots) {o : Int} (hd : decode bs pc = .ok (.goto o, 3)) (ho : 0 ≤ (pc : Int) + o) (hp : ((pc : Int) + o).toNat = pc')
    (hr : Go p.tables e below G (T.setTop (mkF m pc' Ls st))) : Go p.tables e below G (T.setTop (mkF m pc Ls st)) :=
  hr.step fun t k => XS.goto X.here C.1 rfl rfl (hb C.2.1 hd) ho hp k
theorem g_icmpY (C : Cx p s m meth c bs mx own mnm rt Z) (X : Stand p l e R s m args below meth c T locs cells slots) {cd : ClassFile.Cond} {x y : Int32} {o : Int} (hd : decode bs pc = .ok (.if_icmp cd o, 3)) (hc : if_icmp.holds cd x y = true) (ho : 0 ≤ (pc : Int) + o) (hp : ((pc : Int) + o).toNat = pc')
    (hr : Go p.tables e below G (T.setTop (mkF m pc' Ls st))) : Go p.tables e below G (T.setTop (mkF m pc Ls (.int y :: .int x :: st))) :=
  hr.step fun t k => XS.icmpYes X.here C.1 rfl rfl (hb C.2.1 hd) rfl hc ho hp k
theorem g_icmpN (C : Cx p s m meth c bs mx own mnm rt Z) (X : Stand p l e R s m args below meth c T locs cells slots) {cd : ClassFile.Cond} {x y : Int32} {o : Int} (hd : decode bs pc = .ok (.if_icmp cd o, 3)) (hc : if_icmp.holds cd x y = false) (hn : pc + 3 = pc')
    (hr : Go p.tables e below G (T.setTop (mkF m pc' Ls st))) : Go p.tables e below G (T.setTop (mkF m pc Ls (.int y :: .int x :: st))) := by
  subst hn; exact hr.step fun t k => XS.icmpNo X.here C.1 rfl (hb C.2.1 hd) rfl hc k
theorem g_ifY (C : Cx p s m meth c bs mx own mnm rt Z) (X : Stand p l e R s m args below meth c T locs cells slots) {cd : ClassFile.Cond} {x : Int32} {o : Int} (hd : decode bs pc = .ok (.ifCond cd o, 3)) (hc : if_icmp.holds cd x 0 = true) (ho : 0 ≤ (pc : Int) + o) (hp : ((pc : Int) + o).toNat = pc')
    (hr : Go p.tables e below G (T.setTop (mkF m pc' Ls st))) : Go p.tables e below G (T.setTop (mkF m pc Ls (.int x :: st))) :=
  hr.step fun t k => XS.ifYes X.here C.1 rfl rfl (hb C.2.1 hd) rfl ((if0 _ _).trans hc) ho hp k
theorem g_ifN (C : Cx p s m meth c bs mx own mnm rt Z) (X : Stand p l e R s m args below meth c T locs cells slots) {cd : ClassFile.Cond} {x : Int32} {o : Int} (hd : decode bs pc = .ok (.ifCond cd o, 3)) (hc : if_icmp.holds cd x 0 = false) (hn : pc + 3 = pc')
    (hr : Go p.tables e below G (T.setTop (mkF m pc' Ls st))) : Go p.tables e below G (T.setTop (mkF m pc Ls (.int x :: st))) := by
  subst hn; exact hr.step fun t k => XS.ifNo X.here C.1 rfl (hb C.2.1 hd) rfl ((if0 _ _).trans hc) k
theorem g_ifnullN (C : Cx p s m meth c bs mx own mnm rt Z) (X : Stand p l e R s m args below meth c T locs cells slots) {b : Addr} {o : Int} (hd : decode bs pc = .ok (.ifnull o, 3)) (hn : pc + 3 = pc')
    (hr : Go p.tables e below G (T.setTop (mkF m pc' Ls st))) : Go p.tables e below G (T.setTop (mkF m pc Ls (.ref b :: st))) := by
  subst hn; exact hr.step fun t k => XS.ifnullNo X.here C.1 rfl (hb C.2.1 hd) rfl k
theorem g_ldc (C : Cx p s m meth c bs mx own mnm rt Z) (X : Stand p l e R s m args below meth c T locs cells slots) {i : Nat} {v : Int32} (hd : decode bs pc = .ok (.ldc i, 2)) (w : (Jvm.Cond.constant own i v).before a0 Z = true) (hn : pc + 2 = pc')
    (hr : Go p.tables e below G (T.setTop (mkF m pc' Ls (.int v :: st)))) : Go p.tables e below G (T.setTop (mkF m pc Ls st)) := by
  subst hn; exact hr.step fun t k => X.ldcInt C.1 C.hown (mvT C.hZ w) (g := mkF m pc Ls st) rfl (hb C.2.1 hd) _ k
theorem g_getS (C : Cx p s m meth c bs mx own mnm rt Z) (X : Stand p l e R s m args below meth c T locs cells slots) {O n d R0 host : String} {i : Nat} {v : Value} (hd : decode bs pc = .ok (.getstatic i, 3)) (w : (Jvm.Cond.fieldLink own i R0 n d).before a0 Z = true ∨ (Jvm.Cond.fieldLinkNest own i R0 n d host).before a0 Z = true) (via : Via Z R0 O n d) (eT : T.heap = h) (F : Sta Z h O n d v) (hn : pc + 3 = pc')
    (hr : ∀ T', Stand p l e R s m args below meth c T' locs cells slots → T'.heap = h → Go p.tables e below G (T'.setTop (mkF m pc' Ls (v :: st)))) : Go p.tables e below G (T.setTop (mkF m pc Ls st)) := by
  subst hn
  obtain ⟨T', X', e', st'⟩ := getS2 X C.1 C.hZ C.hown w via eT F (g := mkF m pc Ls st) rfl (hb C.2.1 hd)
  exact (hr T' X' e').step st'
theorem g_getF (C : Cx p s m meth c bs mx own mnm rt Z) (X : Stand p l e R s m args below meth c T locs cells slots) {O n d R0 host : String} {i : Nat} {a : Addr} {v : Value} (hd : decode bs pc = .ok (.getfield i, 3)) (w : (Jvm.Cond.fieldLink own i R0 n d).before a0 Z = true ∨ (Jvm.Cond.fieldLinkNest own i R0 n d host).before a0 Z = true) (via : Via Z R0 O n d) (eT : T.heap = h) (F : Fld Z h a O n d v) (hn : pc + 3 = pc')
    (hr : ∀ T', Stand p l e R s m args below meth c T' locs cells slots → T'.heap = h → Go p.tables e below G (T'.setTop (mkF m pc' Ls (v :: st)))) : Go p.tables e below G (T.setTop (mkF m pc Ls (.ref a :: st))) := by
  subst hn
  obtain ⟨T', X', e', st'⟩ := getF X C.1 C.hZ C.hown w via eT F (g := mkF m pc Ls (.ref a :: st)) rfl rfl (hb C.2.1 hd)
  exact (hr T' X' e').step st'
theorem g_callS (C : Cx p s m meth c bs mx own mnm rt Z) (X : Stand p l e R s m args below meth c T locs cells slots) {rm : Room} {as' : Array Value} {Q : Option Value → Heap → List Loc → Prop} {ml : Nat} {yb : ByteArray} {yr : Option FieldType} {ce sl W : Nat} {argsL : List Value} {ps : List FieldType} {pr : Option FieldType} {y : MethodName} {i : Nat} (hd : decode bs pc = .ok (.invokestatic i, 3)) (w1 : (Jvm.Cond.methodLink own i y).before a0 Z = true) (w2 : (Jvm.Cond.static y).before a0 Z = true) (w3 : (Jvm.Cond.initialized y.cls).before a0 Z = true) (w4 : (Jvm.Cond.code y yb ml yr).before a0 Z = true) (hy : y.cls ≠ "java/lang/invoke/MethodHandle" ∧ y.cls ≠ "java/lang/invoke/VarHandle")
    (hM : MetFree l y (head1 [Jvm.Cond.code y yb ml yr] rm) (fun a U => a = as' ∧ Z.Warmed39 U.vm ∧ U.heap = h) (fun _ _ _ _ _ => True) (fun _ U o U' => ∃ v L, o = .returned v ∧ Q v U'.heap L ∧ FrameEnd U o U' L rm.cells rm.slots)) (hf : rm.frames + 1 ≤ R.frames) (hlo : W + (ml + 11) + rm.locals ≤ R.locals) (hce : cells + rm.cells = ce) (hsl : slots + rm.slots = sl) (hce' : ce ≤ R.cells) (hsl' : sl ≤ R.slots) (has : argsL.toArray = as') (eT : T.heap = h) (hsz : Ls.size = mx) (hpd : parseMethodDescriptor y.desc = some ⟨ps, pr⟩) (hln : argsL.length = ps.length) (hW : (st.map fun v => v.category).sum ≤ W) (hn : pc + 3 = pc')
    (hr : ∀ v T' L, Stand p l e R s m args below meth c T' (locs ++ L) ce sl → Q v T'.heap L → Go p.tables e below G (T'.setTop (mkF m pc' Ls (v.toList ++ st)))) : Go p.tables e below G (T.setTop (mkF m pc Ls (argsL.reverse ++ st))) := by
  subst hn hce hsl has
  obtain ⟨v, vm1, ⟨T', L', k', n'⟩, -, X', ⟨Lc, hQ, l', y', z'⟩, st'⟩ := Jvm.LawKit.callS X C.1 (y := y) C.hown (mvT C.hZ w1) (mvT C.hZ w2) (mvT C.hZ w3) (mvT C.hZ w4) hy (backOf (W := W) hM C.hZ w4 w3 hf hlo) (g := mkF m pc Ls (argsL.reverse ++ st)) rfl (hsz.trans C.2.2.1.symm) (argsL := argsL) (rest := st) (lenOf hpd hln) rfl (by show 2 * 0 + _ ≤ _; omega) (hb C.2.1 hd) (fun _ _ => ⟨rfl, eT, hce', hsl'⟩)
  dsimp only [Pt.U, Pt.locs, Pt.cells, Pt.slots] at X' l' y' z' st' hQ
  subst l' y' z'
  exact (hr v T' Lc X' hQ).step st'
theorem g_callV (C : Cx p s m meth c bs mx own mnm rt Z) (X : Stand p l e R s m args below meth c T locs cells slots) {rm : Room} {as' : Array Value} {Q : Option Value → Heap → List Loc → Prop} {ml : Nat} {yb : ByteArray} {yr : Option FieldType} {ce sl W : Nat} {argsL : List Value} {ps : List FieldType} {pr : Option FieldType} {K : String} {y z : MethodName} {i : Nat} {b : Addr} (hd : decode bs pc = .ok (.invokevirtual i, 3)) (w1 : (Jvm.Cond.methodLink own i y).before a0 Z = true) (w2 : (Jvm.Cond.declares y).before a0 Z = true) (hnf : NotFace s y) (w3 : (Jvm.Cond.selects K y z).before a0 Z = true) (w4 : (Jvm.Cond.instanceMethod z).before a0 Z = true) (w5 : (Jvm.Cond.initialized z.cls).before a0 Z = true) (w6 : (Jvm.Cond.code z yb ml yr).before a0 Z = true) (hy : y.cls ≠ "java/lang/invoke/MethodHandle" ∧ y.cls ≠ "java/lang/invoke/VarHandle")
    (hM : MetFree l z (head1 [Jvm.Cond.code z yb ml yr] rm) (fun a U => a = as' ∧ Z.Warmed39 U.vm ∧ U.heap = h) (fun _ _ _ _ _ => True) (fun _ U o U' => ∃ v L, o = .returned v ∧ Q v U'.heap L ∧ FrameEnd U o U' L rm.cells rm.slots)) (hf : rm.frames + 1 ≤ R.frames) (hlo : W + (ml + 11) + rm.locals ≤ R.locals) (hce : cells + rm.cells = ce) (hsl : slots + rm.slots = sl) (hce' : ce ≤ R.cells) (hsl' : sl ≤ R.slots) (has : (.ref b :: argsL).toArray = as') (E : Exa Z h b K) (eT : T.heap = h) (hsz : Ls.size = mx) (hpd : parseMethodDescriptor y.desc = some ⟨ps, pr⟩) (hln : argsL.length = ps.length) (hW : (st.map fun v => v.category).sum ≤ W) (hn : pc + 3 = pc')
    (hr : ∀ v T' L, Stand p l e R s m args below meth c T' (locs ++ L) ce sl → Q v T'.heap L → Go p.tables e below G (T'.setTop (mkF m pc' Ls (v.toList ++ st)))) : Go p.tables e below G (T.setTop (mkF m pc Ls (argsL.reverse ++ .ref b :: st))) := by
  subst hn hce hsl has
  obtain ⟨cq, kq, qa, qb, qc⟩ := isOf C.hZ eT E
  obtain ⟨v, vm1, ⟨T', L', k', n'⟩, -, X', ⟨Lc, hQ, l', y', z'⟩, st'⟩ := X.virtualBack C.1 (y := y) (z := z) C.hown (mvT C.hZ w1) (mvT C.hZ w2) hnf (mvT C.hZ w3) (mvT C.hZ w4) hy (backOf (W := W) hM C.hZ w6 w5 hf hlo) qa qc (g := mkF m pc Ls (argsL.reverse ++ .ref b :: st)) rfl (hsz.trans C.2.2.1.symm) (Steps.refl _) (argsL := argsL) (rest := st) (lenOf hpd hln) rfl (by show 2 * 0 + _ ≤ _; omega) (hb C.2.1 hd) (fun _ _ => ⟨rfl, eT, hce', hsl'⟩)
  dsimp only [Pt.U, Pt.locs, Pt.cells, Pt.slots] at X' l' y' z' st' hQ
  subst l' y' z'
  exact (hr v T' Lc X' hQ).step fun t k => st'.trans k
theorem g_callI (C : Cx p s m meth c bs mx own mnm rt Z) (X : Stand p l e R s m args below meth c T locs cells slots) {rm : Room} {as' : Array Value} {Q : Option Value → Heap → List Loc → Prop} {ml : Nat} {yb : ByteArray} {ce sl W : Nat} {argsL : List Value} {ps : List FieldType} {pr : Option FieldType} {y : MethodName} {i : Nat} {b : Addr} (hy1 : y.name = "<init>") (hd : decode bs pc = .ok (.invokespecial i, 3)) (w1 : (Jvm.Cond.methodLink own i y).before a0 Z = true) (w2 : (Jvm.Cond.instanceMethod y).before a0 Z = true) (w3 : (Jvm.Cond.initialized y.cls).before a0 Z = true) (w4 : (Jvm.Cond.code y yb ml none).before a0 Z = true) (hy : y.cls ≠ "java/lang/invoke/MethodHandle" ∧ y.cls ≠ "java/lang/invoke/VarHandle")
    (hM : MetFree l y (head1 [Jvm.Cond.code y yb ml none] rm) (fun a U => a = as' ∧ Z.Warmed39 U.vm ∧ U.heap = h) (fun _ _ _ _ _ => True) (fun _ U o U' => ∃ v L, o = .returned v ∧ Q v U'.heap L ∧ FrameEnd U o U' L rm.cells rm.slots)) (hf : rm.frames + 1 ≤ R.frames) (hlo : W + (ml + 11) + rm.locals ≤ R.locals) (hce : cells + rm.cells = ce) (hsl : slots + rm.slots = sl) (hce' : ce ≤ R.cells) (hsl' : sl ≤ R.slots) (has : (.ref b :: argsL).toArray = as') (eT : T.heap = h) (hsz : Ls.size = mx) (hpd : parseMethodDescriptor y.desc = some ⟨ps, pr⟩) (hln : argsL.length = ps.length) (hW : (st.map fun v => v.category).sum ≤ W) (hn : pc + 3 = pc')
    (hr : ∀ v T' L, Stand p l e R s m args below meth c T' (locs ++ L) ce sl → Q v T'.heap L → Go p.tables e below G (T'.setTop (mkF m pc' Ls (v.toList ++ st)))) : Go p.tables e below G (T.setTop (mkF m pc Ls (argsL.reverse ++ .ref b :: st))) := by
  subst hn hce hsl has
  obtain ⟨v, vm1, ⟨T', L', k', n'⟩, -, X', ⟨Lc, hQ, l', y', z'⟩, st'⟩ := X.specialBack C.1 (y := y) hy1 C.hown (mvT C.hZ w1) (mvT C.hZ w2) (mvT C.hZ w4) hy (backOf (W := W) hM C.hZ w4 w3 hf hlo) (g := mkF m pc Ls (argsL.reverse ++ .ref b :: st)) rfl (hsz.trans C.2.2.1.symm) (Steps.refl _) (a := b) (argsL := argsL) (rest := st) (lenOf hpd hln) rfl (by show 2 * 0 + _ ≤ _; omega) (hb C.2.1 hd) (fun _ _ => ⟨rfl, eT, hce', hsl'⟩)
  dsimp only [Pt.U, Pt.locs, Pt.cells, Pt.slots] at X' l' y' z' st' hQ
  subst l' y' z'
  exact (hr v T' Lc X' hQ).step fun t k => st'.trans k
theorem g_retI (C : Cx p s m meth c bs mx own mnm (some .int) Z) (X : Stand p l e R s m args below meth c T locs cells slots) {Q : Option Value → Heap → List Loc → Prop} {ce sl : Nat} {z : Int32} (hd : decode bs pc = .ok (.ireturn, 1)) (hc : cells ≤ ce) (hs : slots ≤ sl) (hQ : Q (some (.int z)) T.heap locs) : Go p.tables e below (End s Q ce sl) (T.setTop (mkF m pc Ls (.int z :: st))) := by
  obtain ⟨fs, hr, hrun, hended, hW, hsame⟩ := X.leave (v := (some (.int z))) (fun h => by rw [C.ret] at h; cases h) C.locks
  exact ⟨_, _, retOut X C.1 C.ret rfl (Or.inl ⟨rfl, Or.inl rfl, _, rfl⟩) (hb C.2.1 hd) hr, hrun, hended, _, _, rfl, hQ, ⟨_, rfl⟩, hW, hsame.mono hc hs⟩
theorem g_retA {t : FieldType} (C : Cx p s m meth c bs mx own mnm (some t) Z) (X : Stand p l e R s m args below meth c T locs cells slots) {Q : Option Value → Heap → List Loc → Prop} {ce sl : Nat} {v : Value} (ht : t.isReference = true) (hnw : narrow t v = v) (hv : v.isRef = true) (hd : decode bs pc = .ok (.areturn, 1)) (hc : cells ≤ ce) (hs : slots ≤ sl) (hQ : Q (some v) T.heap locs) : Go p.tables e below (End s Q ce sl) (T.setTop (mkF m pc Ls (v :: st))) := by
  obtain ⟨fs, hr, hrun, hended, hW, hsame⟩ := X.leave (v := (some v)) (fun h => by rw [C.ret] at h; cases h) C.locks
  exact ⟨_, _, retOut X C.1 C.ret hnw (Or.inr (Or.inr (Or.inr (Or.inr ⟨rfl, ht, hv⟩)))) (hb C.2.1 hd) hr, hrun, hended, _, _, rfl, hQ, ⟨_, rfl⟩, hW, hsame.mono hc hs⟩
theorem g_retN {t : FieldType} (C : Cx p s m meth c bs mx own mnm (some t) Z) (X : Stand p l e R s m args below meth c T locs cells slots) {Q : Option Value → Heap → List Loc → Prop} {ce sl : Nat} {z : Int32} (ht : t = .boolean ∨ t = .byte ∨ t = .char ∨ t = .short) (hd : decode bs pc = .ok (.ireturn, 1)) (hc : cells ≤ ce) (hs : slots ≤ sl) (hQ : Q (some (.int (nar t z))) T.heap locs) : Go p.tables e below (End s Q ce sl) (T.setTop (mkF m pc Ls (.int z :: st))) := by
  obtain ⟨fs, hr, hrun, hended, hW, hsame⟩ := X.leave (v := (some (.int (nar t z)))) (fun h => by rw [C.ret] at h; cases h) C.locks
  exact ⟨_, _, retN X C.1 C.ret ht (hb C.2.1 hd) hr, hrun, hended, _, _, rfl, hQ, ⟨_, rfl⟩, hW, hsame.mono hc hs⟩
theorem g_retV (C : Cx p s m meth c bs mx own mnm none Z) (X : Stand p l e R s m args below meth c T locs cells slots) {Q : Option Value → Heap → List Loc → Prop} {ce sl : Nat}  (hd : decode bs pc = .ok (.return_, 1)) (hc : cells ≤ ce) (hs : slots ≤ sl) (hQ : Q none T.heap locs) : Go p.tables e below (End s Q ce sl) (T.setTop (mkF m pc Ls [])) := by
  obtain ⟨fs, hr, hrun, hended, hW, hsame⟩ := X.leave (v := none) (fun _ => rfl) C.locks
  exact ⟨_, _, X.returnOut C.1 C.ret (hb C.2.1 hd) hr, hrun, hended, _, _, rfl, hQ, ⟨_, rfl⟩, hW, hsame.mono hc hs⟩
theorem g_new (C : Cx p s m meth c bs mx own mnm rt Z) (X : Stand p l e R s m args below meth c T locs cells slots) {K : String} {i n ce sl : Nat} (hd : decode bs pc = .ok (.new i, 3)) (w : (Jvm.Cond.classLink own i K).before a0 Z = true) (wi : (Jvm.Cond.instantiable K n).before a0 Z = true) (wz : (Jvm.Cond.initialized K).before a0 Z = true) (eT : T.heap = h) (hce : cells + 1 = ce) (hsl : slots + n = sl) (hce' : ce ≤ R.cells) (hsl' : sl ≤ R.slots) (hn : pc + 3 = pc')
    (hr : ∀ T' h' b, b = h.size → Stand p l e R s m args below meth c T' locs ce sl → T'.heap = h' → Ext h h' → Exa Z h' b K → (∀ {O nm d : String} {ty : FieldType}, Laid Z a0 K O nm d → parseFieldDescriptor d = some ty → Fld Z h' b O nm d (defaultValue ty)) → Go p.tables e below G (T'.setTop (mkF m pc' Ls (.ref b :: st)))) : Go p.tables e below G (T.setTop (mkF m pc Ls st)) := by
  subst hn hce hsl
  obtain ⟨T', h', X', e', E', A', D', -, st'⟩ := newO X C.1 C.hZ C.hown w wi wz eT (g := mkF m pc Ls st) rfl (hb C.2.1 hd) hce' hsl'
  exact (hr T' h' _ rfl X' e' E' A' D').step st'
theorem g_initO (C : Cx p s m meth c bs mx own mnm rt Z) (X : Stand p l e R s m args below meth c T locs cells slots) {i W : Nat} {a : Addr} (hd : decode bs pc = .ok (.invokespecial i, 3)) (w1 : (Jvm.Cond.methodLink own i Lib.objectInit).before a0 Z = true) (w2 : (Jvm.Cond.instanceMethod Lib.objectInit).before a0 Z = true) (w3 : (Jvm.Cond.code Lib.objectInit object_method_1_code 1 none).before a0 Z = true) (eT : T.heap = h) (hsz : Ls.size = mx) (hf : 1 ≤ R.frames) (hW : (st.map fun v => v.category).sum ≤ W) (hl : W + 12 ≤ R.locals) (hn : pc + 3 = pc')
    (hr : ∀ T', Stand p l e R s m args below meth c T' locs cells slots → T'.heap = h → Go p.tables e below G (T'.setTop (mkF m pc' Ls st))) : Go p.tables e below G (T.setTop (mkF m pc Ls (.ref a :: st))) := by
  subst hn
  obtain ⟨T', X', e', st'⟩ := initO X C.1 C.hZ C.hown w1 w2 w3 eT (g := mkF m pc Ls (.ref a :: st)) rfl (hsz.trans C.2.2.1.symm) rfl (hb C.2.1 hd) hf (W := W) (by show 2 * 0 + _ ≤ _; omega) hl
  exact (hr T' X' e').step st'
theorem g_putF (C : Cx p s m meth c bs mx own mnm rt Z) (X : Stand p l e R s m args below meth c T locs cells slots) {O n d R0 host K : String} {i kk : Nat} {ty : FieldType} {a : Addr} {v old : Value} (hd : decode bs pc = .ok (.putfield i, 3)) (w : (Jvm.Cond.fieldLink own i R0 n d).before a0 Z = true ∨ (Jvm.Cond.fieldLinkNest own i R0 n d host).before a0 Z = true) (via : Via Z R0 O n d) (eT : T.heap = h) (F : Fld Z h a O n d old) (E : Exa Z h a K) (L : (Jvm.Cond.lays K O n d).before a0 Z = true ∨ ((Jvm.Cond.laysFinal K O n d).before a0 Z = true ∧ own = O ∧ mnm = "<init>")) (wi : (Jvm.Cond.instantiable K kk).before a0 Z = true) (hty : parseFieldDescriptor d = some ty) (hnw : narrow ty v = v) (hf : fits ty v = true) (hn : pc + 3 = pc')
    (hr : ∀ T' h', Stand p l e R s m args below meth c T' (locs ++ [⟨a, Jvm.RoadKit.slotOf Z O n d⟩]) cells slots → T'.heap = h' → Wr h h' a (Jvm.RoadKit.slotOf Z O n d) v → Go p.tables e below G (T'.setTop (mkF m pc' Ls st))) : Go p.tables e below G (T.setTop (mkF m pc Ls (v :: .ref a :: st))) := by
  subst hn
  obtain ⟨T', h', X', e', W', st'⟩ := putF X C.1 C.hZ C.hown w via eT F E (L.imp id fun q => ⟨q.1, q.2.1, C.nm.trans q.2.2⟩) wi hty hnw hf (g := mkF m pc Ls (v :: .ref a :: st)) rfl rfl (hb C.2.1 hd)
  exact (hr T' h' X' e' W').step st'
theorem g_putFN (C : Cx p s m meth c bs mx own mnm rt Z) (X : Stand p l e R s m args below meth c T locs cells slots) {O n d R0 K : String} {i kk : Nat} {ty : FieldType} {a : Addr} {v v' old : Value} (hd : decode bs pc = .ok (.putfield i, 3)) (w : (Jvm.Cond.fieldLink own i R0 n d).before a0 Z = true) (via : Via Z R0 O n d) (eT : T.heap = h) (F : Fld Z h a O n d old) (E : Exa Z h a K) (L : (Jvm.Cond.lays K O n d).before a0 Z = true ∨ ((Jvm.Cond.laysFinal K O n d).before a0 Z = true ∧ own = O ∧ mnm = "<init>")) (wi : (Jvm.Cond.instantiable K kk).before a0 Z = true) (hty : parseFieldDescriptor d = some ty) (hnw : narrow ty v = v') (hf : fits ty v' = true) (hn : pc + 3 = pc')
    (hr : ∀ T' h', Stand p l e R s m args below meth c T' (locs ++ [⟨a, Jvm.RoadKit.slotOf Z O n d⟩]) cells slots → T'.heap = h' → Wr h h' a (Jvm.RoadKit.slotOf Z O n d) v' → Go p.tables e below G (T'.setTop (mkF m pc' Ls st))) : Go p.tables e below G (T.setTop (mkF m pc Ls (v :: .ref a :: st))) := by
  subst hn
  obtain ⟨T', h', X', e', W', st'⟩ := putFN X C.1 C.hZ C.hown w via eT F E (L.imp id fun q => ⟨q.1, q.2.1, C.nm.trans q.2.2⟩) wi hty hnw hf (g := mkF m pc Ls (v :: .ref a :: st)) rfl rfl (hb C.2.1 hd)
  exact (hr T' h' X' e' W').step st'
theorem g_newP (C : Cx p s m meth c bs mx own mnm rt Z) (X : Stand p l e R s m args below meth c T locs cells slots) {aty : ArrayType} {n : Int32} {cap ce sl : Nat} (hd : decode bs pc = .ok (.newarray aty, 2)) (w : (Jvm.Cond.arrayClass (newarray.typeOf aty)).before a0 Z = true) (eT : T.heap = h) (hn0 : ¬ n < 0) (hcap : n.toNatClampNeg ≤ cap) (hb8 : cap * 8 ≤ 536870912) (hce : cells + 1 = ce) (hsl : slots + cap = sl) (hce' : ce ≤ R.cells) (hsl' : sl ≤ R.slots) (hn : pc + 2 = pc')
    (hr : ∀ T' h' b k, b = h.size → Stand p l e R s m args below meth c T' locs ce sl → T'.heap = h' → Ext h h' → Arv Z h' b k (newarray.typeOf aty) n [] (defaultValue (newarray.typeOf aty)) → Go p.tables e below G (T'.setTop (mkF m pc' Ls (.ref b :: st)))) : Go p.tables e below G (T.setTop (mkF m pc Ls (.int n :: st))) := by
  subst hn hce hsl
  obtain ⟨T', h', k', X', e', E', A', st'⟩ := newP X C.1 C.hZ w eT (g := mkF m pc Ls (.int n :: st)) rfl (hb C.2.1 hd) rfl hn0 hcap hb8 hce' hsl'
  exact (hr T' h' _ k' rfl X' e' E' (Arv.new A' hn0)).step st'
theorem g_stB (C : Cx p s m meth c bs mx own mnm rt Z) (X : Stand p l e R s m args below meth c T locs cells slots) {a : Addr} {k : ClassId} {n j : Int32} {x : Int32} {vs : List Value} {dv : Value} {i : Nat} (hd : decode bs pc = .ok (.bastore, 1)) (eT : T.heap = h) (F : Arv Z h a k .byte n vs dv) (hj : ¬ j < 0 ∧ j < n) (hji : j.toNatClampNeg = i) (hi : i < vs.length) (hn : pc + 1 = pc')
    (hr : ∀ T' h', Stand p l e R s m args below meth c T' (locs ++ [⟨a, j.toNatClampNeg⟩]) cells slots → T'.heap = h' → Wr h h' a j.toNatClampNeg (.int (nar .byte x)) → Arv Z h' a k .byte n (vs.set i (.int (nar .byte x))) dv → Go p.tables e below G (T'.setTop (mkF m pc' Ls st))) : Go p.tables e below G (T.setTop (mkF m pc Ls (.int x :: .int j :: .ref a :: st))) := by
  subst hn
  obtain ⟨cl, A, q, Sz, N, H, Gf⟩ := F
  obtain ⟨T', h', X', e', W', st'⟩ := stB X C.1 C.hZ eT A (j := j) (inb_of Sz hj) (g := mkF m pc Ls (.int x :: .int j :: .ref a :: st)) rfl rfl (hb C.2.1 hd)
  exact (hr T' h' X' e' W' (Arv.set A q Sz N H Gf (fits_nar_byte _) W' i hji hi)).step st'
theorem g_stC (C : Cx p s m meth c bs mx own mnm rt Z) (X : Stand p l e R s m args below meth c T locs cells slots) {a : Addr} {k : ClassId} {n j : Int32} {x : Int32} {vs : List Value} {dv : Value} {i : Nat} (hd : decode bs pc = .ok (.castore, 1)) (eT : T.heap = h) (F : Arv Z h a k .char n vs dv) (hj : ¬ j < 0 ∧ j < n) (hji : j.toNatClampNeg = i) (hi : i < vs.length) (hn : pc + 1 = pc')
    (hr : ∀ T' h', Stand p l e R s m args below meth c T' (locs ++ [⟨a, j.toNatClampNeg⟩]) cells slots → T'.heap = h' → Wr h h' a j.toNatClampNeg (.int (nar .char x)) → Arv Z h' a k .char n (vs.set i (.int (nar .char x))) dv → Go p.tables e below G (T'.setTop (mkF m pc' Ls st))) : Go p.tables e below G (T.setTop (mkF m pc Ls (.int x :: .int j :: .ref a :: st))) := by
  subst hn
  obtain ⟨cl, A, q, Sz, N, H, Gf⟩ := F
  obtain ⟨T', h', X', e', W', st'⟩ := stC X C.1 C.hZ eT A (j := j) (inb_of Sz hj) (g := mkF m pc Ls (.int x :: .int j :: .ref a :: st)) rfl rfl (hb C.2.1 hd)
  exact (hr T' h' X' e' W' (Arv.set A q Sz N H Gf (fits_nar_char _) W' i hji hi)).step st'
theorem g_ldB (C : Cx p s m meth c bs mx own mnm rt Z) (X : Stand p l e R s m args below meth c T locs cells slots) {a : Addr} {k : ClassId} {n j : Int32} {vs : List Value} {dv v : Value} (hd : decode bs pc = .ok (.baload, 1)) (eT : T.heap = h) (F : Arv Z h a k .byte n vs dv) (hj : ¬ j < 0 ∧ j < n) (hv : vs.getD j.toNatClampNeg dv = v) (hn : pc + 1 = pc')
    (hr : Go p.tables e below G (T.setTop (mkF m pc' Ls (v :: st)))) : Go p.tables e below G (T.setTop (mkF m pc Ls (.int j :: .ref a :: st))) := by
  subst hn
  obtain ⟨cl, A, q, Sz, N, H, Gf⟩ := F
  have hin := inb_of Sz hj
  exact hr.step fun t k => X.baloadBytes C.1 (j := j) (by rw [eT]; exact A.1) (State.isArrayOf_alike C.hZ.alike A.2.1) A.2.2 hin ((H _ (Nat.lt_of_not_le fun q => hin (Or.inr q))).trans (congrArg some hv)) (g := mkF m pc Ls (.int j :: .ref a :: st)) rfl rfl (hb C.2.1 hd) _ k
theorem g_ldC (C : Cx p s m meth c bs mx own mnm rt Z) (X : Stand p l e R s m args below meth c T locs cells slots) {a : Addr} {k : ClassId} {n j : Int32} {vs : List Value} {dv v : Value} (hd : decode bs pc = .ok (.caload, 1)) (eT : T.heap = h) (F : Arv Z h a k .char n vs dv) (hj : ¬ j < 0 ∧ j < n) (hv : vs.getD j.toNatClampNeg dv = v) (hn : pc + 1 = pc')
    (hr : Go p.tables e below G (T.setTop (mkF m pc' Ls (v :: st)))) : Go p.tables e below G (T.setTop (mkF m pc Ls (.int j :: .ref a :: st))) := by
  subst hn
  obtain ⟨cl, A, q, Sz, N, H, Gf⟩ := F
  have hin := inb_of Sz hj
  exact hr.step fun t k => X.caload C.1 (j := j) (by rw [eT]; exact A.1) (State.isArrayOf_alike C.hZ.alike A.2.1) A.2.2 hin ((H _ (Nat.lt_of_not_le fun q => hin (Or.inr q))).trans (congrArg some hv)) (g := mkF m pc Ls (.int j :: .ref a :: st)) rfl rfl (hb C.2.1 hd) _ k
theorem g_len (C : Cx p s m meth c bs mx own mnm rt Z) (X : Stand p l e R s m args below meth c T locs cells slots) {a : Addr} {k : ClassId} {n : Int32} {ty : FieldType} {vs : List Value} {dv : Value} (hd : decode bs pc = .ok (.arraylength, 1)) (eT : T.heap = h) (F : Arv Z h a k ty n vs dv) (hn : pc + 1 = pc')
    (hr : Go p.tables e below G (T.setTop (mkF m pc' Ls (.int n :: st)))) : Go p.tables e below G (T.setTop (mkF m pc Ls (.ref a :: st))) := by
  subst hn
  obtain ⟨cl, A, q, Sz, N, H, Gf⟩ := F
  exact hr.step fun t k => X.arraylength C.1 (by rw [eT]; exact A.1) (State.isArrayOf_alike C.hZ.alike A.2.1) (g := mkF m pc Ls (.ref a :: st)) rfl rfl (hb C.2.1 hd) _ (by rw [len_of Sz N]; exact k)
theorem own_sta_keep {h' : Heap} {ws : List Addr} {K n d : String} {v : Value} (F : Sta Z h K n d v) (Kp : Keep h h' ws) (q : ∀ a ∈ ws, ∃ c : Cell, h[a]? = some c ∧ c.vm.isStatics = false) : Sta Z h' K n d v := by
  obtain ⟨cf, i, k, f, st, cell, h1, h2, h3, h4, h5, h6, h7⟩ := F
  refine ⟨cf, i, k, f, st, cell, h1, h2, h3, h4, Kp.2.1 st cell h5 (fun hm => ?_), h6, h7⟩
  obtain ⟨c', e1, e2⟩ := q st hm
  cases h5.symm.trans e1
  rw [h6] at e2
  cases e2
theorem own_fin (n : Nat) (x : Int32) (h0 : 0 ≤ x.toInt) (h1 : x.toInt < n) : ∃ i : Fin n, x = Int32.ofNat i.val :=
  ⟨⟨x.toNatClampNeg, by show x.toInt.toNat < n; omega⟩, (back32 (by rw [Int32.lt_iff_toInt_lt]; show ¬ x.toInt < 0; omega)).1.symm⟩
theorem g_cp (C : Cx p s m meth c bs mx own mnm rt Z) (X : Stand p l e R s m args below meth c T locs cells slots) {i W n0 : Nat} {a b : Addr} {k k' : ClassId} {ty : FieldType} {z z' sp dp nn : Int32} {vs vd us : List Value} {dv dd : Value} (hd : decode bs pc = .ok (.invokestatic i, 3)) (w1 : (Jvm.Cond.methodLink own i Jvm.Stand.acN).before a0 Z = true) (w2 : (Jvm.Cond.native Jvm.Stand.acN).before a0 Z = true) (w3 : (Jvm.Cond.static Jvm.Stand.acN).before a0 Z = true) (w4 : (Jvm.Cond.initialized "java/lang/System").before a0 Z = true) (eT : T.heap = h) (A : Arv Z h a k ty z vs dv) (B : Arv Z h b k' ty z' vd dd) (hty : refKind ty = false)
    (h1 : ¬ sp < 0) (h2 : ¬ dp < 0) (h3 : ¬ nn < 0) (h4 : sp.toNatClampNeg + nn.toNatClampNeg ≤ z.toNatClampNeg) (h5 : dp.toNatClampNeg + nn.toNatClampNeg ≤ z'.toNatClampNeg) (hus : us = (List.range nn.toNatClampNeg).map fun i => vs.getD (sp.toNatClampNeg + i) dv) (hl : dp.toNatClampNeg + nn.toNatClampNeg ≤ vd.length) (N : Fr n0 locs) (ge : n0 ≤ b) (hsz : Ls.size = mx) (hf : 1 ≤ R.frames) (hW : (st.map fun v => v.category).sum ≤ W) (hlo : W + (nativeFrameWords "java/lang/System" "arraycopy" 5 + 11) ≤ R.locals) (hn : pc + 3 = pc')
    (hr : ∀ T' h' L, Stand p l e R s m args below meth c T' L cells slots → T'.heap = h' → Fr n0 L → Keep h h' [b] → Arv Z h' b k' ty z' (vd.take dp.toNatClampNeg ++ us ++ vd.drop (dp.toNatClampNeg + nn.toNatClampNeg)) dd → Go p.tables e below G (T'.setTop (mkF m pc' Ls st))) : Go p.tables e below G (T.setTop (mkF m pc Ls (.int nn :: .int dp :: .ref b :: .int sp :: .ref a :: st))) := by
  subst hn
  obtain ⟨T', h', L', X', e', N', K', A', st'⟩ := cpA X C.1 C.hZ C.hown w1 w2 w3 w4 eT A B (Or.inl ⟨rfl, hty⟩) h1 h2 h3 h4 h5 hus hl N ge (g := mkF m pc Ls (.int nn :: .int dp :: .ref b :: .int sp :: .ref a :: st)) rfl (hsz.trans C.2.2.1.symm) rfl (hb C.2.1 hd) hf (W := W) (by show 2 * 0 + _ ≤ _; omega) hlo
  exact (hr T' h' L' X' e' N' K' A').step st'
theorem own_fitc {a : Addr} {k : ClassId} {ty : FieldType} {n : Int32} {vs : List Value} {dv : Value} {cl : Cell} (A : Arr Z h a cl ty) (Hs : Has cl vs dv) (Gf : ∀ i, i < cl.slots.size → fits ty (vs.getD i dv) = true) : FitC Z cl := fun i v hv => by
  obtain ⟨hi, -⟩ := Array.getElem?_eq_some_iff.mp hv
  have e := Hs i hi
  rw [hv] at e
  obtain rfl := Option.some.inj e
  obtain ⟨-, kk, hk, comp, hkind⟩ := A.2.1
  simp [State.fitsSlot, State.slotType?, hk, hkind]
  simpa using Gf i hi
theorem g_clone (C : Cx p s m meth c bs mx own mnm rt Z) (X : Stand p l e R s m args below meth c T locs cells slots) {i W cap ce sl : Nat} {ad : String} {a : Addr} {k : ClassId} {ty : FieldType} {n : Int32} {vs : List Value} {dv : Value} (hd : decode bs pc = .ok (.invokevirtual i, 3)) (w1 : (Jvm.Cond.methodLink own i ⟨ad, "clone", "()Ljava/lang/Object;"⟩).before a0 Z = true) (w2 : (Jvm.Cond.sameMethod ad "java/lang/Object" "clone" "()Ljava/lang/Object;").before a0 Z = true) (w3 : (Jvm.Cond.native ⟨"java/lang/Object", "clone", "()Ljava/lang/Object;"⟩).before a0 Z = true) (w4 : (Jvm.Cond.instanceMethod ⟨"java/lang/Object", "clone", "()Ljava/lang/Object;"⟩).before a0 Z = true) (w5 : (Jvm.Cond.selects ad ⟨ad, "clone", "()Ljava/lang/Object;"⟩ ⟨"java/lang/Object", "clone", "()Ljava/lang/Object;"⟩).before a0 Z = true) (w6 : (Jvm.Cond.castable ad "java/lang/Cloneable").before a0 Z = true)
    (eT : T.heap = h) (F : Arv Z h a k ty n vs dv) (E : Exa Z h a ad) (hsz : Ls.size = mx) (hf : 1 ≤ R.frames) (hW : (st.map fun v => v.category).sum ≤ W) (hlo : W + 14 ≤ R.locals) (hcap : n.toNatClampNeg ≤ cap) (hce : cells + 1 = ce) (hsl : slots + cap = sl) (hce' : ce ≤ R.cells) (hsl' : sl ≤ R.slots) (hn : pc + 3 = pc')
    (hr : ∀ T' h' b, b = h.size → Stand p l e R s m args below meth c T' locs ce sl → T'.heap = h' → Ext h h' → Arv Z h' b k ty n vs dv → Exa Z h' b ad → Go p.tables e below G (T'.setTop (mkF m pc' Ls (.ref b :: st)))) : Go p.tables e below G (T.setTop (mkF m pc Ls (.ref a :: st))) := by
  subst hn hce hsl
  obtain ⟨cl, A, q, Sz, N, H, Gf⟩ := F
  obtain ⟨T', h', X', e', E', A', Ex', st'⟩ := cloneA X C.1 C.hZ C.hown w1 w2 w3 w4 w5 w6 eT A E (own_fitc (k := k) (n := n) A H Gf) (g := mkF m pc Ls (.ref a :: st)) rfl (hsz.trans C.2.2.1.symm) rfl (hb C.2.1 hd) hf (W := W) (by show 2 * 0 + _ ≤ _; omega) hlo (by rw [Sz]; exact hcap) hce' hsl'
  exact (hr T' h' _ rfl X' e' E' ⟨cloneOf cl, A', q, Sz, N, H, Gf⟩ Ex').step st'
theorem g_castY (C : Cx p s m meth c bs mx own mnm rt Z) (X : Stand p l e R s m args below meth c T locs cells slots) {i : Nat} {K : String} {a : Addr} (hd : decode bs pc = .ok (.checkcast i, 3)) (w : (Jvm.Cond.classLink own i K).before a0 Z = true) (eT : T.heap = h) (Iy : Ins Z h a K true) (hn : pc + 3 = pc')
    (hr : ∀ T', Stand p l e R s m args below meth c T' locs cells slots → T'.heap = h → Go p.tables e below G (T'.setTop (mkF m pc' Ls (.ref a :: st)))) : Go p.tables e below G (T.setTop (mkF m pc Ls (.ref a :: st))) := by
  subst hn
  obtain ⟨T', X', e', st'⟩ := castY X C.1 C.hZ C.hown w eT Iy (g := mkF m pc Ls (.ref a :: st)) rfl rfl (hb C.2.1 hd)
  exact (hr T' X' e').step st'
theorem own_cast {tb : Tables} {S S' : State} (q : S = S') (g : Go tb e below G S') : Go tb e below G S := q ▸ g
theorem own_nface {K : String} {y z z' : MethodName} (w : (Jvm.Cond.selects K z z').before a0 Z = true) (hz : z = z') (hc : z.cls = y.cls) (hZ : Z.Warmed39 s.vm) : NotFace s y := fun r0 h0 => by
  subst hz
  have n1 : NotFace s z := notFace_of_selects (args := #[]) (mvT hZ w)
  obtain ⟨c2, r2, m2, q1, q2, q3, q4, kP, hkP, hkPi⟩ := Cond.selects_spec (mvT (args := #[]) hZ w)
  have e1 := findClass_of_methodNamed h0
  have e2 := findClass_of_methodNamed q3
  rw [hc] at e2
  have e3 : r0.cls = m2.cls := Option.some.inj (e1.symm.trans e2)
  obtain ⟨kr, hk, hi⟩ := n1 _ q3
  exact ⟨kr, by rw [e3]; exact hk, hi⟩
theorem own_same {y : MethodName} (wi : (Jvm.Cond.instanceMethod y).before a0 Z = true) (nf : NotFace Z y) (hy : y.cls ≠ "java/lang/invoke/MethodHandle" ∧ y.cls ≠ "java/lang/invoke/VarHandle") : (Jvm.Cond.sameMethod y.cls y.cls y.name y.desc).before a0 Z = true := by
  obtain ⟨mk, meth, hn, -⟩ := Cond.instanceMethod_spec wi
  have hf := State.methodFound?_of_named hn hy
  have hc := findClass_of_methodNamed hn
  obtain ⟨kr, hk, hi⟩ := nf _ hn
  simp [Cond.before, Cond.holds, Cond.value, hc, hf, show Z.methodNamed? ⟨y.cls, y.name, y.desc⟩ = some mk from hn, hk, hi]
theorem g_callU (C : Cx p s m meth c bs mx own mnm rt Z) (X : Stand p l e R s m args below meth c T locs cells slots) {rm : Room} {as' : Array Value} {Q : Option Value → Heap → List Loc → Prop} {ml : Nat} {yb : ByteArray} {yr : Option FieldType} {ce sl W : Nat} {argsL : List Value} {ps : List FieldType} {pr : Option FieldType} {K : String} {y : MethodName} {i : Nat} {b : Addr} (hd : decode bs pc = .ok (.invokespecial i, 3)) (w1 : (Jvm.Cond.methodLink own i y).before a0 Z = true) (w2 : (Jvm.Cond.instanceMethod y).before a0 Z = true) (nf : NotFace Z y) (w4 : (Jvm.Cond.superclass own y.cls).before a0 Z = true) (hy0 : y.name ≠ "<init>") (w5 : (Jvm.Cond.initialized y.cls).before a0 Z = true) (w6 : (Jvm.Cond.code y yb ml yr).before a0 Z = true) (hy : y.cls ≠ "java/lang/invoke/MethodHandle" ∧ y.cls ≠ "java/lang/invoke/VarHandle")
    (hM : MetFree l y (head1 [Jvm.Cond.code y yb ml yr] rm) (fun a U => a = as' ∧ Z.Warmed39 U.vm ∧ U.heap = h) (fun _ _ _ _ _ => True) (fun _ U o U' => ∃ v L, o = .returned v ∧ Q v U'.heap L ∧ FrameEnd U o U' L rm.cells rm.slots)) (hf : rm.frames + 1 ≤ R.frames) (hlo : W + (ml + 11) + rm.locals ≤ R.locals) (hce : cells + rm.cells = ce) (hsl : slots + rm.slots = sl) (hce' : ce ≤ R.cells) (hsl' : sl ≤ R.slots) (has : (.ref b :: argsL).toArray = as') (E : Exa Z h b K) (eT : T.heap = h) (hsz : Ls.size = mx) (hpd : parseMethodDescriptor y.desc = some ⟨ps, pr⟩) (hln : argsL.length = ps.length) (hW : (st.map fun v => v.category).sum ≤ W) (hn : pc + 3 = pc')
    (hr : ∀ v T' L, Stand p l e R s m args below meth c T' (locs ++ L) ce sl → Q v T'.heap L → Go p.tables e below G (T'.setTop (mkF m pc' Ls (v.toList ++ st)))) : Go p.tables e below G (T.setTop (mkF m pc Ls (argsL.reverse ++ .ref b :: st))) := by
  subst hn hce hsl has
  obtain ⟨v, vm1, ⟨T', L', k', n'⟩, -, X', ⟨Lc, hQ, l', y', z'⟩, st'⟩ := Jvm.RoadKit.superBack X C.1 C.hZ (y := y) C.hown w1 (own_same w2 nf hy) w2 w4 hy0 (backOf (W := W) hM C.hZ w6 w5 hf hlo) eT (Ins.self E) (g := mkF m pc Ls (argsL.reverse ++ .ref b :: st)) rfl (hsz.trans C.2.2.1.symm) w6 (argsL := argsL) (rest := st) (lenOf hpd hln) rfl (by show 2 * 0 + _ ≤ _; omega) (hb C.2.1 hd) (fun _ _ => ⟨rfl, eT, hce', hsl'⟩)
  dsimp only [Pt.U, Pt.locs, Pt.cells, Pt.slots] at X' l' y' z' st' hQ
  subst l' y' z'
  exact (hr v T' Lc X' hQ).step fun t k => st'.trans k
theorem g_newPE (C : Cx p s m meth c bs mx own mnm rt Z) (X : Stand p l e R s m args below meth c T locs cells slots) {aty : ArrayType} {n : Int32} {cap ce sl : Nat} {ad : String} (had : "[" ++ (newarray.typeOf aty).toString = ad) (hd : decode bs pc = .ok (.newarray aty, 2)) (w : (Jvm.Cond.arrayClass (newarray.typeOf aty)).before a0 Z = true) (eT : T.heap = h) (hn0 : ¬ n < 0) (hcap : n.toNatClampNeg ≤ cap) (hb8 : cap * 8 ≤ 536870912) (hce : cells + 1 = ce) (hsl : slots + cap = sl) (hce' : ce ≤ R.cells) (hsl' : sl ≤ R.slots) (hn : pc + 2 = pc')
    (hr : ∀ T' h' b k, b = h.size → Stand p l e R s m args below meth c T' locs ce sl → T'.heap = h' → Ext h h' → Arv Z h' b k (newarray.typeOf aty) n [] (defaultValue (newarray.typeOf aty)) → Exa Z h' b ad → Go p.tables e below G (T'.setTop (mkF m pc' Ls (.ref b :: st)))) : Go p.tables e below G (T.setTop (mkF m pc Ls (.int n :: st))) := by
  subst hn hce hsl
  obtain ⟨T', h', k', X', e', E', A', Ex', st'⟩ := newPE X C.1 C.hZ w eT (g := mkF m pc Ls (.int n :: st)) rfl (hb C.2.1 hd) rfl hn0 hcap hb8 hce' hsl' had
  exact (hr T' h' _ k' rfl X' e' E' (Arv.new A' hn0) Ex').step st'
theorem g_callQ (C : Cx p s m meth c bs mx own mnm rt Z) (X : Stand p l e R s m args below meth c T locs cells slots) {rm : Room} {as' : Array Value} {Q : Option Value → Heap → List Loc → Prop} {ml : Nat} {yb : ByteArray} {yr : Option FieldType} {ce sl W : Nat} {argsL : List Value} {ps : List FieldType} {pr : Option FieldType} {y : MethodName} {i : Nat} {b : Addr} {K : String} (hd : decode bs pc = .ok (.invokevirtual i, 3)) (w1 : (Jvm.Cond.methodLink own i y).before a0 Z = true) (w2 : (Jvm.Cond.instanceMethod y).before a0 Z = true) (w3 : (Jvm.Cond.privateMethod y).before a0 Z = true) (w5 : (Jvm.Cond.initialized y.cls).before a0 Z = true) (w6 : (Jvm.Cond.selects K y y).before a0 Z = true) (w4 : (Jvm.Cond.code y yb ml yr).before a0 Z = true) (hy : y.cls ≠ "java/lang/invoke/MethodHandle" ∧ y.cls ≠ "java/lang/invoke/VarHandle")
    (hM : MetFree l y (head1 [Jvm.Cond.code y yb ml yr] rm) (fun a U => a = as' ∧ Z.Warmed39 U.vm ∧ U.heap = h) (fun _ _ _ _ _ => True) (fun _ U o U' => ∃ v L, o = .returned v ∧ Q v U'.heap L ∧ FrameEnd U o U' L rm.cells rm.slots)) (hf : rm.frames + 1 ≤ R.frames) (hlo : W + (ml + 11) + rm.locals ≤ R.locals) (hce : cells + rm.cells = ce) (hsl : slots + rm.slots = sl) (hce' : ce ≤ R.cells) (hsl' : sl ≤ R.slots) (has : (.ref b :: argsL).toArray = as') (E : Exa Z h b K) (eT : T.heap = h) (hsz : Ls.size = mx) (hpd : parseMethodDescriptor y.desc = some ⟨ps, pr⟩) (hln : argsL.length = ps.length) (hW : (st.map fun v => v.category).sum ≤ W) (hn : pc + 3 = pc')
    (hr : ∀ v T' L, Stand p l e R s m args below meth c T' (locs ++ L) ce sl → Q v T'.heap L → Go p.tables e below G (T'.setTop (mkF m pc' Ls (v.toList ++ st)))) : Go p.tables e below G (T.setTop (mkF m pc Ls (argsL.reverse ++ .ref b :: st))) := by
  subst hn hce hsl has
  obtain ⟨cq, q1, q2⟩ := E.cell
  have hpr : s.PrivateAt y := Cond.privateMethod_at (mvP C.hZ w3 (args := #[]))
  have hsel : (Jvm.Cond.selects y.cls y y).before args s = true := by
    obtain ⟨mk, methM, hn2, -⟩ := Cond.instanceMethod_spec (mvT C.hZ w2 (args := args))
    obtain ⟨kr, hk2, hi2⟩ := notFace_of_selects (args := args) (mvT C.hZ w6) _ hn2
    exact selects_self_of_private (findClass_of_methodNamed hn2) hk2 hi2 hpr (mvT C.hZ w2) hy
  obtain ⟨v, vm1, ⟨T', L', k', n'⟩, -, X', ⟨Lc, hQ, l', y', z'⟩, st'⟩ := X.privateBack C.1 (y := y) C.hown (mvT C.hZ w1) (mvT C.hZ w2) hsel hpr (mvT C.hZ w4) hy (backOf (W := W) hM C.hZ w4 w5 hf hlo) (g := mkF m pc Ls (argsL.reverse ++ .ref b :: st)) rfl (hsz.trans C.2.2.1.symm) (Steps.refl _) (a := b) (by rw [eT]; exact q1) q2 (argsL := argsL) (rest := st) (lenOf hpd hln) rfl (by show 2 * 0 + _ ≤ _; omega) (hb C.2.1 hd) (fun _ _ => ⟨rfl, eT, hce', hsl'⟩)
  dsimp only [Pt.U, Pt.locs, Pt.cells, Pt.slots] at X' l' y' z' st' hQ
  subst l' y' z'
  exact (hr v T' Lc X' hQ).step fun t k => st'.trans k
end OwnKit
theorem wq {a0 : Array Value} {Z : State} (hw : ∀ d ∈ tables_1, d.before a0 Z = true) (i : Nat) {d : Jvm.Cond} (q : tables_1[i]? = some d) : d.before a0 Z = true := hw _ (List.mem_of_getElem? q)
theorem own_neqi {args : Array Value} {s : State} {t : Term} {x v : Int32} (ht : t.eval args s none [] s = some (.int x)) (h : (Jvm.Cond.not (Jvm.Cond.eq t (.int v))).value args s none s [] = some true) : ¬ (x = v) := by
  have q := not_v h
  intro e
  subst e
  simp [Cond.value, Term.eval, ht] at q
theorem own_arv_ne {Z : State} {h : Heap} {a b : Addr} {k k' : ClassId} {ty ty' : FieldType} {n n' : Int32} {vs vs' : List Value} {d d' : Value} (A : Arv Z h a k ty n vs d) (B : Arv Z h b k' ty' n' vs' d') (q : ¬ (n.toNatClampNeg = n'.toNatClampNeg)) : ¬ (a = b) := by
  rintro rfl
  obtain ⟨c, A1, -, S1, -⟩ := A
  obtain ⟨c', B1, -, S2, -⟩ := B
  cases A1.1.symm.trans B1.1
  exact q (S1.symm.trans S2)
def own_vl (cs : List Int32) : List Value := cs.map fun x => Value.int x
def own_g (L : List Int32) (j : Int32) : Int32 := L.getD j.toNatClampNeg 0
def own_s (L : List Int32) (j x : Int32) : List Int32 := (L ++ List.replicate (j.toNatClampNeg + 1) 0).set j.toNatClampNeg x
theorem own_vl_getD (L : List Int32) (i : Nat) : (own_vl L).getD i (.int 0) = .int (L.getD i 0) := by
  unfold own_vl; rw [List.getD_eq_getElem?_getD, List.getD_eq_getElem?_getD, List.getElem?_map]; cases L[i]? <;> rfl
theorem own_vl_get (L : List Int32) (j : Int32) : (own_vl L).getD j.toNatClampNeg (.int (0 : Int32)) = .int (own_g L j) := own_vl_getD _ _
theorem own_vl_set (L : List Int32) (j x : Int32) : (own_vl L ++ List.replicate (j.toNatClampNeg + 1) (Value.int 0)).set j.toNatClampNeg (Value.int x) = own_vl (own_s L j x) := by
  unfold own_s own_vl; rw [List.map_set, List.map_append, List.map_replicate]
theorem own_lts {L : List Value} {i : Nat} {v : Value} : i < (L ++ List.replicate (i + 1) v).length := by rw [List.length_append, List.length_replicate]; omega
theorem own_s_getD (L : List Int32) (j x : Int32) (i : Nat) : (own_s L j x).getD i 0 = if i = j.toNatClampNeg then x else L.getD i 0 := by
  unfold own_s
  rw [List.getD_eq_getElem?_getD, List.getD_eq_getElem?_getD, List.getElem?_set]
  by_cases h : j.toNatClampNeg = i
  · subst h; rw [if_pos rfl, if_pos rfl, if_pos (by rw [List.length_append, List.length_replicate]; omega)]; rfl
  · rw [if_neg h, if_neg (Ne.symm h), List.getElem?_append]
    by_cases h2 : i < L.length
    · rw [if_pos h2]
    · rw [if_neg h2, List.getElem?_replicate, List.getElem?_eq_none (Nat.le_of_not_lt h2)]; split <;> rfl
theorem own_pw {Z : State} {h : Heap} {a : Addr} {k : ClassId} {ty : FieldType} {n : Int32} {L L' : List Int32} (F : Arv Z h a k ty n (own_vl L) (.int 0)) (q : ∀ i, L'.getD i 0 = L.getD i 0) : Arv Z h a k ty n (own_vl L') (.int 0) :=
  F.pad fun i => by rw [own_vl_getD, own_vl_getD, q]
def FX (Z : State) (h : Heap) (cs : Int32) (fm : Value) : Prop := (Sta Z h "java/lang/String" "COMPACT_STRINGS" "Z" (.int cs)) ∧ (¬ (cs = (0 : Int32))) ∧ (Sta Z h "jdk/internal/util/Preconditions" "SIOOBE_FORMATTER" "Ljava/util/function/BiFunction;" fm) ∧ (fm.category = 1) ∧ (Sta Z h "java/lang/StringUTF16" "$assertionsDisabled" "Z" (.int (1 : Int32))) ∧ (Sta Z h "java/lang/StringUTF16" "HI_BYTE_SHIFT" "I" (.int (0 : Int32))) ∧ (Sta Z h "java/lang/StringUTF16" "LO_BYTE_SHIFT" "I" (.int (8 : Int32)))
theorem FX_ext {Z : State} {h h' : Heap} {cs : Int32} {fm : Value} (F : FX Z h cs fm) (E : Ext h h') : FX Z h' cs fm := ⟨F.1.ext E, F.2.1, F.2.2.1.ext E, F.2.2.2.1, F.2.2.2.2.1.ext E, F.2.2.2.2.2.1.ext E, F.2.2.2.2.2.2.ext E⟩
theorem FX_wr {Z : State} {h h' : Heap} {a : Addr} {sl : Nat} {v : Value} {cs : Int32} {fm : Value} (F : FX Z h cs fm) (W : Wr h h' a sl v) : FX Z h' cs fm := ⟨F.1.wr W, F.2.1, F.2.2.1.wr W, F.2.2.2.1, F.2.2.2.2.1.wr W, F.2.2.2.2.2.1.wr W, F.2.2.2.2.2.2.wr W⟩
theorem FX_keep {Z : State} {h h' : Heap} {ws : List Addr} {cs : Int32} {fm : Value} (F : FX Z h cs fm) (K : Keep h h' ws) (q : ∀ a ∈ ws, ∃ c : Cell, h[a]? = some c ∧ c.vm.isStatics = false) : FX Z h' cs fm := ⟨own_sta_keep F.1 K q, F.2.1, own_sta_keep F.2.2.1 K q, F.2.2.2.1, own_sta_keep F.2.2.2.2.1 K q, own_sta_keep F.2.2.2.2.2.1 K q, own_sta_keep F.2.2.2.2.2.2 K q⟩
theorem d17_0 : decode jdk_41_method_11_code 0 = .ok (.iload_n 0, 1) := by decide +kernel
theorem d17_1 : decode jdk_41_method_11_code 1 = .ok (.ifCond .lt 8, 3) := by decide +kernel
theorem d17_4 : decode jdk_41_method_11_code 4 = .ok (.iload_n 0, 1) := by decide +kernel
theorem d17_5 : decode jdk_41_method_11_code 5 = .ok (.iload_n 1, 1) := by decide +kernel
theorem d17_6 : decode jdk_41_method_11_code 6 = .ok (.if_icmp .lt 10, 3) := by decide +kernel
theorem d17_16 : decode jdk_41_method_11_code 16 = .ok (.iload_n 0, 1) := by decide +kernel
theorem d17_17 : decode jdk_41_method_11_code 17 = .ok (.ireturn, 1) := by decide +kernel
def Fpci (p1 : Int32) : Int32 := p1
theorem Fpci_l0 (p1 : Int32)  : Fpci p1 = p1 := rfl
theorem ef_pci (m : MethodId) (p1 : Int32) (p2 : Int32) (u3 : Value) (hu3 : u3.category = 1) : entryFrame m #[(.int p1), (.int p2), u3] 3 = mkF m 0 #[.val (.int p1), .val (.int p2), .val u3] [] := by cases u3 <;> first | (simp [entryFrame, mkF, argsToLocals, Value.category]; done) | rfl | (simp [Value.category] at hu3; done)
def Q_pci (Z : State) (p1 : Int32) (p2 : Int32) (u3 : Value) (cs : Int32) (fm : Value) (h0 : Heap) (n0 : Nat) (v : Option Value) (h : Heap) (L : List Loc) : Prop := v = some (.int (Fpci p1)) ∧ Fr n0 L ∧ h = h0
set_option maxRecDepth 65536 in
set_option maxHeartbeats 40000000 in
theorem rmpci (l : Launch) (Z : State) (a0 : Array Value) (hw : ∀ d ∈ tables_1, d.before a0 Z = true) (ws : List Jvm.Cond) (p1 : Int32) (p2 : Int32) (u3 : Value) (cs : Int32) (fm : Value) (h0 : Heap) (n0 : Nat) (hF : FX Z h0 cs fm) (hi0 : ¬ (p1 < (0 : Int32))) (hi1 : p1 < p2) (hu3 : u3.category = 1) :
    MetFree l (⟨"jdk/internal/util/Preconditions", "checkIndex", "(IILjava/util/function/BiFunction;)I"⟩ : MethodName) (head1 (Jvm.Cond.code (⟨"jdk/internal/util/Preconditions", "checkIndex", "(IILjava/util/function/BiFunction;)I"⟩ : MethodName) jdk_41_method_11_code 3 (some .int) :: ws) ({ frames := 0, cells := 0, slots := 0, locals := 0 } : Room)) (fun a U => a = #[(.int p1), (.int p2), u3] ∧ Z.Warmed39 U.vm ∧ U.heap = h0) (fun _ _ _ _ _ => True) (fun _ U o U' => ∃ v L, o = .returned v ∧ Q_pci Z p1 p2 u3 cs fm h0 n0 v U'.heap L ∧ FrameEnd U o U' L ({ frames := 0, cells := 0, slots := 0, locals := 0 } : Room).cells ({ frames := 0, cells := 0, slots := 0, locals := 0 } : Room).slots) := by
  refine met_of (Ls := #[.val (.int p1), .val (.int p2), .val u3]) (plainFor_of_name (by first | (simp [plainName, overriddenIn]; done) | decide +kernel)) (fun m => ef_pci m p1 p2 u3 hu3) ?_
  intro p e s m below meth c T0 C X0 e0
  obtain ⟨S_cs, hcs, S_fm, hfm, S_ad, S_hi, S_lo⟩ := id hF
  have N0 := Fr.nil n0
  refine g_iloadN (pc' := 1) C X0 d17_0 rfl rfl ?_
  refine g_ifN (pc' := 4) C X0 d17_1 (flt hi0).1 rfl ?_
  refine g_iloadN (pc' := 5) C X0 d17_4 rfl rfl ?_
  refine g_iloadN (pc' := 6) C X0 d17_5 rfl rfl ?_
  refine g_icmpY (pc' := 16) C X0 d17_6 (tlt hi1).1 (by decide) (by decide) ?_
  refine g_iloadN (pc' := 17) C X0 d17_16 rfl rfl ?_
  exact g_retI C X0 d17_17 (by decide) (by decide) ⟨congrArg (fun z => some (Value.int z)) (Fpci_l0 p1 ).symm, N0, e0⟩
theorem d16_0 : decode jdk_42_method_155_code 0 = .ok (.iload_n 0, 1) := by decide +kernel
theorem d16_1 : decode jdk_42_method_155_code 1 = .ok (.iload_n 1, 1) := by decide +kernel
theorem d16_2 : decode jdk_42_method_155_code 2 = .ok (.getstatic 1053, 3) := by decide +kernel
theorem d16_5 : decode jdk_42_method_155_code 5 = .ok (.invokestatic 1059, 3) := by decide +kernel
theorem pd_0 : parseMethodDescriptor "(IILjava/util/function/BiFunction;)I" = some ⟨[.int, .int, (.object "java/util/function/BiFunction")], some .int⟩ := by decide +kernel
theorem d16_8 : decode jdk_42_method_155_code 8 = .ok (.pop, 1) := by decide +kernel
theorem d16_9 : decode jdk_42_method_155_code 9 = .ok (.return_, 1) := by decide +kernel
theorem ef_sci (m : MethodId) (p1 : Int32) (p2 : Int32) : entryFrame m #[(.int p1), (.int p2)] 2 = mkF m 0 #[.val (.int p1), .val (.int p2)] [] := by first | (simp [entryFrame, mkF, argsToLocals, Value.category]; done) | rfl
def Q_sci (Z : State) (p1 : Int32) (p2 : Int32) (cs : Int32) (fm : Value) (h0 : Heap) (n0 : Nat) (v : Option Value) (h : Heap) (L : List Loc) : Prop := v = none ∧ Fr n0 L ∧ h = h0
set_option maxRecDepth 65536 in
set_option maxHeartbeats 40000000 in
theorem rmsci (l : Launch) (Z : State) (a0 : Array Value) (hw : ∀ d ∈ tables_1, d.before a0 Z = true) (ws : List Jvm.Cond) (p1 : Int32) (p2 : Int32) (cs : Int32) (fm : Value) (h0 : Heap) (n0 : Nat) (hF : FX Z h0 cs fm) (hi0 : ¬ (p1 < (0 : Int32))) (hi1 : p1 < p2) :
    MetFree l (⟨"java/lang/String", "checkIndex", "(II)V"⟩ : MethodName) (head1 (Jvm.Cond.code (⟨"java/lang/String", "checkIndex", "(II)V"⟩ : MethodName) jdk_42_method_155_code 2 none :: ws) ({ frames := 1, cells := 0, slots := 0, locals := 14 } : Room)) (fun a U => a = #[(.int p1), (.int p2)] ∧ Z.Warmed39 U.vm ∧ U.heap = h0) (fun _ _ _ _ _ => True) (fun _ U o U' => ∃ v L, o = .returned v ∧ Q_sci Z p1 p2 cs fm h0 n0 v U'.heap L ∧ FrameEnd U o U' L ({ frames := 1, cells := 0, slots := 0, locals := 14 } : Room).cells ({ frames := 1, cells := 0, slots := 0, locals := 14 } : Room).slots) := by
  refine met_of (Ls := #[.val (.int p1), .val (.int p2)]) (plainFor_of_name (by first | (simp [plainName, overriddenIn]; done) | decide +kernel)) (fun m => ef_sci m p1 p2) ?_
  intro p e s m below meth c T0 C X0 e0
  obtain ⟨S_cs, hcs, S_fm, hfm, S_ad, S_hi, S_lo⟩ := id hF
  have N0 := Fr.nil n0
  refine g_iloadN (pc' := 1) C X0 d16_0 rfl rfl ?_
  refine g_iloadN (pc' := 2) C X0 d16_1 rfl rfl ?_
  refine g_getS (pc' := 5) C X0 d16_2 (host := "") (Or.inl (wq hw 85 rfl)) Via.refl e0 S_fm rfl (fun T1 X1 e1 => ?_)
  refine g_callS (y := (⟨"jdk/internal/util/Preconditions", "checkIndex", "(IILjava/util/function/BiFunction;)I"⟩ : MethodName)) (argsL := [(.int p1), (.int p2), fm]) (st := []) (pc' := 8) C X1 d16_5 (wq hw 87 rfl) (wq hw 88 rfl) (wq hw 86 rfl) (wq hw 89 rfl) (by decide) (rmpci l Z a0 hw [] p1 p2 fm cs fm h0 n0 hF hi0 hi1 hfm) (W := 0) (by decide) (by decide) (ce := 0) (sl := 0) rfl rfl (by decide) (by decide) rfl e1 rfl pd_0 rfl (Nat.le_refl _) rfl (fun rv2 T2 L2 X2 Q2 => ?_)
  obtain ⟨q2, Nq2, e2⟩ := Q2
  have N2 := Fr.app N0 Nq2
  subst q2
  show Go p.tables e below _ (T2.setTop (mkF m 8 #[.val (.int p1), .val (.int p2)] [(.int (Fpci p1))]))
  refine g_pop (pc' := 9) C X2 d16_8 rfl rfl ?_
  exact g_retV C X2 d16_9 (by decide) (by decide) ⟨rfl, N2, e2⟩
theorem d15_0 : decode jdk_43_method_2_code 0 = .ok (.iload_n 1, 1) := by decide +kernel
theorem d15_1 : decode jdk_43_method_2_code 1 = .ok (.aload_n 0, 1) := by decide +kernel
theorem d15_2 : decode jdk_43_method_2_code 2 = .ok (.arraylength, 1) := by decide +kernel
theorem d15_3 : decode jdk_43_method_2_code 3 = .ok (.invokestatic 9, 3) := by decide +kernel
theorem pd_1 : parseMethodDescriptor "(II)V" = some ⟨[.int, .int], none⟩ := by decide +kernel
theorem d15_6 : decode jdk_43_method_2_code 6 = .ok (.aload_n 0, 1) := by decide +kernel
theorem d15_7 : decode jdk_43_method_2_code 7 = .ok (.iload_n 1, 1) := by decide +kernel
theorem d15_8 : decode jdk_43_method_2_code 8 = .ok (.baload, 1) := by decide +kernel
theorem d15_9 : decode jdk_43_method_2_code 9 = .ok (.sipush 255, 3) := by decide +kernel
theorem d15_12 : decode jdk_43_method_2_code 12 = .ok (.iand, 1) := by decide +kernel
theorem d15_13 : decode jdk_43_method_2_code 13 = .ok (.i2c, 1) := by decide +kernel
theorem d15_14 : decode jdk_43_method_2_code 14 = .ok (.ireturn, 1) := by decide +kernel
def Flca (p2 : Int32) (lx : List Int32) : Int32 := (nar .char ((own_g lx p2) &&& (255 : Int32)).toUInt32.toUInt16.toUInt32.toInt32)
theorem Flca_l0 (p2 : Int32) (lx : List Int32)  : Flca p2 lx = (nar .char ((own_g lx p2) &&& (255 : Int32)).toUInt32.toUInt16.toUInt32.toInt32) := rfl
theorem ef_lca (m : MethodId) (a1 : Addr) (p2 : Int32) : entryFrame m #[(.ref a1), (.int p2)] 2 = mkF m 0 #[.val (.ref a1), .val (.int p2)] [] := by first | (simp [entryFrame, mkF, argsToLocals, Value.category]; done) | rfl
def Q_lca (Z : State) (a1 : Addr) (p2 : Int32) (k1 : ClassId) (z1 : Int32) (lx : List Int32) (cs : Int32) (fm : Value) (h0 : Heap) (n0 : Nat) (v : Option Value) (h : Heap) (L : List Loc) : Prop := v = some (.int (Flca p2 lx)) ∧ Fr n0 L ∧ h = h0
set_option maxRecDepth 65536 in
set_option maxHeartbeats 40000000 in
theorem rmlca (l : Launch) (Z : State) (a0 : Array Value) (hw : ∀ d ∈ tables_1, d.before a0 Z = true) (ws : List Jvm.Cond) (a1 : Addr) (p2 : Int32) (k1 : ClassId) (z1 : Int32) (lx : List Int32) (cs : Int32) (fm : Value) (h0 : Heap) (n0 : Nat) (hF : FX Z h0 cs fm) (V_b : Arv Z h0 a1 k1 .byte z1 (own_vl lx) (.int (0 : Int32))) (hi0 : ¬ (p2 < (0 : Int32))) (hi1 : p2 < z1) :
    MetFree l (⟨"java/lang/StringLatin1", "charAt", "([BI)C"⟩ : MethodName) (head1 (Jvm.Cond.code (⟨"java/lang/StringLatin1", "charAt", "([BI)C"⟩ : MethodName) jdk_43_method_2_code 2 (some .char) :: ws) ({ frames := 2, cells := 0, slots := 0, locals := 27 } : Room)) (fun a U => a = #[(.ref a1), (.int p2)] ∧ Z.Warmed39 U.vm ∧ U.heap = h0) (fun _ _ _ _ _ => True) (fun _ U o U' => ∃ v L, o = .returned v ∧ Q_lca Z a1 p2 k1 z1 lx cs fm h0 n0 v U'.heap L ∧ FrameEnd U o U' L ({ frames := 2, cells := 0, slots := 0, locals := 27 } : Room).cells ({ frames := 2, cells := 0, slots := 0, locals := 27 } : Room).slots) := by
  refine met_of (Ls := #[.val (.ref a1), .val (.int p2)]) (plainFor_of_name (by first | (simp [plainName, overriddenIn]; done) | decide +kernel)) (fun m => ef_lca m a1 p2) ?_
  intro p e s m below meth c T0 C X0 e0
  obtain ⟨S_cs, hcs, S_fm, hfm, S_ad, S_hi, S_lo⟩ := id hF
  have N0 := Fr.nil n0
  refine g_iloadN (pc' := 1) C X0 d15_0 rfl rfl ?_
  refine g_aloadN (pc' := 2) C X0 d15_1 rfl rfl rfl ?_
  refine g_len (pc' := 3) C X0 d15_2 e0 V_b rfl ?_
  refine g_callS (y := (⟨"java/lang/String", "checkIndex", "(II)V"⟩ : MethodName)) (argsL := [(.int p2), (.int z1)]) (st := []) (pc' := 6) C X0 d15_3 (wq hw 82 rfl) (wq hw 83 rfl) (wq hw 9 rfl) (wq hw 84 rfl) (by decide) (rmsci l Z a0 hw [] p2 z1 cs fm h0 n0 hF hi0 hi1) (W := 0) (by decide) (by decide) (ce := 0) (sl := 0) rfl rfl (by decide) (by decide) rfl e0 rfl pd_1 rfl (Nat.le_refl _) rfl (fun rv1 T1 L1 X1 Q1 => ?_)
  obtain ⟨q1, Nq1, e1⟩ := Q1
  have N1 := Fr.app N0 Nq1
  subst q1
  show Go p.tables e below _ (T1.setTop (mkF m 6 #[.val (.ref a1), .val (.int p2)] []))
  refine g_aloadN (pc' := 7) C X1 d15_6 rfl rfl rfl ?_
  refine g_iloadN (pc' := 8) C X1 d15_7 rfl rfl ?_
  refine g_ldB (pc' := 9) (v := (.int (own_g lx p2))) C X1 d15_8 e1 V_b ⟨hi0, hi1⟩ (own_vl_get _ _) rfl ?_
  refine g_sipush (pc' := 12) (v := (255 : Int32)) C X1 d15_9 rfl rfl ?_
  refine g_iand (pc' := 13) C X1 d15_12 rfl ?_
  refine g_i2c (pc' := 14) C X1 d15_13 rfl ?_
  exact g_retN C X1 (by simp) d15_14 (by decide) (by decide) ⟨congrArg (fun z => some (Value.int z)) (Flca_l0 p2 lx ).symm, N1, e1⟩
theorem d42_0 : decode jdk_52_method_6_code 0 = .ok (.aload_n 0, 1) := by decide +kernel
theorem d42_1 : decode jdk_52_method_6_code 1 = .ok (.arraylength, 1) := by decide +kernel
theorem d42_2 : decode jdk_52_method_6_code 2 = .ok (.iconst 1, 1) := by decide +kernel
theorem d42_3 : decode jdk_52_method_6_code 3 = .ok (.ishr, 1) := by decide +kernel
theorem d42_4 : decode jdk_52_method_6_code 4 = .ok (.ireturn, 1) := by decide +kernel
def Ful (z1 : Int32) : Int32 := (z1 >>> ((1 : Int32) &&& 31))
theorem Ful_l0 (z1 : Int32)  : Ful z1 = (z1 >>> ((1 : Int32) &&& 31)) := rfl
theorem ef_ul (m : MethodId) (a1 : Addr) : entryFrame m #[(.ref a1)] 1 = mkF m 0 #[.val (.ref a1)] [] := by first | (simp [entryFrame, mkF, argsToLocals, Value.category]; done) | rfl
def Q_ul (Z : State) (a1 : Addr) (k1 : ClassId) (z1 : Int32) (lx : List Int32) (cs : Int32) (fm : Value) (h0 : Heap) (n0 : Nat) (v : Option Value) (h : Heap) (L : List Loc) : Prop := v = some (.int (Ful z1)) ∧ Fr n0 L ∧ h = h0
set_option maxRecDepth 65536 in
set_option maxHeartbeats 40000000 in
theorem rmul (l : Launch) (Z : State) (a0 : Array Value) (hw : ∀ d ∈ tables_1, d.before a0 Z = true) (ws : List Jvm.Cond) (a1 : Addr) (k1 : ClassId) (z1 : Int32) (lx : List Int32) (cs : Int32) (fm : Value) (h0 : Heap) (n0 : Nat) (hF : FX Z h0 cs fm) (V_b : Arv Z h0 a1 k1 .byte z1 (own_vl lx) (.int (0 : Int32))) :
    MetFree l (⟨"java/lang/StringUTF16", "length", "([B)I"⟩ : MethodName) (head1 (Jvm.Cond.code (⟨"java/lang/StringUTF16", "length", "([B)I"⟩ : MethodName) jdk_52_method_6_code 1 (some .int) :: ws) ({ frames := 0, cells := 0, slots := 0, locals := 0 } : Room)) (fun a U => a = #[(.ref a1)] ∧ Z.Warmed39 U.vm ∧ U.heap = h0) (fun _ _ _ _ _ => True) (fun _ U o U' => ∃ v L, o = .returned v ∧ Q_ul Z a1 k1 z1 lx cs fm h0 n0 v U'.heap L ∧ FrameEnd U o U' L ({ frames := 0, cells := 0, slots := 0, locals := 0 } : Room).cells ({ frames := 0, cells := 0, slots := 0, locals := 0 } : Room).slots) := by
  refine met_of (Ls := #[.val (.ref a1)]) (plainFor_of_name (by first | (simp [plainName, overriddenIn]; done) | decide +kernel)) (fun m => ef_ul m a1) ?_
  intro p e s m below meth c T0 C X0 e0
  obtain ⟨S_cs, hcs, S_fm, hfm, S_ad, S_hi, S_lo⟩ := id hF
  have N0 := Fr.nil n0
  refine g_aloadN (pc' := 1) C X0 d42_0 rfl rfl rfl ?_
  refine g_len (pc' := 2) C X0 d42_1 e0 V_b rfl ?_
  refine g_iconst (pc' := 3) (v := (1 : Int32)) C X0 d42_2 rfl rfl ?_
  refine g_ishr (pc' := 4) C X0 d42_3 rfl ?_
  exact g_retI C X0 d42_4 (by decide) (by decide) ⟨congrArg (fun z => some (Value.int z)) (Ful_l0 z1 ).symm, N0, e0⟩
theorem d41_0 : decode jdk_52_method_91_code 0 = .ok (.iload_n 0, 1) := by decide +kernel
theorem d41_1 : decode jdk_52_method_91_code 1 = .ok (.aload_n 1, 1) := by decide +kernel
theorem d41_2 : decode jdk_52_method_91_code 2 = .ok (.invokestatic 48, 3) := by decide +kernel
theorem pd_2 : parseMethodDescriptor "([B)I" = some ⟨[(.array .byte)], some .int⟩ := by decide +kernel
theorem d41_5 : decode jdk_52_method_91_code 5 = .ok (.invokestatic 414, 3) := by decide +kernel
theorem d41_8 : decode jdk_52_method_91_code 8 = .ok (.return_, 1) := by decide +kernel
theorem ef_uci (m : MethodId) (p1 : Int32) (a2 : Addr) : entryFrame m #[(.int p1), (.ref a2)] 2 = mkF m 0 #[.val (.int p1), .val (.ref a2)] [] := by first | (simp [entryFrame, mkF, argsToLocals, Value.category]; done) | rfl
def Q_uci (Z : State) (p1 : Int32) (a2 : Addr) (k1 : ClassId) (z1 : Int32) (lx : List Int32) (cs : Int32) (fm : Value) (h0 : Heap) (n0 : Nat) (v : Option Value) (h : Heap) (L : List Loc) : Prop := v = none ∧ Fr n0 L ∧ h = h0
set_option maxRecDepth 65536 in
set_option maxHeartbeats 40000000 in
theorem rmuci (l : Launch) (Z : State) (a0 : Array Value) (hw : ∀ d ∈ tables_1, d.before a0 Z = true) (ws : List Jvm.Cond) (p1 : Int32) (a2 : Addr) (k1 : ClassId) (z1 : Int32) (lx : List Int32) (cs : Int32) (fm : Value) (h0 : Heap) (n0 : Nat) (hF : FX Z h0 cs fm) (V_b : Arv Z h0 a2 k1 .byte z1 (own_vl lx) (.int (0 : Int32))) (hi0 : ¬ (p1 < (0 : Int32))) (hi1 : p1 < (z1 >>> ((1 : Int32) &&& 31))) :
    MetFree l (⟨"java/lang/StringUTF16", "checkIndex", "(I[B)V"⟩ : MethodName) (head1 (Jvm.Cond.code (⟨"java/lang/StringUTF16", "checkIndex", "(I[B)V"⟩ : MethodName) jdk_52_method_91_code 2 none :: ws) ({ frames := 2, cells := 0, slots := 0, locals := 27 } : Room)) (fun a U => a = #[(.int p1), (.ref a2)] ∧ Z.Warmed39 U.vm ∧ U.heap = h0) (fun _ _ _ _ _ => True) (fun _ U o U' => ∃ v L, o = .returned v ∧ Q_uci Z p1 a2 k1 z1 lx cs fm h0 n0 v U'.heap L ∧ FrameEnd U o U' L ({ frames := 2, cells := 0, slots := 0, locals := 27 } : Room).cells ({ frames := 2, cells := 0, slots := 0, locals := 27 } : Room).slots) := by
  refine met_of (Ls := #[.val (.int p1), .val (.ref a2)]) (plainFor_of_name (by first | (simp [plainName, overriddenIn]; done) | decide +kernel)) (fun m => ef_uci m p1 a2) ?_
  intro p e s m below meth c T0 C X0 e0
  obtain ⟨S_cs, hcs, S_fm, hfm, S_ad, S_hi, S_lo⟩ := id hF
  have N0 := Fr.nil n0
  refine g_iloadN (pc' := 1) C X0 d41_0 rfl rfl ?_
  refine g_aloadN (pc' := 2) C X0 d41_1 rfl rfl rfl ?_
  refine g_callS (y := (⟨"java/lang/StringUTF16", "length", "([B)I"⟩ : MethodName)) (argsL := [(.ref a2)]) (st := [(.int p1)]) (pc' := 5) C X0 d41_2 (wq hw 199 rfl) (wq hw 200 rfl) (wq hw 23 rfl) (wq hw 201 rfl) (by decide) (rmul l Z a0 hw [] a2 k1 z1 lx cs fm h0 n0 hF V_b) (W := 1) (by decide) (by decide) (ce := 0) (sl := 0) rfl rfl (by decide) (by decide) rfl e0 rfl pd_2 rfl (Nat.le_refl _) rfl (fun rv1 T1 L1 X1 Q1 => ?_)
  obtain ⟨q1, Nq1, e1⟩ := Q1
  have N1 := Fr.app N0 Nq1
  rw [Ful_l0 z1] at q1
  subst q1
  show Go p.tables e below _ (T1.setTop (mkF m 5 #[.val (.int p1), .val (.ref a2)] [(.int (z1 >>> ((1 : Int32) &&& 31))), (.int p1)]))
  refine g_callS (y := (⟨"java/lang/String", "checkIndex", "(II)V"⟩ : MethodName)) (argsL := [(.int p1), (.int (z1 >>> ((1 : Int32) &&& 31)))]) (st := []) (pc' := 8) C X1 d41_5 (wq hw 202 rfl) (wq hw 83 rfl) (wq hw 9 rfl) (wq hw 84 rfl) (by decide) (rmsci l Z a0 hw [] p1 (z1 >>> ((1 : Int32) &&& 31)) cs fm h0 n0 hF hi0 hi1) (W := 0) (by decide) (by decide) (ce := 0) (sl := 0) rfl rfl (by decide) (by decide) rfl e1 rfl pd_1 rfl (Nat.le_refl _) rfl (fun rv2 T2 L2 X2 Q2 => ?_)
  obtain ⟨q2, Nq2, e2⟩ := Q2
  have N2 := Fr.app N1 Nq2
  subst q2
  show Go p.tables e below _ (T2.setTop (mkF m 8 #[.val (.int p1), .val (.ref a2)] []))
  exact g_retV C X2 d41_8 (by decide) (by decide) ⟨rfl, N2, e2⟩
theorem d39_0 : decode jdk_52_method_5_code 0 = .ok (.getstatic 44, 3) := by decide +kernel
theorem d39_3 : decode jdk_52_method_5_code 3 = .ok (.ifCond .ne 25, 3) := by decide +kernel
theorem d39_28 : decode jdk_52_method_5_code 28 = .ok (.iload_n 1, 1) := by decide +kernel
theorem d39_29 : decode jdk_52_method_5_code 29 = .ok (.iconst 1, 1) := by decide +kernel
theorem d39_30 : decode jdk_52_method_5_code 30 = .ok (.ishl, 1) := by decide +kernel
theorem d39_31 : decode jdk_52_method_5_code 31 = .ok (.istore_n 1, 1) := by decide +kernel
theorem d39_32 : decode jdk_52_method_5_code 32 = .ok (.aload_n 0, 1) := by decide +kernel
theorem d39_33 : decode jdk_52_method_5_code 33 = .ok (.iload_n 1, 1) := by decide +kernel
theorem d39_34 : decode jdk_52_method_5_code 34 = .ok (.iinc 1 1, 3) := by decide +kernel
theorem d39_37 : decode jdk_52_method_5_code 37 = .ok (.baload, 1) := by decide +kernel
theorem d39_38 : decode jdk_52_method_5_code 38 = .ok (.sipush 255, 3) := by decide +kernel
theorem d39_41 : decode jdk_52_method_5_code 41 = .ok (.iand, 1) := by decide +kernel
theorem d39_42 : decode jdk_52_method_5_code 42 = .ok (.getstatic 59, 3) := by decide +kernel
theorem d39_45 : decode jdk_52_method_5_code 45 = .ok (.ishl, 1) := by decide +kernel
theorem d39_46 : decode jdk_52_method_5_code 46 = .ok (.aload_n 0, 1) := by decide +kernel
theorem d39_47 : decode jdk_52_method_5_code 47 = .ok (.iload_n 1, 1) := by decide +kernel
theorem d39_48 : decode jdk_52_method_5_code 48 = .ok (.baload, 1) := by decide +kernel
theorem d39_49 : decode jdk_52_method_5_code 49 = .ok (.sipush 255, 3) := by decide +kernel
theorem d39_52 : decode jdk_52_method_5_code 52 = .ok (.iand, 1) := by decide +kernel
theorem d39_53 : decode jdk_52_method_5_code 53 = .ok (.getstatic 63, 3) := by decide +kernel
theorem d39_56 : decode jdk_52_method_5_code 56 = .ok (.ishl, 1) := by decide +kernel
theorem d39_57 : decode jdk_52_method_5_code 57 = .ok (.ior, 1) := by decide +kernel
theorem d39_58 : decode jdk_52_method_5_code 58 = .ok (.i2c, 1) := by decide +kernel
theorem d39_59 : decode jdk_52_method_5_code 59 = .ok (.ireturn, 1) := by decide +kernel
def Fugc (p2 : Int32) (lx : List Int32) : Int32 := (nar .char ((((own_g lx (p2 <<< ((1 : Int32) &&& 31))) &&& (255 : Int32)) <<< ((0 : Int32) &&& 31)) ||| (((own_g lx ((p2 <<< ((1 : Int32) &&& 31)) + (1 : Int32))) &&& (255 : Int32)) <<< ((8 : Int32) &&& 31))).toUInt32.toUInt16.toUInt32.toInt32)
theorem Fugc_l0 (p2 : Int32) (lx : List Int32)  : Fugc p2 lx = (nar .char ((((own_g lx (p2 <<< ((1 : Int32) &&& 31))) &&& (255 : Int32)) <<< ((0 : Int32) &&& 31)) ||| (((own_g lx ((p2 <<< ((1 : Int32) &&& 31)) + (1 : Int32))) &&& (255 : Int32)) <<< ((8 : Int32) &&& 31))).toUInt32.toUInt16.toUInt32.toInt32) := rfl
theorem ef_ugc (m : MethodId) (a1 : Addr) (p2 : Int32) : entryFrame m #[(.ref a1), (.int p2)] 2 = mkF m 0 #[.val (.ref a1), .val (.int p2)] [] := by first | (simp [entryFrame, mkF, argsToLocals, Value.category]; done) | rfl
def Q_ugc (Z : State) (a1 : Addr) (p2 : Int32) (k1 : ClassId) (z1 : Int32) (lx : List Int32) (cs : Int32) (fm : Value) (h0 : Heap) (n0 : Nat) (v : Option Value) (h : Heap) (L : List Loc) : Prop := v = some (.int (Fugc p2 lx)) ∧ Fr n0 L ∧ h = h0
set_option maxRecDepth 65536 in
set_option maxHeartbeats 40000000 in
theorem rmugc (l : Launch) (Z : State) (a0 : Array Value) (hw : ∀ d ∈ tables_1, d.before a0 Z = true) (ws : List Jvm.Cond) (a1 : Addr) (p2 : Int32) (k1 : ClassId) (z1 : Int32) (lx : List Int32) (cs : Int32) (fm : Value) (h0 : Heap) (n0 : Nat) (hF : FX Z h0 cs fm) (V_b : Arv Z h0 a1 k1 .byte z1 (own_vl lx) (.int (0 : Int32))) (hb0 : ¬ ((p2 <<< ((1 : Int32) &&& 31)) < (0 : Int32))) (hb1 : (p2 <<< ((1 : Int32) &&& 31)) < z1) (hb2 : ¬ (((p2 <<< ((1 : Int32) &&& 31)) + (1 : Int32)) < (0 : Int32))) (hb3 : ((p2 <<< ((1 : Int32) &&& 31)) + (1 : Int32)) < z1) :
    MetFree l (⟨"java/lang/StringUTF16", "getChar", "([BI)C"⟩ : MethodName) (head1 (Jvm.Cond.code (⟨"java/lang/StringUTF16", "getChar", "([BI)C"⟩ : MethodName) jdk_52_method_5_code 2 (some .char) :: ws) ({ frames := 0, cells := 0, slots := 0, locals := 0 } : Room)) (fun a U => a = #[(.ref a1), (.int p2)] ∧ Z.Warmed39 U.vm ∧ U.heap = h0) (fun _ _ _ _ _ => True) (fun _ U o U' => ∃ v L, o = .returned v ∧ Q_ugc Z a1 p2 k1 z1 lx cs fm h0 n0 v U'.heap L ∧ FrameEnd U o U' L ({ frames := 0, cells := 0, slots := 0, locals := 0 } : Room).cells ({ frames := 0, cells := 0, slots := 0, locals := 0 } : Room).slots) := by
  refine met_of (Ls := #[.val (.ref a1), .val (.int p2)]) (plainFor_of_name (by first | (simp [plainName, overriddenIn]; done) | decide +kernel)) (fun m => ef_ugc m a1 p2) ?_
  intro p e s m below meth c T0 C X0 e0
  obtain ⟨S_cs, hcs, S_fm, hfm, S_ad, S_hi, S_lo⟩ := id hF
  have N0 := Fr.nil n0
  refine g_getS (pc' := 3) C X0 d39_0 (host := "") (Or.inl (wq hw 187 rfl)) Via.refl e0 S_ad rfl (fun T1 X1 e1 => ?_)
  refine g_ifY (pc' := 28) C X1 d39_3 (feq (show ¬ ((1 : Int32) = (0 : Int32)) from (by decide))).2 (by decide) (by decide) ?_
  refine g_iloadN (pc' := 29) C X1 d39_28 rfl rfl ?_
  refine g_iconst (pc' := 30) (v := (1 : Int32)) C X1 d39_29 rfl rfl ?_
  refine g_ishl (pc' := 31) C X1 d39_30 rfl ?_
  refine g_istoreN (pc' := 32) (Ls' := #[.val (.ref a1), .val (.int (p2 <<< ((1 : Int32) &&& 31)))]) C X1 d39_31 rfl rfl ?_
  refine g_aloadN (pc' := 33) C X1 d39_32 rfl rfl rfl ?_
  refine g_iloadN (pc' := 34) C X1 d39_33 rfl rfl ?_
  refine g_iinc (pc' := 37) (Ls' := #[.val (.ref a1), .val (.int ((p2 <<< ((1 : Int32) &&& 31)) + (1 : Int32)))]) C X1 d39_34 rfl rfl rfl ?_
  refine g_ldB (pc' := 38) (v := (.int (own_g lx (p2 <<< ((1 : Int32) &&& 31))))) C X1 d39_37 e1 V_b ⟨hb0, hb1⟩ (own_vl_get _ _) rfl ?_
  refine g_sipush (pc' := 41) (v := (255 : Int32)) C X1 d39_38 rfl rfl ?_
  refine g_iand (pc' := 42) C X1 d39_41 rfl ?_
  refine g_getS (pc' := 45) C X1 d39_42 (host := "") (Or.inl (wq hw 188 rfl)) Via.refl e1 S_hi rfl (fun T2 X2 e2 => ?_)
  refine g_ishl (pc' := 46) C X2 d39_45 rfl ?_
  refine g_aloadN (pc' := 47) C X2 d39_46 rfl rfl rfl ?_
  refine g_iloadN (pc' := 48) C X2 d39_47 rfl rfl ?_
  refine g_ldB (pc' := 49) (v := (.int (own_g lx ((p2 <<< ((1 : Int32) &&& 31)) + (1 : Int32))))) C X2 d39_48 e2 V_b ⟨hb2, hb3⟩ (own_vl_get _ _) rfl ?_
  refine g_sipush (pc' := 52) (v := (255 : Int32)) C X2 d39_49 rfl rfl ?_
  refine g_iand (pc' := 53) C X2 d39_52 rfl ?_
  refine g_getS (pc' := 56) C X2 d39_53 (host := "") (Or.inl (wq hw 189 rfl)) Via.refl e2 S_lo rfl (fun T3 X3 e3 => ?_)
  refine g_ishl (pc' := 57) C X3 d39_56 rfl ?_
  refine g_ior (pc' := 58) C X3 d39_57 rfl ?_
  refine g_i2c (pc' := 59) C X3 d39_58 rfl ?_
  exact g_retN C X3 (by simp) d39_59 (by decide) (by decide) ⟨congrArg (fun z => some (Value.int z)) (Fugc_l0 p2 lx ).symm, N0, e3⟩
theorem d40_0 : decode jdk_52_method_83_code 0 = .ok (.iload_n 1, 1) := by decide +kernel
theorem d40_1 : decode jdk_52_method_83_code 1 = .ok (.aload_n 0, 1) := by decide +kernel
theorem d40_2 : decode jdk_52_method_83_code 2 = .ok (.invokestatic 67, 3) := by decide +kernel
theorem pd_3 : parseMethodDescriptor "(I[B)V" = some ⟨[.int, (.array .byte)], none⟩ := by decide +kernel
theorem d40_5 : decode jdk_52_method_83_code 5 = .ok (.aload_n 0, 1) := by decide +kernel
theorem d40_6 : decode jdk_52_method_83_code 6 = .ok (.iload_n 1, 1) := by decide +kernel
theorem d40_7 : decode jdk_52_method_83_code 7 = .ok (.invokestatic 71, 3) := by decide +kernel
theorem pd_4 : parseMethodDescriptor "([BI)C" = some ⟨[(.array .byte), .int], some .char⟩ := by decide +kernel
theorem d40_10 : decode jdk_52_method_83_code 10 = .ok (.ireturn, 1) := by decide +kernel
def Fuca (p2 : Int32) (lx : List Int32) : Int32 := (nar .char (nar .char ((((own_g lx (p2 <<< ((1 : Int32) &&& 31))) &&& (255 : Int32)) <<< ((0 : Int32) &&& 31)) ||| (((own_g lx ((p2 <<< ((1 : Int32) &&& 31)) + (1 : Int32))) &&& (255 : Int32)) <<< ((8 : Int32) &&& 31))).toUInt32.toUInt16.toUInt32.toInt32))
theorem Fuca_l0 (p2 : Int32) (lx : List Int32)  : Fuca p2 lx = (nar .char (nar .char ((((own_g lx (p2 <<< ((1 : Int32) &&& 31))) &&& (255 : Int32)) <<< ((0 : Int32) &&& 31)) ||| (((own_g lx ((p2 <<< ((1 : Int32) &&& 31)) + (1 : Int32))) &&& (255 : Int32)) <<< ((8 : Int32) &&& 31))).toUInt32.toUInt16.toUInt32.toInt32)) := rfl
theorem ef_uca (m : MethodId) (a1 : Addr) (p2 : Int32) : entryFrame m #[(.ref a1), (.int p2)] 2 = mkF m 0 #[.val (.ref a1), .val (.int p2)] [] := by first | (simp [entryFrame, mkF, argsToLocals, Value.category]; done) | rfl
def Q_uca (Z : State) (a1 : Addr) (p2 : Int32) (k1 : ClassId) (z1 : Int32) (lx : List Int32) (cs : Int32) (fm : Value) (h0 : Heap) (n0 : Nat) (v : Option Value) (h : Heap) (L : List Loc) : Prop := v = some (.int (Fuca p2 lx)) ∧ Fr n0 L ∧ h = h0
set_option maxRecDepth 65536 in
set_option maxHeartbeats 40000000 in
theorem rmuca (l : Launch) (Z : State) (a0 : Array Value) (hw : ∀ d ∈ tables_1, d.before a0 Z = true) (ws : List Jvm.Cond) (a1 : Addr) (p2 : Int32) (k1 : ClassId) (z1 : Int32) (lx : List Int32) (cs : Int32) (fm : Value) (h0 : Heap) (n0 : Nat) (hF : FX Z h0 cs fm) (V_b : Arv Z h0 a1 k1 .byte z1 (own_vl lx) (.int (0 : Int32))) (hb0 : ¬ ((p2 <<< ((1 : Int32) &&& 31)) < (0 : Int32))) (hb1 : (p2 <<< ((1 : Int32) &&& 31)) < z1) (hb2 : ¬ (((p2 <<< ((1 : Int32) &&& 31)) + (1 : Int32)) < (0 : Int32))) (hb3 : ((p2 <<< ((1 : Int32) &&& 31)) + (1 : Int32)) < z1) (hi0 : ¬ (p2 < (0 : Int32))) (hi1 : p2 < (z1 >>> ((1 : Int32) &&& 31))) :
    MetFree l (⟨"java/lang/StringUTF16", "charAt", "([BI)C"⟩ : MethodName) (head1 (Jvm.Cond.code (⟨"java/lang/StringUTF16", "charAt", "([BI)C"⟩ : MethodName) jdk_52_method_83_code 2 (some .char) :: ws) ({ frames := 3, cells := 0, slots := 0, locals := 40 } : Room)) (fun a U => a = #[(.ref a1), (.int p2)] ∧ Z.Warmed39 U.vm ∧ U.heap = h0) (fun _ _ _ _ _ => True) (fun _ U o U' => ∃ v L, o = .returned v ∧ Q_uca Z a1 p2 k1 z1 lx cs fm h0 n0 v U'.heap L ∧ FrameEnd U o U' L ({ frames := 3, cells := 0, slots := 0, locals := 40 } : Room).cells ({ frames := 3, cells := 0, slots := 0, locals := 40 } : Room).slots) := by
  refine met_of (Ls := #[.val (.ref a1), .val (.int p2)]) (plainFor_of_name (by first | (simp [plainName, overriddenIn]; done) | decide +kernel)) (fun m => ef_uca m a1 p2) ?_
  intro p e s m below meth c T0 C X0 e0
  obtain ⟨S_cs, hcs, S_fm, hfm, S_ad, S_hi, S_lo⟩ := id hF
  have N0 := Fr.nil n0
  refine g_iloadN (pc' := 1) C X0 d40_0 rfl rfl ?_
  refine g_aloadN (pc' := 2) C X0 d40_1 rfl rfl rfl ?_
  refine g_callS (y := (⟨"java/lang/StringUTF16", "checkIndex", "(I[B)V"⟩ : MethodName)) (argsL := [(.int p2), (.ref a1)]) (st := []) (pc' := 5) C X0 d40_2 (wq hw 196 rfl) (wq hw 197 rfl) (wq hw 23 rfl) (wq hw 198 rfl) (by decide) (rmuci l Z a0 hw [] p2 a1 k1 z1 lx cs fm h0 n0 hF V_b hi0 hi1) (W := 0) (by decide) (by decide) (ce := 0) (sl := 0) rfl rfl (by decide) (by decide) rfl e0 rfl pd_3 rfl (Nat.le_refl _) rfl (fun rv1 T1 L1 X1 Q1 => ?_)
  obtain ⟨q1, Nq1, e1⟩ := Q1
  have N1 := Fr.app N0 Nq1
  subst q1
  show Go p.tables e below _ (T1.setTop (mkF m 5 #[.val (.ref a1), .val (.int p2)] []))
  refine g_aloadN (pc' := 6) C X1 d40_5 rfl rfl rfl ?_
  refine g_iloadN (pc' := 7) C X1 d40_6 rfl rfl ?_
  refine g_callS (y := (⟨"java/lang/StringUTF16", "getChar", "([BI)C"⟩ : MethodName)) (argsL := [(.ref a1), (.int p2)]) (st := []) (pc' := 10) C X1 d40_7 (wq hw 190 rfl) (wq hw 191 rfl) (wq hw 23 rfl) (wq hw 192 rfl) (by decide) (rmugc l Z a0 hw [] a1 p2 k1 z1 lx cs fm h0 n0 hF V_b hb0 hb1 hb2 hb3) (W := 0) (by decide) (by decide) (ce := 0) (sl := 0) rfl rfl (by decide) (by decide) rfl e1 rfl pd_4 rfl (Nat.le_refl _) rfl (fun rv2 T2 L2 X2 Q2 => ?_)
  obtain ⟨q2, Nq2, e2⟩ := Q2
  have N2 := Fr.app N1 Nq2
  rw [Fugc_l0 p2 lx] at q2
  subst q2
  show Go p.tables e below _ (T2.setTop (mkF m 10 #[.val (.ref a1), .val (.int p2)] [(.int (nar .char ((((own_g lx (p2 <<< ((1 : Int32) &&& 31))) &&& (255 : Int32)) <<< ((0 : Int32) &&& 31)) ||| (((own_g lx ((p2 <<< ((1 : Int32) &&& 31)) + (1 : Int32))) &&& (255 : Int32)) <<< ((8 : Int32) &&& 31))).toUInt32.toUInt16.toUInt32.toInt32))]))
  exact g_retN C X2 (by simp) d40_10 (by decide) (by decide) ⟨congrArg (fun z => some (Value.int z)) (Fuca_l0 p2 lx ).symm, N2, e2⟩
def own_lo (x : Int32) : Int32 := nar .byte (x >>> ((0 : Int32) &&& 31)).toInt8.toInt32
def own_hi (x : Int32) : Int32 := nar .byte (x >>> ((8 : Int32) &&& 31)).toInt8.toInt32
def own_put (L : List Int32) (j x : Int32) : List Int32 := own_s (own_s L (j <<< ((1 : Int32) &&& 31)) (own_lo x)) ((j <<< ((1 : Int32) &&& 31)) + (1 : Int32)) (own_hi x)
theorem d38_0 : decode jdk_52_method_4_code 0 = .ok (.getstatic 44, 3) := by decide +kernel
theorem d38_3 : decode jdk_52_method_4_code 3 = .ok (.ifCond .ne 25, 3) := by decide +kernel
theorem d38_28 : decode jdk_52_method_4_code 28 = .ok (.iload_n 1, 1) := by decide +kernel
theorem d38_29 : decode jdk_52_method_4_code 29 = .ok (.iconst 1, 1) := by decide +kernel
theorem d38_30 : decode jdk_52_method_4_code 30 = .ok (.ishl, 1) := by decide +kernel
theorem d38_31 : decode jdk_52_method_4_code 31 = .ok (.istore_n 1, 1) := by decide +kernel
theorem d38_32 : decode jdk_52_method_4_code 32 = .ok (.aload_n 0, 1) := by decide +kernel
theorem d38_33 : decode jdk_52_method_4_code 33 = .ok (.iload_n 1, 1) := by decide +kernel
theorem d38_34 : decode jdk_52_method_4_code 34 = .ok (.iinc 1 1, 3) := by decide +kernel
theorem d38_37 : decode jdk_52_method_4_code 37 = .ok (.iload_n 2, 1) := by decide +kernel
theorem d38_38 : decode jdk_52_method_4_code 38 = .ok (.getstatic 59, 3) := by decide +kernel
theorem d38_41 : decode jdk_52_method_4_code 41 = .ok (.ishr, 1) := by decide +kernel
theorem d38_42 : decode jdk_52_method_4_code 42 = .ok (.i2b, 1) := by decide +kernel
theorem d38_43 : decode jdk_52_method_4_code 43 = .ok (.bastore, 1) := by decide +kernel
theorem d38_44 : decode jdk_52_method_4_code 44 = .ok (.aload_n 0, 1) := by decide +kernel
theorem d38_45 : decode jdk_52_method_4_code 45 = .ok (.iload_n 1, 1) := by decide +kernel
theorem d38_46 : decode jdk_52_method_4_code 46 = .ok (.iload_n 2, 1) := by decide +kernel
theorem d38_47 : decode jdk_52_method_4_code 47 = .ok (.getstatic 63, 3) := by decide +kernel
theorem d38_50 : decode jdk_52_method_4_code 50 = .ok (.ishr, 1) := by decide +kernel
theorem d38_51 : decode jdk_52_method_4_code 51 = .ok (.i2b, 1) := by decide +kernel
theorem d38_52 : decode jdk_52_method_4_code 52 = .ok (.bastore, 1) := by decide +kernel
theorem d38_53 : decode jdk_52_method_4_code 53 = .ok (.return_, 1) := by decide +kernel
theorem ef_upc (m : MethodId) (a1 : Addr) (p2 : Int32) (p3 : Int32) : entryFrame m #[(.ref a1), (.int p2), (.int p3)] 3 = mkF m 0 #[.val (.ref a1), .val (.int p2), .val (.int p3)] [] := by first | (simp [entryFrame, mkF, argsToLocals, Value.category]; done) | rfl
def Q_upc (Z : State) (a1 : Addr) (p2 : Int32) (p3 : Int32) (k1 : ClassId) (z1 : Int32) (lx : List Int32) (cs : Int32) (fm : Value) (h0 : Heap) (n0 : Nat) (vr : Option Value) (h : Heap) (L : List Loc) : Prop := (vr = none) ∧ (Fr n0 L) ∧ (Keep h0 h [a1]) ∧ (Arv Z h a1 k1 .byte z1 (own_vl (own_put lx p2 p3)) (.int (0 : Int32)))
set_option maxRecDepth 65536 in
set_option maxHeartbeats 40000000 in
theorem rmupc (l : Launch) (Z : State) (a0 : Array Value) (hw : ∀ d ∈ tables_1, d.before a0 Z = true) (ws : List Jvm.Cond) (a1 : Addr) (p2 : Int32) (p3 : Int32) (k1 : ClassId) (z1 : Int32) (lx : List Int32) (cs : Int32) (fm : Value) (h0 : Heap) (n0 : Nat) (Z0 : n0 ≤ h0.size) (hF : FX Z h0 cs fm) (V_b : Arv Z h0 a1 k1 .byte z1 (own_vl lx) (.int (0 : Int32))) (hb0 : ¬ ((p2 <<< ((1 : Int32) &&& 31)) < (0 : Int32))) (hb1 : (p2 <<< ((1 : Int32) &&& 31)) < z1) (hb2 : ¬ (((p2 <<< ((1 : Int32) &&& 31)) + (1 : Int32)) < (0 : Int32))) (hb3 : ((p2 <<< ((1 : Int32) &&& 31)) + (1 : Int32)) < z1) (gn_a1 : n0 ≤ a1) :
    MetFree l (⟨"java/lang/StringUTF16", "putChar", "([BII)V"⟩ : MethodName) (head1 (Jvm.Cond.code (⟨"java/lang/StringUTF16", "putChar", "([BII)V"⟩ : MethodName) jdk_52_method_4_code 3 none :: ws) ({ frames := 0, cells := 0, slots := 0, locals := 0 } : Room)) (fun a U => a = #[(.ref a1), (.int p2), (.int p3)] ∧ Z.Warmed39 U.vm ∧ U.heap = h0) (fun _ _ _ _ _ => True) (fun _ U o U' => ∃ v L, o = .returned v ∧ Q_upc Z a1 p2 p3 k1 z1 lx cs fm h0 n0 v U'.heap L ∧ FrameEnd U o U' L ({ frames := 0, cells := 0, slots := 0, locals := 0 } : Room).cells ({ frames := 0, cells := 0, slots := 0, locals := 0 } : Room).slots) := by
  refine met_of (Ls := #[.val (.ref a1), .val (.int p2), .val (.int p3)]) (plainFor_of_name (by first | (simp [plainName, overriddenIn]; done) | decide +kernel)) (fun m => ef_upc m a1 p2 p3) ?_
  intro p e s m below meth c T0 C X0 e0
  obtain ⟨S_cs, hcs, S_fm, hfm, S_ad, S_hi, S_lo⟩ := id hF
  have N0 := Fr.nil n0
  have K0 : Keep h0 h0 [a1] := Keep.refl h0 _
  refine g_getS (pc' := 3) C X0 d38_0 (host := "") (Or.inl (wq hw 187 rfl)) Via.refl e0 S_ad rfl (fun T1 X1 e1 => ?_)
  refine g_ifY (pc' := 28) C X1 d38_3 (feq (show ¬ ((1 : Int32) = (0 : Int32)) from (by decide))).2 (by decide) (by decide) ?_
  refine g_iloadN (pc' := 29) C X1 d38_28 rfl rfl ?_
  refine g_iconst (pc' := 30) (v := (1 : Int32)) C X1 d38_29 rfl rfl ?_
  refine g_ishl (pc' := 31) C X1 d38_30 rfl ?_
  refine g_istoreN (pc' := 32) (Ls' := #[.val (.ref a1), .val (.int (p2 <<< ((1 : Int32) &&& 31))), .val (.int p3)]) C X1 d38_31 rfl rfl ?_
  refine g_aloadN (pc' := 33) C X1 d38_32 rfl rfl rfl ?_
  refine g_iloadN (pc' := 34) C X1 d38_33 rfl rfl ?_
  refine g_iinc (pc' := 37) (Ls' := #[.val (.ref a1), .val (.int ((p2 <<< ((1 : Int32) &&& 31)) + (1 : Int32))), .val (.int p3)]) C X1 d38_34 rfl rfl rfl ?_
  refine g_iloadN (pc' := 38) C X1 d38_37 rfl rfl ?_
  refine g_getS (pc' := 41) C X1 d38_38 (host := "") (Or.inl (wq hw 188 rfl)) Via.refl e1 S_hi rfl (fun T2 X2 e2 => ?_)
  refine g_ishr (pc' := 42) C X2 d38_41 rfl ?_
  refine g_i2b (pc' := 43) C X2 d38_42 rfl ?_
  refine g_stB (pc' := 44) (i := (p2 <<< ((1 : Int32) &&& 31)).toNatClampNeg) C X2 d38_43 e2 (V_b.pad (pad_rep _ _ ((p2 <<< ((1 : Int32) &&& 31)).toNatClampNeg + 1))) ⟨hb0, hb1⟩ rfl own_lts rfl (fun T3 h3 X3 e3 W3 V3q => ?_)
  have V3 : Arv Z h3 a1 k1 .byte z1 (own_vl (own_s lx (p2 <<< ((1 : Int32) &&& 31)) (nar .byte (p3 >>> ((0 : Int32) &&& 31)).toInt8.toInt32))) (.int (0 : Int32)) := own_vl_set _ _ _ ▸ V3q
  have FX_3 := FX_wr hF W3
  have Z3 := Nat.le_trans Z0 (Nat.le_of_eq W3.size.symm)
  have N3 := Fr.snoc X3 N0 gn_a1
  have K3 := K0.wr W3 (Or.inl (List.mem_of_getElem? (i := 0) rfl))
  refine g_aloadN (pc' := 45) C X3 d38_44 rfl rfl rfl ?_
  refine g_iloadN (pc' := 46) C X3 d38_45 rfl rfl ?_
  refine g_iloadN (pc' := 47) C X3 d38_46 rfl rfl ?_
  refine g_getS (pc' := 50) C X3 d38_47 (host := "") (Or.inl (wq hw 189 rfl)) Via.refl e3 FX_3.2.2.2.2.2.2 rfl (fun T4 X4 e4 => ?_)
  refine g_ishr (pc' := 51) C X4 d38_50 rfl ?_
  refine g_i2b (pc' := 52) C X4 d38_51 rfl ?_
  refine g_stB (pc' := 53) (i := ((p2 <<< ((1 : Int32) &&& 31)) + (1 : Int32)).toNatClampNeg) C X4 d38_52 e4 (V3.pad (pad_rep _ _ (((p2 <<< ((1 : Int32) &&& 31)) + (1 : Int32)).toNatClampNeg + 1))) ⟨hb2, hb3⟩ rfl own_lts rfl (fun T5 h5 X5 e5 W5 V5q => ?_)
  have V5 : Arv Z h5 a1 k1 .byte z1 (own_vl (own_s (own_s lx (p2 <<< ((1 : Int32) &&& 31)) (nar .byte (p3 >>> ((0 : Int32) &&& 31)).toInt8.toInt32)) ((p2 <<< ((1 : Int32) &&& 31)) + (1 : Int32)) (nar .byte (p3 >>> ((8 : Int32) &&& 31)).toInt8.toInt32))) (.int (0 : Int32)) := own_vl_set _ _ _ ▸ V5q
  have FX_5 := FX_wr FX_3 W5
  have Z5 := Nat.le_trans Z3 (Nat.le_of_eq W5.size.symm)
  have N5 := Fr.snoc X5 N3 gn_a1
  have K5 := K3.wr W5 (Or.inl (List.mem_of_getElem? (i := 0) rfl))
  exact g_retV C X5 d38_53 (by decide) (by decide) ⟨rfl, N5, (by rw [e5]; exact K5), (by rw [e5]; exact V5)⟩
def own_B (x : Int32) : Int32 := nar .byte x.toInt8.toInt32
def own_lat (cs : List Int32) : List Int32 := cs.map own_B
def own_u (cs : List Int32) : List Int32 := cs.flatMap fun x => [own_lo x, own_hi x]
def own_n (cs : List Int32) : Int32 := Int32.ofNat cs.length
def own_ch (x : Int32) : Prop := 0 ≤ x.toInt ∧ x.toInt ≤ 65535
def own_r5 (n : Int32) : Prop := n = 0 ∨ n = 1 ∨ n = 2 ∨ n = 3 ∨ n = 4 ∨ n = 5
def own_r4 (n : Int32) : Prop := n = 0 ∨ n = 1 ∨ n = 2 ∨ n = 3 ∨ n = 4
theorem own_q5 {n : Int32} {P : Int32 → Prop} (h : own_r5 n) (q : P 0 ∧ P 1 ∧ P 2 ∧ P 3 ∧ P 4 ∧ P 5) : P n := by
  rcases h with rfl | rfl | rfl | rfl | rfl | rfl
  · exact q.1
  · exact q.2.1
  · exact q.2.2.1
  · exact q.2.2.2.1
  · exact q.2.2.2.2.1
  · exact q.2.2.2.2.2
theorem own_q4 {n : Int32} {P : Int32 → Prop} (h : own_r4 n) (q : P 0 ∧ P 1 ∧ P 2 ∧ P 3 ∧ P 4) : P n := by
  rcases h with rfl | rfl | rfl | rfl | rfl
  · exact q.1
  · exact q.2.1
  · exact q.2.2.1
  · exact q.2.2.2.1
  · exact q.2.2.2.2
theorem own_r5n {cs : List Int32} (h : cs.length ≤ 5) : own_r5 (own_n cs) := by
  unfold own_n own_r5
  generalize cs.length = k at h
  match k, h with
  | 0, _ => decide
  | 1, _ => decide
  | 2, _ => decide
  | 3, _ => decide
  | 4, _ => decide
  | 5, _ => decide
theorem own_r5e {n : Int32} {xs : List Int32} (hne : n = own_n xs) (hl : xs.length ≤ 5) : own_r5 n := by rw [hne]; exact own_r5n hl
theorem own_r4e {n : Int32} {xs : List Int32} (hne : n = own_n xs) (hl : own_r4 (own_n xs)) : own_r4 n := by rw [hne]; exact hl
theorem own_r4n {cs : List Int32} (h : cs.length < 5) : own_r4 (own_n cs) := by
  unfold own_n own_r4
  generalize cs.length = k at h
  match k, h with
  | 0, _ => decide
  | 1, _ => decide
  | 2, _ => decide
  | 3, _ => decide
  | 4, _ => decide
theorem own_ntn {cs : List Int32} (h : cs.length ≤ 5) : (own_n cs).toNatClampNeg = cs.length := by
  unfold own_n
  generalize cs.length = k at h ⊢
  match k, h with
  | 0, _ => decide
  | 1, _ => decide
  | 2, _ => decide
  | 3, _ => decide
  | 4, _ => decide
  | 5, _ => decide
theorem own_hb {n p : Int32} (hn : own_r5 n) (h0 : ¬ p < 0) (h1 : p < n) : (¬ (p <<< ((1 : Int32) &&& 31)) < 0) ∧ (p <<< ((1 : Int32) &&& 31)) < n + n ∧ (¬ ((p <<< ((1 : Int32) &&& 31)) + 1) < 0) ∧ ((p <<< ((1 : Int32) &&& 31)) + 1) < n + n ∧ p < ((n + n) >>> ((1 : Int32) &&& 31)) := by
  rw [Int32.lt_iff_toInt_lt] at h0 h1
  have hz : (0 : Int32).toInt = 0 := by decide
  have h5 : n.toInt ≤ 5 := own_q5 (P := fun n => n.toInt ≤ 5) hn (by decide)
  obtain ⟨i, rfl⟩ := own_fin 5 p (by omega) (by omega)
  rw [← Int32.lt_iff_toInt_lt] at h1
  clear h0 h5
  rcases hn with rfl | rfl | rfl | rfl | rfl | rfl <;> revert i <;> decide
def Str (Z : State) (h : Heap) (a v : Addr) (xs : List Int32) : Prop := xs.length ≤ 5 ∧ (∀ x ∈ xs, own_ch x) ∧ Exa Z h a "java/lang/String" ∧ Fld Z h a "java/lang/String" "value" "[B" (.ref v) ∧ ∃ k n, n = own_n xs ∧ ((Fld Z h a "java/lang/String" "coder" "B" (.int 0) ∧ (∀ x ∈ xs, ¬ ((255 : Int32) < x)) ∧ Arv Z h v k .byte n (own_vl (own_lat xs)) (.int 0)) ∨ (Fld Z h a "java/lang/String" "coder" "B" (.int 1) ∧ Arv Z h v k .byte (n + n) (own_vl (own_u xs)) (.int 0)))
section
variable {Z : State} {h h' : Heap} {a v : Addr} {xs : List Int32} {ws : List Addr}
theorem Str_exa (F : Str Z h a v xs) : Exa Z h a "java/lang/String" := F.2.2.1
theorem Str_lt0 (F : Str Z h a v xs) : a < h.size := F.2.2.1.lt
theorem Str_lt1 (F : Str Z h a v xs) : v < h.size := by
  obtain ⟨-, -, -, -, k, n, -, ⟨-, -, V⟩ | ⟨-, V⟩⟩ := F <;> exact V.lt
theorem Str_ext (F : Str Z h a v xs) (E : Ext h h') : Str Z h' a v xs := by
  obtain ⟨h1, h2, h3, h4, k, n, h5, ⟨f, g, V⟩ | ⟨f, V⟩⟩ := F
  · exact ⟨h1, h2, h3.ext E, h4.ext E, k, n, h5, Or.inl ⟨f.ext E, g, V.ext E⟩⟩
  · exact ⟨h1, h2, h3.ext E, h4.ext E, k, n, h5, Or.inr ⟨f.ext E, V.ext E⟩⟩
theorem Str_keep (F : Str Z h a v xs) (K : Keep h h' ws) (q : a ∉ ws) (r : v ∉ ws) : Str Z h' a v xs := by
  obtain ⟨h1, h2, h3, h4, k, n, h5, ⟨f, g, V⟩ | ⟨f, V⟩⟩ := F
  · exact ⟨h1, h2, h3.keep K, h4.keep K q, k, n, h5, Or.inl ⟨f.keep K q, g, V.keep K r⟩⟩
  · exact ⟨h1, h2, h3.keep K, h4.keep K q, k, n, h5, Or.inr ⟨f.keep K q, V.keep K r⟩⟩
end
theorem own_i2c {x : Int32} (h : own_ch x) : x.toUInt32.toUInt16.toUInt32.toInt32 = x := by
  have a := c_i2c x
  obtain ⟨h0, h1⟩ := h
  apply Int32.toInt_inj.mp; omega
theorem own_narc {x : Int32} (h : own_ch x) : nar .char x = x := own_i2c h
theorem own_lom (x : Int32) : (own_lo x &&& 255).toInt = x.toInt % 256 := by
  have a := c_ishr x 0 0 (by decide)
  have b := c_i2b (x >>> ((0 : Int32) &&& 31))
  have c : own_lo x = (x >>> ((0 : Int32) &&& 31)).toInt8.toInt32.toInt8.toInt32 := rfl
  have d := c_i2b (x >>> ((0 : Int32) &&& 31)).toInt8.toInt32
  have m := c_mask (own_lo x) 255 8 (by decide) (by decide)
  rw [c] at m ⊢
  omega
theorem own_him (x : Int32) : (own_hi x &&& 255).toInt = (x.toInt / 256) % 256 := by
  have a := c_ishr x 8 8 (by decide)
  have b := c_i2b (x >>> ((8 : Int32) &&& 31))
  have c : own_hi x = (x >>> ((8 : Int32) &&& 31)).toInt8.toInt32.toInt8.toInt32 := rfl
  have d := c_i2b (x >>> ((8 : Int32) &&& 31)).toInt8.toInt32
  have m := c_mask (own_hi x) 255 8 (by decide) (by decide)
  rw [c] at m ⊢
  omega
theorem own_cmp {x l u : Int32} (h : own_ch x) (hl : l.toInt = x.toInt % 256) (hu : u.toInt = (x.toInt / 256) % 256) : nar .char ((l <<< ((0 : Int32) &&& 31)) ||| (u <<< ((8 : Int32) &&& 31))).toUInt32.toUInt16.toUInt32.toInt32 = x := by
  obtain ⟨h0, h1⟩ := h
  have s1 := c_ishl l 0 0 (by decide)
  have s2 := c_ishl u 8 8 (by decide)
  have r1 := (l <<< ((0 : Int32) &&& 31)).toInt_lt
  have r1' := (l <<< ((0 : Int32) &&& 31)).le_toInt
  have r2 := (u <<< ((8 : Int32) &&& 31)).toInt_lt
  have r2' := (u <<< ((8 : Int32) &&& 31)).le_toInt
  have e1 : (l <<< ((0 : Int32) &&& 31)).toInt = x.toInt % 256 := by omega
  have e2 : (u <<< ((8 : Int32) &&& 31)).toInt = x.toInt / 256 * 256 := by omega
  have o := c_or' (l <<< ((0 : Int32) &&& 31)) (u <<< ((8 : Int32) &&& 31)) 8 (by decide) 256 (by decide) (by omega) (by omega) (by omega)
  have r3 := ((l <<< ((0 : Int32) &&& 31)) ||| (u <<< ((8 : Int32) &&& 31))).toInt_lt
  have r3' := ((l <<< ((0 : Int32) &&& 31)) ||| (u <<< ((8 : Int32) &&& 31))).le_toInt
  have e3 : ((l <<< ((0 : Int32) &&& 31)) ||| (u <<< ((8 : Int32) &&& 31))) = x := Int32.toInt_inj.mp (by omega)
  rw [e3, own_i2c ⟨h0, h1⟩, own_narc ⟨h0, h1⟩]
theorem own_Bm {x : Int32} (h : own_ch x) (q : ¬ (255 : Int32) < x) : own_B x &&& 255 = x := by
  rw [Int32.lt_iff_toInt_lt] at q
  have z : (255 : Int32).toInt = 255 := by decide
  have b := c_i2b x
  have c : own_B x = x.toInt8.toInt32.toInt8.toInt32 := rfl
  have d := c_i2b x.toInt8.toInt32
  have m := c_mask (own_B x) 255 8 (by decide) (by decide)
  obtain ⟨h0, h1⟩ := h
  apply Int32.toInt_inj.mp
  rw [c] at m ⊢
  omega
theorem own_u_cons (x : Int32) (t : List Int32) : own_u (x :: t) = own_lo x :: own_hi x :: own_u t := rfl
theorem own_lo0 : own_lo 0 = 0 := by decide
theorem own_hi0 : own_hi 0 = 0 := by decide
theorem own_u_get (xs : List Int32) : ∀ i, (own_u xs).getD (2 * i) 0 = own_lo (xs.getD i 0) ∧ (own_u xs).getD (2 * i + 1) 0 = own_hi (xs.getD i 0) := by
  induction xs with
  | nil => intro i; exact ⟨by rw [List.getD_nil, own_lo0]; rfl, by rw [List.getD_nil, own_hi0]; rfl⟩
  | cons x t ih =>
    intro i
    cases i with
    | zero => exact ⟨rfl, rfl⟩
    | succ i =>
      rw [own_u_cons, show 2 * (i + 1) = 2 * i + 1 + 1 by omega, show 2 * i + 1 + 1 + 1 = (2 * i + 1) + 1 + 1 by omega, List.getD_cons_succ, List.getD_cons_succ, List.getD_cons_succ, List.getD_cons_succ, List.getD_cons_succ]
      exact ih i
theorem own_B0 : own_B 0 = 0 := by decide
theorem own_lat_get (xs : List Int32) (i : Nat) : (own_lat xs).getD i 0 = own_B (xs.getD i 0) := by
  unfold own_lat
  rw [List.getD_eq_getElem?_getD, List.getD_eq_getElem?_getD, List.getElem?_map]
  cases xs[i]? with
  | none => exact own_B0.symm
  | some x => rfl
theorem own_g_all {xs : List Int32} {P : Int32 → Prop} (hx : ∀ x ∈ xs, P x) (h0 : P 0) (p : Int32) : P (own_g xs p) := by
  unfold own_g
  rw [List.getD_eq_getElem?_getD]
  cases h : xs[p.toNatClampNeg]? with
  | none => exact h0
  | some x => exact hx x (List.mem_of_getElem? h)
theorem own_clL {xs : List Int32} {p : Int32} (hx : ∀ x ∈ xs, own_ch x) (hy : ∀ x ∈ xs, ¬ ((255 : Int32) < x)) : (nar .char ((own_g (own_lat xs) p) &&& (255 : Int32)).toUInt32.toUInt16.toUInt32.toInt32) = own_g xs p := by
  have e : own_g (own_lat xs) p = own_B (own_g xs p) := own_lat_get _ _
  have c := own_g_all hx (⟨by decide, by decide⟩ : own_ch 0) p
  rw [e, own_Bm c (own_g_all hy (by decide) p), own_i2c c, own_narc c]
theorem own_ix {p : Int32} {n : Int32} (hn : own_r5 n) (h0 : ¬ p < 0) (h1 : p < n) : ((p <<< ((1 : Int32) &&& 31))).toNatClampNeg = 2 * p.toNatClampNeg ∧ ((p <<< ((1 : Int32) &&& 31)) + (1 : Int32)).toNatClampNeg = 2 * p.toNatClampNeg + 1 := by
  rw [Int32.lt_iff_toInt_lt] at h0 h1
  have hz : (0 : Int32).toInt = 0 := by decide
  have h5 : n.toInt ≤ 5 := own_q5 (P := fun n => n.toInt ≤ 5) hn (by decide)
  obtain ⟨i, rfl⟩ := own_fin 5 p (by omega) (by omega)
  clear h0 h1 h5
  revert i; decide
theorem own_gU1 {xs : List Int32} {p : Int32} (hl : xs.length ≤ 5) (h0 : ¬ (p < (0 : Int32))) (h1 : p < own_n xs) : own_g (own_u xs) (p <<< ((1 : Int32) &&& 31)) = own_lo (own_g xs p) := by
  have i := own_ix (own_r5n hl) h0 h1
  show (own_u xs).getD (p <<< ((1 : Int32) &&& 31)).toNatClampNeg 0 = own_lo (xs.getD p.toNatClampNeg 0)
  rw [i.1]; exact (own_u_get _ _).1
theorem own_gU2 {xs : List Int32} {p : Int32} (hl : xs.length ≤ 5) (h0 : ¬ (p < (0 : Int32))) (h1 : p < own_n xs) : own_g (own_u xs) ((p <<< ((1 : Int32) &&& 31)) + (1 : Int32)) = own_hi (own_g xs p) := by
  have i := own_ix (own_r5n hl) h0 h1
  show (own_u xs).getD ((p <<< ((1 : Int32) &&& 31)) + (1 : Int32)).toNatClampNeg 0 = own_hi (xs.getD p.toNatClampNeg 0)
  rw [i.2]; exact (own_u_get _ _).2
theorem own_cx {x : Int32} (h : own_ch x) : nar .char ((((own_lo x) &&& (255 : Int32)) <<< ((0 : Int32) &&& 31)) ||| (((own_hi x) &&& (255 : Int32)) <<< ((8 : Int32) &&& 31))).toUInt32.toUInt16.toUInt32.toInt32 = x := own_cmp h (own_lom _) (own_him _)
theorem own_clU {xs : List Int32} {p : Int32} (hx : ∀ x ∈ xs, own_ch x) (hl : xs.length ≤ 5) (h0 : ¬ (p < (0 : Int32))) (h1 : p < own_n xs) : (nar .char (nar .char ((((own_g (own_u xs) (p <<< ((1 : Int32) &&& 31))) &&& (255 : Int32)) <<< ((0 : Int32) &&& 31)) ||| (((own_g (own_u xs) ((p <<< ((1 : Int32) &&& 31)) + (1 : Int32))) &&& (255 : Int32)) <<< ((8 : Int32) &&& 31))).toUInt32.toUInt16.toUInt32.toInt32)) = own_g xs p := by
  have c := own_g_all hx (⟨by decide, by decide⟩ : own_ch 0) p
  rw [own_gU1 hl h0 h1, own_gU2 hl h0 h1, own_cx c]; exact own_narc c

theorem d14_0 : decode jdk_42_method_154_code 0 = .ok (.getstatic 38, 3) := by decide +kernel
theorem d14_3 : decode jdk_42_method_154_code 3 = .ok (.ifCond .eq 14, 3) := by decide +kernel
theorem d14_6 : decode jdk_42_method_154_code 6 = .ok (.aload_n 0, 1) := by decide +kernel
theorem d14_7 : decode jdk_42_method_154_code 7 = .ok (.getfield 15, 3) := by decide +kernel
theorem d14_10 : decode jdk_42_method_154_code 10 = .ok (.ifCond .ne 7, 3) := by decide +kernel
theorem d14_13 : decode jdk_42_method_154_code 13 = .ok (.iconst 1, 1) := by decide +kernel
theorem d14_14 : decode jdk_42_method_154_code 14 = .ok (.goto 4, 3) := by decide +kernel
theorem d14_18 : decode jdk_42_method_154_code 18 = .ok (.ireturn, 1) := by decide +kernel
def Fisl0  : Int32 := (1 : Int32)
theorem Fisl0_l0   : Fisl0  = (1 : Int32) := rfl
theorem ef_isl0 (m : MethodId) (a1 : Addr) : entryFrame m #[(.ref a1)] 1 = mkF m 0 #[.val (.ref a1)] [] := by first | (simp [entryFrame, mkF, argsToLocals, Value.category]; done) | rfl
def Q_isl0 (Z : State) (a1 : Addr) (cs : Int32) (fm : Value) (h0 : Heap) (n0 : Nat) (v : Option Value) (h : Heap) (L : List Loc) : Prop := v = some (.int (Fisl0 )) ∧ Fr n0 L ∧ h = h0
set_option maxRecDepth 65536 in
set_option maxHeartbeats 40000000 in
theorem rmisl0 (l : Launch) (Z : State) (a0 : Array Value) (hw : ∀ d ∈ tables_1, d.before a0 Z = true) (ws : List Jvm.Cond) (a1 : Addr) (cs : Int32) (fm : Value) (h0 : Heap) (n0 : Nat) (hF : FX Z h0 cs fm) (Fc_a1 : Fld Z h0 a1 "java/lang/String" "coder" "B" (.int (0 : Int32))) :
    MetFree l (⟨"java/lang/String", "isLatin1", "()Z"⟩ : MethodName) (head1 (Jvm.Cond.code (⟨"java/lang/String", "isLatin1", "()Z"⟩ : MethodName) jdk_42_method_154_code 1 (some .boolean) :: ws) ({ frames := 0, cells := 0, slots := 0, locals := 0 } : Room)) (fun a U => a = #[(.ref a1)] ∧ Z.Warmed39 U.vm ∧ U.heap = h0) (fun _ _ _ _ _ => True) (fun _ U o U' => ∃ v L, o = .returned v ∧ Q_isl0 Z a1 cs fm h0 n0 v U'.heap L ∧ FrameEnd U o U' L ({ frames := 0, cells := 0, slots := 0, locals := 0 } : Room).cells ({ frames := 0, cells := 0, slots := 0, locals := 0 } : Room).slots) := by
  refine met_of (Ls := #[.val (.ref a1)]) (plainFor_of_name (by first | (simp [plainName, overriddenIn]; done) | decide +kernel)) (fun m => ef_isl0 m a1) ?_
  intro p e s m below meth c T0 C X0 e0
  obtain ⟨S_cs, hcs, S_fm, hfm, S_ad, S_hi, S_lo⟩ := id hF
  have N0 := Fr.nil n0
  refine g_getS (pc' := 3) C X0 d14_0 (host := "") (Or.inl (wq hw 20 rfl)) Via.refl e0 S_cs rfl (fun T1 X1 e1 => ?_)
  refine g_ifN (pc' := 6) C X1 d14_3 (feq hcs).1 rfl ?_
  refine g_aloadN (pc' := 7) C X1 d14_6 rfl rfl rfl ?_
  refine g_getF (pc' := 10) C X1 d14_7 (host := "") (Or.inl (wq hw 32 rfl)) Via.refl e1 Fc_a1 rfl (fun T2 X2 e2 => ?_)
  refine g_ifN (pc' := 13) C X2 d14_10 (teq (show (0 : Int32) = (0 : Int32) from (by decide))).2 rfl ?_
  refine g_iconst (pc' := 14) (v := (1 : Int32)) C X2 d14_13 rfl rfl ?_
  refine g_goto (pc' := 18) C X2 d14_14 (by decide) (by decide) ?_
  exact g_retN C X2 (by simp) d14_18 (by decide) (by decide) ⟨congrArg (fun z => some (Value.int z)) (Fisl0_l0  ).symm, N0, e2⟩
theorem d14_17 : decode jdk_42_method_154_code 17 = .ok (.iconst 0, 1) := by decide +kernel
def Fisl1  : Int32 := (0 : Int32)
theorem Fisl1_l0   : Fisl1  = (0 : Int32) := rfl
theorem ef_isl1 (m : MethodId) (a1 : Addr) : entryFrame m #[(.ref a1)] 1 = mkF m 0 #[.val (.ref a1)] [] := by first | (simp [entryFrame, mkF, argsToLocals, Value.category]; done) | rfl
def Q_isl1 (Z : State) (a1 : Addr) (cs : Int32) (fm : Value) (h0 : Heap) (n0 : Nat) (v : Option Value) (h : Heap) (L : List Loc) : Prop := v = some (.int (Fisl1 )) ∧ Fr n0 L ∧ h = h0
set_option maxRecDepth 65536 in
set_option maxHeartbeats 40000000 in
theorem rmisl1 (l : Launch) (Z : State) (a0 : Array Value) (hw : ∀ d ∈ tables_1, d.before a0 Z = true) (ws : List Jvm.Cond) (a1 : Addr) (cs : Int32) (fm : Value) (h0 : Heap) (n0 : Nat) (hF : FX Z h0 cs fm) (Fc_a1 : Fld Z h0 a1 "java/lang/String" "coder" "B" (.int (1 : Int32))) :
    MetFree l (⟨"java/lang/String", "isLatin1", "()Z"⟩ : MethodName) (head1 (Jvm.Cond.code (⟨"java/lang/String", "isLatin1", "()Z"⟩ : MethodName) jdk_42_method_154_code 1 (some .boolean) :: ws) ({ frames := 0, cells := 0, slots := 0, locals := 0 } : Room)) (fun a U => a = #[(.ref a1)] ∧ Z.Warmed39 U.vm ∧ U.heap = h0) (fun _ _ _ _ _ => True) (fun _ U o U' => ∃ v L, o = .returned v ∧ Q_isl1 Z a1 cs fm h0 n0 v U'.heap L ∧ FrameEnd U o U' L ({ frames := 0, cells := 0, slots := 0, locals := 0 } : Room).cells ({ frames := 0, cells := 0, slots := 0, locals := 0 } : Room).slots) := by
  refine met_of (Ls := #[.val (.ref a1)]) (plainFor_of_name (by first | (simp [plainName, overriddenIn]; done) | decide +kernel)) (fun m => ef_isl1 m a1) ?_
  intro p e s m below meth c T0 C X0 e0
  obtain ⟨S_cs, hcs, S_fm, hfm, S_ad, S_hi, S_lo⟩ := id hF
  have N0 := Fr.nil n0
  refine g_getS (pc' := 3) C X0 d14_0 (host := "") (Or.inl (wq hw 20 rfl)) Via.refl e0 S_cs rfl (fun T1 X1 e1 => ?_)
  refine g_ifN (pc' := 6) C X1 d14_3 (feq hcs).1 rfl ?_
  refine g_aloadN (pc' := 7) C X1 d14_6 rfl rfl rfl ?_
  refine g_getF (pc' := 10) C X1 d14_7 (host := "") (Or.inl (wq hw 32 rfl)) Via.refl e1 Fc_a1 rfl (fun T2 X2 e2 => ?_)
  refine g_ifY (pc' := 17) C X2 d14_10 (feq (show ¬ ((1 : Int32) = (0 : Int32)) from (by decide))).2 (by decide) (by decide) ?_
  refine g_iconst (pc' := 18) (v := (0 : Int32)) C X2 d14_17 rfl rfl ?_
  exact g_retN C X2 (by simp) d14_18 (by decide) (by decide) ⟨congrArg (fun z => some (Value.int z)) (Fisl1_l0  ).symm, N0, e2⟩
theorem d10_0 : decode jdk_42_method_152_code 0 = .ok (.getstatic 38, 3) := by decide +kernel
theorem d10_3 : decode jdk_42_method_152_code 3 = .ok (.ifCond .eq 10, 3) := by decide +kernel
theorem d10_6 : decode jdk_42_method_152_code 6 = .ok (.aload_n 0, 1) := by decide +kernel
theorem d10_7 : decode jdk_42_method_152_code 7 = .ok (.getfield 15, 3) := by decide +kernel
theorem d10_10 : decode jdk_42_method_152_code 10 = .ok (.goto 4, 3) := by decide +kernel
theorem d10_14 : decode jdk_42_method_152_code 14 = .ok (.ireturn, 1) := by decide +kernel
def Fcod0  : Int32 := (0 : Int32)
theorem Fcod0_l0   : Fcod0  = (0 : Int32) := rfl
theorem ef_cod0 (m : MethodId) (a1 : Addr) : entryFrame m #[(.ref a1)] 1 = mkF m 0 #[.val (.ref a1)] [] := by first | (simp [entryFrame, mkF, argsToLocals, Value.category]; done) | rfl
def Q_cod0 (Z : State) (a1 : Addr) (cs : Int32) (fm : Value) (h0 : Heap) (n0 : Nat) (v : Option Value) (h : Heap) (L : List Loc) : Prop := v = some (.int (Fcod0 )) ∧ Fr n0 L ∧ h = h0
set_option maxRecDepth 65536 in
set_option maxHeartbeats 40000000 in
theorem rmcod0 (l : Launch) (Z : State) (a0 : Array Value) (hw : ∀ d ∈ tables_1, d.before a0 Z = true) (ws : List Jvm.Cond) (a1 : Addr) (cs : Int32) (fm : Value) (h0 : Heap) (n0 : Nat) (hF : FX Z h0 cs fm) (Fc_a1 : Fld Z h0 a1 "java/lang/String" "coder" "B" (.int (0 : Int32))) :
    MetFree l (⟨"java/lang/String", "coder", "()B"⟩ : MethodName) (head1 (Jvm.Cond.code (⟨"java/lang/String", "coder", "()B"⟩ : MethodName) jdk_42_method_152_code 1 (some .byte) :: ws) ({ frames := 0, cells := 0, slots := 0, locals := 0 } : Room)) (fun a U => a = #[(.ref a1)] ∧ Z.Warmed39 U.vm ∧ U.heap = h0) (fun _ _ _ _ _ => True) (fun _ U o U' => ∃ v L, o = .returned v ∧ Q_cod0 Z a1 cs fm h0 n0 v U'.heap L ∧ FrameEnd U o U' L ({ frames := 0, cells := 0, slots := 0, locals := 0 } : Room).cells ({ frames := 0, cells := 0, slots := 0, locals := 0 } : Room).slots) := by
  refine met_of (Ls := #[.val (.ref a1)]) (plainFor_of_name (by first | (simp [plainName, overriddenIn]; done) | decide +kernel)) (fun m => ef_cod0 m a1) ?_
  intro p e s m below meth c T0 C X0 e0
  obtain ⟨S_cs, hcs, S_fm, hfm, S_ad, S_hi, S_lo⟩ := id hF
  have N0 := Fr.nil n0
  refine g_getS (pc' := 3) C X0 d10_0 (host := "") (Or.inl (wq hw 20 rfl)) Via.refl e0 S_cs rfl (fun T1 X1 e1 => ?_)
  refine g_ifN (pc' := 6) C X1 d10_3 (feq hcs).1 rfl ?_
  refine g_aloadN (pc' := 7) C X1 d10_6 rfl rfl rfl ?_
  refine g_getF (pc' := 10) C X1 d10_7 (host := "") (Or.inl (wq hw 32 rfl)) Via.refl e1 Fc_a1 rfl (fun T2 X2 e2 => ?_)
  refine g_goto (pc' := 14) C X2 d10_10 (by decide) (by decide) ?_
  exact g_retN C X2 (by simp) d10_14 (by decide) (by decide) ⟨congrArg (fun z => some (Value.int z)) (Fcod0_l0  ).symm, N0, e2⟩
def Fcod1  : Int32 := (1 : Int32)
theorem Fcod1_l0   : Fcod1  = (1 : Int32) := rfl
theorem ef_cod1 (m : MethodId) (a1 : Addr) : entryFrame m #[(.ref a1)] 1 = mkF m 0 #[.val (.ref a1)] [] := by first | (simp [entryFrame, mkF, argsToLocals, Value.category]; done) | rfl
def Q_cod1 (Z : State) (a1 : Addr) (cs : Int32) (fm : Value) (h0 : Heap) (n0 : Nat) (v : Option Value) (h : Heap) (L : List Loc) : Prop := v = some (.int (Fcod1 )) ∧ Fr n0 L ∧ h = h0
set_option maxRecDepth 65536 in
set_option maxHeartbeats 40000000 in
theorem rmcod1 (l : Launch) (Z : State) (a0 : Array Value) (hw : ∀ d ∈ tables_1, d.before a0 Z = true) (ws : List Jvm.Cond) (a1 : Addr) (cs : Int32) (fm : Value) (h0 : Heap) (n0 : Nat) (hF : FX Z h0 cs fm) (Fc_a1 : Fld Z h0 a1 "java/lang/String" "coder" "B" (.int (1 : Int32))) :
    MetFree l (⟨"java/lang/String", "coder", "()B"⟩ : MethodName) (head1 (Jvm.Cond.code (⟨"java/lang/String", "coder", "()B"⟩ : MethodName) jdk_42_method_152_code 1 (some .byte) :: ws) ({ frames := 0, cells := 0, slots := 0, locals := 0 } : Room)) (fun a U => a = #[(.ref a1)] ∧ Z.Warmed39 U.vm ∧ U.heap = h0) (fun _ _ _ _ _ => True) (fun _ U o U' => ∃ v L, o = .returned v ∧ Q_cod1 Z a1 cs fm h0 n0 v U'.heap L ∧ FrameEnd U o U' L ({ frames := 0, cells := 0, slots := 0, locals := 0 } : Room).cells ({ frames := 0, cells := 0, slots := 0, locals := 0 } : Room).slots) := by
  refine met_of (Ls := #[.val (.ref a1)]) (plainFor_of_name (by first | (simp [plainName, overriddenIn]; done) | decide +kernel)) (fun m => ef_cod1 m a1) ?_
  intro p e s m below meth c T0 C X0 e0
  obtain ⟨S_cs, hcs, S_fm, hfm, S_ad, S_hi, S_lo⟩ := id hF
  have N0 := Fr.nil n0
  refine g_getS (pc' := 3) C X0 d10_0 (host := "") (Or.inl (wq hw 20 rfl)) Via.refl e0 S_cs rfl (fun T1 X1 e1 => ?_)
  refine g_ifN (pc' := 6) C X1 d10_3 (feq hcs).1 rfl ?_
  refine g_aloadN (pc' := 7) C X1 d10_6 rfl rfl rfl ?_
  refine g_getF (pc' := 10) C X1 d10_7 (host := "") (Or.inl (wq hw 32 rfl)) Via.refl e1 Fc_a1 rfl (fun T2 X2 e2 => ?_)
  refine g_goto (pc' := 14) C X2 d10_10 (by decide) (by decide) ?_
  exact g_retN C X2 (by simp) d10_14 (by decide) (by decide) ⟨congrArg (fun z => some (Value.int z)) (Fcod1_l0  ).symm, N0, e2⟩
theorem d9_0 : decode jdk_42_method_54_code 0 = .ok (.aload_n 0, 1) := by decide +kernel
theorem d9_1 : decode jdk_42_method_54_code 1 = .ok (.getfield 9, 3) := by decide +kernel
theorem d9_4 : decode jdk_42_method_54_code 4 = .ok (.arraylength, 1) := by decide +kernel
theorem d9_5 : decode jdk_42_method_54_code 5 = .ok (.aload_n 0, 1) := by decide +kernel
theorem d9_6 : decode jdk_42_method_54_code 6 = .ok (.invokevirtual 335, 3) := by decide +kernel
theorem pd_5 : parseMethodDescriptor "()B" = some ⟨[], some .byte⟩ := by decide +kernel
theorem d9_9 : decode jdk_42_method_54_code 9 = .ok (.ishr, 1) := by decide +kernel
theorem d9_10 : decode jdk_42_method_54_code 10 = .ok (.ireturn, 1) := by decide +kernel
theorem ef_sl (m : MethodId) (a1 : Addr) : entryFrame m #[(.ref a1)] 1 = mkF m 0 #[.val (.ref a1)] [] := by first | (simp [entryFrame, mkF, argsToLocals, Value.category]; done) | rfl
def Q_sl (Z : State) (a1 : Addr) (v1_ : Addr) (xs : List Int32) (cs : Int32) (fm : Value) (h0 : Heap) (n0 : Nat) (v : Option Value) (h : Heap) (L : List Loc) : Prop := v = some (.int (own_n xs)) ∧ Fr n0 L ∧ h = h0
set_option maxRecDepth 65536 in
set_option maxHeartbeats 40000000 in
theorem rmsl (l : Launch) (Z : State) (a0 : Array Value) (hw : ∀ d ∈ tables_1, d.before a0 Z = true) (ws : List Jvm.Cond) (a1 : Addr) (v1_ : Addr) (xs : List Int32) (cs : Int32) (fm : Value) (h0 : Heap) (n0 : Nat) (hF : FX Z h0 cs fm) (hS : Str Z h0 a1 v1_ xs) :
    MetFree l (⟨"java/lang/String", "length", "()I"⟩ : MethodName) (head1 (Jvm.Cond.code (⟨"java/lang/String", "length", "()I"⟩ : MethodName) jdk_42_method_54_code 1 (some .int) :: ws) ({ frames := 1, cells := 0, slots := 0, locals := 13 } : Room)) (fun a U => a = #[(.ref a1)] ∧ Z.Warmed39 U.vm ∧ U.heap = h0) (fun _ _ _ _ _ => True) (fun _ U o U' => ∃ v L, o = .returned v ∧ Q_sl Z a1 v1_ xs cs fm h0 n0 v U'.heap L ∧ FrameEnd U o U' L ({ frames := 1, cells := 0, slots := 0, locals := 13 } : Room).cells ({ frames := 1, cells := 0, slots := 0, locals := 13 } : Room).slots) := by
  refine met_of (Ls := #[.val (.ref a1)]) (plainFor_of_name (by first | (simp [plainName, overriddenIn]; done) | decide +kernel)) (fun m => ef_sl m a1) ?_
  intro p e s m below meth c T0 C X0 e0
  obtain ⟨S_cs, hcs, S_fm, hfm, S_ad, S_hi, S_lo⟩ := id hF
  have N0 := Fr.nil n0
  rcases hS with ⟨hl_a1, hx_a1, E_a1, Fv_a1, k_a1, n, hne, ⟨Fc_a1, hy_a1, V_v1_⟩ | ⟨Fc_a1, V_v1_⟩⟩
  · have _q := trivial
    refine g_aloadN (pc' := 1) C X0 d9_0 rfl rfl rfl ?_
    refine g_getF (pc' := 4) C X0 d9_1 (host := "") (Or.inl (wq hw 34 rfl)) Via.refl e0 Fv_a1 rfl (fun T1 X1 e1 => ?_)
    refine g_len (pc' := 5) C X1 d9_4 e1 V_v1_ rfl ?_
    refine g_aloadN (pc' := 6) C X1 d9_5 rfl rfl rfl ?_
    refine g_callV (b := a1) (z := (⟨"java/lang/String", "coder", "()B"⟩ : MethodName)) (y := (⟨"java/lang/String", "coder", "()B"⟩ : MethodName)) (argsL := []) (st := [(.int n)]) (pc' := 9) C X1 d9_6 (wq hw 48 rfl) (wq hw 49 rfl) (notFace_of_selects (args := #[]) (mvT C.hZ (wq hw 51 rfl))) (wq hw 51 rfl) (wq hw 50 rfl) (wq hw 9 rfl) (wq hw 52 rfl) (by decide) (rmcod0 l Z a0 hw [] a1 cs fm h0 n0 hF Fc_a1) (W := 1) (by decide) (by decide) (ce := 0) (sl := 0) rfl rfl (by decide) (by decide) rfl E_a1 e1 rfl pd_5 rfl (Nat.le_refl _) rfl (fun rv2 T2 L2 X2 Q2 => ?_)
    obtain ⟨q2, Nq2, e2⟩ := Q2
    have N2 := Fr.app N0 Nq2
    rw [Fcod0_l0 ] at q2
    subst q2
    show Go p.tables e below _ (T2.setTop (mkF m 9 #[.val (.ref a1)] [(.int (0 : Int32)), (.int n)]))
    refine g_ishr (pc' := 10) C X2 d9_9 rfl ?_
    exact g_retI C X2 d9_10 (by decide) (by decide) ⟨(congrArg (fun z => some (Value.int z)) ((own_q5 (P := fun n => (n >>> ((0 : Int32) &&& 31)) = n) (own_r5e hne hl_a1) (by decide)).trans hne)), N2, e2⟩
  · have _q := trivial
    refine g_aloadN (pc' := 1) C X0 d9_0 rfl rfl rfl ?_
    refine g_getF (pc' := 4) C X0 d9_1 (host := "") (Or.inl (wq hw 34 rfl)) Via.refl e0 Fv_a1 rfl (fun T3 X3 e3 => ?_)
    refine g_len (pc' := 5) C X3 d9_4 e3 V_v1_ rfl ?_
    refine g_aloadN (pc' := 6) C X3 d9_5 rfl rfl rfl ?_
    refine g_callV (b := a1) (z := (⟨"java/lang/String", "coder", "()B"⟩ : MethodName)) (y := (⟨"java/lang/String", "coder", "()B"⟩ : MethodName)) (argsL := []) (st := [(.int (n + n))]) (pc' := 9) C X3 d9_6 (wq hw 48 rfl) (wq hw 49 rfl) (notFace_of_selects (args := #[]) (mvT C.hZ (wq hw 51 rfl))) (wq hw 51 rfl) (wq hw 50 rfl) (wq hw 9 rfl) (wq hw 52 rfl) (by decide) (rmcod1 l Z a0 hw [] a1 cs fm h0 n0 hF Fc_a1) (W := 1) (by decide) (by decide) (ce := 0) (sl := 0) rfl rfl (by decide) (by decide) rfl E_a1 e3 rfl pd_5 rfl (Nat.le_refl _) rfl (fun rv4 T4 L4 X4 Q4 => ?_)
    obtain ⟨q4, Nq4, e4⟩ := Q4
    have N4 := Fr.app N0 Nq4
    rw [Fcod1_l0 ] at q4
    subst q4
    show Go p.tables e below _ (T4.setTop (mkF m 9 #[.val (.ref a1)] [(.int (1 : Int32)), (.int (n + n))]))
    refine g_ishr (pc' := 10) C X4 d9_9 rfl ?_
    exact g_retI C X4 d9_10 (by decide) (by decide) ⟨(congrArg (fun z => some (Value.int z)) ((own_q5 (P := fun n => ((n + n) >>> ((1 : Int32) &&& 31)) = n) (own_r5e hne hl_a1) (by decide)).trans hne)), N4, e4⟩
theorem d13_0 : decode jdk_42_method_56_code 0 = .ok (.aload_n 0, 1) := by decide +kernel
theorem d13_1 : decode jdk_42_method_56_code 1 = .ok (.invokevirtual 492, 3) := by decide +kernel
theorem pd_6 : parseMethodDescriptor "()Z" = some ⟨[], some .boolean⟩ := by decide +kernel
theorem d13_4 : decode jdk_42_method_56_code 4 = .ok (.ifCond .eq 12, 3) := by decide +kernel
theorem d13_7 : decode jdk_42_method_56_code 7 = .ok (.aload_n 0, 1) := by decide +kernel
theorem d13_8 : decode jdk_42_method_56_code 8 = .ok (.getfield 9, 3) := by decide +kernel
theorem d13_11 : decode jdk_42_method_56_code 11 = .ok (.iload_n 1, 1) := by decide +kernel
theorem d13_12 : decode jdk_42_method_56_code 12 = .ok (.invokestatic 495, 3) := by decide +kernel
theorem d13_15 : decode jdk_42_method_56_code 15 = .ok (.ireturn, 1) := by decide +kernel
theorem d13_16 : decode jdk_42_method_56_code 16 = .ok (.aload_n 0, 1) := by decide +kernel
theorem d13_17 : decode jdk_42_method_56_code 17 = .ok (.getfield 9, 3) := by decide +kernel
theorem d13_20 : decode jdk_42_method_56_code 20 = .ok (.iload_n 1, 1) := by decide +kernel
theorem d13_21 : decode jdk_42_method_56_code 21 = .ok (.invokestatic 498, 3) := by decide +kernel
theorem d13_24 : decode jdk_42_method_56_code 24 = .ok (.ireturn, 1) := by decide +kernel
theorem ef_sca (m : MethodId) (a1 : Addr) (p2 : Int32) : entryFrame m #[(.ref a1), (.int p2)] 2 = mkF m 0 #[.val (.ref a1), .val (.int p2)] [] := by first | (simp [entryFrame, mkF, argsToLocals, Value.category]; done) | rfl
def Q_sca (Z : State) (a1 : Addr) (p2 : Int32) (v1_ : Addr) (xs : List Int32) (cs : Int32) (fm : Value) (h0 : Heap) (n0 : Nat) (v : Option Value) (h : Heap) (L : List Loc) : Prop := v = some (.int (own_g xs p2)) ∧ Fr n0 L ∧ h = h0
set_option maxRecDepth 65536 in
set_option maxHeartbeats 40000000 in
theorem rmsca (l : Launch) (Z : State) (a0 : Array Value) (hw : ∀ d ∈ tables_1, d.before a0 Z = true) (ws : List Jvm.Cond) (a1 : Addr) (p2 : Int32) (v1_ : Addr) (xs : List Int32) (cs : Int32) (fm : Value) (h0 : Heap) (n0 : Nat) (hF : FX Z h0 cs fm) (hS : Str Z h0 a1 v1_ xs) (hi0 : ¬ (p2 < (0 : Int32))) (hi1 : p2 < own_n xs) :
    MetFree l (⟨"java/lang/String", "charAt", "(I)C"⟩ : MethodName) (head1 (Jvm.Cond.code (⟨"java/lang/String", "charAt", "(I)C"⟩ : MethodName) jdk_42_method_56_code 2 (some .char) :: ws) ({ frames := 4, cells := 0, slots := 0, locals := 53 } : Room)) (fun a U => a = #[(.ref a1), (.int p2)] ∧ Z.Warmed39 U.vm ∧ U.heap = h0) (fun _ _ _ _ _ => True) (fun _ U o U' => ∃ v L, o = .returned v ∧ Q_sca Z a1 p2 v1_ xs cs fm h0 n0 v U'.heap L ∧ FrameEnd U o U' L ({ frames := 4, cells := 0, slots := 0, locals := 53 } : Room).cells ({ frames := 4, cells := 0, slots := 0, locals := 53 } : Room).slots) := by
  refine met_of (Ls := #[.val (.ref a1), .val (.int p2)]) (plainFor_of_name (by first | (simp [plainName, overriddenIn]; done) | decide +kernel)) (fun m => ef_sca m a1 p2) ?_
  intro p e s m below meth c T0 C X0 e0
  obtain ⟨S_cs, hcs, S_fm, hfm, S_ad, S_hi, S_lo⟩ := id hF
  have N0 := Fr.nil n0
  rcases hS with ⟨hl_a1, hx_a1, E_a1, Fv_a1, k_a1, n, hne, ⟨Fc_a1, hy_a1, V_v1_⟩ | ⟨Fc_a1, V_v1_⟩⟩
  · have hi1n : p2 < n := by rw [hne]; exact hi1
    have hb_ := own_hb (n := n) (p := p2) (own_r5e hne hl_a1) hi0 hi1n
    refine g_aloadN (pc' := 1) C X0 d13_0 rfl rfl rfl ?_
    refine g_callV (b := a1) (z := (⟨"java/lang/String", "isLatin1", "()Z"⟩ : MethodName)) (y := (⟨"java/lang/String", "isLatin1", "()Z"⟩ : MethodName)) (argsL := []) (st := []) (pc' := 4) C X0 d13_1 (wq hw 73 rfl) (wq hw 74 rfl) (notFace_of_selects (args := #[]) (mvT C.hZ (wq hw 76 rfl))) (wq hw 76 rfl) (wq hw 75 rfl) (wq hw 9 rfl) (wq hw 77 rfl) (by decide) (rmisl0 l Z a0 hw [] a1 cs fm h0 n0 hF Fc_a1) (W := 0) (by decide) (by decide) (ce := 0) (sl := 0) rfl rfl (by decide) (by decide) rfl E_a1 e0 rfl pd_6 rfl (Nat.le_refl _) rfl (fun rv1 T1 L1 X1 Q1 => ?_)
    obtain ⟨q1, Nq1, e1⟩ := Q1
    have N1 := Fr.app N0 Nq1
    rw [Fisl0_l0 ] at q1
    subst q1
    show Go p.tables e below _ (T1.setTop (mkF m 4 #[.val (.ref a1), .val (.int p2)] [(.int (1 : Int32))]))
    refine g_ifN (pc' := 7) C X1 d13_4 (feq (show ¬ ((1 : Int32) = (0 : Int32)) from (by decide))).1 rfl ?_
    refine g_aloadN (pc' := 8) C X1 d13_7 rfl rfl rfl ?_
    refine g_getF (pc' := 11) C X1 d13_8 (host := "") (Or.inl (wq hw 34 rfl)) Via.refl e1 Fv_a1 rfl (fun T2 X2 e2 => ?_)
    refine g_iloadN (pc' := 12) C X2 d13_11 rfl rfl ?_
    refine g_callS (y := (⟨"java/lang/StringLatin1", "charAt", "([BI)C"⟩ : MethodName)) (argsL := [(.ref v1_), (.int p2)]) (st := []) (pc' := 15) C X2 d13_12 (wq hw 78 rfl) (wq hw 79 rfl) (wq hw 80 rfl) (wq hw 81 rfl) (by decide) (rmlca l Z a0 hw [] v1_ p2 k_a1 n (own_lat xs) cs fm h0 n0 hF V_v1_ hi0 hi1n) (W := 0) (by decide) (by decide) (ce := 0) (sl := 0) rfl rfl (by decide) (by decide) rfl e2 rfl pd_4 rfl (Nat.le_refl _) rfl (fun rv3 T3 L3 X3 Q3 => ?_)
    obtain ⟨q3, Nq3, e3⟩ := Q3
    have N3 := Fr.app N1 Nq3
    rw [Flca_l0 p2 (own_lat xs)] at q3
    subst q3
    show Go p.tables e below _ (T3.setTop (mkF m 15 #[.val (.ref a1), .val (.int p2)] [(.int (nar .char ((own_g (own_lat xs) p2) &&& (255 : Int32)).toUInt32.toUInt16.toUInt32.toInt32))]))
    exact g_retN C X3 (by simp) d13_15 (by decide) (by decide) ⟨(congrArg (fun z => some (Value.int z)) ((congrArg (nar .char) (own_clL hx_a1 hy_a1)).trans (own_narc (own_g_all hx_a1 (⟨by decide, by decide⟩ : own_ch 0) p2)))), N3, e3⟩
  · have hi1n : p2 < n := by rw [hne]; exact hi1
    have hb_ := own_hb (n := n) (p := p2) (own_r5e hne hl_a1) hi0 hi1n
    refine g_aloadN (pc' := 1) C X0 d13_0 rfl rfl rfl ?_
    refine g_callV (b := a1) (z := (⟨"java/lang/String", "isLatin1", "()Z"⟩ : MethodName)) (y := (⟨"java/lang/String", "isLatin1", "()Z"⟩ : MethodName)) (argsL := []) (st := []) (pc' := 4) C X0 d13_1 (wq hw 73 rfl) (wq hw 74 rfl) (notFace_of_selects (args := #[]) (mvT C.hZ (wq hw 76 rfl))) (wq hw 76 rfl) (wq hw 75 rfl) (wq hw 9 rfl) (wq hw 77 rfl) (by decide) (rmisl1 l Z a0 hw [] a1 cs fm h0 n0 hF Fc_a1) (W := 0) (by decide) (by decide) (ce := 0) (sl := 0) rfl rfl (by decide) (by decide) rfl E_a1 e0 rfl pd_6 rfl (Nat.le_refl _) rfl (fun rv4 T4 L4 X4 Q4 => ?_)
    obtain ⟨q4, Nq4, e4⟩ := Q4
    have N4 := Fr.app N0 Nq4
    rw [Fisl1_l0 ] at q4
    subst q4
    show Go p.tables e below _ (T4.setTop (mkF m 4 #[.val (.ref a1), .val (.int p2)] [(.int (0 : Int32))]))
    refine g_ifY (pc' := 16) C X4 d13_4 (teq (show (0 : Int32) = (0 : Int32) from (by decide))).1 (by decide) (by decide) ?_
    refine g_aloadN (pc' := 17) C X4 d13_16 rfl rfl rfl ?_
    refine g_getF (pc' := 20) C X4 d13_17 (host := "") (Or.inl (wq hw 34 rfl)) Via.refl e4 Fv_a1 rfl (fun T5 X5 e5 => ?_)
    refine g_iloadN (pc' := 21) C X5 d13_20 rfl rfl ?_
    refine g_callS (y := (⟨"java/lang/StringUTF16", "charAt", "([BI)C"⟩ : MethodName)) (argsL := [(.ref v1_), (.int p2)]) (st := []) (pc' := 24) C X5 d13_21 (wq hw 193 rfl) (wq hw 194 rfl) (wq hw 23 rfl) (wq hw 195 rfl) (by decide) (rmuca l Z a0 hw [] v1_ p2 k_a1 (n + n) (own_u xs) cs fm h0 n0 hF V_v1_ hb_.1 hb_.2.1 hb_.2.2.1 hb_.2.2.2.1 hi0 hb_.2.2.2.2) (W := 0) (by decide) (by decide) (ce := 0) (sl := 0) rfl rfl (by decide) (by decide) rfl e5 rfl pd_4 rfl (Nat.le_refl _) rfl (fun rv6 T6 L6 X6 Q6 => ?_)
    obtain ⟨q6, Nq6, e6⟩ := Q6
    have N6 := Fr.app N4 Nq6
    rw [Fuca_l0 p2 (own_u xs)] at q6
    subst q6
    show Go p.tables e below _ (T6.setTop (mkF m 24 #[.val (.ref a1), .val (.int p2)] [(.int (nar .char (nar .char ((((own_g (own_u xs) (p2 <<< ((1 : Int32) &&& 31))) &&& (255 : Int32)) <<< ((0 : Int32) &&& 31)) ||| (((own_g (own_u xs) ((p2 <<< ((1 : Int32) &&& 31)) + (1 : Int32))) &&& (255 : Int32)) <<< ((8 : Int32) &&& 31))).toUInt32.toUInt16.toUInt32.toInt32)))]))
    exact g_retN C X6 (by simp) d13_24 (by decide) (by decide) ⟨(congrArg (fun z => some (Value.int z)) ((congrArg (nar .char) (own_clU hx_a1 hl_a1 hi0 hi1)).trans (own_narc (own_g_all hx_a1 (⟨by decide, by decide⟩ : own_ch 0) p2)))), N6, e6⟩
def Bld (Z : State) (h : Heap) (b v : Addr) (xs : List Int32) : Prop := xs.length ≤ 5 ∧ (∀ x ∈ xs, own_ch x) ∧ Exa Z h b "java/lang/StringBuilder" ∧ Fld Z h b "java/lang/AbstractStringBuilder" "value" "[B" (.ref v) ∧ Fld Z h b "java/lang/AbstractStringBuilder" "maybeLatin1" "Z" (.int 0) ∧ Exa Z h v "[B" ∧ ∃ k n, n = own_n xs ∧ Fld Z h b "java/lang/AbstractStringBuilder" "count" "I" (.int n) ∧ ((Fld Z h b "java/lang/AbstractStringBuilder" "coder" "B" (.int 0) ∧ (∀ x ∈ xs, ¬ ((255 : Int32) < x)) ∧ Arv Z h v k .byte 5 (own_vl (own_lat xs)) (.int 0)) ∨ (Fld Z h b "java/lang/AbstractStringBuilder" "coder" "B" (.int 1) ∧ Arv Z h v k .byte 10 (own_vl (own_u xs)) (.int 0)))
section
variable {Z : State} {h h' : Heap} {b v : Addr} {xs : List Int32} {ws : List Addr}
theorem Bld_exa (F : Bld Z h b v xs) : Exa Z h b "java/lang/StringBuilder" := F.2.2.1
theorem Bld_lt0 (F : Bld Z h b v xs) : b < h.size := F.2.2.1.lt
theorem Bld_lt1 (F : Bld Z h b v xs) : v < h.size := by
  obtain ⟨-, -, -, -, -, -, k, n, -, -, ⟨-, -, V⟩ | ⟨-, V⟩⟩ := F <;> exact V.lt
theorem Bld_pl0 (F : Bld Z h b v xs) : ∃ c : Cell, h[b]? = some c ∧ c.vm.isStatics = false := by
  obtain ⟨c_, _, h1_, _, _, h2_, _⟩ := F.2.2.1
  exact ⟨c_, h1_, h2_⟩
theorem Bld_pl1 (F : Bld Z h b v xs) : ∃ c : Cell, h[v]? = some c ∧ c.vm.isStatics = false := by
  obtain ⟨-, -, -, -, -, -, k, n, -, -, ⟨-, -, V⟩ | ⟨-, V⟩⟩ := F
  · obtain ⟨c_, A_, _⟩ := V; exact ⟨c_, A_.1, A_.plain⟩
  · obtain ⟨c_, A_, _⟩ := V; exact ⟨c_, A_.1, A_.plain⟩
theorem Bld_ext (F : Bld Z h b v xs) (E : Ext h h') : Bld Z h' b v xs := by
  obtain ⟨h1, h2, h3, h4, h5, hE, k, n, h6, h7, ⟨f, g, V⟩ | ⟨f, V⟩⟩ := F
  · exact ⟨h1, h2, h3.ext E, h4.ext E, h5.ext E, hE.ext E, k, n, h6, h7.ext E, Or.inl ⟨f.ext E, g, V.ext E⟩⟩
  · exact ⟨h1, h2, h3.ext E, h4.ext E, h5.ext E, hE.ext E, k, n, h6, h7.ext E, Or.inr ⟨f.ext E, V.ext E⟩⟩
theorem Bld_keep (F : Bld Z h b v xs) (K : Keep h h' ws) (q : b ∉ ws) (r : v ∉ ws) : Bld Z h' b v xs := by
  obtain ⟨h1, h2, h3, h4, h5, hE, k, n, h6, h7, ⟨f, g, V⟩ | ⟨f, V⟩⟩ := F
  · exact ⟨h1, h2, h3.keep K, h4.keep K q, h5.keep K q, hE.keep K, k, n, h6, h7.keep K q, Or.inl ⟨f.keep K q, g, V.keep K r⟩⟩
  · exact ⟨h1, h2, h3.keep K, h4.keep K q, h5.keep K q, hE.keep K, k, n, h6, h7.keep K q, Or.inr ⟨f.keep K q, V.keep K r⟩⟩
end
theorem own_all_snoc {P : Int32 → Prop} {xs : List Int32} {x : Int32} (h : ∀ y ∈ xs, P y) (q : P x) : ∀ y ∈ xs ++ [x], P y := by
  intro y hy
  rcases List.mem_append.mp hy with h1 | h1
  · exact h y h1
  · rw [List.mem_singleton.mp h1]; exact q
theorem own_n_snoc {xs : List Int32} {x n : Int32} (h : n = own_n xs) (hl : xs.length < 5) : n + 1 = own_n (xs ++ [x]) := by
  unfold own_n at *
  rw [h, List.length_append, List.length_singleton]
  generalize xs.length = k at hl ⊢
  match k, hl with
  | 0, _ => decide
  | 1, _ => decide
  | 2, _ => decide
  | 3, _ => decide
  | 4, _ => decide
theorem own_getD_snoc (L : List Int32) (x : Int32) (i : Nat) : (L ++ [x]).getD i 0 = if i = L.length then x else L.getD i 0 := by
  rw [List.getD_eq_getElem?_getD, List.getD_eq_getElem?_getD, List.getElem?_append]
  by_cases h : i < L.length
  · rw [if_pos h, if_neg (by omega)]
  · rw [if_neg h]
    by_cases h2 : i = L.length
    · rw [if_pos h2, h2, Nat.sub_self]; rfl
    · rw [if_neg h2, List.getElem?_eq_none (by rw [List.length_singleton]; omega), List.getElem?_eq_none (by omega)]
theorem own_u_snoc (ys : List Int32) (x : Int32) : own_u (ys ++ [x]) = own_u ys ++ [own_lo x] ++ [own_hi x] := by
  induction ys with
  | nil => rfl
  | cons y t ih => rw [List.cons_append, own_u_cons, ih, own_u_cons]; rfl
theorem own_u_len (ys : List Int32) : (own_u ys).length = 2 * ys.length := by
  induction ys with
  | nil => rfl
  | cons y t ih => rw [own_u_cons, List.length_cons, List.length_cons, List.length_cons, ih]; omega
theorem own_ix4 {j : Int32} (hj : own_r4 j) : (j <<< ((1 : Int32) &&& 31)).toNatClampNeg = 2 * j.toNatClampNeg ∧ ((j <<< ((1 : Int32) &&& 31)) + (1 : Int32)).toNatClampNeg = 2 * j.toNatClampNeg + 1 := by
  rcases hj with rfl | rfl | rfl | rfl | rfl <;> decide
theorem own_put_snoc {L ys : List Int32} {j x : Int32} (hj : own_r4 j) (hl : ys.length = j.toNatClampNeg) (hL : ∀ i, (own_u ys).getD i 0 = L.getD i 0) : ∀ i, (own_u (ys ++ [x])).getD i 0 = (own_put L j x).getD i 0 := by
  intro i
  unfold own_put
  rw [own_u_snoc, own_getD_snoc, own_getD_snoc, List.length_append, List.length_singleton, own_u_len, own_s_getD, own_s_getD, (own_ix4 hj).1, (own_ix4 hj).2, hl, hL]
theorem own_lat_snoc {xs : List Int32} {n x : Int32} (hn : n = own_n xs) (hl : xs.length ≤ 5) : ∀ i, (own_lat (xs ++ [x])).getD i 0 = (own_s (own_lat xs) n (own_B x)).getD i 0 := by
  intro i
  have e : own_lat (xs ++ [x]) = own_lat xs ++ [own_B x] := by unfold own_lat; rw [List.map_append]; rfl
  have e2 : (own_lat xs).length = xs.length := by unfold own_lat; rw [List.length_map]
  rw [e, own_getD_snoc, own_s_getD, e2, hn, own_ntn hl]
theorem d12_0 : decode jdk_68_method_2_code 0 = .ok (.aload_n 0, 1) := by decide +kernel
theorem d12_1 : decode jdk_68_method_2_code 1 = .ok (.invokespecial 3, 3) := by decide +kernel
theorem d12_4 : decode jdk_68_method_2_code 4 = .ok (.getstatic 18, 3) := by decide +kernel
theorem d12_7 : decode jdk_68_method_2_code 7 = .ok (.ifCond .eq 18, 3) := by decide +kernel
theorem d12_10 : decode jdk_68_method_2_code 10 = .ok (.aload_n 0, 1) := by decide +kernel
theorem d12_11 : decode jdk_68_method_2_code 11 = .ok (.iload_n 1, 1) := by decide +kernel
theorem d12_12 : decode jdk_68_method_2_code 12 = .ok (.newarray .byte, 2) := by decide +kernel
theorem d12_14 : decode jdk_68_method_2_code 14 = .ok (.putfield 15, 3) := by decide +kernel
theorem d12_17 : decode jdk_68_method_2_code 17 = .ok (.aload_n 0, 1) := by decide +kernel
theorem d12_18 : decode jdk_68_method_2_code 18 = .ok (.iconst 0, 1) := by decide +kernel
theorem d12_19 : decode jdk_68_method_2_code 19 = .ok (.putfield 22, 3) := by decide +kernel
theorem d12_22 : decode jdk_68_method_2_code 22 = .ok (.goto 16, 3) := by decide +kernel
theorem d12_38 : decode jdk_68_method_2_code 38 = .ok (.return_, 1) := by decide +kernel
theorem ef_abi (m : MethodId) (a1 : Addr) : entryFrame m #[(.ref a1), (.int (5 : Int32))] 2 = mkF m 0 #[.val (.ref a1), .val (.int (5 : Int32))] [] := by first | (simp [entryFrame, mkF, argsToLocals, Value.category]; done) | rfl
def Q_abi (Z : State) (a1 : Addr) (cs : Int32) (fm : Value) (h0 : Heap) (n0 : Nat) (vr : Option Value) (h : Heap) (L : List Loc) : Prop := ∃ w : Addr, ∃ kw : ClassId, (vr = none) ∧ (Fr n0 L) ∧ (Keep h0 h [a1]) ∧ (h0.size ≤ w) ∧ (n0 ≤ w) ∧ (Exa Z h a1 "java/lang/StringBuilder") ∧ (Fld Z h a1 "java/lang/AbstractStringBuilder" "value" "[B" (.ref w)) ∧ (Fld Z h a1 "java/lang/AbstractStringBuilder" "maybeLatin1" "Z" (.int (0 : Int32))) ∧ (Fld Z h a1 "java/lang/AbstractStringBuilder" "count" "I" (.int (0 : Int32))) ∧ (Fld Z h a1 "java/lang/AbstractStringBuilder" "coder" "B" (.int (0 : Int32))) ∧ (Arv Z h w kw .byte (5 : Int32) (own_vl []) (.int (0 : Int32))) ∧ (Exa Z h w "[B")
set_option maxRecDepth 65536 in
set_option maxHeartbeats 40000000 in
theorem rmabi (l : Launch) (Z : State) (a0 : Array Value) (hw : ∀ d ∈ tables_1, d.before a0 Z = true) (ws : List Jvm.Cond) (a1 : Addr) (cs : Int32) (fm : Value) (h0 : Heap) (n0 : Nat) (Z0 : n0 ≤ h0.size) (hF : FX Z h0 cs fm) (E_a1 : Exa Z h0 a1 "java/lang/StringBuilder") (Fv_a1 : Fld Z h0 a1 "java/lang/AbstractStringBuilder" "value" "[B" .null) (Fm_a1 : Fld Z h0 a1 "java/lang/AbstractStringBuilder" "maybeLatin1" "Z" (.int (0 : Int32))) (Fn_a1 : Fld Z h0 a1 "java/lang/AbstractStringBuilder" "count" "I" (.int (0 : Int32))) (Fc_a1 : Fld Z h0 a1 "java/lang/AbstractStringBuilder" "coder" "B" (.int (0 : Int32))) (gn_a1 : n0 ≤ a1) :
    MetFree l (⟨"java/lang/AbstractStringBuilder", "<init>", "(I)V"⟩ : MethodName) (head1 (Jvm.Cond.code (⟨"java/lang/AbstractStringBuilder", "<init>", "(I)V"⟩ : MethodName) jdk_68_method_2_code 2 none :: ws) ({ frames := 1, cells := 1, slots := 5, locals := 12 } : Room)) (fun a U => a = #[(.ref a1), (.int (5 : Int32))] ∧ Z.Warmed39 U.vm ∧ U.heap = h0) (fun _ _ _ _ _ => True) (fun _ U o U' => ∃ v L, o = .returned v ∧ Q_abi Z a1 cs fm h0 n0 v U'.heap L ∧ FrameEnd U o U' L ({ frames := 1, cells := 1, slots := 5, locals := 12 } : Room).cells ({ frames := 1, cells := 1, slots := 5, locals := 12 } : Room).slots) := by
  refine met_of (Ls := #[.val (.ref a1), .val (.int (5 : Int32))]) (plainFor_of_name (by first | (simp [plainName, overriddenIn]; done) | decide +kernel)) (fun m => ef_abi m a1) ?_
  intro p e s m below meth c T0 C X0 e0
  obtain ⟨S_cs, hcs, S_fm, hfm, S_ad, S_hi, S_lo⟩ := id hF
  have N0 := Fr.nil n0
  have K0 : Keep h0 h0 [a1] := Keep.refl h0 _
  refine g_aloadN (pc' := 1) C X0 d12_0 rfl rfl rfl ?_
  refine g_initO (W := 0) (pc' := 4) C X0 d12_1 (wq hw 62 rfl) (wq hw 18 rfl) (wq hw 19 rfl) e0 rfl (by decide) (Nat.le_refl _) (by decide) rfl (fun T1 X1 e1 => ?_)
  refine g_getS (pc' := 7) C X1 d12_4 (host := "") (Or.inl (wq hw 63 rfl)) Via.refl e1 S_cs rfl (fun T2 X2 e2 => ?_)
  refine g_ifN (pc' := 10) C X2 d12_7 (feq hcs).1 rfl ?_
  refine g_aloadN (pc' := 11) C X2 d12_10 rfl rfl rfl ?_
  refine g_iloadN (pc' := 12) C X2 d12_11 rfl rfl ?_
  refine g_newPE (pc' := 14) (cap := 5) (ad := "[B") C X2 (by decide) d12_12 (wq hw 25 rfl) e2 (by decide) (by decide) (by decide) (ce := 1) (sl := 5) rfl rfl (by decide) (by decide) rfl (fun T3 h3 b3 ck3 g3 X3 e3 E3 V3 A3 => ?_)
  have ne3_4 : ¬ (a1 = b3) := Nat.ne_of_lt (Nat.lt_of_lt_of_le E_a1.lt (Nat.le_of_eq g3.symm))
  have FX_3 := FX_ext hF E3
  have E_a1_3 := E_a1.ext E3
  have Fv_a1_3 := Fv_a1.ext E3
  have Fm_a1_3 := Fm_a1.ext E3
  have Fn_a1_3 := Fn_a1.ext E3
  have Fc_a1_3 := Fc_a1.ext E3
  have gn_b3 : n0 ≤ b3 := Nat.le_trans Z0 (Nat.le_of_eq g3.symm)
  have Z3 := Nat.le_trans Z0 E3.1
  have sz_b3 : h0.size ≤ b3 := Nat.le_trans K0.1 (Nat.le_of_eq g3.symm)
  have K3 := K0.ext E3
  refine g_putF (pc' := 17) C X3 d12_14 (host := "") (Or.inl (wq hw 64 rfl)) Via.refl e3 Fv_a1_3 E_a1_3 (Or.inl (wq hw 65 rfl)) (wq hw 41 rfl) (ty := (.array .byte)) (by decide) rfl rfl rfl (fun T5 h5 X5 e5 W5 => ?_)
  have F5 := Fv_a1_3.same W5
  have FX_5 := FX_wr FX_3 W5
  have E_a1_5 := E_a1_3.wr W5
  have Fm_a1_5 := Fm_a1_3.other W5 (Or.inr (slot_ne (Or.inl (wq hw 228 rfl)) (Or.inl (wq hw 65 rfl)) (by decide) (t := .boolean) (t' := (.array .byte)) (by decide) (by decide)))
  have Fn_a1_5 := Fn_a1_3.other W5 (Or.inr (slot_ne (Or.inl (wq hw 104 rfl)) (Or.inl (wq hw 65 rfl)) (by decide) (t := .int) (t' := (.array .byte)) (by decide) (by decide)))
  have Fc_a1_5 := Fc_a1_3.other W5 (Or.inr (slot_ne (Or.inl (wq hw 67 rfl)) (Or.inl (wq hw 65 rfl)) (by decide) (t := .byte) (t' := (.array .byte)) (by decide) (by decide)))
  have A3_5 := A3.wr W5
  have V3_5 := V3.other W5 (Ne.symm ne3_4)
  have Z5 := Nat.le_trans Z3 (Nat.le_of_eq W5.size.symm)
  have N5 := Fr.snoc X5 N0 gn_a1
  have K5 := K3.wr W5 (Or.inl (List.mem_of_getElem? (i := 0) rfl))
  refine g_aloadN (pc' := 18) C X5 d12_17 rfl rfl rfl ?_
  refine g_iconst (pc' := 19) (v := (0 : Int32)) C X5 d12_18 rfl rfl ?_
  refine g_putFN (pc' := 22) (v' := (.int (0 : Int32))) C X5 d12_19 (wq hw 66 rfl) Via.refl e5 Fc_a1_5 E_a1_5 (Or.inl (wq hw 67 rfl)) (wq hw 41 rfl) (ty := .byte) (by decide) rfl (by decide) rfl (fun T6 h6 X6 e6 W6 => ?_)
  have F6 := Fc_a1_5.same W6
  have FX_6 := FX_wr FX_5 W6
  have E_a1_6 := E_a1_5.wr W6
  have Fm_a1_6 := Fm_a1_5.other W6 (Or.inr (slot_ne (Or.inl (wq hw 228 rfl)) (Or.inl (wq hw 67 rfl)) (by decide) (t := .boolean) (t' := .byte) (by decide) (by decide)))
  have Fn_a1_6 := Fn_a1_5.other W6 (Or.inr (slot_ne (Or.inl (wq hw 104 rfl)) (Or.inl (wq hw 67 rfl)) (by decide) (t := .int) (t' := .byte) (by decide) (by decide)))
  have A3_6 := A3_5.wr W6
  have V3_6 := V3_5.other W6 (Ne.symm ne3_4)
  have F5_6 := F5.other W6 (Or.inr (slot_ne (Or.inl (wq hw 65 rfl)) (Or.inl (wq hw 67 rfl)) (by decide) (t := (.array .byte)) (t' := .byte) (by decide) (by decide)))
  have Z6 := Nat.le_trans Z5 (Nat.le_of_eq W6.size.symm)
  have N6 := Fr.snoc X6 N5 gn_a1
  have K6 := K5.wr W6 (Or.inl (List.mem_of_getElem? (i := 0) rfl))
  refine g_goto (pc' := 38) C X6 d12_22 (by decide) (by decide) ?_
  exact g_retV C X6 d12_38 (by decide) (by decide) ⟨b3, ck3, rfl, N6, (by rw [e6]; exact K6), sz_b3, gn_b3, (by rw [e6]; exact E_a1_6), (by rw [e6]; exact F5_6), (by rw [e6]; exact Fm_a1_6), (by rw [e6]; exact Fn_a1_6), (by rw [e6]; exact F6), (by rw [e6]; exact V3_6), (by rw [e6]; exact A3_6)⟩
theorem d11_0 : decode jdk_67_method_2_code 0 = .ok (.aload_n 0, 1) := by decide +kernel
theorem d11_1 : decode jdk_67_method_2_code 1 = .ok (.iload_n 1, 1) := by decide +kernel
theorem d11_2 : decode jdk_67_method_2_code 2 = .ok (.invokespecial 1, 3) := by decide +kernel
theorem pd_7 : parseMethodDescriptor "(I)V" = some ⟨[.int], none⟩ := by decide +kernel
theorem d11_5 : decode jdk_67_method_2_code 5 = .ok (.return_, 1) := by decide +kernel
theorem ef_sbi (m : MethodId) (a1 : Addr) : entryFrame m #[(.ref a1), (.int (5 : Int32))] 2 = mkF m 0 #[.val (.ref a1), .val (.int (5 : Int32))] [] := by first | (simp [entryFrame, mkF, argsToLocals, Value.category]; done) | rfl
def Q_sbi (Z : State) (a1 : Addr) (cs : Int32) (fm : Value) (h0 : Heap) (n0 : Nat) (vr : Option Value) (h : Heap) (L : List Loc) : Prop := ∃ w : Addr, (vr = none) ∧ (Fr n0 L) ∧ (Keep h0 h [a1]) ∧ (h0.size ≤ w) ∧ (n0 ≤ w) ∧ (Bld Z h a1 w [])
set_option maxRecDepth 65536 in
set_option maxHeartbeats 40000000 in
theorem rmsbi (l : Launch) (Z : State) (a0 : Array Value) (hw : ∀ d ∈ tables_1, d.before a0 Z = true) (ws : List Jvm.Cond) (a1 : Addr) (cs : Int32) (fm : Value) (h0 : Heap) (n0 : Nat) (Z0 : n0 ≤ h0.size) (hF : FX Z h0 cs fm) (E_a1 : Exa Z h0 a1 "java/lang/StringBuilder") (Fv_a1 : Fld Z h0 a1 "java/lang/AbstractStringBuilder" "value" "[B" .null) (Fm_a1 : Fld Z h0 a1 "java/lang/AbstractStringBuilder" "maybeLatin1" "Z" (.int (0 : Int32))) (Fn_a1 : Fld Z h0 a1 "java/lang/AbstractStringBuilder" "count" "I" (.int (0 : Int32))) (Fc_a1 : Fld Z h0 a1 "java/lang/AbstractStringBuilder" "coder" "B" (.int (0 : Int32))) (gn_a1 : n0 ≤ a1) :
    MetFree l (⟨"java/lang/StringBuilder", "<init>", "(I)V"⟩ : MethodName) (head1 (Jvm.Cond.code (⟨"java/lang/StringBuilder", "<init>", "(I)V"⟩ : MethodName) jdk_67_method_2_code 2 none :: ws) ({ frames := 2, cells := 1, slots := 5, locals := 25 } : Room)) (fun a U => a = #[(.ref a1), (.int (5 : Int32))] ∧ Z.Warmed39 U.vm ∧ U.heap = h0) (fun _ _ _ _ _ => True) (fun _ U o U' => ∃ v L, o = .returned v ∧ Q_sbi Z a1 cs fm h0 n0 v U'.heap L ∧ FrameEnd U o U' L ({ frames := 2, cells := 1, slots := 5, locals := 25 } : Room).cells ({ frames := 2, cells := 1, slots := 5, locals := 25 } : Room).slots) := by
  refine met_of (Ls := #[.val (.ref a1), .val (.int (5 : Int32))]) (plainFor_of_name (by first | (simp [plainName, overriddenIn]; done) | decide +kernel)) (fun m => ef_sbi m a1) ?_
  intro p e s m below meth c T0 C X0 e0
  obtain ⟨S_cs, hcs, S_fm, hfm, S_ad, S_hi, S_lo⟩ := id hF
  have N0 := Fr.nil n0
  have K0 : Keep h0 h0 [a1] := Keep.refl h0 _
  refine g_aloadN (pc' := 1) C X0 d11_0 rfl rfl rfl ?_
  refine g_iloadN (pc' := 2) C X0 d11_1 rfl rfl ?_
  refine g_callI (b := a1) (y := (⟨"java/lang/AbstractStringBuilder", "<init>", "(I)V"⟩ : MethodName)) (argsL := [(.int (5 : Int32))]) (st := []) (pc' := 5) C X0 rfl d11_2 (wq hw 56 rfl) (wq hw 57 rfl) (wq hw 60 rfl) (wq hw 61 rfl) (by decide) (rmabi l Z a0 hw [] a1 cs fm h0 n0 Z0 hF E_a1 Fv_a1 Fm_a1 Fn_a1 Fc_a1 gn_a1) (W := 0) (by decide) (by decide) (ce := 1) (sl := 5) rfl rfl (by decide) (by decide) rfl e0 rfl pd_7 rfl (Nat.le_refl _) rfl (fun rv1 T1 L1 X1 Q1 => ?_)
  obtain ⟨w1, kw1, q1, Nq1, Kq1, sz1_w, gn_w1, P1_0, P1_1, P1_2, P1_3, P1_4, P1_5, P1_6⟩ := Q1
  have N1 := Fr.app N0 Nq1
  have ne1_2 : ¬ (a1 = w1) := Nat.ne_of_lt (Nat.lt_of_lt_of_le E_a1.lt sz1_w)
  have FX_1 := FX_keep hF Kq1 ((allS (by obtain ⟨c_, _, h1_, _, _, h2_, _⟩ := E_a1; exact ⟨c_, h1_, h2_⟩) all0))
  have Z1 := Nat.le_trans Z0 Kq1.1
  have sz_w1 := Nat.le_trans K0.1 sz1_w
  have K1 := K0.trans Kq1 (allS (Or.inl (List.mem_of_getElem? (i := 0) rfl)) all0)
  subst q1
  show Go p.tables e below _ (T1.setTop (mkF m 5 #[.val (.ref a1), .val (.int (5 : Int32))] []))
  exact g_retV C X1 d11_5 (by decide) (by decide) ⟨w1, rfl, N1, K1, sz_w1, gn_w1, ⟨by decide, nofun, P1_0, P1_1, P1_2, P1_6, _, _, rfl, P1_3, Or.inl ⟨P1_4, nofun, P1_5⟩⟩⟩
theorem d22_0 : decode jdk_68_method_68_code 0 = .ok (.getstatic 18, 3) := by decide +kernel
theorem d22_3 : decode jdk_68_method_68_code 3 = .ok (.ifCond .eq 14, 3) := by decide +kernel
theorem d22_6 : decode jdk_68_method_68_code 6 = .ok (.aload_n 0, 1) := by decide +kernel
theorem d22_7 : decode jdk_68_method_68_code 7 = .ok (.getfield 22, 3) := by decide +kernel
theorem d22_10 : decode jdk_68_method_68_code 10 = .ok (.ifCond .ne 7, 3) := by decide +kernel
theorem d22_13 : decode jdk_68_method_68_code 13 = .ok (.iconst 1, 1) := by decide +kernel
theorem d22_14 : decode jdk_68_method_68_code 14 = .ok (.goto 4, 3) := by decide +kernel
theorem d22_18 : decode jdk_68_method_68_code 18 = .ok (.ireturn, 1) := by decide +kernel
def Fasl0  : Int32 := (1 : Int32)
theorem Fasl0_l0   : Fasl0  = (1 : Int32) := rfl
theorem ef_asl0 (m : MethodId) (a1 : Addr) : entryFrame m #[(.ref a1)] 1 = mkF m 0 #[.val (.ref a1)] [] := by first | (simp [entryFrame, mkF, argsToLocals, Value.category]; done) | rfl
def Q_asl0 (Z : State) (a1 : Addr) (cs : Int32) (fm : Value) (h0 : Heap) (n0 : Nat) (v : Option Value) (h : Heap) (L : List Loc) : Prop := v = some (.int (Fasl0 )) ∧ Fr n0 L ∧ h = h0
set_option maxRecDepth 65536 in
set_option maxHeartbeats 40000000 in
theorem rmasl0 (l : Launch) (Z : State) (a0 : Array Value) (hw : ∀ d ∈ tables_1, d.before a0 Z = true) (ws : List Jvm.Cond) (a1 : Addr) (cs : Int32) (fm : Value) (h0 : Heap) (n0 : Nat) (hF : FX Z h0 cs fm) (Fc_a1 : Fld Z h0 a1 "java/lang/AbstractStringBuilder" "coder" "B" (.int (0 : Int32))) :
    MetFree l (⟨"java/lang/AbstractStringBuilder", "isLatin1", "()Z"⟩ : MethodName) (head1 (Jvm.Cond.code (⟨"java/lang/AbstractStringBuilder", "isLatin1", "()Z"⟩ : MethodName) jdk_68_method_68_code 1 (some .boolean) :: ws) ({ frames := 0, cells := 0, slots := 0, locals := 0 } : Room)) (fun a U => a = #[(.ref a1)] ∧ Z.Warmed39 U.vm ∧ U.heap = h0) (fun _ _ _ _ _ => True) (fun _ U o U' => ∃ v L, o = .returned v ∧ Q_asl0 Z a1 cs fm h0 n0 v U'.heap L ∧ FrameEnd U o U' L ({ frames := 0, cells := 0, slots := 0, locals := 0 } : Room).cells ({ frames := 0, cells := 0, slots := 0, locals := 0 } : Room).slots) := by
  refine met_of (Ls := #[.val (.ref a1)]) (plainFor_of_name (by first | (simp [plainName, overriddenIn]; done) | decide +kernel)) (fun m => ef_asl0 m a1) ?_
  intro p e s m below meth c T0 C X0 e0
  obtain ⟨S_cs, hcs, S_fm, hfm, S_ad, S_hi, S_lo⟩ := id hF
  have N0 := Fr.nil n0
  refine g_getS (pc' := 3) C X0 d22_0 (host := "") (Or.inl (wq hw 63 rfl)) Via.refl e0 S_cs rfl (fun T1 X1 e1 => ?_)
  refine g_ifN (pc' := 6) C X1 d22_3 (feq hcs).1 rfl ?_
  refine g_aloadN (pc' := 7) C X1 d22_6 rfl rfl rfl ?_
  refine g_getF (pc' := 10) C X1 d22_7 (host := "") (Or.inl (wq hw 66 rfl)) Via.refl e1 Fc_a1 rfl (fun T2 X2 e2 => ?_)
  refine g_ifN (pc' := 13) C X2 d22_10 (teq (show (0 : Int32) = (0 : Int32) from (by decide))).2 rfl ?_
  refine g_iconst (pc' := 14) (v := (1 : Int32)) C X2 d22_13 rfl rfl ?_
  refine g_goto (pc' := 18) C X2 d22_14 (by decide) (by decide) ?_
  exact g_retN C X2 (by simp) d22_18 (by decide) (by decide) ⟨congrArg (fun z => some (Value.int z)) (Fasl0_l0  ).symm, N0, e2⟩
theorem d22_17 : decode jdk_68_method_68_code 17 = .ok (.iconst 0, 1) := by decide +kernel
def Fasl1  : Int32 := (0 : Int32)
theorem Fasl1_l0   : Fasl1  = (0 : Int32) := rfl
theorem ef_asl1 (m : MethodId) (a1 : Addr) : entryFrame m #[(.ref a1)] 1 = mkF m 0 #[.val (.ref a1)] [] := by first | (simp [entryFrame, mkF, argsToLocals, Value.category]; done) | rfl
def Q_asl1 (Z : State) (a1 : Addr) (cs : Int32) (fm : Value) (h0 : Heap) (n0 : Nat) (v : Option Value) (h : Heap) (L : List Loc) : Prop := v = some (.int (Fasl1 )) ∧ Fr n0 L ∧ h = h0
set_option maxRecDepth 65536 in
set_option maxHeartbeats 40000000 in
theorem rmasl1 (l : Launch) (Z : State) (a0 : Array Value) (hw : ∀ d ∈ tables_1, d.before a0 Z = true) (ws : List Jvm.Cond) (a1 : Addr) (cs : Int32) (fm : Value) (h0 : Heap) (n0 : Nat) (hF : FX Z h0 cs fm) (Fc_a1 : Fld Z h0 a1 "java/lang/AbstractStringBuilder" "coder" "B" (.int (1 : Int32))) :
    MetFree l (⟨"java/lang/AbstractStringBuilder", "isLatin1", "()Z"⟩ : MethodName) (head1 (Jvm.Cond.code (⟨"java/lang/AbstractStringBuilder", "isLatin1", "()Z"⟩ : MethodName) jdk_68_method_68_code 1 (some .boolean) :: ws) ({ frames := 0, cells := 0, slots := 0, locals := 0 } : Room)) (fun a U => a = #[(.ref a1)] ∧ Z.Warmed39 U.vm ∧ U.heap = h0) (fun _ _ _ _ _ => True) (fun _ U o U' => ∃ v L, o = .returned v ∧ Q_asl1 Z a1 cs fm h0 n0 v U'.heap L ∧ FrameEnd U o U' L ({ frames := 0, cells := 0, slots := 0, locals := 0 } : Room).cells ({ frames := 0, cells := 0, slots := 0, locals := 0 } : Room).slots) := by
  refine met_of (Ls := #[.val (.ref a1)]) (plainFor_of_name (by first | (simp [plainName, overriddenIn]; done) | decide +kernel)) (fun m => ef_asl1 m a1) ?_
  intro p e s m below meth c T0 C X0 e0
  obtain ⟨S_cs, hcs, S_fm, hfm, S_ad, S_hi, S_lo⟩ := id hF
  have N0 := Fr.nil n0
  refine g_getS (pc' := 3) C X0 d22_0 (host := "") (Or.inl (wq hw 63 rfl)) Via.refl e0 S_cs rfl (fun T1 X1 e1 => ?_)
  refine g_ifN (pc' := 6) C X1 d22_3 (feq hcs).1 rfl ?_
  refine g_aloadN (pc' := 7) C X1 d22_6 rfl rfl rfl ?_
  refine g_getF (pc' := 10) C X1 d22_7 (host := "") (Or.inl (wq hw 66 rfl)) Via.refl e1 Fc_a1 rfl (fun T2 X2 e2 => ?_)
  refine g_ifY (pc' := 17) C X2 d22_10 (feq (show ¬ ((1 : Int32) = (0 : Int32)) from (by decide))).2 (by decide) (by decide) ?_
  refine g_iconst (pc' := 18) (v := (0 : Int32)) C X2 d22_17 rfl rfl ?_
  exact g_retN C X2 (by simp) d22_18 (by decide) (by decide) ⟨congrArg (fun z => some (Value.int z)) (Fasl1_l0  ).symm, N0, e2⟩
theorem d21_0 : decode jdk_68_method_9_code 0 = .ok (.aload_n 0, 1) := by decide +kernel
theorem d21_1 : decode jdk_68_method_9_code 1 = .ok (.getfield 15, 3) := by decide +kernel
theorem d21_4 : decode jdk_68_method_9_code 4 = .ok (.arraylength, 1) := by decide +kernel
theorem d21_5 : decode jdk_68_method_9_code 5 = .ok (.aload_n 0, 1) := by decide +kernel
theorem d21_6 : decode jdk_68_method_9_code 6 = .ok (.getfield 22, 3) := by decide +kernel
theorem d21_9 : decode jdk_68_method_9_code 9 = .ok (.ishr, 1) := by decide +kernel
theorem d21_10 : decode jdk_68_method_9_code 10 = .ok (.istore_n 2, 1) := by decide +kernel
theorem d21_11 : decode jdk_68_method_9_code 11 = .ok (.iload_n 1, 1) := by decide +kernel
theorem d21_12 : decode jdk_68_method_9_code 12 = .ok (.iload_n 2, 1) := by decide +kernel
theorem d21_13 : decode jdk_68_method_9_code 13 = .ok (.isub, 1) := by decide +kernel
theorem d21_14 : decode jdk_68_method_9_code 14 = .ok (.ifCond .le 24, 3) := by decide +kernel
theorem d21_38 : decode jdk_68_method_9_code 38 = .ok (.return_, 1) := by decide +kernel
theorem ef_ens0 (m : MethodId) (a1 : Addr) (p2 : Int32) : entryFrame m #[(.ref a1), (.int p2)] 3 = mkF m 0 #[.val (.ref a1), .val (.int p2), .unset] [] := by first | (simp [entryFrame, mkF, argsToLocals, Value.category]; done) | rfl
def Q_ens0 (Z : State) (a1 : Addr) (p2 : Int32) (v1_ : Addr) (k1 : ClassId) (lx : List Int32) (cs : Int32) (fm : Value) (h0 : Heap) (n0 : Nat) (v : Option Value) (h : Heap) (L : List Loc) : Prop := v = none ∧ Fr n0 L ∧ h = h0
set_option maxRecDepth 65536 in
set_option maxHeartbeats 40000000 in
theorem rmens0 (l : Launch) (Z : State) (a0 : Array Value) (hw : ∀ d ∈ tables_1, d.before a0 Z = true) (ws : List Jvm.Cond) (a1 : Addr) (p2 : Int32) (v1_ : Addr) (k1 : ClassId) (lx : List Int32) (cs : Int32) (fm : Value) (h0 : Heap) (n0 : Nat) (hF : FX Z h0 cs fm) (Fv_a1 : Fld Z h0 a1 "java/lang/AbstractStringBuilder" "value" "[B" (.ref v1_)) (Fc_a1 : Fld Z h0 a1 "java/lang/AbstractStringBuilder" "coder" "B" (.int (0 : Int32))) (V_b : Arv Z h0 v1_ k1 .byte (5 : Int32) (own_vl lx) (.int (0 : Int32))) (hle : ¬ ((0 : Int32) < (p2 - (5 : Int32)))) :
    MetFree l (⟨"java/lang/AbstractStringBuilder", "ensureCapacityInternal", "(I)V"⟩ : MethodName) (head1 (Jvm.Cond.code (⟨"java/lang/AbstractStringBuilder", "ensureCapacityInternal", "(I)V"⟩ : MethodName) jdk_68_method_9_code 3 none :: ws) ({ frames := 0, cells := 0, slots := 0, locals := 0 } : Room)) (fun a U => a = #[(.ref a1), (.int p2)] ∧ Z.Warmed39 U.vm ∧ U.heap = h0) (fun _ _ _ _ _ => True) (fun _ U o U' => ∃ v L, o = .returned v ∧ Q_ens0 Z a1 p2 v1_ k1 lx cs fm h0 n0 v U'.heap L ∧ FrameEnd U o U' L ({ frames := 0, cells := 0, slots := 0, locals := 0 } : Room).cells ({ frames := 0, cells := 0, slots := 0, locals := 0 } : Room).slots) := by
  refine met_of (Ls := #[.val (.ref a1), .val (.int p2), .unset]) (plainFor_of_name (by first | (simp [plainName, overriddenIn]; done) | decide +kernel)) (fun m => ef_ens0 m a1 p2) ?_
  intro p e s m below meth c T0 C X0 e0
  obtain ⟨S_cs, hcs, S_fm, hfm, S_ad, S_hi, S_lo⟩ := id hF
  have N0 := Fr.nil n0
  refine g_aloadN (pc' := 1) C X0 d21_0 rfl rfl rfl ?_
  refine g_getF (pc' := 4) C X0 d21_1 (host := "") (Or.inl (wq hw 64 rfl)) Via.refl e0 Fv_a1 rfl (fun T1 X1 e1 => ?_)
  refine g_len (pc' := 5) C X1 d21_4 e1 V_b rfl ?_
  refine g_aloadN (pc' := 6) C X1 d21_5 rfl rfl rfl ?_
  refine g_getF (pc' := 9) C X1 d21_6 (host := "") (Or.inl (wq hw 66 rfl)) Via.refl e1 Fc_a1 rfl (fun T2 X2 e2 => ?_)
  refine g_ishr (pc' := 10) C X2 d21_9 rfl ?_
  refine own_cast (congrArg (fun z_c => T2.setTop (mkF m 10 #[.val (.ref a1), .val (.int p2), .unset] (.int z_c :: []))) (show ((5 : Int32) >>> ((0 : Int32) &&& 31)) = (5 : Int32) from by decide)) ?_
  refine g_istoreN (pc' := 11) (Ls' := #[.val (.ref a1), .val (.int p2), .val (.int (5 : Int32))]) C X2 d21_10 rfl rfl ?_
  refine g_iloadN (pc' := 12) C X2 d21_11 rfl rfl ?_
  refine g_iloadN (pc' := 13) C X2 d21_12 rfl rfl ?_
  refine g_isub (pc' := 14) C X2 d21_13 rfl ?_
  refine g_ifY (pc' := 38) C X2 d21_14 (flt hle).2.2.2 (by decide) (by decide) ?_
  exact g_retV C X2 d21_38 (by decide) (by decide) ⟨rfl, N0, e2⟩
theorem ef_ens1 (m : MethodId) (a1 : Addr) (p2 : Int32) : entryFrame m #[(.ref a1), (.int p2)] 3 = mkF m 0 #[.val (.ref a1), .val (.int p2), .unset] [] := by first | (simp [entryFrame, mkF, argsToLocals, Value.category]; done) | rfl
def Q_ens1 (Z : State) (a1 : Addr) (p2 : Int32) (v1_ : Addr) (k1 : ClassId) (lx : List Int32) (cs : Int32) (fm : Value) (h0 : Heap) (n0 : Nat) (v : Option Value) (h : Heap) (L : List Loc) : Prop := v = none ∧ Fr n0 L ∧ h = h0
set_option maxRecDepth 65536 in
set_option maxHeartbeats 40000000 in
theorem rmens1 (l : Launch) (Z : State) (a0 : Array Value) (hw : ∀ d ∈ tables_1, d.before a0 Z = true) (ws : List Jvm.Cond) (a1 : Addr) (p2 : Int32) (v1_ : Addr) (k1 : ClassId) (lx : List Int32) (cs : Int32) (fm : Value) (h0 : Heap) (n0 : Nat) (hF : FX Z h0 cs fm) (Fv_a1 : Fld Z h0 a1 "java/lang/AbstractStringBuilder" "value" "[B" (.ref v1_)) (Fc_a1 : Fld Z h0 a1 "java/lang/AbstractStringBuilder" "coder" "B" (.int (1 : Int32))) (V_b : Arv Z h0 v1_ k1 .byte (10 : Int32) (own_vl lx) (.int (0 : Int32))) (hle : ¬ ((0 : Int32) < (p2 - (5 : Int32)))) :
    MetFree l (⟨"java/lang/AbstractStringBuilder", "ensureCapacityInternal", "(I)V"⟩ : MethodName) (head1 (Jvm.Cond.code (⟨"java/lang/AbstractStringBuilder", "ensureCapacityInternal", "(I)V"⟩ : MethodName) jdk_68_method_9_code 3 none :: ws) ({ frames := 0, cells := 0, slots := 0, locals := 0 } : Room)) (fun a U => a = #[(.ref a1), (.int p2)] ∧ Z.Warmed39 U.vm ∧ U.heap = h0) (fun _ _ _ _ _ => True) (fun _ U o U' => ∃ v L, o = .returned v ∧ Q_ens1 Z a1 p2 v1_ k1 lx cs fm h0 n0 v U'.heap L ∧ FrameEnd U o U' L ({ frames := 0, cells := 0, slots := 0, locals := 0 } : Room).cells ({ frames := 0, cells := 0, slots := 0, locals := 0 } : Room).slots) := by
  refine met_of (Ls := #[.val (.ref a1), .val (.int p2), .unset]) (plainFor_of_name (by first | (simp [plainName, overriddenIn]; done) | decide +kernel)) (fun m => ef_ens1 m a1 p2) ?_
  intro p e s m below meth c T0 C X0 e0
  obtain ⟨S_cs, hcs, S_fm, hfm, S_ad, S_hi, S_lo⟩ := id hF
  have N0 := Fr.nil n0
  refine g_aloadN (pc' := 1) C X0 d21_0 rfl rfl rfl ?_
  refine g_getF (pc' := 4) C X0 d21_1 (host := "") (Or.inl (wq hw 64 rfl)) Via.refl e0 Fv_a1 rfl (fun T1 X1 e1 => ?_)
  refine g_len (pc' := 5) C X1 d21_4 e1 V_b rfl ?_
  refine g_aloadN (pc' := 6) C X1 d21_5 rfl rfl rfl ?_
  refine g_getF (pc' := 9) C X1 d21_6 (host := "") (Or.inl (wq hw 66 rfl)) Via.refl e1 Fc_a1 rfl (fun T2 X2 e2 => ?_)
  refine g_ishr (pc' := 10) C X2 d21_9 rfl ?_
  refine own_cast (congrArg (fun z_c => T2.setTop (mkF m 10 #[.val (.ref a1), .val (.int p2), .unset] (.int z_c :: []))) (show ((10 : Int32) >>> ((1 : Int32) &&& 31)) = (5 : Int32) from by decide)) ?_
  refine g_istoreN (pc' := 11) (Ls' := #[.val (.ref a1), .val (.int p2), .val (.int (5 : Int32))]) C X2 d21_10 rfl rfl ?_
  refine g_iloadN (pc' := 12) C X2 d21_11 rfl rfl ?_
  refine g_iloadN (pc' := 13) C X2 d21_12 rfl rfl ?_
  refine g_isub (pc' := 14) C X2 d21_13 rfl ?_
  refine g_ifY (pc' := 38) C X2 d21_14 (flt hle).2.2.2 (by decide) (by decide) ?_
  exact g_retV C X2 d21_38 (by decide) (by decide) ⟨rfl, N0, e2⟩
theorem d23_0 : decode jdk_43_method_3_code 0 = .ok (.iload_n 0, 1) := by decide +kernel
theorem d23_1 : decode jdk_43_method_3_code 1 = .ok (.sipush 255, 3) := by decide +kernel
theorem d23_4 : decode jdk_43_method_3_code 4 = .ok (.if_icmp .gt 7, 3) := by decide +kernel
theorem d23_11 : decode jdk_43_method_3_code 11 = .ok (.iconst 0, 1) := by decide +kernel
theorem d23_12 : decode jdk_43_method_3_code 12 = .ok (.ireturn, 1) := by decide +kernel
theorem d23_7 : decode jdk_43_method_3_code 7 = .ok (.iconst 1, 1) := by decide +kernel
theorem d23_8 : decode jdk_43_method_3_code 8 = .ok (.goto 4, 3) := by decide +kernel
def Fcan (p1 : Int32) : Int32 := (if (255 : Int32) < p1 then (0 : Int32) else (1 : Int32))
theorem Fcan_l0 (p1 : Int32) (h0 : (255 : Int32) < p1) : Fcan p1 = (0 : Int32) := by
  unfold Fcan; rw [if_pos h0]
theorem Fcan_l1 (p1 : Int32) (h0 : ¬ ((255 : Int32) < p1)) : Fcan p1 = (1 : Int32) := by
  unfold Fcan; rw [if_neg h0]
theorem ef_can (m : MethodId) (p1 : Int32) : entryFrame m #[(.int p1)] 1 = mkF m 0 #[.val (.int p1)] [] := by first | (simp [entryFrame, mkF, argsToLocals, Value.category]; done) | rfl
def Q_can (Z : State) (p1 : Int32) (cs : Int32) (fm : Value) (h0 : Heap) (n0 : Nat) (v : Option Value) (h : Heap) (L : List Loc) : Prop := v = some (.int (Fcan p1)) ∧ Fr n0 L ∧ h = h0
set_option maxRecDepth 65536 in
set_option maxHeartbeats 40000000 in
theorem rmcan (l : Launch) (Z : State) (a0 : Array Value) (hw : ∀ d ∈ tables_1, d.before a0 Z = true) (ws : List Jvm.Cond) (p1 : Int32) (cs : Int32) (fm : Value) (h0 : Heap) (n0 : Nat) (hF : FX Z h0 cs fm) :
    MetFree l (⟨"java/lang/StringLatin1", "canEncode", "(C)Z"⟩ : MethodName) (head1 (Jvm.Cond.code (⟨"java/lang/StringLatin1", "canEncode", "(C)Z"⟩ : MethodName) jdk_43_method_3_code 1 (some .boolean) :: ws) ({ frames := 0, cells := 0, slots := 0, locals := 0 } : Room)) (fun a U => a = #[(.int p1)] ∧ Z.Warmed39 U.vm ∧ U.heap = h0) (fun _ _ _ _ _ => True) (fun _ U o U' => ∃ v L, o = .returned v ∧ Q_can Z p1 cs fm h0 n0 v U'.heap L ∧ FrameEnd U o U' L ({ frames := 0, cells := 0, slots := 0, locals := 0 } : Room).cells ({ frames := 0, cells := 0, slots := 0, locals := 0 } : Room).slots) := by
  refine met_of (Ls := #[.val (.int p1)]) (plainFor_of_name (by first | (simp [plainName, overriddenIn]; done) | decide +kernel)) (fun m => ef_can m p1) ?_
  intro p e s m below meth c T0 C X0 e0
  obtain ⟨S_cs, hcs, S_fm, hfm, S_ad, S_hi, S_lo⟩ := id hF
  have N0 := Fr.nil n0
  refine g_iloadN (pc' := 1) C X0 d23_0 rfl rfl ?_
  refine g_sipush (pc' := 4) (v := (255 : Int32)) C X0 d23_1 rfl rfl ?_
  by_cases c1 : (255 : Int32) < p1
  · refine g_icmpY (pc' := 11) C X0 d23_4 (tlt c1).2.2.1 (by decide) (by decide) ?_
    refine g_iconst (pc' := 12) (v := (0 : Int32)) C X0 d23_11 rfl rfl ?_
    exact g_retN C X0 (by simp) d23_12 (by decide) (by decide) ⟨congrArg (fun z => some (Value.int z)) (Fcan_l0 p1 c1).symm, N0, e0⟩
  · refine g_icmpN (pc' := 7) C X0 d23_4 (flt c1).2.2.1 rfl ?_
    refine g_iconst (pc' := 8) (v := (1 : Int32)) C X0 d23_7 rfl rfl ?_
    refine g_goto (pc' := 12) C X0 d23_8 (by decide) (by decide) ?_
    exact g_retN C X0 (by simp) d23_12 (by decide) (by decide) ⟨congrArg (fun z => some (Value.int z)) (Fcan_l1 p1 c1).symm, N0, e0⟩
theorem d37_0 : decode jdk_52_method_3_code 0 = .ok (.iload_n 0, 1) := by decide +kernel
theorem d37_1 : decode jdk_52_method_3_code 1 = .ok (.ifCond .ge 11, 3) := by decide +kernel
theorem d37_12 : decode jdk_52_method_3_code 12 = .ok (.iload_n 0, 1) := by decide +kernel
theorem d37_13 : decode jdk_52_method_3_code 13 = .ok (.ldc 20, 2) := by decide +kernel
theorem d37_15 : decode jdk_52_method_3_code 15 = .ok (.if_icmp .lt 40, 3) := by decide +kernel
theorem d37_55 : decode jdk_52_method_3_code 55 = .ok (.iload_n 0, 1) := by decide +kernel
theorem d37_56 : decode jdk_52_method_3_code 56 = .ok (.iconst 1, 1) := by decide +kernel
theorem d37_57 : decode jdk_52_method_3_code 57 = .ok (.ishl, 1) := by decide +kernel
theorem d37_58 : decode jdk_52_method_3_code 58 = .ok (.ireturn, 1) := by decide +kernel
def Fnbl  : Int32 := (10 : Int32)
theorem Fnbl_l0   : Fnbl  = (10 : Int32) := rfl
theorem ef_nbl (m : MethodId)  : entryFrame m #[(.int (5 : Int32))] 1 = mkF m 0 #[.val (.int (5 : Int32))] [] := by first | (simp [entryFrame, mkF, argsToLocals, Value.category]; done) | rfl
def Q_nbl (Z : State) (cs : Int32) (fm : Value) (h0 : Heap) (n0 : Nat) (v : Option Value) (h : Heap) (L : List Loc) : Prop := v = some (.int (Fnbl )) ∧ Fr n0 L ∧ h = h0
set_option maxRecDepth 65536 in
set_option maxHeartbeats 40000000 in
theorem rmnbl (l : Launch) (Z : State) (a0 : Array Value) (hw : ∀ d ∈ tables_1, d.before a0 Z = true) (ws : List Jvm.Cond) (cs : Int32) (fm : Value) (h0 : Heap) (n0 : Nat) (hF : FX Z h0 cs fm) :
    MetFree l (⟨"java/lang/StringUTF16", "newBytesLength", "(I)I"⟩ : MethodName) (head1 (Jvm.Cond.code (⟨"java/lang/StringUTF16", "newBytesLength", "(I)I"⟩ : MethodName) jdk_52_method_3_code 1 (some .int) :: ws) ({ frames := 0, cells := 0, slots := 0, locals := 0 } : Room)) (fun a U => a = #[(.int (5 : Int32))] ∧ Z.Warmed39 U.vm ∧ U.heap = h0) (fun _ _ _ _ _ => True) (fun _ U o U' => ∃ v L, o = .returned v ∧ Q_nbl Z cs fm h0 n0 v U'.heap L ∧ FrameEnd U o U' L ({ frames := 0, cells := 0, slots := 0, locals := 0 } : Room).cells ({ frames := 0, cells := 0, slots := 0, locals := 0 } : Room).slots) := by
  refine met_of (Ls := #[.val (.int (5 : Int32))]) (plainFor_of_name (by first | (simp [plainName, overriddenIn]; done) | decide +kernel)) (fun m => ef_nbl m ) ?_
  intro p e s m below meth c T0 C X0 e0
  obtain ⟨S_cs, hcs, S_fm, hfm, S_ad, S_hi, S_lo⟩ := id hF
  have N0 := Fr.nil n0
  refine g_iloadN (pc' := 1) C X0 d37_0 rfl rfl ?_
  refine g_ifY (pc' := 12) C X0 d37_1 (flt (show ¬ ((5 : Int32) < (0 : Int32)) from (by decide))).2.1 (by decide) (by decide) ?_
  refine g_iloadN (pc' := 13) C X0 d37_12 rfl rfl ?_
  refine g_ldc (pc' := 15) (v := (1073741823 : Int32)) C X0 d37_13 (wq hw 183 rfl) rfl ?_
  refine g_icmpY (pc' := 55) C X0 d37_15 (tlt (show (5 : Int32) < (1073741823 : Int32) from (by decide))).1 (by decide) (by decide) ?_
  refine g_iloadN (pc' := 56) C X0 d37_55 rfl rfl ?_
  refine g_iconst (pc' := 57) (v := (1 : Int32)) C X0 d37_56 rfl rfl ?_
  refine g_ishl (pc' := 58) C X0 d37_57 rfl ?_
  refine own_cast (congrArg (fun z_c => T0.setTop (mkF m 58 #[.val (.int (5 : Int32))] (.int z_c :: []))) (show ((5 : Int32) <<< ((1 : Int32) &&& 31)) = (10 : Int32) from by decide)) ?_
  exact g_retI C X0 d37_58 (by decide) (by decide) ⟨congrArg (fun z => some (Value.int z)) (Fnbl_l0  ).symm, N0, e0⟩
theorem d36_0 : decode jdk_52_method_2_code 0 = .ok (.iload_n 0, 1) := by decide +kernel
theorem d36_1 : decode jdk_52_method_2_code 1 = .ok (.invokestatic 11, 3) := by decide +kernel
theorem pd_8 : parseMethodDescriptor "(I)I" = some ⟨[.int], some .int⟩ := by decide +kernel
theorem d36_4 : decode jdk_52_method_2_code 4 = .ok (.newarray .byte, 2) := by decide +kernel
theorem d36_6 : decode jdk_52_method_2_code 6 = .ok (.areturn, 1) := by decide +kernel
theorem ef_nbf (m : MethodId)  : entryFrame m #[(.int (5 : Int32))] 1 = mkF m 0 #[.val (.int (5 : Int32))] [] := by first | (simp [entryFrame, mkF, argsToLocals, Value.category]; done) | rfl
def Q_nbf (Z : State) (cs : Int32) (fm : Value) (h0 : Heap) (n0 : Nat) (vr : Option Value) (h : Heap) (L : List Loc) : Prop := ∃ w : Addr, ∃ kw : ClassId, (vr = some (.ref w)) ∧ (Fr n0 L) ∧ (Keep h0 h []) ∧ (h0.size ≤ w) ∧ (n0 ≤ w) ∧ (Arv Z h w kw .byte (10 : Int32) (own_vl []) (.int (0 : Int32))) ∧ (Exa Z h w "[B")
set_option maxRecDepth 65536 in
set_option maxHeartbeats 40000000 in
theorem rmnbf (l : Launch) (Z : State) (a0 : Array Value) (hw : ∀ d ∈ tables_1, d.before a0 Z = true) (ws : List Jvm.Cond) (cs : Int32) (fm : Value) (h0 : Heap) (n0 : Nat) (Z0 : n0 ≤ h0.size) (hF : FX Z h0 cs fm) :
    MetFree l (⟨"java/lang/StringUTF16", "newBytesFor", "(I)[B"⟩ : MethodName) (head1 (Jvm.Cond.code (⟨"java/lang/StringUTF16", "newBytesFor", "(I)[B"⟩ : MethodName) jdk_52_method_2_code 1 (some (.array .byte)) :: ws) ({ frames := 1, cells := 1, slots := 10, locals := 12 } : Room)) (fun a U => a = #[(.int (5 : Int32))] ∧ Z.Warmed39 U.vm ∧ U.heap = h0) (fun _ _ _ _ _ => True) (fun _ U o U' => ∃ v L, o = .returned v ∧ Q_nbf Z cs fm h0 n0 v U'.heap L ∧ FrameEnd U o U' L ({ frames := 1, cells := 1, slots := 10, locals := 12 } : Room).cells ({ frames := 1, cells := 1, slots := 10, locals := 12 } : Room).slots) := by
  refine met_of (Ls := #[.val (.int (5 : Int32))]) (plainFor_of_name (by first | (simp [plainName, overriddenIn]; done) | decide +kernel)) (fun m => ef_nbf m ) ?_
  intro p e s m below meth c T0 C X0 e0
  obtain ⟨S_cs, hcs, S_fm, hfm, S_ad, S_hi, S_lo⟩ := id hF
  have N0 := Fr.nil n0
  have K0 : Keep h0 h0 [] := Keep.refl h0 _
  refine g_iloadN (pc' := 1) C X0 d36_0 rfl rfl ?_
  refine g_callS (y := (⟨"java/lang/StringUTF16", "newBytesLength", "(I)I"⟩ : MethodName)) (argsL := [(.int (5 : Int32))]) (st := []) (pc' := 4) C X0 d36_1 (wq hw 180 rfl) (wq hw 181 rfl) (wq hw 23 rfl) (wq hw 182 rfl) (by decide) (rmnbl l Z a0 hw [] cs fm h0 n0 hF) (W := 0) (by decide) (by decide) (ce := 0) (sl := 0) rfl rfl (by decide) (by decide) rfl e0 rfl pd_8 rfl (Nat.le_refl _) rfl (fun rv1 T1 L1 X1 Q1 => ?_)
  obtain ⟨q1, Nq1, e1⟩ := Q1
  have N1 := Fr.app N0 Nq1
  rw [Fnbl_l0 ] at q1
  subst q1
  show Go p.tables e below _ (T1.setTop (mkF m 4 #[.val (.int (5 : Int32))] [(.int (10 : Int32))]))
  refine g_newPE (pc' := 6) (cap := 10) (ad := "[B") C X1 (by decide) d36_4 (wq hw 25 rfl) e1 (by decide) (by decide) (by decide) (ce := 1) (sl := 10) rfl rfl (by decide) (by decide) rfl (fun T2 h2 b2 ck2 g2 X2 e2 E2 V2 A2 => ?_)
  have FX_2 := FX_ext hF E2
  have gn_b2 : n0 ≤ b2 := Nat.le_trans Z0 (Nat.le_of_eq g2.symm)
  have Z2 := Nat.le_trans Z0 E2.1
  have sz_b2 : h0.size ≤ b2 := Nat.le_trans K0.1 (Nat.le_of_eq g2.symm)
  have K2 := K0.ext E2
  exact g_retA C X2 rfl rfl rfl d36_6 (by decide) (by decide) ⟨b2, ck2, rfl, N1, (by rw [e2]; exact K2), sz_b2, gn_b2, (by rw [e2]; exact V2), (by rw [e2]; exact A2)⟩
theorem d48_0 : decode jdk_41_method_13_code 0 = .ok (.iload_n 2, 1) := by decide +kernel
theorem d48_1 : decode jdk_41_method_13_code 1 = .ok (.iload_n 0, 1) := by decide +kernel
theorem d48_2 : decode jdk_41_method_13_code 2 = .ok (.ior, 1) := by decide +kernel
theorem d48_3 : decode jdk_41_method_13_code 3 = .ok (.iload_n 1, 1) := by decide +kernel
theorem d48_4 : decode jdk_41_method_13_code 4 = .ok (.ior, 1) := by decide +kernel
theorem d48_5 : decode jdk_41_method_13_code 5 = .ok (.ifCond .lt 10, 3) := by decide +kernel
theorem d48_8 : decode jdk_41_method_13_code 8 = .ok (.iload_n 1, 1) := by decide +kernel
theorem d48_9 : decode jdk_41_method_13_code 9 = .ok (.iload_n 2, 1) := by decide +kernel
theorem d48_10 : decode jdk_41_method_13_code 10 = .ok (.iload_n 0, 1) := by decide +kernel
theorem d48_11 : decode jdk_41_method_13_code 11 = .ok (.isub, 1) := by decide +kernel
theorem d48_12 : decode jdk_41_method_13_code 12 = .ok (.if_icmp .le 11, 3) := by decide +kernel
theorem d48_23 : decode jdk_41_method_13_code 23 = .ok (.iload_n 0, 1) := by decide +kernel
theorem d48_24 : decode jdk_41_method_13_code 24 = .ok (.ireturn, 1) := by decide +kernel
def Fpfs (p1 : Int32) : Int32 := p1
theorem Fpfs_l0 (p1 : Int32)  : Fpfs p1 = p1 := rfl
theorem ef_pfs (m : MethodId) (p1 : Int32) (p2 : Int32) (p3 : Int32) (u4 : Value) (hu4 : u4.category = 1) : entryFrame m #[(.int p1), (.int p2), (.int p3), u4] 4 = mkF m 0 #[.val (.int p1), .val (.int p2), .val (.int p3), .val u4] [] := by cases u4 <;> first | (simp [entryFrame, mkF, argsToLocals, Value.category]; done) | rfl | (simp [Value.category] at hu4; done)
def Q_pfs (Z : State) (p1 : Int32) (p2 : Int32) (p3 : Int32) (u4 : Value) (cs : Int32) (fm : Value) (h0 : Heap) (n0 : Nat) (v : Option Value) (h : Heap) (L : List Loc) : Prop := v = some (.int (Fpfs p1)) ∧ Fr n0 L ∧ h = h0
set_option maxRecDepth 65536 in
set_option maxHeartbeats 40000000 in
theorem rmpfs (l : Launch) (Z : State) (a0 : Array Value) (hw : ∀ d ∈ tables_1, d.before a0 Z = true) (ws : List Jvm.Cond) (p1 : Int32) (p2 : Int32) (p3 : Int32) (u4 : Value) (cs : Int32) (fm : Value) (h0 : Heap) (n0 : Nat) (hF : FX Z h0 cs fm) (hc0 : ¬ (((p3 ||| p1) ||| p2) < (0 : Int32))) (hc1 : ¬ ((p3 - p1) < p2)) (hu4 : u4.category = 1) :
    MetFree l (⟨"jdk/internal/util/Preconditions", "checkFromIndexSize", "(IIILjava/util/function/BiFunction;)I"⟩ : MethodName) (head1 (Jvm.Cond.code (⟨"jdk/internal/util/Preconditions", "checkFromIndexSize", "(IIILjava/util/function/BiFunction;)I"⟩ : MethodName) jdk_41_method_13_code 4 (some .int) :: ws) ({ frames := 0, cells := 0, slots := 0, locals := 0 } : Room)) (fun a U => a = #[(.int p1), (.int p2), (.int p3), u4] ∧ Z.Warmed39 U.vm ∧ U.heap = h0) (fun _ _ _ _ _ => True) (fun _ U o U' => ∃ v L, o = .returned v ∧ Q_pfs Z p1 p2 p3 u4 cs fm h0 n0 v U'.heap L ∧ FrameEnd U o U' L ({ frames := 0, cells := 0, slots := 0, locals := 0 } : Room).cells ({ frames := 0, cells := 0, slots := 0, locals := 0 } : Room).slots) := by
  refine met_of (Ls := #[.val (.int p1), .val (.int p2), .val (.int p3), .val u4]) (plainFor_of_name (by first | (simp [plainName, overriddenIn]; done) | decide +kernel)) (fun m => ef_pfs m p1 p2 p3 u4 hu4) ?_
  intro p e s m below meth c T0 C X0 e0
  obtain ⟨S_cs, hcs, S_fm, hfm, S_ad, S_hi, S_lo⟩ := id hF
  have N0 := Fr.nil n0
  refine g_iloadN (pc' := 1) C X0 d48_0 rfl rfl ?_
  refine g_iloadN (pc' := 2) C X0 d48_1 rfl rfl ?_
  refine g_ior (pc' := 3) C X0 d48_2 rfl ?_
  refine g_iloadN (pc' := 4) C X0 d48_3 rfl rfl ?_
  refine g_ior (pc' := 5) C X0 d48_4 rfl ?_
  refine g_ifN (pc' := 8) C X0 d48_5 (flt hc0).1 rfl ?_
  refine g_iloadN (pc' := 9) C X0 d48_8 rfl rfl ?_
  refine g_iloadN (pc' := 10) C X0 d48_9 rfl rfl ?_
  refine g_iloadN (pc' := 11) C X0 d48_10 rfl rfl ?_
  refine g_isub (pc' := 12) C X0 d48_11 rfl ?_
  refine g_icmpY (pc' := 23) C X0 d48_12 (flt hc1).2.2.2 (by decide) (by decide) ?_
  refine g_iloadN (pc' := 24) C X0 d48_23 rfl rfl ?_
  exact g_retI C X0 d48_24 (by decide) (by decide) ⟨congrArg (fun z => some (Value.int z)) (Fpfs_l0 p1 ).symm, N0, e0⟩
theorem d47_0 : decode jdk_42_method_157_code 0 = .ok (.iload_n 0, 1) := by decide +kernel
theorem d47_1 : decode jdk_42_method_157_code 1 = .ok (.iload_n 1, 1) := by decide +kernel
theorem d47_2 : decode jdk_42_method_157_code 2 = .ok (.iload_n 2, 1) := by decide +kernel
theorem d47_3 : decode jdk_42_method_157_code 3 = .ok (.getstatic 1053, 3) := by decide +kernel
theorem d47_6 : decode jdk_42_method_157_code 6 = .ok (.invokestatic 1065, 3) := by decide +kernel
theorem pd_9 : parseMethodDescriptor "(IIILjava/util/function/BiFunction;)I" = some ⟨[.int, .int, .int, (.object "java/util/function/BiFunction")], some .int⟩ := by decide +kernel
theorem d47_9 : decode jdk_42_method_157_code 9 = .ok (.ireturn, 1) := by decide +kernel
def Fsbo (p1 : Int32) : Int32 := p1
theorem Fsbo_l0 (p1 : Int32)  : Fsbo p1 = p1 := rfl
theorem ef_sbo (m : MethodId) (p1 : Int32) (p2 : Int32) (p3 : Int32) : entryFrame m #[(.int p1), (.int p2), (.int p3)] 3 = mkF m 0 #[.val (.int p1), .val (.int p2), .val (.int p3)] [] := by first | (simp [entryFrame, mkF, argsToLocals, Value.category]; done) | rfl
def Q_sbo (Z : State) (p1 : Int32) (p2 : Int32) (p3 : Int32) (cs : Int32) (fm : Value) (h0 : Heap) (n0 : Nat) (v : Option Value) (h : Heap) (L : List Loc) : Prop := v = some (.int (Fsbo p1)) ∧ Fr n0 L ∧ h = h0
set_option maxRecDepth 65536 in
set_option maxHeartbeats 40000000 in
theorem rmsbo (l : Launch) (Z : State) (a0 : Array Value) (hw : ∀ d ∈ tables_1, d.before a0 Z = true) (ws : List Jvm.Cond) (p1 : Int32) (p2 : Int32) (p3 : Int32) (cs : Int32) (fm : Value) (h0 : Heap) (n0 : Nat) (hF : FX Z h0 cs fm) (hc0 : ¬ (((p3 ||| p1) ||| p2) < (0 : Int32))) (hc1 : ¬ ((p3 - p1) < p2)) :
    MetFree l (⟨"java/lang/String", "checkBoundsOffCount", "(III)I"⟩ : MethodName) (head1 (Jvm.Cond.code (⟨"java/lang/String", "checkBoundsOffCount", "(III)I"⟩ : MethodName) jdk_42_method_157_code 3 (some .int) :: ws) ({ frames := 1, cells := 0, slots := 0, locals := 15 } : Room)) (fun a U => a = #[(.int p1), (.int p2), (.int p3)] ∧ Z.Warmed39 U.vm ∧ U.heap = h0) (fun _ _ _ _ _ => True) (fun _ U o U' => ∃ v L, o = .returned v ∧ Q_sbo Z p1 p2 p3 cs fm h0 n0 v U'.heap L ∧ FrameEnd U o U' L ({ frames := 1, cells := 0, slots := 0, locals := 15 } : Room).cells ({ frames := 1, cells := 0, slots := 0, locals := 15 } : Room).slots) := by
  refine met_of (Ls := #[.val (.int p1), .val (.int p2), .val (.int p3)]) (plainFor_of_name (by first | (simp [plainName, overriddenIn]; done) | decide +kernel)) (fun m => ef_sbo m p1 p2 p3) ?_
  intro p e s m below meth c T0 C X0 e0
  obtain ⟨S_cs, hcs, S_fm, hfm, S_ad, S_hi, S_lo⟩ := id hF
  have N0 := Fr.nil n0
  refine g_iloadN (pc' := 1) C X0 d47_0 rfl rfl ?_
  refine g_iloadN (pc' := 2) C X0 d47_1 rfl rfl ?_
  refine g_iloadN (pc' := 3) C X0 d47_2 rfl rfl ?_
  refine g_getS (pc' := 6) C X0 d47_3 (host := "") (Or.inl (wq hw 85 rfl)) Via.refl e0 S_fm rfl (fun T1 X1 e1 => ?_)
  refine g_callS (y := (⟨"jdk/internal/util/Preconditions", "checkFromIndexSize", "(IIILjava/util/function/BiFunction;)I"⟩ : MethodName)) (argsL := [(.int p1), (.int p2), (.int p3), fm]) (st := []) (pc' := 9) C X1 d47_6 (wq hw 221 rfl) (wq hw 222 rfl) (wq hw 86 rfl) (wq hw 223 rfl) (by decide) (rmpfs l Z a0 hw [] p1 p2 p3 fm cs fm h0 n0 hF hc0 hc1 hfm) (W := 0) (by decide) (by decide) (ce := 0) (sl := 0) rfl rfl (by decide) (by decide) rfl e1 rfl pd_9 rfl (Nat.le_refl _) rfl (fun rv2 T2 L2 X2 Q2 => ?_)
  obtain ⟨q2, Nq2, e2⟩ := Q2
  have N2 := Fr.app N0 Nq2
  rw [Fpfs_l0 p1] at q2
  subst q2
  show Go p.tables e below _ (T2.setTop (mkF m 9 #[.val (.int p1), .val (.int p2), .val (.int p3)] [(.int p1)]))
  exact g_retI C X2 d47_9 (by decide) (by decide) ⟨congrArg (fun z => some (Value.int z)) (Fsbo_l0 p1 ).symm, N2, e2⟩
theorem d46_0 : decode jdk_52_method_94_code 0 = .ok (.iload_n 0, 1) := by decide +kernel
theorem d46_1 : decode jdk_52_method_94_code 1 = .ok (.iload_n 1, 1) := by decide +kernel
theorem d46_2 : decode jdk_52_method_94_code 2 = .ok (.aload_n 2, 1) := by decide +kernel
theorem d46_3 : decode jdk_52_method_94_code 3 = .ok (.invokestatic 48, 3) := by decide +kernel
theorem d46_6 : decode jdk_52_method_94_code 6 = .ok (.invokestatic 419, 3) := by decide +kernel
theorem pd_10 : parseMethodDescriptor "(III)I" = some ⟨[.int, .int, .int], some .int⟩ := by decide +kernel
theorem d46_9 : decode jdk_52_method_94_code 9 = .ok (.pop, 1) := by decide +kernel
theorem d46_10 : decode jdk_52_method_94_code 10 = .ok (.return_, 1) := by decide +kernel
theorem ef_ubo0 (m : MethodId) (a3 : Addr) : entryFrame m #[(.int (0 : Int32)), (.int (0 : Int32)), (.ref a3)] 3 = mkF m 0 #[.val (.int (0 : Int32)), .val (.int (0 : Int32)), .val (.ref a3)] [] := by first | (simp [entryFrame, mkF, argsToLocals, Value.category]; done) | rfl
def Q_ubo0 (Z : State) (a3 : Addr) (k1 : ClassId) (lx : List Int32) (cs : Int32) (fm : Value) (h0 : Heap) (n0 : Nat) (v : Option Value) (h : Heap) (L : List Loc) : Prop := v = none ∧ Fr n0 L ∧ h = h0
set_option maxRecDepth 65536 in
set_option maxHeartbeats 40000000 in
theorem rmubo0 (l : Launch) (Z : State) (a0 : Array Value) (hw : ∀ d ∈ tables_1, d.before a0 Z = true) (ws : List Jvm.Cond) (a3 : Addr) (k1 : ClassId) (lx : List Int32) (cs : Int32) (fm : Value) (h0 : Heap) (n0 : Nat) (hF : FX Z h0 cs fm) (V_b : Arv Z h0 a3 k1 .byte (10 : Int32) (own_vl lx) (.int (0 : Int32))) :
    MetFree l (⟨"java/lang/StringUTF16", "checkBoundsOffCount", "(II[B)V"⟩ : MethodName) (head1 (Jvm.Cond.code (⟨"java/lang/StringUTF16", "checkBoundsOffCount", "(II[B)V"⟩ : MethodName) jdk_52_method_94_code 3 none :: ws) ({ frames := 2, cells := 0, slots := 0, locals := 29 } : Room)) (fun a U => a = #[(.int (0 : Int32)), (.int (0 : Int32)), (.ref a3)] ∧ Z.Warmed39 U.vm ∧ U.heap = h0) (fun _ _ _ _ _ => True) (fun _ U o U' => ∃ v L, o = .returned v ∧ Q_ubo0 Z a3 k1 lx cs fm h0 n0 v U'.heap L ∧ FrameEnd U o U' L ({ frames := 2, cells := 0, slots := 0, locals := 29 } : Room).cells ({ frames := 2, cells := 0, slots := 0, locals := 29 } : Room).slots) := by
  refine met_of (Ls := #[.val (.int (0 : Int32)), .val (.int (0 : Int32)), .val (.ref a3)]) (plainFor_of_name (by first | (simp [plainName, overriddenIn]; done) | decide +kernel)) (fun m => ef_ubo0 m a3) ?_
  intro p e s m below meth c T0 C X0 e0
  obtain ⟨S_cs, hcs, S_fm, hfm, S_ad, S_hi, S_lo⟩ := id hF
  have N0 := Fr.nil n0
  refine g_iloadN (pc' := 1) C X0 d46_0 rfl rfl ?_
  refine g_iloadN (pc' := 2) C X0 d46_1 rfl rfl ?_
  refine g_aloadN (pc' := 3) C X0 d46_2 rfl rfl rfl ?_
  refine g_callS (y := (⟨"java/lang/StringUTF16", "length", "([B)I"⟩ : MethodName)) (argsL := [(.ref a3)]) (st := [(.int (0 : Int32)), (.int (0 : Int32))]) (pc' := 6) C X0 d46_3 (wq hw 199 rfl) (wq hw 200 rfl) (wq hw 23 rfl) (wq hw 201 rfl) (by decide) (rmul l Z a0 hw [] a3 k1 (10 : Int32) lx cs fm h0 n0 hF V_b) (W := 2) (by decide) (by decide) (ce := 0) (sl := 0) rfl rfl (by decide) (by decide) rfl e0 rfl pd_2 rfl (Nat.le_refl _) rfl (fun rv1 T1 L1 X1 Q1 => ?_)
  obtain ⟨q1, Nq1, e1⟩ := Q1
  have N1 := Fr.app N0 Nq1
  rw [Ful_l0 (10 : Int32)] at q1
  subst q1
  show Go p.tables e below _ (T1.setTop (mkF m 6 #[.val (.int (0 : Int32)), .val (.int (0 : Int32)), .val (.ref a3)] [(.int ((10 : Int32) >>> ((1 : Int32) &&& 31))), (.int (0 : Int32)), (.int (0 : Int32))]))
  refine g_callS (y := (⟨"java/lang/String", "checkBoundsOffCount", "(III)I"⟩ : MethodName)) (argsL := [(.int (0 : Int32)), (.int (0 : Int32)), (.int ((10 : Int32) >>> ((1 : Int32) &&& 31)))]) (st := []) (pc' := 9) C X1 d46_6 (wq hw 218 rfl) (wq hw 219 rfl) (wq hw 9 rfl) (wq hw 220 rfl) (by decide) (rmsbo l Z a0 hw [] (0 : Int32) (0 : Int32) ((10 : Int32) >>> ((1 : Int32) &&& 31)) cs fm h0 n0 hF (by decide) (by decide)) (W := 0) (by decide) (by decide) (ce := 0) (sl := 0) rfl rfl (by decide) (by decide) rfl e1 rfl pd_10 rfl (Nat.le_refl _) rfl (fun rv2 T2 L2 X2 Q2 => ?_)
  obtain ⟨q2, Nq2, e2⟩ := Q2
  have N2 := Fr.app N1 Nq2
  rw [Fsbo_l0 (0 : Int32)] at q2
  subst q2
  show Go p.tables e below _ (T2.setTop (mkF m 9 #[.val (.int (0 : Int32)), .val (.int (0 : Int32)), .val (.ref a3)] [(.int (0 : Int32))]))
  refine g_pop (pc' := 10) C X2 d46_9 rfl rfl ?_
  exact g_retV C X2 d46_10 (by decide) (by decide) ⟨rfl, N2, e2⟩
theorem ef_ubo1 (m : MethodId) (a3 : Addr) : entryFrame m #[(.int (0 : Int32)), (.int (1 : Int32)), (.ref a3)] 3 = mkF m 0 #[.val (.int (0 : Int32)), .val (.int (1 : Int32)), .val (.ref a3)] [] := by first | (simp [entryFrame, mkF, argsToLocals, Value.category]; done) | rfl
def Q_ubo1 (Z : State) (a3 : Addr) (k1 : ClassId) (lx : List Int32) (cs : Int32) (fm : Value) (h0 : Heap) (n0 : Nat) (v : Option Value) (h : Heap) (L : List Loc) : Prop := v = none ∧ Fr n0 L ∧ h = h0
set_option maxRecDepth 65536 in
set_option maxHeartbeats 40000000 in
theorem rmubo1 (l : Launch) (Z : State) (a0 : Array Value) (hw : ∀ d ∈ tables_1, d.before a0 Z = true) (ws : List Jvm.Cond) (a3 : Addr) (k1 : ClassId) (lx : List Int32) (cs : Int32) (fm : Value) (h0 : Heap) (n0 : Nat) (hF : FX Z h0 cs fm) (V_b : Arv Z h0 a3 k1 .byte (10 : Int32) (own_vl lx) (.int (0 : Int32))) :
    MetFree l (⟨"java/lang/StringUTF16", "checkBoundsOffCount", "(II[B)V"⟩ : MethodName) (head1 (Jvm.Cond.code (⟨"java/lang/StringUTF16", "checkBoundsOffCount", "(II[B)V"⟩ : MethodName) jdk_52_method_94_code 3 none :: ws) ({ frames := 2, cells := 0, slots := 0, locals := 29 } : Room)) (fun a U => a = #[(.int (0 : Int32)), (.int (1 : Int32)), (.ref a3)] ∧ Z.Warmed39 U.vm ∧ U.heap = h0) (fun _ _ _ _ _ => True) (fun _ U o U' => ∃ v L, o = .returned v ∧ Q_ubo1 Z a3 k1 lx cs fm h0 n0 v U'.heap L ∧ FrameEnd U o U' L ({ frames := 2, cells := 0, slots := 0, locals := 29 } : Room).cells ({ frames := 2, cells := 0, slots := 0, locals := 29 } : Room).slots) := by
  refine met_of (Ls := #[.val (.int (0 : Int32)), .val (.int (1 : Int32)), .val (.ref a3)]) (plainFor_of_name (by first | (simp [plainName, overriddenIn]; done) | decide +kernel)) (fun m => ef_ubo1 m a3) ?_
  intro p e s m below meth c T0 C X0 e0
  obtain ⟨S_cs, hcs, S_fm, hfm, S_ad, S_hi, S_lo⟩ := id hF
  have N0 := Fr.nil n0
  refine g_iloadN (pc' := 1) C X0 d46_0 rfl rfl ?_
  refine g_iloadN (pc' := 2) C X0 d46_1 rfl rfl ?_
  refine g_aloadN (pc' := 3) C X0 d46_2 rfl rfl rfl ?_
  refine g_callS (y := (⟨"java/lang/StringUTF16", "length", "([B)I"⟩ : MethodName)) (argsL := [(.ref a3)]) (st := [(.int (1 : Int32)), (.int (0 : Int32))]) (pc' := 6) C X0 d46_3 (wq hw 199 rfl) (wq hw 200 rfl) (wq hw 23 rfl) (wq hw 201 rfl) (by decide) (rmul l Z a0 hw [] a3 k1 (10 : Int32) lx cs fm h0 n0 hF V_b) (W := 2) (by decide) (by decide) (ce := 0) (sl := 0) rfl rfl (by decide) (by decide) rfl e0 rfl pd_2 rfl (Nat.le_refl _) rfl (fun rv1 T1 L1 X1 Q1 => ?_)
  obtain ⟨q1, Nq1, e1⟩ := Q1
  have N1 := Fr.app N0 Nq1
  rw [Ful_l0 (10 : Int32)] at q1
  subst q1
  show Go p.tables e below _ (T1.setTop (mkF m 6 #[.val (.int (0 : Int32)), .val (.int (1 : Int32)), .val (.ref a3)] [(.int ((10 : Int32) >>> ((1 : Int32) &&& 31))), (.int (1 : Int32)), (.int (0 : Int32))]))
  refine g_callS (y := (⟨"java/lang/String", "checkBoundsOffCount", "(III)I"⟩ : MethodName)) (argsL := [(.int (0 : Int32)), (.int (1 : Int32)), (.int ((10 : Int32) >>> ((1 : Int32) &&& 31)))]) (st := []) (pc' := 9) C X1 d46_6 (wq hw 218 rfl) (wq hw 219 rfl) (wq hw 9 rfl) (wq hw 220 rfl) (by decide) (rmsbo l Z a0 hw [] (0 : Int32) (1 : Int32) ((10 : Int32) >>> ((1 : Int32) &&& 31)) cs fm h0 n0 hF (by decide) (by decide)) (W := 0) (by decide) (by decide) (ce := 0) (sl := 0) rfl rfl (by decide) (by decide) rfl e1 rfl pd_10 rfl (Nat.le_refl _) rfl (fun rv2 T2 L2 X2 Q2 => ?_)
  obtain ⟨q2, Nq2, e2⟩ := Q2
  have N2 := Fr.app N1 Nq2
  rw [Fsbo_l0 (0 : Int32)] at q2
  subst q2
  show Go p.tables e below _ (T2.setTop (mkF m 9 #[.val (.int (0 : Int32)), .val (.int (1 : Int32)), .val (.ref a3)] [(.int (0 : Int32))]))
  refine g_pop (pc' := 10) C X2 d46_9 rfl rfl ?_
  exact g_retV C X2 d46_10 (by decide) (by decide) ⟨rfl, N2, e2⟩
theorem ef_ubo2 (m : MethodId) (a3 : Addr) : entryFrame m #[(.int (0 : Int32)), (.int (2 : Int32)), (.ref a3)] 3 = mkF m 0 #[.val (.int (0 : Int32)), .val (.int (2 : Int32)), .val (.ref a3)] [] := by first | (simp [entryFrame, mkF, argsToLocals, Value.category]; done) | rfl
def Q_ubo2 (Z : State) (a3 : Addr) (k1 : ClassId) (lx : List Int32) (cs : Int32) (fm : Value) (h0 : Heap) (n0 : Nat) (v : Option Value) (h : Heap) (L : List Loc) : Prop := v = none ∧ Fr n0 L ∧ h = h0
set_option maxRecDepth 65536 in
set_option maxHeartbeats 40000000 in
theorem rmubo2 (l : Launch) (Z : State) (a0 : Array Value) (hw : ∀ d ∈ tables_1, d.before a0 Z = true) (ws : List Jvm.Cond) (a3 : Addr) (k1 : ClassId) (lx : List Int32) (cs : Int32) (fm : Value) (h0 : Heap) (n0 : Nat) (hF : FX Z h0 cs fm) (V_b : Arv Z h0 a3 k1 .byte (10 : Int32) (own_vl lx) (.int (0 : Int32))) :
    MetFree l (⟨"java/lang/StringUTF16", "checkBoundsOffCount", "(II[B)V"⟩ : MethodName) (head1 (Jvm.Cond.code (⟨"java/lang/StringUTF16", "checkBoundsOffCount", "(II[B)V"⟩ : MethodName) jdk_52_method_94_code 3 none :: ws) ({ frames := 2, cells := 0, slots := 0, locals := 29 } : Room)) (fun a U => a = #[(.int (0 : Int32)), (.int (2 : Int32)), (.ref a3)] ∧ Z.Warmed39 U.vm ∧ U.heap = h0) (fun _ _ _ _ _ => True) (fun _ U o U' => ∃ v L, o = .returned v ∧ Q_ubo2 Z a3 k1 lx cs fm h0 n0 v U'.heap L ∧ FrameEnd U o U' L ({ frames := 2, cells := 0, slots := 0, locals := 29 } : Room).cells ({ frames := 2, cells := 0, slots := 0, locals := 29 } : Room).slots) := by
  refine met_of (Ls := #[.val (.int (0 : Int32)), .val (.int (2 : Int32)), .val (.ref a3)]) (plainFor_of_name (by first | (simp [plainName, overriddenIn]; done) | decide +kernel)) (fun m => ef_ubo2 m a3) ?_
  intro p e s m below meth c T0 C X0 e0
  obtain ⟨S_cs, hcs, S_fm, hfm, S_ad, S_hi, S_lo⟩ := id hF
  have N0 := Fr.nil n0
  refine g_iloadN (pc' := 1) C X0 d46_0 rfl rfl ?_
  refine g_iloadN (pc' := 2) C X0 d46_1 rfl rfl ?_
  refine g_aloadN (pc' := 3) C X0 d46_2 rfl rfl rfl ?_
  refine g_callS (y := (⟨"java/lang/StringUTF16", "length", "([B)I"⟩ : MethodName)) (argsL := [(.ref a3)]) (st := [(.int (2 : Int32)), (.int (0 : Int32))]) (pc' := 6) C X0 d46_3 (wq hw 199 rfl) (wq hw 200 rfl) (wq hw 23 rfl) (wq hw 201 rfl) (by decide) (rmul l Z a0 hw [] a3 k1 (10 : Int32) lx cs fm h0 n0 hF V_b) (W := 2) (by decide) (by decide) (ce := 0) (sl := 0) rfl rfl (by decide) (by decide) rfl e0 rfl pd_2 rfl (Nat.le_refl _) rfl (fun rv1 T1 L1 X1 Q1 => ?_)
  obtain ⟨q1, Nq1, e1⟩ := Q1
  have N1 := Fr.app N0 Nq1
  rw [Ful_l0 (10 : Int32)] at q1
  subst q1
  show Go p.tables e below _ (T1.setTop (mkF m 6 #[.val (.int (0 : Int32)), .val (.int (2 : Int32)), .val (.ref a3)] [(.int ((10 : Int32) >>> ((1 : Int32) &&& 31))), (.int (2 : Int32)), (.int (0 : Int32))]))
  refine g_callS (y := (⟨"java/lang/String", "checkBoundsOffCount", "(III)I"⟩ : MethodName)) (argsL := [(.int (0 : Int32)), (.int (2 : Int32)), (.int ((10 : Int32) >>> ((1 : Int32) &&& 31)))]) (st := []) (pc' := 9) C X1 d46_6 (wq hw 218 rfl) (wq hw 219 rfl) (wq hw 9 rfl) (wq hw 220 rfl) (by decide) (rmsbo l Z a0 hw [] (0 : Int32) (2 : Int32) ((10 : Int32) >>> ((1 : Int32) &&& 31)) cs fm h0 n0 hF (by decide) (by decide)) (W := 0) (by decide) (by decide) (ce := 0) (sl := 0) rfl rfl (by decide) (by decide) rfl e1 rfl pd_10 rfl (Nat.le_refl _) rfl (fun rv2 T2 L2 X2 Q2 => ?_)
  obtain ⟨q2, Nq2, e2⟩ := Q2
  have N2 := Fr.app N1 Nq2
  rw [Fsbo_l0 (0 : Int32)] at q2
  subst q2
  show Go p.tables e below _ (T2.setTop (mkF m 9 #[.val (.int (0 : Int32)), .val (.int (2 : Int32)), .val (.ref a3)] [(.int (0 : Int32))]))
  refine g_pop (pc' := 10) C X2 d46_9 rfl rfl ?_
  exact g_retV C X2 d46_10 (by decide) (by decide) ⟨rfl, N2, e2⟩
theorem ef_ubo3 (m : MethodId) (a3 : Addr) : entryFrame m #[(.int (0 : Int32)), (.int (3 : Int32)), (.ref a3)] 3 = mkF m 0 #[.val (.int (0 : Int32)), .val (.int (3 : Int32)), .val (.ref a3)] [] := by first | (simp [entryFrame, mkF, argsToLocals, Value.category]; done) | rfl
def Q_ubo3 (Z : State) (a3 : Addr) (k1 : ClassId) (lx : List Int32) (cs : Int32) (fm : Value) (h0 : Heap) (n0 : Nat) (v : Option Value) (h : Heap) (L : List Loc) : Prop := v = none ∧ Fr n0 L ∧ h = h0
set_option maxRecDepth 65536 in
set_option maxHeartbeats 40000000 in
theorem rmubo3 (l : Launch) (Z : State) (a0 : Array Value) (hw : ∀ d ∈ tables_1, d.before a0 Z = true) (ws : List Jvm.Cond) (a3 : Addr) (k1 : ClassId) (lx : List Int32) (cs : Int32) (fm : Value) (h0 : Heap) (n0 : Nat) (hF : FX Z h0 cs fm) (V_b : Arv Z h0 a3 k1 .byte (10 : Int32) (own_vl lx) (.int (0 : Int32))) :
    MetFree l (⟨"java/lang/StringUTF16", "checkBoundsOffCount", "(II[B)V"⟩ : MethodName) (head1 (Jvm.Cond.code (⟨"java/lang/StringUTF16", "checkBoundsOffCount", "(II[B)V"⟩ : MethodName) jdk_52_method_94_code 3 none :: ws) ({ frames := 2, cells := 0, slots := 0, locals := 29 } : Room)) (fun a U => a = #[(.int (0 : Int32)), (.int (3 : Int32)), (.ref a3)] ∧ Z.Warmed39 U.vm ∧ U.heap = h0) (fun _ _ _ _ _ => True) (fun _ U o U' => ∃ v L, o = .returned v ∧ Q_ubo3 Z a3 k1 lx cs fm h0 n0 v U'.heap L ∧ FrameEnd U o U' L ({ frames := 2, cells := 0, slots := 0, locals := 29 } : Room).cells ({ frames := 2, cells := 0, slots := 0, locals := 29 } : Room).slots) := by
  refine met_of (Ls := #[.val (.int (0 : Int32)), .val (.int (3 : Int32)), .val (.ref a3)]) (plainFor_of_name (by first | (simp [plainName, overriddenIn]; done) | decide +kernel)) (fun m => ef_ubo3 m a3) ?_
  intro p e s m below meth c T0 C X0 e0
  obtain ⟨S_cs, hcs, S_fm, hfm, S_ad, S_hi, S_lo⟩ := id hF
  have N0 := Fr.nil n0
  refine g_iloadN (pc' := 1) C X0 d46_0 rfl rfl ?_
  refine g_iloadN (pc' := 2) C X0 d46_1 rfl rfl ?_
  refine g_aloadN (pc' := 3) C X0 d46_2 rfl rfl rfl ?_
  refine g_callS (y := (⟨"java/lang/StringUTF16", "length", "([B)I"⟩ : MethodName)) (argsL := [(.ref a3)]) (st := [(.int (3 : Int32)), (.int (0 : Int32))]) (pc' := 6) C X0 d46_3 (wq hw 199 rfl) (wq hw 200 rfl) (wq hw 23 rfl) (wq hw 201 rfl) (by decide) (rmul l Z a0 hw [] a3 k1 (10 : Int32) lx cs fm h0 n0 hF V_b) (W := 2) (by decide) (by decide) (ce := 0) (sl := 0) rfl rfl (by decide) (by decide) rfl e0 rfl pd_2 rfl (Nat.le_refl _) rfl (fun rv1 T1 L1 X1 Q1 => ?_)
  obtain ⟨q1, Nq1, e1⟩ := Q1
  have N1 := Fr.app N0 Nq1
  rw [Ful_l0 (10 : Int32)] at q1
  subst q1
  show Go p.tables e below _ (T1.setTop (mkF m 6 #[.val (.int (0 : Int32)), .val (.int (3 : Int32)), .val (.ref a3)] [(.int ((10 : Int32) >>> ((1 : Int32) &&& 31))), (.int (3 : Int32)), (.int (0 : Int32))]))
  refine g_callS (y := (⟨"java/lang/String", "checkBoundsOffCount", "(III)I"⟩ : MethodName)) (argsL := [(.int (0 : Int32)), (.int (3 : Int32)), (.int ((10 : Int32) >>> ((1 : Int32) &&& 31)))]) (st := []) (pc' := 9) C X1 d46_6 (wq hw 218 rfl) (wq hw 219 rfl) (wq hw 9 rfl) (wq hw 220 rfl) (by decide) (rmsbo l Z a0 hw [] (0 : Int32) (3 : Int32) ((10 : Int32) >>> ((1 : Int32) &&& 31)) cs fm h0 n0 hF (by decide) (by decide)) (W := 0) (by decide) (by decide) (ce := 0) (sl := 0) rfl rfl (by decide) (by decide) rfl e1 rfl pd_10 rfl (Nat.le_refl _) rfl (fun rv2 T2 L2 X2 Q2 => ?_)
  obtain ⟨q2, Nq2, e2⟩ := Q2
  have N2 := Fr.app N1 Nq2
  rw [Fsbo_l0 (0 : Int32)] at q2
  subst q2
  show Go p.tables e below _ (T2.setTop (mkF m 9 #[.val (.int (0 : Int32)), .val (.int (3 : Int32)), .val (.ref a3)] [(.int (0 : Int32))]))
  refine g_pop (pc' := 10) C X2 d46_9 rfl rfl ?_
  exact g_retV C X2 d46_10 (by decide) (by decide) ⟨rfl, N2, e2⟩
theorem ef_ubo4 (m : MethodId) (a3 : Addr) : entryFrame m #[(.int (0 : Int32)), (.int (4 : Int32)), (.ref a3)] 3 = mkF m 0 #[.val (.int (0 : Int32)), .val (.int (4 : Int32)), .val (.ref a3)] [] := by first | (simp [entryFrame, mkF, argsToLocals, Value.category]; done) | rfl
def Q_ubo4 (Z : State) (a3 : Addr) (k1 : ClassId) (lx : List Int32) (cs : Int32) (fm : Value) (h0 : Heap) (n0 : Nat) (v : Option Value) (h : Heap) (L : List Loc) : Prop := v = none ∧ Fr n0 L ∧ h = h0
set_option maxRecDepth 65536 in
set_option maxHeartbeats 40000000 in
theorem rmubo4 (l : Launch) (Z : State) (a0 : Array Value) (hw : ∀ d ∈ tables_1, d.before a0 Z = true) (ws : List Jvm.Cond) (a3 : Addr) (k1 : ClassId) (lx : List Int32) (cs : Int32) (fm : Value) (h0 : Heap) (n0 : Nat) (hF : FX Z h0 cs fm) (V_b : Arv Z h0 a3 k1 .byte (10 : Int32) (own_vl lx) (.int (0 : Int32))) :
    MetFree l (⟨"java/lang/StringUTF16", "checkBoundsOffCount", "(II[B)V"⟩ : MethodName) (head1 (Jvm.Cond.code (⟨"java/lang/StringUTF16", "checkBoundsOffCount", "(II[B)V"⟩ : MethodName) jdk_52_method_94_code 3 none :: ws) ({ frames := 2, cells := 0, slots := 0, locals := 29 } : Room)) (fun a U => a = #[(.int (0 : Int32)), (.int (4 : Int32)), (.ref a3)] ∧ Z.Warmed39 U.vm ∧ U.heap = h0) (fun _ _ _ _ _ => True) (fun _ U o U' => ∃ v L, o = .returned v ∧ Q_ubo4 Z a3 k1 lx cs fm h0 n0 v U'.heap L ∧ FrameEnd U o U' L ({ frames := 2, cells := 0, slots := 0, locals := 29 } : Room).cells ({ frames := 2, cells := 0, slots := 0, locals := 29 } : Room).slots) := by
  refine met_of (Ls := #[.val (.int (0 : Int32)), .val (.int (4 : Int32)), .val (.ref a3)]) (plainFor_of_name (by first | (simp [plainName, overriddenIn]; done) | decide +kernel)) (fun m => ef_ubo4 m a3) ?_
  intro p e s m below meth c T0 C X0 e0
  obtain ⟨S_cs, hcs, S_fm, hfm, S_ad, S_hi, S_lo⟩ := id hF
  have N0 := Fr.nil n0
  refine g_iloadN (pc' := 1) C X0 d46_0 rfl rfl ?_
  refine g_iloadN (pc' := 2) C X0 d46_1 rfl rfl ?_
  refine g_aloadN (pc' := 3) C X0 d46_2 rfl rfl rfl ?_
  refine g_callS (y := (⟨"java/lang/StringUTF16", "length", "([B)I"⟩ : MethodName)) (argsL := [(.ref a3)]) (st := [(.int (4 : Int32)), (.int (0 : Int32))]) (pc' := 6) C X0 d46_3 (wq hw 199 rfl) (wq hw 200 rfl) (wq hw 23 rfl) (wq hw 201 rfl) (by decide) (rmul l Z a0 hw [] a3 k1 (10 : Int32) lx cs fm h0 n0 hF V_b) (W := 2) (by decide) (by decide) (ce := 0) (sl := 0) rfl rfl (by decide) (by decide) rfl e0 rfl pd_2 rfl (Nat.le_refl _) rfl (fun rv1 T1 L1 X1 Q1 => ?_)
  obtain ⟨q1, Nq1, e1⟩ := Q1
  have N1 := Fr.app N0 Nq1
  rw [Ful_l0 (10 : Int32)] at q1
  subst q1
  show Go p.tables e below _ (T1.setTop (mkF m 6 #[.val (.int (0 : Int32)), .val (.int (4 : Int32)), .val (.ref a3)] [(.int ((10 : Int32) >>> ((1 : Int32) &&& 31))), (.int (4 : Int32)), (.int (0 : Int32))]))
  refine g_callS (y := (⟨"java/lang/String", "checkBoundsOffCount", "(III)I"⟩ : MethodName)) (argsL := [(.int (0 : Int32)), (.int (4 : Int32)), (.int ((10 : Int32) >>> ((1 : Int32) &&& 31)))]) (st := []) (pc' := 9) C X1 d46_6 (wq hw 218 rfl) (wq hw 219 rfl) (wq hw 9 rfl) (wq hw 220 rfl) (by decide) (rmsbo l Z a0 hw [] (0 : Int32) (4 : Int32) ((10 : Int32) >>> ((1 : Int32) &&& 31)) cs fm h0 n0 hF (by decide) (by decide)) (W := 0) (by decide) (by decide) (ce := 0) (sl := 0) rfl rfl (by decide) (by decide) rfl e1 rfl pd_10 rfl (Nat.le_refl _) rfl (fun rv2 T2 L2 X2 Q2 => ?_)
  obtain ⟨q2, Nq2, e2⟩ := Q2
  have N2 := Fr.app N1 Nq2
  rw [Fsbo_l0 (0 : Int32)] at q2
  subst q2
  show Go p.tables e below _ (T2.setTop (mkF m 9 #[.val (.int (0 : Int32)), .val (.int (4 : Int32)), .val (.ref a3)] [(.int (0 : Int32))]))
  refine g_pop (pc' := 10) C X2 d46_9 rfl rfl ?_
  exact g_retV C X2 d46_10 (by decide) (by decide) ⟨rfl, N2, e2⟩
theorem d45_0 : decode jdk_52_method_86_code 0 = .ok (.iload_n 3, 1) := by decide +kernel
theorem d45_1 : decode jdk_52_method_86_code 1 = .ok (.iload 4, 2) := by decide +kernel
theorem d45_3 : decode jdk_52_method_86_code 3 = .ok (.aload_n 2, 1) := by decide +kernel
theorem d45_4 : decode jdk_52_method_86_code 4 = .ok (.invokestatic 173, 3) := by decide +kernel
theorem pd_11 : parseMethodDescriptor "(II[B)V" = some ⟨[.int, .int, (.array .byte)], none⟩ := by decide +kernel
theorem d45_7 : decode jdk_52_method_86_code 7 = .ok (.iconst 0, 1) := by decide +kernel
theorem d45_8 : decode jdk_52_method_86_code 8 = .ok (.istore 5, 2) := by decide +kernel
theorem d45_10 : decode jdk_52_method_86_code 10 = .ok (.iload 5, 2) := by decide +kernel
theorem d45_12 : decode jdk_52_method_86_code 12 = .ok (.iload 4, 2) := by decide +kernel
theorem d45_14 : decode jdk_52_method_86_code 14 = .ok (.if_icmp .ge 27, 3) := by decide +kernel
theorem d45_41 : decode jdk_52_method_86_code 41 = .ok (.return_, 1) := by decide +kernel
theorem ef_ui0 (m : MethodId) (a1 : Addr) (a3 : Addr) : entryFrame m #[(.ref a1), (.int (0 : Int32)), (.ref a3), (.int (0 : Int32)), (.int (0 : Int32))] 6 = mkF m 0 #[.val (.ref a1), .val (.int (0 : Int32)), .val (.ref a3), .val (.int (0 : Int32)), .val (.int (0 : Int32)), .unset] [] := by first | (simp [entryFrame, mkF, argsToLocals, Value.category]; done) | rfl
def Q_ui0 (Z : State) (a1 : Addr) (a3 : Addr) (k1 : ClassId) (lx : List Int32) (k2 : ClassId) (cs : Int32) (fm : Value) (h0 : Heap) (n0 : Nat) (vr : Option Value) (h : Heap) (L : List Loc) : Prop := (vr = none) ∧ (Fr n0 L) ∧ (Keep h0 h [a3]) ∧ (Arv Z h a3 k2 .byte (10 : Int32) (own_vl []) (.int (0 : Int32)))
set_option maxRecDepth 65536 in
set_option maxHeartbeats 40000000 in
theorem rmui0 (l : Launch) (Z : State) (a0 : Array Value) (hw : ∀ d ∈ tables_1, d.before a0 Z = true) (ws : List Jvm.Cond) (a1 : Addr) (a3 : Addr) (k1 : ClassId) (lx : List Int32) (k2 : ClassId) (cs : Int32) (fm : Value) (h0 : Heap) (n0 : Nat) (Z0 : n0 ≤ h0.size) (hF : FX Z h0 cs fm) (V_s : Arv Z h0 a1 k1 .byte (5 : Int32) (own_vl lx) (.int (0 : Int32))) (V_d : Arv Z h0 a3 k2 .byte (10 : Int32) (own_vl []) (.int (0 : Int32))) (gn_a3 : n0 ≤ a3) (ne13 : ¬ (a1 = a3)) :
    MetFree l (⟨"java/lang/StringUTF16", "inflate", "([BI[BII)V"⟩ : MethodName) (head1 (Jvm.Cond.code (⟨"java/lang/StringUTF16", "inflate", "([BI[BII)V"⟩ : MethodName) jdk_52_method_86_code 6 none :: ws) ({ frames := 3, cells := 0, slots := 0, locals := 43 } : Room)) (fun a U => a = #[(.ref a1), (.int (0 : Int32)), (.ref a3), (.int (0 : Int32)), (.int (0 : Int32))] ∧ Z.Warmed39 U.vm ∧ U.heap = h0) (fun _ _ _ _ _ => True) (fun _ U o U' => ∃ v L, o = .returned v ∧ Q_ui0 Z a1 a3 k1 lx k2 cs fm h0 n0 v U'.heap L ∧ FrameEnd U o U' L ({ frames := 3, cells := 0, slots := 0, locals := 43 } : Room).cells ({ frames := 3, cells := 0, slots := 0, locals := 43 } : Room).slots) := by
  refine met_of (Ls := #[.val (.ref a1), .val (.int (0 : Int32)), .val (.ref a3), .val (.int (0 : Int32)), .val (.int (0 : Int32)), .unset]) (plainFor_of_name (by first | (simp [plainName, overriddenIn]; done) | decide +kernel)) (fun m => ef_ui0 m a1 a3) ?_
  intro p e s m below meth c T0 C X0 e0
  obtain ⟨S_cs, hcs, S_fm, hfm, S_ad, S_hi, S_lo⟩ := id hF
  have N0 := Fr.nil n0
  have K0 : Keep h0 h0 [a3] := Keep.refl h0 _
  refine g_iloadN (pc' := 1) C X0 d45_0 rfl rfl ?_
  refine g_iload (pc' := 3) C X0 d45_1 rfl rfl ?_
  refine g_aloadN (pc' := 4) C X0 d45_3 rfl rfl rfl ?_
  refine g_callS (y := (⟨"java/lang/StringUTF16", "checkBoundsOffCount", "(II[B)V"⟩ : MethodName)) (argsL := [(.int (0 : Int32)), (.int (0 : Int32)), (.ref a3)]) (st := []) (pc' := 7) C X0 d45_4 (wq hw 215 rfl) (wq hw 216 rfl) (wq hw 23 rfl) (wq hw 217 rfl) (by decide) (rmubo0 l Z a0 hw [] a3 k2 ([]) cs fm h0 n0 hF V_d) (W := 0) (by decide) (by decide) (ce := 0) (sl := 0) rfl rfl (by decide) (by decide) rfl e0 rfl pd_11 rfl (Nat.le_refl _) rfl (fun rv1 T1 L1 X1 Q1 => ?_)
  obtain ⟨q1, Nq1, e1⟩ := Q1
  have N1 := Fr.app N0 Nq1
  subst q1
  show Go p.tables e below _ (T1.setTop (mkF m 7 #[.val (.ref a1), .val (.int (0 : Int32)), .val (.ref a3), .val (.int (0 : Int32)), .val (.int (0 : Int32)), .unset] []))
  refine g_iconst (pc' := 8) (v := (0 : Int32)) C X1 d45_7 rfl rfl ?_
  refine g_istore (pc' := 10) (Ls' := #[.val (.ref a1), .val (.int (0 : Int32)), .val (.ref a3), .val (.int (0 : Int32)), .val (.int (0 : Int32)), .val (.int (0 : Int32))]) C X1 d45_8 rfl rfl ?_
  refine g_iload (pc' := 12) C X1 d45_10 rfl rfl ?_
  refine g_iload (pc' := 14) C X1 d45_12 rfl rfl ?_
  refine g_icmpY (pc' := 41) C X1 d45_14 (flt (show ¬ ((0 : Int32) < (0 : Int32)) from (by decide))).2.1 (by decide) (by decide) ?_
  exact g_retV C X1 d45_41 (by decide) (by decide) ⟨rfl, N1, (by rw [e1]; exact K0), (by rw [e1]; exact V_d)⟩
theorem d44_0 : decode jdk_43_method_50_code 0 = .ok (.aload_n 0, 1) := by decide +kernel
theorem d44_1 : decode jdk_43_method_50_code 1 = .ok (.iload_n 1, 1) := by decide +kernel
theorem d44_2 : decode jdk_43_method_50_code 2 = .ok (.aload_n 2, 1) := by decide +kernel
theorem d44_3 : decode jdk_43_method_50_code 3 = .ok (.iload_n 3, 1) := by decide +kernel
theorem d44_4 : decode jdk_43_method_50_code 4 = .ok (.iload 4, 2) := by decide +kernel
theorem d44_6 : decode jdk_43_method_50_code 6 = .ok (.invokestatic 240, 3) := by decide +kernel
theorem pd_12 : parseMethodDescriptor "([BI[BII)V" = some ⟨[(.array .byte), .int, (.array .byte), .int, .int], none⟩ := by decide +kernel
theorem d44_9 : decode jdk_43_method_50_code 9 = .ok (.return_, 1) := by decide +kernel
theorem ef_li0 (m : MethodId) (a1 : Addr) (a3 : Addr) : entryFrame m #[(.ref a1), (.int (0 : Int32)), (.ref a3), (.int (0 : Int32)), (.int (0 : Int32))] 5 = mkF m 0 #[.val (.ref a1), .val (.int (0 : Int32)), .val (.ref a3), .val (.int (0 : Int32)), .val (.int (0 : Int32))] [] := by first | (simp [entryFrame, mkF, argsToLocals, Value.category]; done) | rfl
def Q_li0 (Z : State) (a1 : Addr) (a3 : Addr) (k1 : ClassId) (lx : List Int32) (k2 : ClassId) (cs : Int32) (fm : Value) (h0 : Heap) (n0 : Nat) (vr : Option Value) (h : Heap) (L : List Loc) : Prop := (vr = none) ∧ (Fr n0 L) ∧ (Keep h0 h [a3]) ∧ (Arv Z h a3 k2 .byte (10 : Int32) (own_vl []) (.int (0 : Int32)))
set_option maxRecDepth 65536 in
set_option maxHeartbeats 40000000 in
theorem rmli0 (l : Launch) (Z : State) (a0 : Array Value) (hw : ∀ d ∈ tables_1, d.before a0 Z = true) (ws : List Jvm.Cond) (a1 : Addr) (a3 : Addr) (k1 : ClassId) (lx : List Int32) (k2 : ClassId) (cs : Int32) (fm : Value) (h0 : Heap) (n0 : Nat) (Z0 : n0 ≤ h0.size) (hF : FX Z h0 cs fm) (V_s : Arv Z h0 a1 k1 .byte (5 : Int32) (own_vl lx) (.int (0 : Int32))) (V_d : Arv Z h0 a3 k2 .byte (10 : Int32) (own_vl []) (.int (0 : Int32))) (gn_a3 : n0 ≤ a3) (ne13 : ¬ (a1 = a3)) :
    MetFree l (⟨"java/lang/StringLatin1", "inflate", "([BI[BII)V"⟩ : MethodName) (head1 (Jvm.Cond.code (⟨"java/lang/StringLatin1", "inflate", "([BI[BII)V"⟩ : MethodName) jdk_43_method_50_code 5 none :: ws) ({ frames := 4, cells := 0, slots := 0, locals := 60 } : Room)) (fun a U => a = #[(.ref a1), (.int (0 : Int32)), (.ref a3), (.int (0 : Int32)), (.int (0 : Int32))] ∧ Z.Warmed39 U.vm ∧ U.heap = h0) (fun _ _ _ _ _ => True) (fun _ U o U' => ∃ v L, o = .returned v ∧ Q_li0 Z a1 a3 k1 lx k2 cs fm h0 n0 v U'.heap L ∧ FrameEnd U o U' L ({ frames := 4, cells := 0, slots := 0, locals := 60 } : Room).cells ({ frames := 4, cells := 0, slots := 0, locals := 60 } : Room).slots) := by
  refine met_of (Ls := #[.val (.ref a1), .val (.int (0 : Int32)), .val (.ref a3), .val (.int (0 : Int32)), .val (.int (0 : Int32))]) (plainFor_of_name (by first | (simp [plainName, overriddenIn]; done) | decide +kernel)) (fun m => ef_li0 m a1 a3) ?_
  intro p e s m below meth c T0 C X0 e0
  obtain ⟨S_cs, hcs, S_fm, hfm, S_ad, S_hi, S_lo⟩ := id hF
  have N0 := Fr.nil n0
  have K0 : Keep h0 h0 [a3] := Keep.refl h0 _
  refine g_aloadN (pc' := 1) C X0 d44_0 rfl rfl rfl ?_
  refine g_iloadN (pc' := 2) C X0 d44_1 rfl rfl ?_
  refine g_aloadN (pc' := 3) C X0 d44_2 rfl rfl rfl ?_
  refine g_iloadN (pc' := 4) C X0 d44_3 rfl rfl ?_
  refine g_iload (pc' := 6) C X0 d44_4 rfl rfl ?_
  refine g_callS (y := (⟨"java/lang/StringUTF16", "inflate", "([BI[BII)V"⟩ : MethodName)) (argsL := [(.ref a1), (.int (0 : Int32)), (.ref a3), (.int (0 : Int32)), (.int (0 : Int32))]) (st := []) (pc' := 9) C X0 d44_6 (wq hw 212 rfl) (wq hw 213 rfl) (wq hw 23 rfl) (wq hw 214 rfl) (by decide) (rmui0 l Z a0 hw [] a1 a3 k1 lx k2 cs fm h0 n0 Z0 hF V_s V_d gn_a3 ne13) (W := 0) (by decide) (by decide) (ce := 0) (sl := 0) rfl rfl (by decide) (by decide) rfl e0 rfl pd_12 rfl (Nat.le_refl _) rfl (fun rv1 T1 L1 X1 Q1 => ?_)
  obtain ⟨q1, Nq1, Kq1, P1_0⟩ := Q1
  have N1 := Fr.app N0 Nq1
  have FX_1 := FX_keep hF Kq1 ((allS (by obtain ⟨c_, A_, _⟩ := V_d; exact ⟨c_, A_.1, A_.plain⟩) all0))
  have V_s_1 := V_s.keep Kq1 (ninS ne13 nin0)
  have Z1 := Nat.le_trans Z0 Kq1.1
  have K1 := K0.trans Kq1 (allS (Or.inl (List.mem_of_getElem? (i := 0) rfl)) all0)
  subst q1
  show Go p.tables e below _ (T1.setTop (mkF m 9 #[.val (.ref a1), .val (.int (0 : Int32)), .val (.ref a3), .val (.int (0 : Int32)), .val (.int (0 : Int32))] []))
  exact g_retV C X1 d44_9 (by decide) (by decide) ⟨rfl, N1, K1, P1_0⟩
theorem d45_17 : decode jdk_52_method_86_code 17 = .ok (.aload_n 2, 1) := by decide +kernel
theorem d45_18 : decode jdk_52_method_86_code 18 = .ok (.iload_n 3, 1) := by decide +kernel
theorem d45_19 : decode jdk_52_method_86_code 19 = .ok (.iinc 3 1, 3) := by decide +kernel
theorem d45_22 : decode jdk_52_method_86_code 22 = .ok (.aload_n 0, 1) := by decide +kernel
theorem d45_23 : decode jdk_52_method_86_code 23 = .ok (.iload_n 1, 1) := by decide +kernel
theorem d45_24 : decode jdk_52_method_86_code 24 = .ok (.iinc 1 1, 3) := by decide +kernel
theorem d45_27 : decode jdk_52_method_86_code 27 = .ok (.baload, 1) := by decide +kernel
theorem d45_28 : decode jdk_52_method_86_code 28 = .ok (.sipush 255, 3) := by decide +kernel
theorem d45_31 : decode jdk_52_method_86_code 31 = .ok (.iand, 1) := by decide +kernel
theorem d45_32 : decode jdk_52_method_86_code 32 = .ok (.invokestatic 111, 3) := by decide +kernel
theorem pd_13 : parseMethodDescriptor "([BII)V" = some ⟨[(.array .byte), .int, .int], none⟩ := by decide +kernel
theorem d45_35 : decode jdk_52_method_86_code 35 = .ok (.iinc 5 1, 3) := by decide +kernel
theorem d45_38 : decode jdk_52_method_86_code 38 = .ok (.goto (-28), 3) := by decide +kernel
theorem ef_ui1 (m : MethodId) (a1 : Addr) (a3 : Addr) : entryFrame m #[(.ref a1), (.int (0 : Int32)), (.ref a3), (.int (0 : Int32)), (.int (1 : Int32))] 6 = mkF m 0 #[.val (.ref a1), .val (.int (0 : Int32)), .val (.ref a3), .val (.int (0 : Int32)), .val (.int (1 : Int32)), .unset] [] := by first | (simp [entryFrame, mkF, argsToLocals, Value.category]; done) | rfl
def Q_ui1 (Z : State) (a1 : Addr) (a3 : Addr) (k1 : ClassId) (lx : List Int32) (k2 : ClassId) (cs : Int32) (fm : Value) (h0 : Heap) (n0 : Nat) (vr : Option Value) (h : Heap) (L : List Loc) : Prop := (vr = none) ∧ (Fr n0 L) ∧ (Keep h0 h [a3]) ∧ (Arv Z h a3 k2 .byte (10 : Int32) (own_vl (own_put [] (0 : Int32) ((own_g lx (0 : Int32)) &&& (255 : Int32)))) (.int (0 : Int32)))
set_option maxRecDepth 65536 in
set_option maxHeartbeats 40000000 in
theorem rmui1 (l : Launch) (Z : State) (a0 : Array Value) (hw : ∀ d ∈ tables_1, d.before a0 Z = true) (ws : List Jvm.Cond) (a1 : Addr) (a3 : Addr) (k1 : ClassId) (lx : List Int32) (k2 : ClassId) (cs : Int32) (fm : Value) (h0 : Heap) (n0 : Nat) (Z0 : n0 ≤ h0.size) (hF : FX Z h0 cs fm) (V_s : Arv Z h0 a1 k1 .byte (5 : Int32) (own_vl lx) (.int (0 : Int32))) (V_d : Arv Z h0 a3 k2 .byte (10 : Int32) (own_vl []) (.int (0 : Int32))) (gn_a3 : n0 ≤ a3) (ne13 : ¬ (a1 = a3)) :
    MetFree l (⟨"java/lang/StringUTF16", "inflate", "([BI[BII)V"⟩ : MethodName) (head1 (Jvm.Cond.code (⟨"java/lang/StringUTF16", "inflate", "([BI[BII)V"⟩ : MethodName) jdk_52_method_86_code 6 none :: ws) ({ frames := 3, cells := 0, slots := 0, locals := 43 } : Room)) (fun a U => a = #[(.ref a1), (.int (0 : Int32)), (.ref a3), (.int (0 : Int32)), (.int (1 : Int32))] ∧ Z.Warmed39 U.vm ∧ U.heap = h0) (fun _ _ _ _ _ => True) (fun _ U o U' => ∃ v L, o = .returned v ∧ Q_ui1 Z a1 a3 k1 lx k2 cs fm h0 n0 v U'.heap L ∧ FrameEnd U o U' L ({ frames := 3, cells := 0, slots := 0, locals := 43 } : Room).cells ({ frames := 3, cells := 0, slots := 0, locals := 43 } : Room).slots) := by
  refine met_of (Ls := #[.val (.ref a1), .val (.int (0 : Int32)), .val (.ref a3), .val (.int (0 : Int32)), .val (.int (1 : Int32)), .unset]) (plainFor_of_name (by first | (simp [plainName, overriddenIn]; done) | decide +kernel)) (fun m => ef_ui1 m a1 a3) ?_
  intro p e s m below meth c T0 C X0 e0
  obtain ⟨S_cs, hcs, S_fm, hfm, S_ad, S_hi, S_lo⟩ := id hF
  have N0 := Fr.nil n0
  have K0 : Keep h0 h0 [a3] := Keep.refl h0 _
  refine g_iloadN (pc' := 1) C X0 d45_0 rfl rfl ?_
  refine g_iload (pc' := 3) C X0 d45_1 rfl rfl ?_
  refine g_aloadN (pc' := 4) C X0 d45_3 rfl rfl rfl ?_
  refine g_callS (y := (⟨"java/lang/StringUTF16", "checkBoundsOffCount", "(II[B)V"⟩ : MethodName)) (argsL := [(.int (0 : Int32)), (.int (1 : Int32)), (.ref a3)]) (st := []) (pc' := 7) C X0 d45_4 (wq hw 215 rfl) (wq hw 216 rfl) (wq hw 23 rfl) (wq hw 217 rfl) (by decide) (rmubo1 l Z a0 hw [] a3 k2 ([]) cs fm h0 n0 hF V_d) (W := 0) (by decide) (by decide) (ce := 0) (sl := 0) rfl rfl (by decide) (by decide) rfl e0 rfl pd_11 rfl (Nat.le_refl _) rfl (fun rv1 T1 L1 X1 Q1 => ?_)
  obtain ⟨q1, Nq1, e1⟩ := Q1
  have N1 := Fr.app N0 Nq1
  subst q1
  show Go p.tables e below _ (T1.setTop (mkF m 7 #[.val (.ref a1), .val (.int (0 : Int32)), .val (.ref a3), .val (.int (0 : Int32)), .val (.int (1 : Int32)), .unset] []))
  refine g_iconst (pc' := 8) (v := (0 : Int32)) C X1 d45_7 rfl rfl ?_
  refine g_istore (pc' := 10) (Ls' := #[.val (.ref a1), .val (.int (0 : Int32)), .val (.ref a3), .val (.int (0 : Int32)), .val (.int (1 : Int32)), .val (.int (0 : Int32))]) C X1 d45_8 rfl rfl ?_
  refine g_iload (pc' := 12) C X1 d45_10 rfl rfl ?_
  refine g_iload (pc' := 14) C X1 d45_12 rfl rfl ?_
  refine g_icmpN (pc' := 17) C X1 d45_14 (tlt (show (0 : Int32) < (1 : Int32) from (by decide))).2.1 rfl ?_
  refine g_aloadN (pc' := 18) C X1 d45_17 rfl rfl rfl ?_
  refine g_iloadN (pc' := 19) C X1 d45_18 rfl rfl ?_
  refine g_iinc (pc' := 22) (Ls' := #[.val (.ref a1), .val (.int (0 : Int32)), .val (.ref a3), .val (.int ((0 : Int32) + (1 : Int32))), .val (.int (1 : Int32)), .val (.int (0 : Int32))]) C X1 d45_19 rfl rfl rfl ?_
  refine g_aloadN (pc' := 23) C X1 d45_22 rfl rfl rfl ?_
  refine g_iloadN (pc' := 24) C X1 d45_23 rfl rfl ?_
  refine g_iinc (pc' := 27) (Ls' := #[.val (.ref a1), .val (.int ((0 : Int32) + (1 : Int32))), .val (.ref a3), .val (.int ((0 : Int32) + (1 : Int32))), .val (.int (1 : Int32)), .val (.int (0 : Int32))]) C X1 d45_24 rfl rfl rfl ?_
  refine g_ldB (pc' := 28) (v := (.int (own_g lx (0 : Int32)))) C X1 d45_27 e1 V_s ⟨by decide, by decide⟩ (own_vl_get _ _) rfl ?_
  refine g_sipush (pc' := 31) (v := (255 : Int32)) C X1 d45_28 rfl rfl ?_
  refine g_iand (pc' := 32) C X1 d45_31 rfl ?_
  refine g_callS (y := (⟨"java/lang/StringUTF16", "putChar", "([BII)V"⟩ : MethodName)) (argsL := [(.ref a3), (.int (0 : Int32)), (.int ((own_g lx (0 : Int32)) &&& (255 : Int32)))]) (st := []) (pc' := 35) C X1 d45_32 (wq hw 184 rfl) (wq hw 185 rfl) (wq hw 23 rfl) (wq hw 186 rfl) (by decide) (rmupc l Z a0 hw [] a3 (0 : Int32) ((own_g lx (0 : Int32)) &&& (255 : Int32)) k2 (10 : Int32) ([]) cs fm h0 n0 Z0 hF V_d (by decide) (by decide) (by decide) (by decide) gn_a3) (W := 0) (by decide) (by decide) (ce := 0) (sl := 0) rfl rfl (by decide) (by decide) rfl e1 rfl pd_13 rfl (Nat.le_refl _) rfl (fun rv2 T2 L2 X2 Q2 => ?_)
  obtain ⟨q2, Nq2, Kq2, P2_0⟩ := Q2
  have N2 := Fr.app N1 Nq2
  have FX_2 := FX_keep hF Kq2 ((allS (by obtain ⟨c_, A_, _⟩ := V_d; exact ⟨c_, A_.1, A_.plain⟩) all0))
  have V_s_2 := V_s.keep Kq2 (ninS ne13 nin0)
  have Z2 := Nat.le_trans Z0 Kq2.1
  have K2 := K0.trans Kq2 (allS (Or.inl (List.mem_of_getElem? (i := 0) rfl)) all0)
  subst q2
  show Go p.tables e below _ (T2.setTop (mkF m 35 #[.val (.ref a1), .val (.int ((0 : Int32) + (1 : Int32))), .val (.ref a3), .val (.int ((0 : Int32) + (1 : Int32))), .val (.int (1 : Int32)), .val (.int (0 : Int32))] []))
  refine g_iinc (pc' := 38) (Ls' := #[.val (.ref a1), .val (.int ((0 : Int32) + (1 : Int32))), .val (.ref a3), .val (.int ((0 : Int32) + (1 : Int32))), .val (.int (1 : Int32)), .val (.int ((0 : Int32) + (1 : Int32)))]) C X2 d45_35 rfl rfl rfl ?_
  refine g_goto (pc' := 10) C X2 d45_38 (by decide) (by decide) ?_
  refine g_iload (pc' := 12) C X2 d45_10 rfl rfl ?_
  refine g_iload (pc' := 14) C X2 d45_12 rfl rfl ?_
  refine g_icmpY (pc' := 41) C X2 d45_14 (flt (show ¬ (((0 : Int32) + (1 : Int32)) < (1 : Int32)) from (by decide))).2.1 (by decide) (by decide) ?_
  exact g_retV C X2 d45_41 (by decide) (by decide) ⟨rfl, N2, K2, P2_0⟩
theorem ef_li1 (m : MethodId) (a1 : Addr) (a3 : Addr) : entryFrame m #[(.ref a1), (.int (0 : Int32)), (.ref a3), (.int (0 : Int32)), (.int (1 : Int32))] 5 = mkF m 0 #[.val (.ref a1), .val (.int (0 : Int32)), .val (.ref a3), .val (.int (0 : Int32)), .val (.int (1 : Int32))] [] := by first | (simp [entryFrame, mkF, argsToLocals, Value.category]; done) | rfl
def Q_li1 (Z : State) (a1 : Addr) (a3 : Addr) (k1 : ClassId) (lx : List Int32) (k2 : ClassId) (cs : Int32) (fm : Value) (h0 : Heap) (n0 : Nat) (vr : Option Value) (h : Heap) (L : List Loc) : Prop := (vr = none) ∧ (Fr n0 L) ∧ (Keep h0 h [a3]) ∧ (Arv Z h a3 k2 .byte (10 : Int32) (own_vl (own_put [] (0 : Int32) ((own_g lx (0 : Int32)) &&& (255 : Int32)))) (.int (0 : Int32)))
set_option maxRecDepth 65536 in
set_option maxHeartbeats 40000000 in
theorem rmli1 (l : Launch) (Z : State) (a0 : Array Value) (hw : ∀ d ∈ tables_1, d.before a0 Z = true) (ws : List Jvm.Cond) (a1 : Addr) (a3 : Addr) (k1 : ClassId) (lx : List Int32) (k2 : ClassId) (cs : Int32) (fm : Value) (h0 : Heap) (n0 : Nat) (Z0 : n0 ≤ h0.size) (hF : FX Z h0 cs fm) (V_s : Arv Z h0 a1 k1 .byte (5 : Int32) (own_vl lx) (.int (0 : Int32))) (V_d : Arv Z h0 a3 k2 .byte (10 : Int32) (own_vl []) (.int (0 : Int32))) (gn_a3 : n0 ≤ a3) (ne13 : ¬ (a1 = a3)) :
    MetFree l (⟨"java/lang/StringLatin1", "inflate", "([BI[BII)V"⟩ : MethodName) (head1 (Jvm.Cond.code (⟨"java/lang/StringLatin1", "inflate", "([BI[BII)V"⟩ : MethodName) jdk_43_method_50_code 5 none :: ws) ({ frames := 4, cells := 0, slots := 0, locals := 60 } : Room)) (fun a U => a = #[(.ref a1), (.int (0 : Int32)), (.ref a3), (.int (0 : Int32)), (.int (1 : Int32))] ∧ Z.Warmed39 U.vm ∧ U.heap = h0) (fun _ _ _ _ _ => True) (fun _ U o U' => ∃ v L, o = .returned v ∧ Q_li1 Z a1 a3 k1 lx k2 cs fm h0 n0 v U'.heap L ∧ FrameEnd U o U' L ({ frames := 4, cells := 0, slots := 0, locals := 60 } : Room).cells ({ frames := 4, cells := 0, slots := 0, locals := 60 } : Room).slots) := by
  refine met_of (Ls := #[.val (.ref a1), .val (.int (0 : Int32)), .val (.ref a3), .val (.int (0 : Int32)), .val (.int (1 : Int32))]) (plainFor_of_name (by first | (simp [plainName, overriddenIn]; done) | decide +kernel)) (fun m => ef_li1 m a1 a3) ?_
  intro p e s m below meth c T0 C X0 e0
  obtain ⟨S_cs, hcs, S_fm, hfm, S_ad, S_hi, S_lo⟩ := id hF
  have N0 := Fr.nil n0
  have K0 : Keep h0 h0 [a3] := Keep.refl h0 _
  refine g_aloadN (pc' := 1) C X0 d44_0 rfl rfl rfl ?_
  refine g_iloadN (pc' := 2) C X0 d44_1 rfl rfl ?_
  refine g_aloadN (pc' := 3) C X0 d44_2 rfl rfl rfl ?_
  refine g_iloadN (pc' := 4) C X0 d44_3 rfl rfl ?_
  refine g_iload (pc' := 6) C X0 d44_4 rfl rfl ?_
  refine g_callS (y := (⟨"java/lang/StringUTF16", "inflate", "([BI[BII)V"⟩ : MethodName)) (argsL := [(.ref a1), (.int (0 : Int32)), (.ref a3), (.int (0 : Int32)), (.int (1 : Int32))]) (st := []) (pc' := 9) C X0 d44_6 (wq hw 212 rfl) (wq hw 213 rfl) (wq hw 23 rfl) (wq hw 214 rfl) (by decide) (rmui1 l Z a0 hw [] a1 a3 k1 lx k2 cs fm h0 n0 Z0 hF V_s V_d gn_a3 ne13) (W := 0) (by decide) (by decide) (ce := 0) (sl := 0) rfl rfl (by decide) (by decide) rfl e0 rfl pd_12 rfl (Nat.le_refl _) rfl (fun rv1 T1 L1 X1 Q1 => ?_)
  obtain ⟨q1, Nq1, Kq1, P1_0⟩ := Q1
  have N1 := Fr.app N0 Nq1
  have FX_1 := FX_keep hF Kq1 ((allS (by obtain ⟨c_, A_, _⟩ := V_d; exact ⟨c_, A_.1, A_.plain⟩) all0))
  have V_s_1 := V_s.keep Kq1 (ninS ne13 nin0)
  have Z1 := Nat.le_trans Z0 Kq1.1
  have K1 := K0.trans Kq1 (allS (Or.inl (List.mem_of_getElem? (i := 0) rfl)) all0)
  subst q1
  show Go p.tables e below _ (T1.setTop (mkF m 9 #[.val (.ref a1), .val (.int (0 : Int32)), .val (.ref a3), .val (.int (0 : Int32)), .val (.int (1 : Int32))] []))
  exact g_retV C X1 d44_9 (by decide) (by decide) ⟨rfl, N1, K1, P1_0⟩
theorem ef_ui2 (m : MethodId) (a1 : Addr) (a3 : Addr) : entryFrame m #[(.ref a1), (.int (0 : Int32)), (.ref a3), (.int (0 : Int32)), (.int (2 : Int32))] 6 = mkF m 0 #[.val (.ref a1), .val (.int (0 : Int32)), .val (.ref a3), .val (.int (0 : Int32)), .val (.int (2 : Int32)), .unset] [] := by first | (simp [entryFrame, mkF, argsToLocals, Value.category]; done) | rfl
def Q_ui2 (Z : State) (a1 : Addr) (a3 : Addr) (k1 : ClassId) (lx : List Int32) (k2 : ClassId) (cs : Int32) (fm : Value) (h0 : Heap) (n0 : Nat) (vr : Option Value) (h : Heap) (L : List Loc) : Prop := (vr = none) ∧ (Fr n0 L) ∧ (Keep h0 h [a3]) ∧ (Arv Z h a3 k2 .byte (10 : Int32) (own_vl (own_put (own_put [] (0 : Int32) ((own_g lx (0 : Int32)) &&& (255 : Int32))) (1 : Int32) ((own_g lx (1 : Int32)) &&& (255 : Int32)))) (.int (0 : Int32)))
set_option maxRecDepth 65536 in
set_option maxHeartbeats 40000000 in
theorem rmui2 (l : Launch) (Z : State) (a0 : Array Value) (hw : ∀ d ∈ tables_1, d.before a0 Z = true) (ws : List Jvm.Cond) (a1 : Addr) (a3 : Addr) (k1 : ClassId) (lx : List Int32) (k2 : ClassId) (cs : Int32) (fm : Value) (h0 : Heap) (n0 : Nat) (Z0 : n0 ≤ h0.size) (hF : FX Z h0 cs fm) (V_s : Arv Z h0 a1 k1 .byte (5 : Int32) (own_vl lx) (.int (0 : Int32))) (V_d : Arv Z h0 a3 k2 .byte (10 : Int32) (own_vl []) (.int (0 : Int32))) (gn_a3 : n0 ≤ a3) (ne13 : ¬ (a1 = a3)) :
    MetFree l (⟨"java/lang/StringUTF16", "inflate", "([BI[BII)V"⟩ : MethodName) (head1 (Jvm.Cond.code (⟨"java/lang/StringUTF16", "inflate", "([BI[BII)V"⟩ : MethodName) jdk_52_method_86_code 6 none :: ws) ({ frames := 3, cells := 0, slots := 0, locals := 43 } : Room)) (fun a U => a = #[(.ref a1), (.int (0 : Int32)), (.ref a3), (.int (0 : Int32)), (.int (2 : Int32))] ∧ Z.Warmed39 U.vm ∧ U.heap = h0) (fun _ _ _ _ _ => True) (fun _ U o U' => ∃ v L, o = .returned v ∧ Q_ui2 Z a1 a3 k1 lx k2 cs fm h0 n0 v U'.heap L ∧ FrameEnd U o U' L ({ frames := 3, cells := 0, slots := 0, locals := 43 } : Room).cells ({ frames := 3, cells := 0, slots := 0, locals := 43 } : Room).slots) := by
  refine met_of (Ls := #[.val (.ref a1), .val (.int (0 : Int32)), .val (.ref a3), .val (.int (0 : Int32)), .val (.int (2 : Int32)), .unset]) (plainFor_of_name (by first | (simp [plainName, overriddenIn]; done) | decide +kernel)) (fun m => ef_ui2 m a1 a3) ?_
  intro p e s m below meth c T0 C X0 e0
  obtain ⟨S_cs, hcs, S_fm, hfm, S_ad, S_hi, S_lo⟩ := id hF
  have N0 := Fr.nil n0
  have K0 : Keep h0 h0 [a3] := Keep.refl h0 _
  refine g_iloadN (pc' := 1) C X0 d45_0 rfl rfl ?_
  refine g_iload (pc' := 3) C X0 d45_1 rfl rfl ?_
  refine g_aloadN (pc' := 4) C X0 d45_3 rfl rfl rfl ?_
  refine g_callS (y := (⟨"java/lang/StringUTF16", "checkBoundsOffCount", "(II[B)V"⟩ : MethodName)) (argsL := [(.int (0 : Int32)), (.int (2 : Int32)), (.ref a3)]) (st := []) (pc' := 7) C X0 d45_4 (wq hw 215 rfl) (wq hw 216 rfl) (wq hw 23 rfl) (wq hw 217 rfl) (by decide) (rmubo2 l Z a0 hw [] a3 k2 ([]) cs fm h0 n0 hF V_d) (W := 0) (by decide) (by decide) (ce := 0) (sl := 0) rfl rfl (by decide) (by decide) rfl e0 rfl pd_11 rfl (Nat.le_refl _) rfl (fun rv1 T1 L1 X1 Q1 => ?_)
  obtain ⟨q1, Nq1, e1⟩ := Q1
  have N1 := Fr.app N0 Nq1
  subst q1
  show Go p.tables e below _ (T1.setTop (mkF m 7 #[.val (.ref a1), .val (.int (0 : Int32)), .val (.ref a3), .val (.int (0 : Int32)), .val (.int (2 : Int32)), .unset] []))
  refine g_iconst (pc' := 8) (v := (0 : Int32)) C X1 d45_7 rfl rfl ?_
  refine g_istore (pc' := 10) (Ls' := #[.val (.ref a1), .val (.int (0 : Int32)), .val (.ref a3), .val (.int (0 : Int32)), .val (.int (2 : Int32)), .val (.int (0 : Int32))]) C X1 d45_8 rfl rfl ?_
  refine g_iload (pc' := 12) C X1 d45_10 rfl rfl ?_
  refine g_iload (pc' := 14) C X1 d45_12 rfl rfl ?_
  refine g_icmpN (pc' := 17) C X1 d45_14 (tlt (show (0 : Int32) < (2 : Int32) from (by decide))).2.1 rfl ?_
  refine g_aloadN (pc' := 18) C X1 d45_17 rfl rfl rfl ?_
  refine g_iloadN (pc' := 19) C X1 d45_18 rfl rfl ?_
  refine g_iinc (pc' := 22) (Ls' := #[.val (.ref a1), .val (.int (0 : Int32)), .val (.ref a3), .val (.int ((0 : Int32) + (1 : Int32))), .val (.int (2 : Int32)), .val (.int (0 : Int32))]) C X1 d45_19 rfl rfl rfl ?_
  refine g_aloadN (pc' := 23) C X1 d45_22 rfl rfl rfl ?_
  refine g_iloadN (pc' := 24) C X1 d45_23 rfl rfl ?_
  refine g_iinc (pc' := 27) (Ls' := #[.val (.ref a1), .val (.int ((0 : Int32) + (1 : Int32))), .val (.ref a3), .val (.int ((0 : Int32) + (1 : Int32))), .val (.int (2 : Int32)), .val (.int (0 : Int32))]) C X1 d45_24 rfl rfl rfl ?_
  refine g_ldB (pc' := 28) (v := (.int (own_g lx (0 : Int32)))) C X1 d45_27 e1 V_s ⟨by decide, by decide⟩ (own_vl_get _ _) rfl ?_
  refine g_sipush (pc' := 31) (v := (255 : Int32)) C X1 d45_28 rfl rfl ?_
  refine g_iand (pc' := 32) C X1 d45_31 rfl ?_
  refine g_callS (y := (⟨"java/lang/StringUTF16", "putChar", "([BII)V"⟩ : MethodName)) (argsL := [(.ref a3), (.int (0 : Int32)), (.int ((own_g lx (0 : Int32)) &&& (255 : Int32)))]) (st := []) (pc' := 35) C X1 d45_32 (wq hw 184 rfl) (wq hw 185 rfl) (wq hw 23 rfl) (wq hw 186 rfl) (by decide) (rmupc l Z a0 hw [] a3 (0 : Int32) ((own_g lx (0 : Int32)) &&& (255 : Int32)) k2 (10 : Int32) ([]) cs fm h0 n0 Z0 hF V_d (by decide) (by decide) (by decide) (by decide) gn_a3) (W := 0) (by decide) (by decide) (ce := 0) (sl := 0) rfl rfl (by decide) (by decide) rfl e1 rfl pd_13 rfl (Nat.le_refl _) rfl (fun rv2 T2 L2 X2 Q2 => ?_)
  obtain ⟨q2, Nq2, Kq2, P2_0⟩ := Q2
  have N2 := Fr.app N1 Nq2
  have FX_2 := FX_keep hF Kq2 ((allS (by obtain ⟨c_, A_, _⟩ := V_d; exact ⟨c_, A_.1, A_.plain⟩) all0))
  have V_s_2 := V_s.keep Kq2 (ninS ne13 nin0)
  have Z2 := Nat.le_trans Z0 Kq2.1
  have K2 := K0.trans Kq2 (allS (Or.inl (List.mem_of_getElem? (i := 0) rfl)) all0)
  subst q2
  show Go p.tables e below _ (T2.setTop (mkF m 35 #[.val (.ref a1), .val (.int ((0 : Int32) + (1 : Int32))), .val (.ref a3), .val (.int ((0 : Int32) + (1 : Int32))), .val (.int (2 : Int32)), .val (.int (0 : Int32))] []))
  refine g_iinc (pc' := 38) (Ls' := #[.val (.ref a1), .val (.int ((0 : Int32) + (1 : Int32))), .val (.ref a3), .val (.int ((0 : Int32) + (1 : Int32))), .val (.int (2 : Int32)), .val (.int ((0 : Int32) + (1 : Int32)))]) C X2 d45_35 rfl rfl rfl ?_
  refine g_goto (pc' := 10) C X2 d45_38 (by decide) (by decide) ?_
  refine g_iload (pc' := 12) C X2 d45_10 rfl rfl ?_
  refine g_iload (pc' := 14) C X2 d45_12 rfl rfl ?_
  refine g_icmpN (pc' := 17) C X2 d45_14 (tlt (show ((0 : Int32) + (1 : Int32)) < (2 : Int32) from (by decide))).2.1 rfl ?_
  refine g_aloadN (pc' := 18) C X2 d45_17 rfl rfl rfl ?_
  refine g_iloadN (pc' := 19) C X2 d45_18 rfl rfl ?_
  refine g_iinc (pc' := 22) (Ls' := #[.val (.ref a1), .val (.int ((0 : Int32) + (1 : Int32))), .val (.ref a3), .val (.int (((0 : Int32) + (1 : Int32)) + (1 : Int32))), .val (.int (2 : Int32)), .val (.int ((0 : Int32) + (1 : Int32)))]) C X2 d45_19 rfl rfl rfl ?_
  refine g_aloadN (pc' := 23) C X2 d45_22 rfl rfl rfl ?_
  refine g_iloadN (pc' := 24) C X2 d45_23 rfl rfl ?_
  refine g_iinc (pc' := 27) (Ls' := #[.val (.ref a1), .val (.int (((0 : Int32) + (1 : Int32)) + (1 : Int32))), .val (.ref a3), .val (.int (((0 : Int32) + (1 : Int32)) + (1 : Int32))), .val (.int (2 : Int32)), .val (.int ((0 : Int32) + (1 : Int32)))]) C X2 d45_24 rfl rfl rfl ?_
  refine g_ldB (pc' := 28) (v := (.int (own_g lx ((0 : Int32) + (1 : Int32))))) C X2 d45_27 rfl V_s_2 ⟨by decide, by decide⟩ (own_vl_get _ _) rfl ?_
  refine g_sipush (pc' := 31) (v := (255 : Int32)) C X2 d45_28 rfl rfl ?_
  refine g_iand (pc' := 32) C X2 d45_31 rfl ?_
  refine g_callS (y := (⟨"java/lang/StringUTF16", "putChar", "([BII)V"⟩ : MethodName)) (argsL := [(.ref a3), (.int ((0 : Int32) + (1 : Int32))), (.int ((own_g lx ((0 : Int32) + (1 : Int32))) &&& (255 : Int32)))]) (st := []) (pc' := 35) C X2 d45_32 (wq hw 184 rfl) (wq hw 185 rfl) (wq hw 23 rfl) (wq hw 186 rfl) (by decide) (rmupc l Z a0 hw [] a3 ((0 : Int32) + (1 : Int32)) ((own_g lx ((0 : Int32) + (1 : Int32))) &&& (255 : Int32)) k2 (10 : Int32) (own_put [] (0 : Int32) ((own_g lx (0 : Int32)) &&& (255 : Int32))) cs fm T2.heap n0 Z2 FX_2 P2_0 (by decide) (by decide) (by decide) (by decide) gn_a3) (W := 0) (by decide) (by decide) (ce := 0) (sl := 0) rfl rfl (by decide) (by decide) rfl rfl rfl pd_13 rfl (Nat.le_refl _) rfl (fun rv3 T3 L3 X3 Q3 => ?_)
  obtain ⟨q3, Nq3, Kq3, P3_0⟩ := Q3
  have N3 := Fr.app N2 Nq3
  have FX_3 := FX_keep FX_2 Kq3 ((allS (by obtain ⟨c_, A_, _⟩ := P2_0; exact ⟨c_, A_.1, A_.plain⟩) all0))
  have V_s_3 := V_s_2.keep Kq3 (ninS ne13 nin0)
  have Z3 := Nat.le_trans Z2 Kq3.1
  have K3 := K2.trans Kq3 (allS (Or.inl (List.mem_of_getElem? (i := 0) rfl)) all0)
  subst q3
  show Go p.tables e below _ (T3.setTop (mkF m 35 #[.val (.ref a1), .val (.int (((0 : Int32) + (1 : Int32)) + (1 : Int32))), .val (.ref a3), .val (.int (((0 : Int32) + (1 : Int32)) + (1 : Int32))), .val (.int (2 : Int32)), .val (.int ((0 : Int32) + (1 : Int32)))] []))
  refine g_iinc (pc' := 38) (Ls' := #[.val (.ref a1), .val (.int (((0 : Int32) + (1 : Int32)) + (1 : Int32))), .val (.ref a3), .val (.int (((0 : Int32) + (1 : Int32)) + (1 : Int32))), .val (.int (2 : Int32)), .val (.int (((0 : Int32) + (1 : Int32)) + (1 : Int32)))]) C X3 d45_35 rfl rfl rfl ?_
  refine g_goto (pc' := 10) C X3 d45_38 (by decide) (by decide) ?_
  refine g_iload (pc' := 12) C X3 d45_10 rfl rfl ?_
  refine g_iload (pc' := 14) C X3 d45_12 rfl rfl ?_
  refine g_icmpY (pc' := 41) C X3 d45_14 (flt (show ¬ ((((0 : Int32) + (1 : Int32)) + (1 : Int32)) < (2 : Int32)) from (by decide))).2.1 (by decide) (by decide) ?_
  exact g_retV C X3 d45_41 (by decide) (by decide) ⟨rfl, N3, K3, P3_0⟩
theorem ef_li2 (m : MethodId) (a1 : Addr) (a3 : Addr) : entryFrame m #[(.ref a1), (.int (0 : Int32)), (.ref a3), (.int (0 : Int32)), (.int (2 : Int32))] 5 = mkF m 0 #[.val (.ref a1), .val (.int (0 : Int32)), .val (.ref a3), .val (.int (0 : Int32)), .val (.int (2 : Int32))] [] := by first | (simp [entryFrame, mkF, argsToLocals, Value.category]; done) | rfl
def Q_li2 (Z : State) (a1 : Addr) (a3 : Addr) (k1 : ClassId) (lx : List Int32) (k2 : ClassId) (cs : Int32) (fm : Value) (h0 : Heap) (n0 : Nat) (vr : Option Value) (h : Heap) (L : List Loc) : Prop := (vr = none) ∧ (Fr n0 L) ∧ (Keep h0 h [a3]) ∧ (Arv Z h a3 k2 .byte (10 : Int32) (own_vl (own_put (own_put [] (0 : Int32) ((own_g lx (0 : Int32)) &&& (255 : Int32))) (1 : Int32) ((own_g lx (1 : Int32)) &&& (255 : Int32)))) (.int (0 : Int32)))
set_option maxRecDepth 65536 in
set_option maxHeartbeats 40000000 in
theorem rmli2 (l : Launch) (Z : State) (a0 : Array Value) (hw : ∀ d ∈ tables_1, d.before a0 Z = true) (ws : List Jvm.Cond) (a1 : Addr) (a3 : Addr) (k1 : ClassId) (lx : List Int32) (k2 : ClassId) (cs : Int32) (fm : Value) (h0 : Heap) (n0 : Nat) (Z0 : n0 ≤ h0.size) (hF : FX Z h0 cs fm) (V_s : Arv Z h0 a1 k1 .byte (5 : Int32) (own_vl lx) (.int (0 : Int32))) (V_d : Arv Z h0 a3 k2 .byte (10 : Int32) (own_vl []) (.int (0 : Int32))) (gn_a3 : n0 ≤ a3) (ne13 : ¬ (a1 = a3)) :
    MetFree l (⟨"java/lang/StringLatin1", "inflate", "([BI[BII)V"⟩ : MethodName) (head1 (Jvm.Cond.code (⟨"java/lang/StringLatin1", "inflate", "([BI[BII)V"⟩ : MethodName) jdk_43_method_50_code 5 none :: ws) ({ frames := 4, cells := 0, slots := 0, locals := 60 } : Room)) (fun a U => a = #[(.ref a1), (.int (0 : Int32)), (.ref a3), (.int (0 : Int32)), (.int (2 : Int32))] ∧ Z.Warmed39 U.vm ∧ U.heap = h0) (fun _ _ _ _ _ => True) (fun _ U o U' => ∃ v L, o = .returned v ∧ Q_li2 Z a1 a3 k1 lx k2 cs fm h0 n0 v U'.heap L ∧ FrameEnd U o U' L ({ frames := 4, cells := 0, slots := 0, locals := 60 } : Room).cells ({ frames := 4, cells := 0, slots := 0, locals := 60 } : Room).slots) := by
  refine met_of (Ls := #[.val (.ref a1), .val (.int (0 : Int32)), .val (.ref a3), .val (.int (0 : Int32)), .val (.int (2 : Int32))]) (plainFor_of_name (by first | (simp [plainName, overriddenIn]; done) | decide +kernel)) (fun m => ef_li2 m a1 a3) ?_
  intro p e s m below meth c T0 C X0 e0
  obtain ⟨S_cs, hcs, S_fm, hfm, S_ad, S_hi, S_lo⟩ := id hF
  have N0 := Fr.nil n0
  have K0 : Keep h0 h0 [a3] := Keep.refl h0 _
  refine g_aloadN (pc' := 1) C X0 d44_0 rfl rfl rfl ?_
  refine g_iloadN (pc' := 2) C X0 d44_1 rfl rfl ?_
  refine g_aloadN (pc' := 3) C X0 d44_2 rfl rfl rfl ?_
  refine g_iloadN (pc' := 4) C X0 d44_3 rfl rfl ?_
  refine g_iload (pc' := 6) C X0 d44_4 rfl rfl ?_
  refine g_callS (y := (⟨"java/lang/StringUTF16", "inflate", "([BI[BII)V"⟩ : MethodName)) (argsL := [(.ref a1), (.int (0 : Int32)), (.ref a3), (.int (0 : Int32)), (.int (2 : Int32))]) (st := []) (pc' := 9) C X0 d44_6 (wq hw 212 rfl) (wq hw 213 rfl) (wq hw 23 rfl) (wq hw 214 rfl) (by decide) (rmui2 l Z a0 hw [] a1 a3 k1 lx k2 cs fm h0 n0 Z0 hF V_s V_d gn_a3 ne13) (W := 0) (by decide) (by decide) (ce := 0) (sl := 0) rfl rfl (by decide) (by decide) rfl e0 rfl pd_12 rfl (Nat.le_refl _) rfl (fun rv1 T1 L1 X1 Q1 => ?_)
  obtain ⟨q1, Nq1, Kq1, P1_0⟩ := Q1
  have N1 := Fr.app N0 Nq1
  have FX_1 := FX_keep hF Kq1 ((allS (by obtain ⟨c_, A_, _⟩ := V_d; exact ⟨c_, A_.1, A_.plain⟩) all0))
  have V_s_1 := V_s.keep Kq1 (ninS ne13 nin0)
  have Z1 := Nat.le_trans Z0 Kq1.1
  have K1 := K0.trans Kq1 (allS (Or.inl (List.mem_of_getElem? (i := 0) rfl)) all0)
  subst q1
  show Go p.tables e below _ (T1.setTop (mkF m 9 #[.val (.ref a1), .val (.int (0 : Int32)), .val (.ref a3), .val (.int (0 : Int32)), .val (.int (2 : Int32))] []))
  exact g_retV C X1 d44_9 (by decide) (by decide) ⟨rfl, N1, K1, P1_0⟩
theorem ef_ui3 (m : MethodId) (a1 : Addr) (a3 : Addr) : entryFrame m #[(.ref a1), (.int (0 : Int32)), (.ref a3), (.int (0 : Int32)), (.int (3 : Int32))] 6 = mkF m 0 #[.val (.ref a1), .val (.int (0 : Int32)), .val (.ref a3), .val (.int (0 : Int32)), .val (.int (3 : Int32)), .unset] [] := by first | (simp [entryFrame, mkF, argsToLocals, Value.category]; done) | rfl
def Q_ui3 (Z : State) (a1 : Addr) (a3 : Addr) (k1 : ClassId) (lx : List Int32) (k2 : ClassId) (cs : Int32) (fm : Value) (h0 : Heap) (n0 : Nat) (vr : Option Value) (h : Heap) (L : List Loc) : Prop := (vr = none) ∧ (Fr n0 L) ∧ (Keep h0 h [a3]) ∧ (Arv Z h a3 k2 .byte (10 : Int32) (own_vl (own_put (own_put (own_put [] (0 : Int32) ((own_g lx (0 : Int32)) &&& (255 : Int32))) (1 : Int32) ((own_g lx (1 : Int32)) &&& (255 : Int32))) (2 : Int32) ((own_g lx (2 : Int32)) &&& (255 : Int32)))) (.int (0 : Int32)))
set_option maxRecDepth 65536 in
set_option maxHeartbeats 40000000 in
theorem rmui3 (l : Launch) (Z : State) (a0 : Array Value) (hw : ∀ d ∈ tables_1, d.before a0 Z = true) (ws : List Jvm.Cond) (a1 : Addr) (a3 : Addr) (k1 : ClassId) (lx : List Int32) (k2 : ClassId) (cs : Int32) (fm : Value) (h0 : Heap) (n0 : Nat) (Z0 : n0 ≤ h0.size) (hF : FX Z h0 cs fm) (V_s : Arv Z h0 a1 k1 .byte (5 : Int32) (own_vl lx) (.int (0 : Int32))) (V_d : Arv Z h0 a3 k2 .byte (10 : Int32) (own_vl []) (.int (0 : Int32))) (gn_a3 : n0 ≤ a3) (ne13 : ¬ (a1 = a3)) :
    MetFree l (⟨"java/lang/StringUTF16", "inflate", "([BI[BII)V"⟩ : MethodName) (head1 (Jvm.Cond.code (⟨"java/lang/StringUTF16", "inflate", "([BI[BII)V"⟩ : MethodName) jdk_52_method_86_code 6 none :: ws) ({ frames := 3, cells := 0, slots := 0, locals := 43 } : Room)) (fun a U => a = #[(.ref a1), (.int (0 : Int32)), (.ref a3), (.int (0 : Int32)), (.int (3 : Int32))] ∧ Z.Warmed39 U.vm ∧ U.heap = h0) (fun _ _ _ _ _ => True) (fun _ U o U' => ∃ v L, o = .returned v ∧ Q_ui3 Z a1 a3 k1 lx k2 cs fm h0 n0 v U'.heap L ∧ FrameEnd U o U' L ({ frames := 3, cells := 0, slots := 0, locals := 43 } : Room).cells ({ frames := 3, cells := 0, slots := 0, locals := 43 } : Room).slots) := by
  refine met_of (Ls := #[.val (.ref a1), .val (.int (0 : Int32)), .val (.ref a3), .val (.int (0 : Int32)), .val (.int (3 : Int32)), .unset]) (plainFor_of_name (by first | (simp [plainName, overriddenIn]; done) | decide +kernel)) (fun m => ef_ui3 m a1 a3) ?_
  intro p e s m below meth c T0 C X0 e0
  obtain ⟨S_cs, hcs, S_fm, hfm, S_ad, S_hi, S_lo⟩ := id hF
  have N0 := Fr.nil n0
  have K0 : Keep h0 h0 [a3] := Keep.refl h0 _
  refine g_iloadN (pc' := 1) C X0 d45_0 rfl rfl ?_
  refine g_iload (pc' := 3) C X0 d45_1 rfl rfl ?_
  refine g_aloadN (pc' := 4) C X0 d45_3 rfl rfl rfl ?_
  refine g_callS (y := (⟨"java/lang/StringUTF16", "checkBoundsOffCount", "(II[B)V"⟩ : MethodName)) (argsL := [(.int (0 : Int32)), (.int (3 : Int32)), (.ref a3)]) (st := []) (pc' := 7) C X0 d45_4 (wq hw 215 rfl) (wq hw 216 rfl) (wq hw 23 rfl) (wq hw 217 rfl) (by decide) (rmubo3 l Z a0 hw [] a3 k2 ([]) cs fm h0 n0 hF V_d) (W := 0) (by decide) (by decide) (ce := 0) (sl := 0) rfl rfl (by decide) (by decide) rfl e0 rfl pd_11 rfl (Nat.le_refl _) rfl (fun rv1 T1 L1 X1 Q1 => ?_)
  obtain ⟨q1, Nq1, e1⟩ := Q1
  have N1 := Fr.app N0 Nq1
  subst q1
  show Go p.tables e below _ (T1.setTop (mkF m 7 #[.val (.ref a1), .val (.int (0 : Int32)), .val (.ref a3), .val (.int (0 : Int32)), .val (.int (3 : Int32)), .unset] []))
  refine g_iconst (pc' := 8) (v := (0 : Int32)) C X1 d45_7 rfl rfl ?_
  refine g_istore (pc' := 10) (Ls' := #[.val (.ref a1), .val (.int (0 : Int32)), .val (.ref a3), .val (.int (0 : Int32)), .val (.int (3 : Int32)), .val (.int (0 : Int32))]) C X1 d45_8 rfl rfl ?_
  refine g_iload (pc' := 12) C X1 d45_10 rfl rfl ?_
  refine g_iload (pc' := 14) C X1 d45_12 rfl rfl ?_
  refine g_icmpN (pc' := 17) C X1 d45_14 (tlt (show (0 : Int32) < (3 : Int32) from (by decide))).2.1 rfl ?_
  refine g_aloadN (pc' := 18) C X1 d45_17 rfl rfl rfl ?_
  refine g_iloadN (pc' := 19) C X1 d45_18 rfl rfl ?_
  refine g_iinc (pc' := 22) (Ls' := #[.val (.ref a1), .val (.int (0 : Int32)), .val (.ref a3), .val (.int ((0 : Int32) + (1 : Int32))), .val (.int (3 : Int32)), .val (.int (0 : Int32))]) C X1 d45_19 rfl rfl rfl ?_
  refine g_aloadN (pc' := 23) C X1 d45_22 rfl rfl rfl ?_
  refine g_iloadN (pc' := 24) C X1 d45_23 rfl rfl ?_
  refine g_iinc (pc' := 27) (Ls' := #[.val (.ref a1), .val (.int ((0 : Int32) + (1 : Int32))), .val (.ref a3), .val (.int ((0 : Int32) + (1 : Int32))), .val (.int (3 : Int32)), .val (.int (0 : Int32))]) C X1 d45_24 rfl rfl rfl ?_
  refine g_ldB (pc' := 28) (v := (.int (own_g lx (0 : Int32)))) C X1 d45_27 e1 V_s ⟨by decide, by decide⟩ (own_vl_get _ _) rfl ?_
  refine g_sipush (pc' := 31) (v := (255 : Int32)) C X1 d45_28 rfl rfl ?_
  refine g_iand (pc' := 32) C X1 d45_31 rfl ?_
  refine g_callS (y := (⟨"java/lang/StringUTF16", "putChar", "([BII)V"⟩ : MethodName)) (argsL := [(.ref a3), (.int (0 : Int32)), (.int ((own_g lx (0 : Int32)) &&& (255 : Int32)))]) (st := []) (pc' := 35) C X1 d45_32 (wq hw 184 rfl) (wq hw 185 rfl) (wq hw 23 rfl) (wq hw 186 rfl) (by decide) (rmupc l Z a0 hw [] a3 (0 : Int32) ((own_g lx (0 : Int32)) &&& (255 : Int32)) k2 (10 : Int32) ([]) cs fm h0 n0 Z0 hF V_d (by decide) (by decide) (by decide) (by decide) gn_a3) (W := 0) (by decide) (by decide) (ce := 0) (sl := 0) rfl rfl (by decide) (by decide) rfl e1 rfl pd_13 rfl (Nat.le_refl _) rfl (fun rv2 T2 L2 X2 Q2 => ?_)
  obtain ⟨q2, Nq2, Kq2, P2_0⟩ := Q2
  have N2 := Fr.app N1 Nq2
  have FX_2 := FX_keep hF Kq2 ((allS (by obtain ⟨c_, A_, _⟩ := V_d; exact ⟨c_, A_.1, A_.plain⟩) all0))
  have V_s_2 := V_s.keep Kq2 (ninS ne13 nin0)
  have Z2 := Nat.le_trans Z0 Kq2.1
  have K2 := K0.trans Kq2 (allS (Or.inl (List.mem_of_getElem? (i := 0) rfl)) all0)
  subst q2
  show Go p.tables e below _ (T2.setTop (mkF m 35 #[.val (.ref a1), .val (.int ((0 : Int32) + (1 : Int32))), .val (.ref a3), .val (.int ((0 : Int32) + (1 : Int32))), .val (.int (3 : Int32)), .val (.int (0 : Int32))] []))
  refine g_iinc (pc' := 38) (Ls' := #[.val (.ref a1), .val (.int ((0 : Int32) + (1 : Int32))), .val (.ref a3), .val (.int ((0 : Int32) + (1 : Int32))), .val (.int (3 : Int32)), .val (.int ((0 : Int32) + (1 : Int32)))]) C X2 d45_35 rfl rfl rfl ?_
  refine g_goto (pc' := 10) C X2 d45_38 (by decide) (by decide) ?_
  refine g_iload (pc' := 12) C X2 d45_10 rfl rfl ?_
  refine g_iload (pc' := 14) C X2 d45_12 rfl rfl ?_
  refine g_icmpN (pc' := 17) C X2 d45_14 (tlt (show ((0 : Int32) + (1 : Int32)) < (3 : Int32) from (by decide))).2.1 rfl ?_
  refine g_aloadN (pc' := 18) C X2 d45_17 rfl rfl rfl ?_
  refine g_iloadN (pc' := 19) C X2 d45_18 rfl rfl ?_
  refine g_iinc (pc' := 22) (Ls' := #[.val (.ref a1), .val (.int ((0 : Int32) + (1 : Int32))), .val (.ref a3), .val (.int (((0 : Int32) + (1 : Int32)) + (1 : Int32))), .val (.int (3 : Int32)), .val (.int ((0 : Int32) + (1 : Int32)))]) C X2 d45_19 rfl rfl rfl ?_
  refine g_aloadN (pc' := 23) C X2 d45_22 rfl rfl rfl ?_
  refine g_iloadN (pc' := 24) C X2 d45_23 rfl rfl ?_
  refine g_iinc (pc' := 27) (Ls' := #[.val (.ref a1), .val (.int (((0 : Int32) + (1 : Int32)) + (1 : Int32))), .val (.ref a3), .val (.int (((0 : Int32) + (1 : Int32)) + (1 : Int32))), .val (.int (3 : Int32)), .val (.int ((0 : Int32) + (1 : Int32)))]) C X2 d45_24 rfl rfl rfl ?_
  refine g_ldB (pc' := 28) (v := (.int (own_g lx ((0 : Int32) + (1 : Int32))))) C X2 d45_27 rfl V_s_2 ⟨by decide, by decide⟩ (own_vl_get _ _) rfl ?_
  refine g_sipush (pc' := 31) (v := (255 : Int32)) C X2 d45_28 rfl rfl ?_
  refine g_iand (pc' := 32) C X2 d45_31 rfl ?_
  refine g_callS (y := (⟨"java/lang/StringUTF16", "putChar", "([BII)V"⟩ : MethodName)) (argsL := [(.ref a3), (.int ((0 : Int32) + (1 : Int32))), (.int ((own_g lx ((0 : Int32) + (1 : Int32))) &&& (255 : Int32)))]) (st := []) (pc' := 35) C X2 d45_32 (wq hw 184 rfl) (wq hw 185 rfl) (wq hw 23 rfl) (wq hw 186 rfl) (by decide) (rmupc l Z a0 hw [] a3 ((0 : Int32) + (1 : Int32)) ((own_g lx ((0 : Int32) + (1 : Int32))) &&& (255 : Int32)) k2 (10 : Int32) (own_put [] (0 : Int32) ((own_g lx (0 : Int32)) &&& (255 : Int32))) cs fm T2.heap n0 Z2 FX_2 P2_0 (by decide) (by decide) (by decide) (by decide) gn_a3) (W := 0) (by decide) (by decide) (ce := 0) (sl := 0) rfl rfl (by decide) (by decide) rfl rfl rfl pd_13 rfl (Nat.le_refl _) rfl (fun rv3 T3 L3 X3 Q3 => ?_)
  obtain ⟨q3, Nq3, Kq3, P3_0⟩ := Q3
  have N3 := Fr.app N2 Nq3
  have FX_3 := FX_keep FX_2 Kq3 ((allS (by obtain ⟨c_, A_, _⟩ := P2_0; exact ⟨c_, A_.1, A_.plain⟩) all0))
  have V_s_3 := V_s_2.keep Kq3 (ninS ne13 nin0)
  have Z3 := Nat.le_trans Z2 Kq3.1
  have K3 := K2.trans Kq3 (allS (Or.inl (List.mem_of_getElem? (i := 0) rfl)) all0)
  subst q3
  show Go p.tables e below _ (T3.setTop (mkF m 35 #[.val (.ref a1), .val (.int (((0 : Int32) + (1 : Int32)) + (1 : Int32))), .val (.ref a3), .val (.int (((0 : Int32) + (1 : Int32)) + (1 : Int32))), .val (.int (3 : Int32)), .val (.int ((0 : Int32) + (1 : Int32)))] []))
  refine g_iinc (pc' := 38) (Ls' := #[.val (.ref a1), .val (.int (((0 : Int32) + (1 : Int32)) + (1 : Int32))), .val (.ref a3), .val (.int (((0 : Int32) + (1 : Int32)) + (1 : Int32))), .val (.int (3 : Int32)), .val (.int (((0 : Int32) + (1 : Int32)) + (1 : Int32)))]) C X3 d45_35 rfl rfl rfl ?_
  refine g_goto (pc' := 10) C X3 d45_38 (by decide) (by decide) ?_
  refine g_iload (pc' := 12) C X3 d45_10 rfl rfl ?_
  refine g_iload (pc' := 14) C X3 d45_12 rfl rfl ?_
  refine g_icmpN (pc' := 17) C X3 d45_14 (tlt (show (((0 : Int32) + (1 : Int32)) + (1 : Int32)) < (3 : Int32) from (by decide))).2.1 rfl ?_
  refine g_aloadN (pc' := 18) C X3 d45_17 rfl rfl rfl ?_
  refine g_iloadN (pc' := 19) C X3 d45_18 rfl rfl ?_
  refine g_iinc (pc' := 22) (Ls' := #[.val (.ref a1), .val (.int (((0 : Int32) + (1 : Int32)) + (1 : Int32))), .val (.ref a3), .val (.int ((((0 : Int32) + (1 : Int32)) + (1 : Int32)) + (1 : Int32))), .val (.int (3 : Int32)), .val (.int (((0 : Int32) + (1 : Int32)) + (1 : Int32)))]) C X3 d45_19 rfl rfl rfl ?_
  refine g_aloadN (pc' := 23) C X3 d45_22 rfl rfl rfl ?_
  refine g_iloadN (pc' := 24) C X3 d45_23 rfl rfl ?_
  refine g_iinc (pc' := 27) (Ls' := #[.val (.ref a1), .val (.int ((((0 : Int32) + (1 : Int32)) + (1 : Int32)) + (1 : Int32))), .val (.ref a3), .val (.int ((((0 : Int32) + (1 : Int32)) + (1 : Int32)) + (1 : Int32))), .val (.int (3 : Int32)), .val (.int (((0 : Int32) + (1 : Int32)) + (1 : Int32)))]) C X3 d45_24 rfl rfl rfl ?_
  refine g_ldB (pc' := 28) (v := (.int (own_g lx (((0 : Int32) + (1 : Int32)) + (1 : Int32))))) C X3 d45_27 rfl V_s_3 ⟨by decide, by decide⟩ (own_vl_get _ _) rfl ?_
  refine g_sipush (pc' := 31) (v := (255 : Int32)) C X3 d45_28 rfl rfl ?_
  refine g_iand (pc' := 32) C X3 d45_31 rfl ?_
  refine g_callS (y := (⟨"java/lang/StringUTF16", "putChar", "([BII)V"⟩ : MethodName)) (argsL := [(.ref a3), (.int (((0 : Int32) + (1 : Int32)) + (1 : Int32))), (.int ((own_g lx (((0 : Int32) + (1 : Int32)) + (1 : Int32))) &&& (255 : Int32)))]) (st := []) (pc' := 35) C X3 d45_32 (wq hw 184 rfl) (wq hw 185 rfl) (wq hw 23 rfl) (wq hw 186 rfl) (by decide) (rmupc l Z a0 hw [] a3 (((0 : Int32) + (1 : Int32)) + (1 : Int32)) ((own_g lx (((0 : Int32) + (1 : Int32)) + (1 : Int32))) &&& (255 : Int32)) k2 (10 : Int32) (own_put (own_put [] (0 : Int32) ((own_g lx (0 : Int32)) &&& (255 : Int32))) ((0 : Int32) + (1 : Int32)) ((own_g lx ((0 : Int32) + (1 : Int32))) &&& (255 : Int32))) cs fm T3.heap n0 Z3 FX_3 P3_0 (by decide) (by decide) (by decide) (by decide) gn_a3) (W := 0) (by decide) (by decide) (ce := 0) (sl := 0) rfl rfl (by decide) (by decide) rfl rfl rfl pd_13 rfl (Nat.le_refl _) rfl (fun rv4 T4 L4 X4 Q4 => ?_)
  obtain ⟨q4, Nq4, Kq4, P4_0⟩ := Q4
  have N4 := Fr.app N3 Nq4
  have FX_4 := FX_keep FX_3 Kq4 ((allS (by obtain ⟨c_, A_, _⟩ := P3_0; exact ⟨c_, A_.1, A_.plain⟩) all0))
  have V_s_4 := V_s_3.keep Kq4 (ninS ne13 nin0)
  have Z4 := Nat.le_trans Z3 Kq4.1
  have K4 := K3.trans Kq4 (allS (Or.inl (List.mem_of_getElem? (i := 0) rfl)) all0)
  subst q4
  show Go p.tables e below _ (T4.setTop (mkF m 35 #[.val (.ref a1), .val (.int ((((0 : Int32) + (1 : Int32)) + (1 : Int32)) + (1 : Int32))), .val (.ref a3), .val (.int ((((0 : Int32) + (1 : Int32)) + (1 : Int32)) + (1 : Int32))), .val (.int (3 : Int32)), .val (.int (((0 : Int32) + (1 : Int32)) + (1 : Int32)))] []))
  refine g_iinc (pc' := 38) (Ls' := #[.val (.ref a1), .val (.int ((((0 : Int32) + (1 : Int32)) + (1 : Int32)) + (1 : Int32))), .val (.ref a3), .val (.int ((((0 : Int32) + (1 : Int32)) + (1 : Int32)) + (1 : Int32))), .val (.int (3 : Int32)), .val (.int ((((0 : Int32) + (1 : Int32)) + (1 : Int32)) + (1 : Int32)))]) C X4 d45_35 rfl rfl rfl ?_
  refine g_goto (pc' := 10) C X4 d45_38 (by decide) (by decide) ?_
  refine g_iload (pc' := 12) C X4 d45_10 rfl rfl ?_
  refine g_iload (pc' := 14) C X4 d45_12 rfl rfl ?_
  refine g_icmpY (pc' := 41) C X4 d45_14 (flt (show ¬ (((((0 : Int32) + (1 : Int32)) + (1 : Int32)) + (1 : Int32)) < (3 : Int32)) from (by decide))).2.1 (by decide) (by decide) ?_
  exact g_retV C X4 d45_41 (by decide) (by decide) ⟨rfl, N4, K4, P4_0⟩
theorem ef_li3 (m : MethodId) (a1 : Addr) (a3 : Addr) : entryFrame m #[(.ref a1), (.int (0 : Int32)), (.ref a3), (.int (0 : Int32)), (.int (3 : Int32))] 5 = mkF m 0 #[.val (.ref a1), .val (.int (0 : Int32)), .val (.ref a3), .val (.int (0 : Int32)), .val (.int (3 : Int32))] [] := by first | (simp [entryFrame, mkF, argsToLocals, Value.category]; done) | rfl
def Q_li3 (Z : State) (a1 : Addr) (a3 : Addr) (k1 : ClassId) (lx : List Int32) (k2 : ClassId) (cs : Int32) (fm : Value) (h0 : Heap) (n0 : Nat) (vr : Option Value) (h : Heap) (L : List Loc) : Prop := (vr = none) ∧ (Fr n0 L) ∧ (Keep h0 h [a3]) ∧ (Arv Z h a3 k2 .byte (10 : Int32) (own_vl (own_put (own_put (own_put [] (0 : Int32) ((own_g lx (0 : Int32)) &&& (255 : Int32))) (1 : Int32) ((own_g lx (1 : Int32)) &&& (255 : Int32))) (2 : Int32) ((own_g lx (2 : Int32)) &&& (255 : Int32)))) (.int (0 : Int32)))
set_option maxRecDepth 65536 in
set_option maxHeartbeats 40000000 in
theorem rmli3 (l : Launch) (Z : State) (a0 : Array Value) (hw : ∀ d ∈ tables_1, d.before a0 Z = true) (ws : List Jvm.Cond) (a1 : Addr) (a3 : Addr) (k1 : ClassId) (lx : List Int32) (k2 : ClassId) (cs : Int32) (fm : Value) (h0 : Heap) (n0 : Nat) (Z0 : n0 ≤ h0.size) (hF : FX Z h0 cs fm) (V_s : Arv Z h0 a1 k1 .byte (5 : Int32) (own_vl lx) (.int (0 : Int32))) (V_d : Arv Z h0 a3 k2 .byte (10 : Int32) (own_vl []) (.int (0 : Int32))) (gn_a3 : n0 ≤ a3) (ne13 : ¬ (a1 = a3)) :
    MetFree l (⟨"java/lang/StringLatin1", "inflate", "([BI[BII)V"⟩ : MethodName) (head1 (Jvm.Cond.code (⟨"java/lang/StringLatin1", "inflate", "([BI[BII)V"⟩ : MethodName) jdk_43_method_50_code 5 none :: ws) ({ frames := 4, cells := 0, slots := 0, locals := 60 } : Room)) (fun a U => a = #[(.ref a1), (.int (0 : Int32)), (.ref a3), (.int (0 : Int32)), (.int (3 : Int32))] ∧ Z.Warmed39 U.vm ∧ U.heap = h0) (fun _ _ _ _ _ => True) (fun _ U o U' => ∃ v L, o = .returned v ∧ Q_li3 Z a1 a3 k1 lx k2 cs fm h0 n0 v U'.heap L ∧ FrameEnd U o U' L ({ frames := 4, cells := 0, slots := 0, locals := 60 } : Room).cells ({ frames := 4, cells := 0, slots := 0, locals := 60 } : Room).slots) := by
  refine met_of (Ls := #[.val (.ref a1), .val (.int (0 : Int32)), .val (.ref a3), .val (.int (0 : Int32)), .val (.int (3 : Int32))]) (plainFor_of_name (by first | (simp [plainName, overriddenIn]; done) | decide +kernel)) (fun m => ef_li3 m a1 a3) ?_
  intro p e s m below meth c T0 C X0 e0
  obtain ⟨S_cs, hcs, S_fm, hfm, S_ad, S_hi, S_lo⟩ := id hF
  have N0 := Fr.nil n0
  have K0 : Keep h0 h0 [a3] := Keep.refl h0 _
  refine g_aloadN (pc' := 1) C X0 d44_0 rfl rfl rfl ?_
  refine g_iloadN (pc' := 2) C X0 d44_1 rfl rfl ?_
  refine g_aloadN (pc' := 3) C X0 d44_2 rfl rfl rfl ?_
  refine g_iloadN (pc' := 4) C X0 d44_3 rfl rfl ?_
  refine g_iload (pc' := 6) C X0 d44_4 rfl rfl ?_
  refine g_callS (y := (⟨"java/lang/StringUTF16", "inflate", "([BI[BII)V"⟩ : MethodName)) (argsL := [(.ref a1), (.int (0 : Int32)), (.ref a3), (.int (0 : Int32)), (.int (3 : Int32))]) (st := []) (pc' := 9) C X0 d44_6 (wq hw 212 rfl) (wq hw 213 rfl) (wq hw 23 rfl) (wq hw 214 rfl) (by decide) (rmui3 l Z a0 hw [] a1 a3 k1 lx k2 cs fm h0 n0 Z0 hF V_s V_d gn_a3 ne13) (W := 0) (by decide) (by decide) (ce := 0) (sl := 0) rfl rfl (by decide) (by decide) rfl e0 rfl pd_12 rfl (Nat.le_refl _) rfl (fun rv1 T1 L1 X1 Q1 => ?_)
  obtain ⟨q1, Nq1, Kq1, P1_0⟩ := Q1
  have N1 := Fr.app N0 Nq1
  have FX_1 := FX_keep hF Kq1 ((allS (by obtain ⟨c_, A_, _⟩ := V_d; exact ⟨c_, A_.1, A_.plain⟩) all0))
  have V_s_1 := V_s.keep Kq1 (ninS ne13 nin0)
  have Z1 := Nat.le_trans Z0 Kq1.1
  have K1 := K0.trans Kq1 (allS (Or.inl (List.mem_of_getElem? (i := 0) rfl)) all0)
  subst q1
  show Go p.tables e below _ (T1.setTop (mkF m 9 #[.val (.ref a1), .val (.int (0 : Int32)), .val (.ref a3), .val (.int (0 : Int32)), .val (.int (3 : Int32))] []))
  exact g_retV C X1 d44_9 (by decide) (by decide) ⟨rfl, N1, K1, P1_0⟩
theorem ef_ui4 (m : MethodId) (a1 : Addr) (a3 : Addr) : entryFrame m #[(.ref a1), (.int (0 : Int32)), (.ref a3), (.int (0 : Int32)), (.int (4 : Int32))] 6 = mkF m 0 #[.val (.ref a1), .val (.int (0 : Int32)), .val (.ref a3), .val (.int (0 : Int32)), .val (.int (4 : Int32)), .unset] [] := by first | (simp [entryFrame, mkF, argsToLocals, Value.category]; done) | rfl
def Q_ui4 (Z : State) (a1 : Addr) (a3 : Addr) (k1 : ClassId) (lx : List Int32) (k2 : ClassId) (cs : Int32) (fm : Value) (h0 : Heap) (n0 : Nat) (vr : Option Value) (h : Heap) (L : List Loc) : Prop := (vr = none) ∧ (Fr n0 L) ∧ (Keep h0 h [a3]) ∧ (Arv Z h a3 k2 .byte (10 : Int32) (own_vl (own_put (own_put (own_put (own_put [] (0 : Int32) ((own_g lx (0 : Int32)) &&& (255 : Int32))) (1 : Int32) ((own_g lx (1 : Int32)) &&& (255 : Int32))) (2 : Int32) ((own_g lx (2 : Int32)) &&& (255 : Int32))) (3 : Int32) ((own_g lx (3 : Int32)) &&& (255 : Int32)))) (.int (0 : Int32)))
set_option maxRecDepth 65536 in
set_option maxHeartbeats 40000000 in
theorem rmui4 (l : Launch) (Z : State) (a0 : Array Value) (hw : ∀ d ∈ tables_1, d.before a0 Z = true) (ws : List Jvm.Cond) (a1 : Addr) (a3 : Addr) (k1 : ClassId) (lx : List Int32) (k2 : ClassId) (cs : Int32) (fm : Value) (h0 : Heap) (n0 : Nat) (Z0 : n0 ≤ h0.size) (hF : FX Z h0 cs fm) (V_s : Arv Z h0 a1 k1 .byte (5 : Int32) (own_vl lx) (.int (0 : Int32))) (V_d : Arv Z h0 a3 k2 .byte (10 : Int32) (own_vl []) (.int (0 : Int32))) (gn_a3 : n0 ≤ a3) (ne13 : ¬ (a1 = a3)) :
    MetFree l (⟨"java/lang/StringUTF16", "inflate", "([BI[BII)V"⟩ : MethodName) (head1 (Jvm.Cond.code (⟨"java/lang/StringUTF16", "inflate", "([BI[BII)V"⟩ : MethodName) jdk_52_method_86_code 6 none :: ws) ({ frames := 3, cells := 0, slots := 0, locals := 43 } : Room)) (fun a U => a = #[(.ref a1), (.int (0 : Int32)), (.ref a3), (.int (0 : Int32)), (.int (4 : Int32))] ∧ Z.Warmed39 U.vm ∧ U.heap = h0) (fun _ _ _ _ _ => True) (fun _ U o U' => ∃ v L, o = .returned v ∧ Q_ui4 Z a1 a3 k1 lx k2 cs fm h0 n0 v U'.heap L ∧ FrameEnd U o U' L ({ frames := 3, cells := 0, slots := 0, locals := 43 } : Room).cells ({ frames := 3, cells := 0, slots := 0, locals := 43 } : Room).slots) := by
  refine met_of (Ls := #[.val (.ref a1), .val (.int (0 : Int32)), .val (.ref a3), .val (.int (0 : Int32)), .val (.int (4 : Int32)), .unset]) (plainFor_of_name (by first | (simp [plainName, overriddenIn]; done) | decide +kernel)) (fun m => ef_ui4 m a1 a3) ?_
  intro p e s m below meth c T0 C X0 e0
  obtain ⟨S_cs, hcs, S_fm, hfm, S_ad, S_hi, S_lo⟩ := id hF
  have N0 := Fr.nil n0
  have K0 : Keep h0 h0 [a3] := Keep.refl h0 _
  refine g_iloadN (pc' := 1) C X0 d45_0 rfl rfl ?_
  refine g_iload (pc' := 3) C X0 d45_1 rfl rfl ?_
  refine g_aloadN (pc' := 4) C X0 d45_3 rfl rfl rfl ?_
  refine g_callS (y := (⟨"java/lang/StringUTF16", "checkBoundsOffCount", "(II[B)V"⟩ : MethodName)) (argsL := [(.int (0 : Int32)), (.int (4 : Int32)), (.ref a3)]) (st := []) (pc' := 7) C X0 d45_4 (wq hw 215 rfl) (wq hw 216 rfl) (wq hw 23 rfl) (wq hw 217 rfl) (by decide) (rmubo4 l Z a0 hw [] a3 k2 ([]) cs fm h0 n0 hF V_d) (W := 0) (by decide) (by decide) (ce := 0) (sl := 0) rfl rfl (by decide) (by decide) rfl e0 rfl pd_11 rfl (Nat.le_refl _) rfl (fun rv1 T1 L1 X1 Q1 => ?_)
  obtain ⟨q1, Nq1, e1⟩ := Q1
  have N1 := Fr.app N0 Nq1
  subst q1
  show Go p.tables e below _ (T1.setTop (mkF m 7 #[.val (.ref a1), .val (.int (0 : Int32)), .val (.ref a3), .val (.int (0 : Int32)), .val (.int (4 : Int32)), .unset] []))
  refine g_iconst (pc' := 8) (v := (0 : Int32)) C X1 d45_7 rfl rfl ?_
  refine g_istore (pc' := 10) (Ls' := #[.val (.ref a1), .val (.int (0 : Int32)), .val (.ref a3), .val (.int (0 : Int32)), .val (.int (4 : Int32)), .val (.int (0 : Int32))]) C X1 d45_8 rfl rfl ?_
  refine g_iload (pc' := 12) C X1 d45_10 rfl rfl ?_
  refine g_iload (pc' := 14) C X1 d45_12 rfl rfl ?_
  refine g_icmpN (pc' := 17) C X1 d45_14 (tlt (show (0 : Int32) < (4 : Int32) from (by decide))).2.1 rfl ?_
  refine g_aloadN (pc' := 18) C X1 d45_17 rfl rfl rfl ?_
  refine g_iloadN (pc' := 19) C X1 d45_18 rfl rfl ?_
  refine g_iinc (pc' := 22) (Ls' := #[.val (.ref a1), .val (.int (0 : Int32)), .val (.ref a3), .val (.int ((0 : Int32) + (1 : Int32))), .val (.int (4 : Int32)), .val (.int (0 : Int32))]) C X1 d45_19 rfl rfl rfl ?_
  refine g_aloadN (pc' := 23) C X1 d45_22 rfl rfl rfl ?_
  refine g_iloadN (pc' := 24) C X1 d45_23 rfl rfl ?_
  refine g_iinc (pc' := 27) (Ls' := #[.val (.ref a1), .val (.int ((0 : Int32) + (1 : Int32))), .val (.ref a3), .val (.int ((0 : Int32) + (1 : Int32))), .val (.int (4 : Int32)), .val (.int (0 : Int32))]) C X1 d45_24 rfl rfl rfl ?_
  refine g_ldB (pc' := 28) (v := (.int (own_g lx (0 : Int32)))) C X1 d45_27 e1 V_s ⟨by decide, by decide⟩ (own_vl_get _ _) rfl ?_
  refine g_sipush (pc' := 31) (v := (255 : Int32)) C X1 d45_28 rfl rfl ?_
  refine g_iand (pc' := 32) C X1 d45_31 rfl ?_
  refine g_callS (y := (⟨"java/lang/StringUTF16", "putChar", "([BII)V"⟩ : MethodName)) (argsL := [(.ref a3), (.int (0 : Int32)), (.int ((own_g lx (0 : Int32)) &&& (255 : Int32)))]) (st := []) (pc' := 35) C X1 d45_32 (wq hw 184 rfl) (wq hw 185 rfl) (wq hw 23 rfl) (wq hw 186 rfl) (by decide) (rmupc l Z a0 hw [] a3 (0 : Int32) ((own_g lx (0 : Int32)) &&& (255 : Int32)) k2 (10 : Int32) ([]) cs fm h0 n0 Z0 hF V_d (by decide) (by decide) (by decide) (by decide) gn_a3) (W := 0) (by decide) (by decide) (ce := 0) (sl := 0) rfl rfl (by decide) (by decide) rfl e1 rfl pd_13 rfl (Nat.le_refl _) rfl (fun rv2 T2 L2 X2 Q2 => ?_)
  obtain ⟨q2, Nq2, Kq2, P2_0⟩ := Q2
  have N2 := Fr.app N1 Nq2
  have FX_2 := FX_keep hF Kq2 ((allS (by obtain ⟨c_, A_, _⟩ := V_d; exact ⟨c_, A_.1, A_.plain⟩) all0))
  have V_s_2 := V_s.keep Kq2 (ninS ne13 nin0)
  have Z2 := Nat.le_trans Z0 Kq2.1
  have K2 := K0.trans Kq2 (allS (Or.inl (List.mem_of_getElem? (i := 0) rfl)) all0)
  subst q2
  show Go p.tables e below _ (T2.setTop (mkF m 35 #[.val (.ref a1), .val (.int ((0 : Int32) + (1 : Int32))), .val (.ref a3), .val (.int ((0 : Int32) + (1 : Int32))), .val (.int (4 : Int32)), .val (.int (0 : Int32))] []))
  refine g_iinc (pc' := 38) (Ls' := #[.val (.ref a1), .val (.int ((0 : Int32) + (1 : Int32))), .val (.ref a3), .val (.int ((0 : Int32) + (1 : Int32))), .val (.int (4 : Int32)), .val (.int ((0 : Int32) + (1 : Int32)))]) C X2 d45_35 rfl rfl rfl ?_
  refine g_goto (pc' := 10) C X2 d45_38 (by decide) (by decide) ?_
  refine g_iload (pc' := 12) C X2 d45_10 rfl rfl ?_
  refine g_iload (pc' := 14) C X2 d45_12 rfl rfl ?_
  refine g_icmpN (pc' := 17) C X2 d45_14 (tlt (show ((0 : Int32) + (1 : Int32)) < (4 : Int32) from (by decide))).2.1 rfl ?_
  refine g_aloadN (pc' := 18) C X2 d45_17 rfl rfl rfl ?_
  refine g_iloadN (pc' := 19) C X2 d45_18 rfl rfl ?_
  refine g_iinc (pc' := 22) (Ls' := #[.val (.ref a1), .val (.int ((0 : Int32) + (1 : Int32))), .val (.ref a3), .val (.int (((0 : Int32) + (1 : Int32)) + (1 : Int32))), .val (.int (4 : Int32)), .val (.int ((0 : Int32) + (1 : Int32)))]) C X2 d45_19 rfl rfl rfl ?_
  refine g_aloadN (pc' := 23) C X2 d45_22 rfl rfl rfl ?_
  refine g_iloadN (pc' := 24) C X2 d45_23 rfl rfl ?_
  refine g_iinc (pc' := 27) (Ls' := #[.val (.ref a1), .val (.int (((0 : Int32) + (1 : Int32)) + (1 : Int32))), .val (.ref a3), .val (.int (((0 : Int32) + (1 : Int32)) + (1 : Int32))), .val (.int (4 : Int32)), .val (.int ((0 : Int32) + (1 : Int32)))]) C X2 d45_24 rfl rfl rfl ?_
  refine g_ldB (pc' := 28) (v := (.int (own_g lx ((0 : Int32) + (1 : Int32))))) C X2 d45_27 rfl V_s_2 ⟨by decide, by decide⟩ (own_vl_get _ _) rfl ?_
  refine g_sipush (pc' := 31) (v := (255 : Int32)) C X2 d45_28 rfl rfl ?_
  refine g_iand (pc' := 32) C X2 d45_31 rfl ?_
  refine g_callS (y := (⟨"java/lang/StringUTF16", "putChar", "([BII)V"⟩ : MethodName)) (argsL := [(.ref a3), (.int ((0 : Int32) + (1 : Int32))), (.int ((own_g lx ((0 : Int32) + (1 : Int32))) &&& (255 : Int32)))]) (st := []) (pc' := 35) C X2 d45_32 (wq hw 184 rfl) (wq hw 185 rfl) (wq hw 23 rfl) (wq hw 186 rfl) (by decide) (rmupc l Z a0 hw [] a3 ((0 : Int32) + (1 : Int32)) ((own_g lx ((0 : Int32) + (1 : Int32))) &&& (255 : Int32)) k2 (10 : Int32) (own_put [] (0 : Int32) ((own_g lx (0 : Int32)) &&& (255 : Int32))) cs fm T2.heap n0 Z2 FX_2 P2_0 (by decide) (by decide) (by decide) (by decide) gn_a3) (W := 0) (by decide) (by decide) (ce := 0) (sl := 0) rfl rfl (by decide) (by decide) rfl rfl rfl pd_13 rfl (Nat.le_refl _) rfl (fun rv3 T3 L3 X3 Q3 => ?_)
  obtain ⟨q3, Nq3, Kq3, P3_0⟩ := Q3
  have N3 := Fr.app N2 Nq3
  have FX_3 := FX_keep FX_2 Kq3 ((allS (by obtain ⟨c_, A_, _⟩ := P2_0; exact ⟨c_, A_.1, A_.plain⟩) all0))
  have V_s_3 := V_s_2.keep Kq3 (ninS ne13 nin0)
  have Z3 := Nat.le_trans Z2 Kq3.1
  have K3 := K2.trans Kq3 (allS (Or.inl (List.mem_of_getElem? (i := 0) rfl)) all0)
  subst q3
  show Go p.tables e below _ (T3.setTop (mkF m 35 #[.val (.ref a1), .val (.int (((0 : Int32) + (1 : Int32)) + (1 : Int32))), .val (.ref a3), .val (.int (((0 : Int32) + (1 : Int32)) + (1 : Int32))), .val (.int (4 : Int32)), .val (.int ((0 : Int32) + (1 : Int32)))] []))
  refine g_iinc (pc' := 38) (Ls' := #[.val (.ref a1), .val (.int (((0 : Int32) + (1 : Int32)) + (1 : Int32))), .val (.ref a3), .val (.int (((0 : Int32) + (1 : Int32)) + (1 : Int32))), .val (.int (4 : Int32)), .val (.int (((0 : Int32) + (1 : Int32)) + (1 : Int32)))]) C X3 d45_35 rfl rfl rfl ?_
  refine g_goto (pc' := 10) C X3 d45_38 (by decide) (by decide) ?_
  refine g_iload (pc' := 12) C X3 d45_10 rfl rfl ?_
  refine g_iload (pc' := 14) C X3 d45_12 rfl rfl ?_
  refine g_icmpN (pc' := 17) C X3 d45_14 (tlt (show (((0 : Int32) + (1 : Int32)) + (1 : Int32)) < (4 : Int32) from (by decide))).2.1 rfl ?_
  refine g_aloadN (pc' := 18) C X3 d45_17 rfl rfl rfl ?_
  refine g_iloadN (pc' := 19) C X3 d45_18 rfl rfl ?_
  refine g_iinc (pc' := 22) (Ls' := #[.val (.ref a1), .val (.int (((0 : Int32) + (1 : Int32)) + (1 : Int32))), .val (.ref a3), .val (.int ((((0 : Int32) + (1 : Int32)) + (1 : Int32)) + (1 : Int32))), .val (.int (4 : Int32)), .val (.int (((0 : Int32) + (1 : Int32)) + (1 : Int32)))]) C X3 d45_19 rfl rfl rfl ?_
  refine g_aloadN (pc' := 23) C X3 d45_22 rfl rfl rfl ?_
  refine g_iloadN (pc' := 24) C X3 d45_23 rfl rfl ?_
  refine g_iinc (pc' := 27) (Ls' := #[.val (.ref a1), .val (.int ((((0 : Int32) + (1 : Int32)) + (1 : Int32)) + (1 : Int32))), .val (.ref a3), .val (.int ((((0 : Int32) + (1 : Int32)) + (1 : Int32)) + (1 : Int32))), .val (.int (4 : Int32)), .val (.int (((0 : Int32) + (1 : Int32)) + (1 : Int32)))]) C X3 d45_24 rfl rfl rfl ?_
  refine g_ldB (pc' := 28) (v := (.int (own_g lx (((0 : Int32) + (1 : Int32)) + (1 : Int32))))) C X3 d45_27 rfl V_s_3 ⟨by decide, by decide⟩ (own_vl_get _ _) rfl ?_
  refine g_sipush (pc' := 31) (v := (255 : Int32)) C X3 d45_28 rfl rfl ?_
  refine g_iand (pc' := 32) C X3 d45_31 rfl ?_
  refine g_callS (y := (⟨"java/lang/StringUTF16", "putChar", "([BII)V"⟩ : MethodName)) (argsL := [(.ref a3), (.int (((0 : Int32) + (1 : Int32)) + (1 : Int32))), (.int ((own_g lx (((0 : Int32) + (1 : Int32)) + (1 : Int32))) &&& (255 : Int32)))]) (st := []) (pc' := 35) C X3 d45_32 (wq hw 184 rfl) (wq hw 185 rfl) (wq hw 23 rfl) (wq hw 186 rfl) (by decide) (rmupc l Z a0 hw [] a3 (((0 : Int32) + (1 : Int32)) + (1 : Int32)) ((own_g lx (((0 : Int32) + (1 : Int32)) + (1 : Int32))) &&& (255 : Int32)) k2 (10 : Int32) (own_put (own_put [] (0 : Int32) ((own_g lx (0 : Int32)) &&& (255 : Int32))) ((0 : Int32) + (1 : Int32)) ((own_g lx ((0 : Int32) + (1 : Int32))) &&& (255 : Int32))) cs fm T3.heap n0 Z3 FX_3 P3_0 (by decide) (by decide) (by decide) (by decide) gn_a3) (W := 0) (by decide) (by decide) (ce := 0) (sl := 0) rfl rfl (by decide) (by decide) rfl rfl rfl pd_13 rfl (Nat.le_refl _) rfl (fun rv4 T4 L4 X4 Q4 => ?_)
  obtain ⟨q4, Nq4, Kq4, P4_0⟩ := Q4
  have N4 := Fr.app N3 Nq4
  have FX_4 := FX_keep FX_3 Kq4 ((allS (by obtain ⟨c_, A_, _⟩ := P3_0; exact ⟨c_, A_.1, A_.plain⟩) all0))
  have V_s_4 := V_s_3.keep Kq4 (ninS ne13 nin0)
  have Z4 := Nat.le_trans Z3 Kq4.1
  have K4 := K3.trans Kq4 (allS (Or.inl (List.mem_of_getElem? (i := 0) rfl)) all0)
  subst q4
  show Go p.tables e below _ (T4.setTop (mkF m 35 #[.val (.ref a1), .val (.int ((((0 : Int32) + (1 : Int32)) + (1 : Int32)) + (1 : Int32))), .val (.ref a3), .val (.int ((((0 : Int32) + (1 : Int32)) + (1 : Int32)) + (1 : Int32))), .val (.int (4 : Int32)), .val (.int (((0 : Int32) + (1 : Int32)) + (1 : Int32)))] []))
  refine g_iinc (pc' := 38) (Ls' := #[.val (.ref a1), .val (.int ((((0 : Int32) + (1 : Int32)) + (1 : Int32)) + (1 : Int32))), .val (.ref a3), .val (.int ((((0 : Int32) + (1 : Int32)) + (1 : Int32)) + (1 : Int32))), .val (.int (4 : Int32)), .val (.int ((((0 : Int32) + (1 : Int32)) + (1 : Int32)) + (1 : Int32)))]) C X4 d45_35 rfl rfl rfl ?_
  refine g_goto (pc' := 10) C X4 d45_38 (by decide) (by decide) ?_
  refine g_iload (pc' := 12) C X4 d45_10 rfl rfl ?_
  refine g_iload (pc' := 14) C X4 d45_12 rfl rfl ?_
  refine g_icmpN (pc' := 17) C X4 d45_14 (tlt (show ((((0 : Int32) + (1 : Int32)) + (1 : Int32)) + (1 : Int32)) < (4 : Int32) from (by decide))).2.1 rfl ?_
  refine g_aloadN (pc' := 18) C X4 d45_17 rfl rfl rfl ?_
  refine g_iloadN (pc' := 19) C X4 d45_18 rfl rfl ?_
  refine g_iinc (pc' := 22) (Ls' := #[.val (.ref a1), .val (.int ((((0 : Int32) + (1 : Int32)) + (1 : Int32)) + (1 : Int32))), .val (.ref a3), .val (.int (((((0 : Int32) + (1 : Int32)) + (1 : Int32)) + (1 : Int32)) + (1 : Int32))), .val (.int (4 : Int32)), .val (.int ((((0 : Int32) + (1 : Int32)) + (1 : Int32)) + (1 : Int32)))]) C X4 d45_19 rfl rfl rfl ?_
  refine g_aloadN (pc' := 23) C X4 d45_22 rfl rfl rfl ?_
  refine g_iloadN (pc' := 24) C X4 d45_23 rfl rfl ?_
  refine g_iinc (pc' := 27) (Ls' := #[.val (.ref a1), .val (.int (((((0 : Int32) + (1 : Int32)) + (1 : Int32)) + (1 : Int32)) + (1 : Int32))), .val (.ref a3), .val (.int (((((0 : Int32) + (1 : Int32)) + (1 : Int32)) + (1 : Int32)) + (1 : Int32))), .val (.int (4 : Int32)), .val (.int ((((0 : Int32) + (1 : Int32)) + (1 : Int32)) + (1 : Int32)))]) C X4 d45_24 rfl rfl rfl ?_
  refine g_ldB (pc' := 28) (v := (.int (own_g lx ((((0 : Int32) + (1 : Int32)) + (1 : Int32)) + (1 : Int32))))) C X4 d45_27 rfl V_s_4 ⟨by decide, by decide⟩ (own_vl_get _ _) rfl ?_
  refine g_sipush (pc' := 31) (v := (255 : Int32)) C X4 d45_28 rfl rfl ?_
  refine g_iand (pc' := 32) C X4 d45_31 rfl ?_
  refine g_callS (y := (⟨"java/lang/StringUTF16", "putChar", "([BII)V"⟩ : MethodName)) (argsL := [(.ref a3), (.int ((((0 : Int32) + (1 : Int32)) + (1 : Int32)) + (1 : Int32))), (.int ((own_g lx ((((0 : Int32) + (1 : Int32)) + (1 : Int32)) + (1 : Int32))) &&& (255 : Int32)))]) (st := []) (pc' := 35) C X4 d45_32 (wq hw 184 rfl) (wq hw 185 rfl) (wq hw 23 rfl) (wq hw 186 rfl) (by decide) (rmupc l Z a0 hw [] a3 ((((0 : Int32) + (1 : Int32)) + (1 : Int32)) + (1 : Int32)) ((own_g lx ((((0 : Int32) + (1 : Int32)) + (1 : Int32)) + (1 : Int32))) &&& (255 : Int32)) k2 (10 : Int32) (own_put (own_put (own_put [] (0 : Int32) ((own_g lx (0 : Int32)) &&& (255 : Int32))) ((0 : Int32) + (1 : Int32)) ((own_g lx ((0 : Int32) + (1 : Int32))) &&& (255 : Int32))) (((0 : Int32) + (1 : Int32)) + (1 : Int32)) ((own_g lx (((0 : Int32) + (1 : Int32)) + (1 : Int32))) &&& (255 : Int32))) cs fm T4.heap n0 Z4 FX_4 P4_0 (by decide) (by decide) (by decide) (by decide) gn_a3) (W := 0) (by decide) (by decide) (ce := 0) (sl := 0) rfl rfl (by decide) (by decide) rfl rfl rfl pd_13 rfl (Nat.le_refl _) rfl (fun rv5 T5 L5 X5 Q5 => ?_)
  obtain ⟨q5, Nq5, Kq5, P5_0⟩ := Q5
  have N5 := Fr.app N4 Nq5
  have FX_5 := FX_keep FX_4 Kq5 ((allS (by obtain ⟨c_, A_, _⟩ := P4_0; exact ⟨c_, A_.1, A_.plain⟩) all0))
  have V_s_5 := V_s_4.keep Kq5 (ninS ne13 nin0)
  have Z5 := Nat.le_trans Z4 Kq5.1
  have K5 := K4.trans Kq5 (allS (Or.inl (List.mem_of_getElem? (i := 0) rfl)) all0)
  subst q5
  show Go p.tables e below _ (T5.setTop (mkF m 35 #[.val (.ref a1), .val (.int (((((0 : Int32) + (1 : Int32)) + (1 : Int32)) + (1 : Int32)) + (1 : Int32))), .val (.ref a3), .val (.int (((((0 : Int32) + (1 : Int32)) + (1 : Int32)) + (1 : Int32)) + (1 : Int32))), .val (.int (4 : Int32)), .val (.int ((((0 : Int32) + (1 : Int32)) + (1 : Int32)) + (1 : Int32)))] []))
  refine g_iinc (pc' := 38) (Ls' := #[.val (.ref a1), .val (.int (((((0 : Int32) + (1 : Int32)) + (1 : Int32)) + (1 : Int32)) + (1 : Int32))), .val (.ref a3), .val (.int (((((0 : Int32) + (1 : Int32)) + (1 : Int32)) + (1 : Int32)) + (1 : Int32))), .val (.int (4 : Int32)), .val (.int (((((0 : Int32) + (1 : Int32)) + (1 : Int32)) + (1 : Int32)) + (1 : Int32)))]) C X5 d45_35 rfl rfl rfl ?_
  refine g_goto (pc' := 10) C X5 d45_38 (by decide) (by decide) ?_
  refine g_iload (pc' := 12) C X5 d45_10 rfl rfl ?_
  refine g_iload (pc' := 14) C X5 d45_12 rfl rfl ?_
  refine g_icmpY (pc' := 41) C X5 d45_14 (flt (show ¬ ((((((0 : Int32) + (1 : Int32)) + (1 : Int32)) + (1 : Int32)) + (1 : Int32)) < (4 : Int32)) from (by decide))).2.1 (by decide) (by decide) ?_
  exact g_retV C X5 d45_41 (by decide) (by decide) ⟨rfl, N5, K5, P5_0⟩
theorem ef_li4 (m : MethodId) (a1 : Addr) (a3 : Addr) : entryFrame m #[(.ref a1), (.int (0 : Int32)), (.ref a3), (.int (0 : Int32)), (.int (4 : Int32))] 5 = mkF m 0 #[.val (.ref a1), .val (.int (0 : Int32)), .val (.ref a3), .val (.int (0 : Int32)), .val (.int (4 : Int32))] [] := by first | (simp [entryFrame, mkF, argsToLocals, Value.category]; done) | rfl
def Q_li4 (Z : State) (a1 : Addr) (a3 : Addr) (k1 : ClassId) (lx : List Int32) (k2 : ClassId) (cs : Int32) (fm : Value) (h0 : Heap) (n0 : Nat) (vr : Option Value) (h : Heap) (L : List Loc) : Prop := (vr = none) ∧ (Fr n0 L) ∧ (Keep h0 h [a3]) ∧ (Arv Z h a3 k2 .byte (10 : Int32) (own_vl (own_put (own_put (own_put (own_put [] (0 : Int32) ((own_g lx (0 : Int32)) &&& (255 : Int32))) (1 : Int32) ((own_g lx (1 : Int32)) &&& (255 : Int32))) (2 : Int32) ((own_g lx (2 : Int32)) &&& (255 : Int32))) (3 : Int32) ((own_g lx (3 : Int32)) &&& (255 : Int32)))) (.int (0 : Int32)))
set_option maxRecDepth 65536 in
set_option maxHeartbeats 40000000 in
theorem rmli4 (l : Launch) (Z : State) (a0 : Array Value) (hw : ∀ d ∈ tables_1, d.before a0 Z = true) (ws : List Jvm.Cond) (a1 : Addr) (a3 : Addr) (k1 : ClassId) (lx : List Int32) (k2 : ClassId) (cs : Int32) (fm : Value) (h0 : Heap) (n0 : Nat) (Z0 : n0 ≤ h0.size) (hF : FX Z h0 cs fm) (V_s : Arv Z h0 a1 k1 .byte (5 : Int32) (own_vl lx) (.int (0 : Int32))) (V_d : Arv Z h0 a3 k2 .byte (10 : Int32) (own_vl []) (.int (0 : Int32))) (gn_a3 : n0 ≤ a3) (ne13 : ¬ (a1 = a3)) :
    MetFree l (⟨"java/lang/StringLatin1", "inflate", "([BI[BII)V"⟩ : MethodName) (head1 (Jvm.Cond.code (⟨"java/lang/StringLatin1", "inflate", "([BI[BII)V"⟩ : MethodName) jdk_43_method_50_code 5 none :: ws) ({ frames := 4, cells := 0, slots := 0, locals := 60 } : Room)) (fun a U => a = #[(.ref a1), (.int (0 : Int32)), (.ref a3), (.int (0 : Int32)), (.int (4 : Int32))] ∧ Z.Warmed39 U.vm ∧ U.heap = h0) (fun _ _ _ _ _ => True) (fun _ U o U' => ∃ v L, o = .returned v ∧ Q_li4 Z a1 a3 k1 lx k2 cs fm h0 n0 v U'.heap L ∧ FrameEnd U o U' L ({ frames := 4, cells := 0, slots := 0, locals := 60 } : Room).cells ({ frames := 4, cells := 0, slots := 0, locals := 60 } : Room).slots) := by
  refine met_of (Ls := #[.val (.ref a1), .val (.int (0 : Int32)), .val (.ref a3), .val (.int (0 : Int32)), .val (.int (4 : Int32))]) (plainFor_of_name (by first | (simp [plainName, overriddenIn]; done) | decide +kernel)) (fun m => ef_li4 m a1 a3) ?_
  intro p e s m below meth c T0 C X0 e0
  obtain ⟨S_cs, hcs, S_fm, hfm, S_ad, S_hi, S_lo⟩ := id hF
  have N0 := Fr.nil n0
  have K0 : Keep h0 h0 [a3] := Keep.refl h0 _
  refine g_aloadN (pc' := 1) C X0 d44_0 rfl rfl rfl ?_
  refine g_iloadN (pc' := 2) C X0 d44_1 rfl rfl ?_
  refine g_aloadN (pc' := 3) C X0 d44_2 rfl rfl rfl ?_
  refine g_iloadN (pc' := 4) C X0 d44_3 rfl rfl ?_
  refine g_iload (pc' := 6) C X0 d44_4 rfl rfl ?_
  refine g_callS (y := (⟨"java/lang/StringUTF16", "inflate", "([BI[BII)V"⟩ : MethodName)) (argsL := [(.ref a1), (.int (0 : Int32)), (.ref a3), (.int (0 : Int32)), (.int (4 : Int32))]) (st := []) (pc' := 9) C X0 d44_6 (wq hw 212 rfl) (wq hw 213 rfl) (wq hw 23 rfl) (wq hw 214 rfl) (by decide) (rmui4 l Z a0 hw [] a1 a3 k1 lx k2 cs fm h0 n0 Z0 hF V_s V_d gn_a3 ne13) (W := 0) (by decide) (by decide) (ce := 0) (sl := 0) rfl rfl (by decide) (by decide) rfl e0 rfl pd_12 rfl (Nat.le_refl _) rfl (fun rv1 T1 L1 X1 Q1 => ?_)
  obtain ⟨q1, Nq1, Kq1, P1_0⟩ := Q1
  have N1 := Fr.app N0 Nq1
  have FX_1 := FX_keep hF Kq1 ((allS (by obtain ⟨c_, A_, _⟩ := V_d; exact ⟨c_, A_.1, A_.plain⟩) all0))
  have V_s_1 := V_s.keep Kq1 (ninS ne13 nin0)
  have Z1 := Nat.le_trans Z0 Kq1.1
  have K1 := K0.trans Kq1 (allS (Or.inl (List.mem_of_getElem? (i := 0) rfl)) all0)
  subst q1
  show Go p.tables e below _ (T1.setTop (mkF m 9 #[.val (.ref a1), .val (.int (0 : Int32)), .val (.ref a3), .val (.int (0 : Int32)), .val (.int (4 : Int32))] []))
  exact g_retV C X1 d44_9 (by decide) (by decide) ⟨rfl, N1, K1, P1_0⟩
theorem own_shape {xs : List Int32} (h : own_r4 (own_n xs)) (hl : xs.length ≤ 5) : (own_n xs = 0 ∧ xs = []) ∨ (own_n xs = 1 ∧ ∃ x0, xs = [x0]) ∨ (own_n xs = 2 ∧ ∃ x0 x1, xs = [x0, x1]) ∨ (own_n xs = 3 ∧ ∃ x0 x1 x2, xs = [x0, x1, x2]) ∨ (own_n xs = 4 ∧ ∃ x0 x1 x2 x3, xs = [x0, x1, x2, x3]) := by
  match xs, hl with
  | [], _ => exact Or.inl ⟨rfl, rfl⟩
  | [a], _ => exact Or.inr (Or.inl ⟨rfl, _, rfl⟩)
  | [a, b], _ => exact Or.inr (Or.inr (Or.inl ⟨rfl, _, _, rfl⟩))
  | [a, b, c], _ => exact Or.inr (Or.inr (Or.inr (Or.inl ⟨rfl, _, _, _, rfl⟩)))
  | [a, b, c, d], _ => exact Or.inr (Or.inr (Or.inr (Or.inr ⟨rfl, _, _, _, _, rfl⟩)))
  | [a, b, c, d, e], _ => exact absurd h (by unfold own_r4 own_n; show ¬ ((5 : Int32) = 0 ∨ (5 : Int32) = 1 ∨ (5 : Int32) = 2 ∨ (5 : Int32) = 3 ∨ (5 : Int32) = 4); decide)
theorem own_Bg {xs : List Int32} {p : Int32} (hx : ∀ x ∈ xs, own_ch x) (hy : ∀ x ∈ xs, ¬ ((255 : Int32) < x)) : (own_g (own_lat xs) p) &&& (255 : Int32) = own_g xs p := by
  have e : own_g (own_lat xs) p = own_B (own_g xs p) := own_lat_get _ _
  rw [e, own_Bm (own_g_all hx (⟨by decide, by decide⟩ : own_ch 0) p) (own_g_all hy (by decide) p)]
theorem own_inf0 {xs : List Int32} (hx : ∀ x ∈ xs, own_ch x) (hy : ∀ x ∈ xs, ¬ ((255 : Int32) < x)) (h : xs = []) : ∀ i, (own_u xs).getD i 0 = ([] : List Int32).getD i 0 := by
  obtain rfl := h
  exact (fun _ => rfl)
theorem own_inf1 {xs : List Int32} (hx : ∀ x ∈ xs, own_ch x) (hy : ∀ x ∈ xs, ¬ ((255 : Int32) < x)) (h : ∃ x0, xs = [x0]) : ∀ i, (own_u xs).getD i 0 = ((own_put [] (0 : Int32) ((own_g (own_lat xs) (0 : Int32)) &&& (255 : Int32))) : List Int32).getD i 0 := by
  obtain ⟨x0, rfl⟩ := h
  rw [own_Bg (p := (0 : Int32)) hx hy]
  exact (own_put_snoc (ys := []) (j := (0 : Int32)) (x := x0) (by unfold own_r4; decide) rfl (fun _ => rfl))
theorem own_inf2 {xs : List Int32} (hx : ∀ x ∈ xs, own_ch x) (hy : ∀ x ∈ xs, ¬ ((255 : Int32) < x)) (h : ∃ x0 x1, xs = [x0, x1]) : ∀ i, (own_u xs).getD i 0 = ((own_put (own_put [] (0 : Int32) ((own_g (own_lat xs) (0 : Int32)) &&& (255 : Int32))) (1 : Int32) ((own_g (own_lat xs) (1 : Int32)) &&& (255 : Int32))) : List Int32).getD i 0 := by
  obtain ⟨x0, x1, rfl⟩ := h
  rw [own_Bg (p := (0 : Int32)) hx hy, own_Bg (p := (1 : Int32)) hx hy]
  exact (own_put_snoc (ys := [x0]) (j := (1 : Int32)) (x := x1) (by unfold own_r4; decide) rfl (own_put_snoc (ys := []) (j := (0 : Int32)) (x := x0) (by unfold own_r4; decide) rfl (fun _ => rfl)))
theorem own_inf3 {xs : List Int32} (hx : ∀ x ∈ xs, own_ch x) (hy : ∀ x ∈ xs, ¬ ((255 : Int32) < x)) (h : ∃ x0 x1 x2, xs = [x0, x1, x2]) : ∀ i, (own_u xs).getD i 0 = ((own_put (own_put (own_put [] (0 : Int32) ((own_g (own_lat xs) (0 : Int32)) &&& (255 : Int32))) (1 : Int32) ((own_g (own_lat xs) (1 : Int32)) &&& (255 : Int32))) (2 : Int32) ((own_g (own_lat xs) (2 : Int32)) &&& (255 : Int32))) : List Int32).getD i 0 := by
  obtain ⟨x0, x1, x2, rfl⟩ := h
  rw [own_Bg (p := (0 : Int32)) hx hy, own_Bg (p := (1 : Int32)) hx hy, own_Bg (p := (2 : Int32)) hx hy]
  exact (own_put_snoc (ys := [x0, x1]) (j := (2 : Int32)) (x := x2) (by unfold own_r4; decide) rfl (own_put_snoc (ys := [x0]) (j := (1 : Int32)) (x := x1) (by unfold own_r4; decide) rfl (own_put_snoc (ys := []) (j := (0 : Int32)) (x := x0) (by unfold own_r4; decide) rfl (fun _ => rfl))))
theorem own_inf4 {xs : List Int32} (hx : ∀ x ∈ xs, own_ch x) (hy : ∀ x ∈ xs, ¬ ((255 : Int32) < x)) (h : ∃ x0 x1 x2 x3, xs = [x0, x1, x2, x3]) : ∀ i, (own_u xs).getD i 0 = ((own_put (own_put (own_put (own_put [] (0 : Int32) ((own_g (own_lat xs) (0 : Int32)) &&& (255 : Int32))) (1 : Int32) ((own_g (own_lat xs) (1 : Int32)) &&& (255 : Int32))) (2 : Int32) ((own_g (own_lat xs) (2 : Int32)) &&& (255 : Int32))) (3 : Int32) ((own_g (own_lat xs) (3 : Int32)) &&& (255 : Int32))) : List Int32).getD i 0 := by
  obtain ⟨x0, x1, x2, x3, rfl⟩ := h
  rw [own_Bg (p := (0 : Int32)) hx hy, own_Bg (p := (1 : Int32)) hx hy, own_Bg (p := (2 : Int32)) hx hy, own_Bg (p := (3 : Int32)) hx hy]
  exact (own_put_snoc (ys := [x0, x1, x2]) (j := (3 : Int32)) (x := x3) (by unfold own_r4; decide) rfl (own_put_snoc (ys := [x0, x1]) (j := (2 : Int32)) (x := x2) (by unfold own_r4; decide) rfl (own_put_snoc (ys := [x0]) (j := (1 : Int32)) (x := x1) (by unfold own_r4; decide) rfl (own_put_snoc (ys := []) (j := (0 : Int32)) (x := x0) (by unfold own_r4; decide) rfl (fun _ => rfl)))))
theorem d43_0 : decode jdk_68_method_11_code 0 = .ok (.aload_n 0, 1) := by decide +kernel
theorem d43_1 : decode jdk_68_method_11_code 1 = .ok (.invokevirtual 83, 3) := by decide +kernel
theorem d43_4 : decode jdk_68_method_11_code 4 = .ok (.ifCond .ne 4, 3) := by decide +kernel
theorem d43_8 : decode jdk_68_method_11_code 8 = .ok (.aload_n 0, 1) := by decide +kernel
theorem d43_9 : decode jdk_68_method_11_code 9 = .ok (.getfield 15, 3) := by decide +kernel
theorem d43_12 : decode jdk_68_method_11_code 12 = .ok (.arraylength, 1) := by decide +kernel
theorem d43_13 : decode jdk_68_method_11_code 13 = .ok (.invokestatic 26, 3) := by decide +kernel
theorem pd_14 : parseMethodDescriptor "(I)[B" = some ⟨[.int], some (.array .byte)⟩ := by decide +kernel
theorem d43_16 : decode jdk_68_method_11_code 16 = .ok (.astore_n 1, 1) := by decide +kernel
theorem d43_17 : decode jdk_68_method_11_code 17 = .ok (.aload_n 0, 1) := by decide +kernel
theorem d43_18 : decode jdk_68_method_11_code 18 = .ok (.getfield 15, 3) := by decide +kernel
theorem d43_21 : decode jdk_68_method_11_code 21 = .ok (.iconst 0, 1) := by decide +kernel
theorem d43_22 : decode jdk_68_method_11_code 22 = .ok (.aload_n 1, 1) := by decide +kernel
theorem d43_23 : decode jdk_68_method_11_code 23 = .ok (.iconst 0, 1) := by decide +kernel
theorem d43_24 : decode jdk_68_method_11_code 24 = .ok (.aload_n 0, 1) := by decide +kernel
theorem d43_25 : decode jdk_68_method_11_code 25 = .ok (.getfield 79, 3) := by decide +kernel
theorem d43_28 : decode jdk_68_method_11_code 28 = .ok (.invokestatic 125, 3) := by decide +kernel
theorem d43_31 : decode jdk_68_method_11_code 31 = .ok (.aload_n 0, 1) := by decide +kernel
theorem d43_32 : decode jdk_68_method_11_code 32 = .ok (.aload_n 1, 1) := by decide +kernel
theorem d43_33 : decode jdk_68_method_11_code 33 = .ok (.putfield 15, 3) := by decide +kernel
theorem d43_36 : decode jdk_68_method_11_code 36 = .ok (.aload_n 0, 1) := by decide +kernel
theorem d43_37 : decode jdk_68_method_11_code 37 = .ok (.iconst 1, 1) := by decide +kernel
theorem d43_38 : decode jdk_68_method_11_code 38 = .ok (.putfield 22, 3) := by decide +kernel
theorem d43_41 : decode jdk_68_method_11_code 41 = .ok (.return_, 1) := by decide +kernel
theorem ef_inf (m : MethodId) (a1 : Addr) : entryFrame m #[(.ref a1)] 2 = mkF m 0 #[.val (.ref a1), .unset] [] := by first | (simp [entryFrame, mkF, argsToLocals, Value.category]; done) | rfl
def Q_inf (Z : State) (a1 : Addr) (v1_ : Addr) (k1 : ClassId) (n : Int32) (xs : List Int32) (cs : Int32) (fm : Value) (h0 : Heap) (n0 : Nat) (vr : Option Value) (h : Heap) (L : List Loc) : Prop := ∃ w : Addr, ∃ kw : ClassId, (vr = none) ∧ (Fr n0 L) ∧ (Keep h0 h [a1]) ∧ (h0.size ≤ w) ∧ (n0 ≤ w) ∧ (Exa Z h a1 "java/lang/StringBuilder") ∧ (Fld Z h a1 "java/lang/AbstractStringBuilder" "value" "[B" (.ref w)) ∧ (Fld Z h a1 "java/lang/AbstractStringBuilder" "maybeLatin1" "Z" (.int (0 : Int32))) ∧ (Fld Z h a1 "java/lang/AbstractStringBuilder" "count" "I" (.int n)) ∧ (Fld Z h a1 "java/lang/AbstractStringBuilder" "coder" "B" (.int (1 : Int32))) ∧ (Arv Z h w kw .byte (10 : Int32) (own_vl (own_u xs)) (.int (0 : Int32))) ∧ (Exa Z h w "[B")
set_option maxRecDepth 65536 in
set_option maxHeartbeats 40000000 in
theorem rminf (l : Launch) (Z : State) (a0 : Array Value) (hw : ∀ d ∈ tables_1, d.before a0 Z = true) (ws : List Jvm.Cond) (a1 : Addr) (v1_ : Addr) (k1 : ClassId) (n : Int32) (xs : List Int32) (cs : Int32) (fm : Value) (h0 : Heap) (n0 : Nat) (Z0 : n0 ≤ h0.size) (hF : FX Z h0 cs fm) (E_a1 : Exa Z h0 a1 "java/lang/StringBuilder") (Fv_a1 : Fld Z h0 a1 "java/lang/AbstractStringBuilder" "value" "[B" (.ref v1_)) (Fm_a1 : Fld Z h0 a1 "java/lang/AbstractStringBuilder" "maybeLatin1" "Z" (.int (0 : Int32))) (Fn_a1 : Fld Z h0 a1 "java/lang/AbstractStringBuilder" "count" "I" (.int n)) (Fc_a1 : Fld Z h0 a1 "java/lang/AbstractStringBuilder" "coder" "B" (.int (0 : Int32))) (V_v : Arv Z h0 v1_ k1 .byte (5 : Int32) (own_vl (own_lat xs)) (.int (0 : Int32))) (gn_a1 : n0 ≤ a1) (ne1v : ¬ (a1 = v1_)) (hx : ∀ x ∈ xs, own_ch x) (hy : ∀ x ∈ xs, ¬ ((255 : Int32) < x)) (hne : n = own_n xs) (hr4 : own_r4 (own_n xs)) (hl : xs.length ≤ 5) :
    MetFree l (⟨"java/lang/AbstractStringBuilder", "inflate", "()V"⟩ : MethodName) (head1 (Jvm.Cond.code (⟨"java/lang/AbstractStringBuilder", "inflate", "()V"⟩ : MethodName) jdk_68_method_11_code 2 none :: ws) ({ frames := 5, cells := 1, slots := 10, locals := 76 } : Room)) (fun a U => a = #[(.ref a1)] ∧ Z.Warmed39 U.vm ∧ U.heap = h0) (fun _ _ _ _ _ => True) (fun _ U o U' => ∃ v L, o = .returned v ∧ Q_inf Z a1 v1_ k1 n xs cs fm h0 n0 v U'.heap L ∧ FrameEnd U o U' L ({ frames := 5, cells := 1, slots := 10, locals := 76 } : Room).cells ({ frames := 5, cells := 1, slots := 10, locals := 76 } : Room).slots) := by
  refine met_of (Ls := #[.val (.ref a1), .unset]) (plainFor_of_name (by first | (simp [plainName, overriddenIn]; done) | decide +kernel)) (fun m => ef_inf m a1) ?_
  intro p e s m below meth c T0 C X0 e0
  obtain ⟨S_cs, hcs, S_fm, hfm, S_ad, S_hi, S_lo⟩ := id hF
  have N0 := Fr.nil n0
  have K0 : Keep h0 h0 [a1] := Keep.refl h0 _
  rcases own_shape hr4 hl with ⟨en0, s0⟩ | ⟨en0, s0⟩ | ⟨en0, s0⟩ | ⟨en0, s0⟩ | ⟨en0, s0⟩
  · obtain rfl : n = (0 : Int32) := hne.trans en0
    refine g_aloadN (pc' := 1) C X0 d43_0 rfl rfl rfl ?_
    refine g_callV (b := a1) (z := (⟨"java/lang/AbstractStringBuilder", "isLatin1", "()Z"⟩ : MethodName)) (y := (⟨"java/lang/AbstractStringBuilder", "isLatin1", "()Z"⟩ : MethodName)) (argsL := []) (st := []) (pc' := 4) C X0 d43_1 (wq hw 110 rfl) (wq hw 111 rfl) (notFace_of_selects (args := #[]) (mvT C.hZ (wq hw 113 rfl))) (wq hw 113 rfl) (wq hw 112 rfl) (wq hw 60 rfl) (wq hw 114 rfl) (by decide) (rmasl0 l Z a0 hw [] a1 cs fm h0 n0 hF Fc_a1) (W := 0) (by decide) (by decide) (ce := 0) (sl := 0) rfl rfl (by decide) (by decide) rfl E_a1 e0 rfl pd_6 rfl (Nat.le_refl _) rfl (fun rv1 T1 L1 X1 Q1 => ?_)
    obtain ⟨q1, Nq1, e1⟩ := Q1
    have N1 := Fr.app N0 Nq1
    rw [Fasl0_l0 ] at q1
    subst q1
    show Go p.tables e below _ (T1.setTop (mkF m 4 #[.val (.ref a1), .unset] [(.int (1 : Int32))]))
    refine g_ifY (pc' := 8) C X1 d43_4 (feq (show ¬ ((1 : Int32) = (0 : Int32)) from (by decide))).2 (by decide) (by decide) ?_
    refine g_aloadN (pc' := 9) C X1 d43_8 rfl rfl rfl ?_
    refine g_getF (pc' := 12) C X1 d43_9 (host := "") (Or.inl (wq hw 64 rfl)) Via.refl e1 Fv_a1 rfl (fun T2 X2 e2 => ?_)
    refine g_len (pc' := 13) C X2 d43_12 e2 V_v rfl ?_
    refine g_callS (y := (⟨"java/lang/StringUTF16", "newBytesFor", "(I)[B"⟩ : MethodName)) (argsL := [(.int (5 : Int32))]) (st := []) (pc' := 16) C X2 d43_13 (wq hw 208 rfl) (wq hw 178 rfl) (wq hw 23 rfl) (wq hw 179 rfl) (by decide) (rmnbf l Z a0 hw [] cs fm h0 n0 Z0 hF) (W := 0) (by decide) (by decide) (ce := 1) (sl := 10) rfl rfl (by decide) (by decide) rfl e2 rfl pd_14 rfl (Nat.le_refl _) rfl (fun rv3 T3 L3 X3 Q3 => ?_)
    obtain ⟨w3, kw3, q3, Nq3, Kq3, sz3_w, gn_w3, P3_0, P3_1⟩ := Q3
    have N3 := Fr.app N1 Nq3
    have ne3_4 : ¬ (a1 = w3) := Nat.ne_of_lt (Nat.lt_of_lt_of_le E_a1.lt sz3_w)
    have ne3_5 : ¬ (v1_ = w3) := Nat.ne_of_lt (Nat.lt_of_lt_of_le V_v.lt sz3_w)
    have FX_3 := FX_keep hF Kq3 (fun _ q => nomatch q)
    have E_a1_3 := E_a1.keep Kq3
    have Fv_a1_3 := Fv_a1.keep Kq3 nin0
    have Fm_a1_3 := Fm_a1.keep Kq3 nin0
    have Fn_a1_3 := Fn_a1.keep Kq3 nin0
    have Fc_a1_3 := Fc_a1.keep Kq3 nin0
    have V_v_3 := V_v.keep Kq3 nin0
    have Z3 := Nat.le_trans Z0 Kq3.1
    have sz_w3 := Nat.le_trans K0.1 sz3_w
    have K3 := K0.trans Kq3 all0
    subst q3
    show Go p.tables e below _ (T3.setTop (mkF m 16 #[.val (.ref a1), .unset] [(.ref w3)]))
    refine g_astoreN (pc' := 17) (Ls' := #[.val (.ref a1), .val (.ref w3)]) C X3 d43_16 rfl rfl rfl ?_
    refine g_aloadN (pc' := 18) C X3 d43_17 rfl rfl rfl ?_
    refine g_getF (pc' := 21) C X3 d43_18 (host := "") (Or.inl (wq hw 64 rfl)) Via.refl rfl Fv_a1_3 rfl (fun T6 X6 e6 => ?_)
    refine g_iconst (pc' := 22) (v := (0 : Int32)) C X6 d43_21 rfl rfl ?_
    refine g_aloadN (pc' := 23) C X6 d43_22 rfl rfl rfl ?_
    refine g_iconst (pc' := 24) (v := (0 : Int32)) C X6 d43_23 rfl rfl ?_
    refine g_aloadN (pc' := 25) C X6 d43_24 rfl rfl rfl ?_
    refine g_getF (pc' := 28) C X6 d43_25 (host := "") (Or.inl (wq hw 103 rfl)) Via.refl e6 Fn_a1_3 rfl (fun T7 X7 e7 => ?_)
    refine g_callS (y := (⟨"java/lang/StringLatin1", "inflate", "([BI[BII)V"⟩ : MethodName)) (argsL := [(.ref v1_), (.int (0 : Int32)), (.ref w3), (.int (0 : Int32)), (.int (0 : Int32))]) (st := []) (pc' := 31) C X7 d43_28 (wq hw 209 rfl) (wq hw 210 rfl) (wq hw 80 rfl) (wq hw 211 rfl) (by decide) (rmli0 l Z a0 hw [] v1_ w3 k1 (own_lat xs) kw3 cs fm T3.heap n0 Z3 FX_3 V_v_3 P3_0 gn_w3 ne3_5) (W := 0) (by decide) (by decide) (ce := 1) (sl := 10) rfl rfl (by decide) (by decide) rfl e7 rfl pd_12 rfl (Nat.le_refl _) rfl (fun rv8 T8 L8 X8 Q8 => ?_)
    obtain ⟨q8, Nq8, Kq8, P8_0⟩ := Q8
    have N8 := Fr.app N3 Nq8
    have FX_8 := FX_keep FX_3 Kq8 ((allS (by obtain ⟨c_, A_, _⟩ := P3_0; exact ⟨c_, A_.1, A_.plain⟩) all0))
    have E_a1_8 := E_a1_3.keep Kq8
    have Fv_a1_8 := Fv_a1_3.keep Kq8 (ninS ne3_4 nin0)
    have Fm_a1_8 := Fm_a1_3.keep Kq8 (ninS ne3_4 nin0)
    have Fn_a1_8 := Fn_a1_3.keep Kq8 (ninS ne3_4 nin0)
    have Fc_a1_8 := Fc_a1_3.keep Kq8 (ninS ne3_4 nin0)
    have V_v_8 := V_v_3.keep Kq8 (ninS ne3_5 nin0)
    have P3_1_8 := P3_1.keep Kq8
    have Z8 := Nat.le_trans Z3 Kq8.1
    have K8 := K3.trans Kq8 (allS (Or.inr sz_w3) all0)
    subst q8
    show Go p.tables e below _ (T8.setTop (mkF m 31 #[.val (.ref a1), .val (.ref w3)] []))
    refine g_aloadN (pc' := 32) C X8 d43_31 rfl rfl rfl ?_
    refine g_aloadN (pc' := 33) C X8 d43_32 rfl rfl rfl ?_
    refine g_putF (pc' := 36) C X8 d43_33 (host := "") (Or.inl (wq hw 64 rfl)) Via.refl rfl Fv_a1_8 E_a1_8 (Or.inl (wq hw 65 rfl)) (wq hw 41 rfl) (ty := (.array .byte)) (by decide) rfl rfl rfl (fun T9 h9 X9 e9 W9 => ?_)
    have F9 := Fv_a1_8.same W9
    have FX_9 := FX_wr FX_8 W9
    have E_a1_9 := E_a1_8.wr W9
    have Fm_a1_9 := Fm_a1_8.other W9 (Or.inr (slot_ne (Or.inl (wq hw 228 rfl)) (Or.inl (wq hw 65 rfl)) (by decide) (t := .boolean) (t' := (.array .byte)) (by decide) (by decide)))
    have Fn_a1_9 := Fn_a1_8.other W9 (Or.inr (slot_ne (Or.inl (wq hw 104 rfl)) (Or.inl (wq hw 65 rfl)) (by decide) (t := .int) (t' := (.array .byte)) (by decide) (by decide)))
    have Fc_a1_9 := Fc_a1_8.other W9 (Or.inr (slot_ne (Or.inl (wq hw 67 rfl)) (Or.inl (wq hw 65 rfl)) (by decide) (t := .byte) (t' := (.array .byte)) (by decide) (by decide)))
    have V_v_9 := V_v_8.other W9 (Ne.symm ne1v)
    have P3_1_9 := P3_1_8.wr W9
    have P8_0_9 := P8_0.other W9 (Ne.symm ne3_4)
    have Z9 := Nat.le_trans Z8 (Nat.le_of_eq W9.size.symm)
    have N9 := Fr.snoc X9 N8 gn_a1
    have K9 := K8.wr W9 (Or.inl (List.mem_of_getElem? (i := 0) rfl))
    refine g_aloadN (pc' := 37) C X9 d43_36 rfl rfl rfl ?_
    refine g_iconst (pc' := 38) (v := (1 : Int32)) C X9 d43_37 rfl rfl ?_
    refine g_putFN (pc' := 41) (v' := (.int (1 : Int32))) C X9 d43_38 (wq hw 66 rfl) Via.refl e9 Fc_a1_9 E_a1_9 (Or.inl (wq hw 67 rfl)) (wq hw 41 rfl) (ty := .byte) (by decide) rfl (by decide) rfl (fun T10 h10 X10 e10 W10 => ?_)
    have F10 := Fc_a1_9.same W10
    have FX_10 := FX_wr FX_9 W10
    have E_a1_10 := E_a1_9.wr W10
    have Fm_a1_10 := Fm_a1_9.other W10 (Or.inr (slot_ne (Or.inl (wq hw 228 rfl)) (Or.inl (wq hw 67 rfl)) (by decide) (t := .boolean) (t' := .byte) (by decide) (by decide)))
    have Fn_a1_10 := Fn_a1_9.other W10 (Or.inr (slot_ne (Or.inl (wq hw 104 rfl)) (Or.inl (wq hw 67 rfl)) (by decide) (t := .int) (t' := .byte) (by decide) (by decide)))
    have V_v_10 := V_v_9.other W10 (Ne.symm ne1v)
    have P3_1_10 := P3_1_9.wr W10
    have P8_0_10 := P8_0_9.other W10 (Ne.symm ne3_4)
    have F9_10 := F9.other W10 (Or.inr (slot_ne (Or.inl (wq hw 65 rfl)) (Or.inl (wq hw 67 rfl)) (by decide) (t := (.array .byte)) (t' := .byte) (by decide) (by decide)))
    have Z10 := Nat.le_trans Z9 (Nat.le_of_eq W10.size.symm)
    have N10 := Fr.snoc X10 N9 gn_a1
    have K10 := K9.wr W10 (Or.inl (List.mem_of_getElem? (i := 0) rfl))
    exact g_retV C X10 d43_41 (by decide) (by decide) ⟨w3, kw3, rfl, N10, (by rw [e10]; exact K10), sz_w3, gn_w3, (by rw [e10]; exact E_a1_10), (by rw [e10]; exact F9_10), (by rw [e10]; exact Fm_a1_10), (by rw [e10]; exact Fn_a1_10), (by rw [e10]; exact F10), (by rw [e10]; exact own_pw P8_0_10 (own_inf0 hx hy s0)), (by rw [e10]; exact P3_1_10)⟩
  · obtain rfl : n = (1 : Int32) := hne.trans en0
    refine g_aloadN (pc' := 1) C X0 d43_0 rfl rfl rfl ?_
    refine g_callV (b := a1) (z := (⟨"java/lang/AbstractStringBuilder", "isLatin1", "()Z"⟩ : MethodName)) (y := (⟨"java/lang/AbstractStringBuilder", "isLatin1", "()Z"⟩ : MethodName)) (argsL := []) (st := []) (pc' := 4) C X0 d43_1 (wq hw 110 rfl) (wq hw 111 rfl) (notFace_of_selects (args := #[]) (mvT C.hZ (wq hw 113 rfl))) (wq hw 113 rfl) (wq hw 112 rfl) (wq hw 60 rfl) (wq hw 114 rfl) (by decide) (rmasl0 l Z a0 hw [] a1 cs fm h0 n0 hF Fc_a1) (W := 0) (by decide) (by decide) (ce := 0) (sl := 0) rfl rfl (by decide) (by decide) rfl E_a1 e0 rfl pd_6 rfl (Nat.le_refl _) rfl (fun rv11 T11 L11 X11 Q11 => ?_)
    obtain ⟨q11, Nq11, e11⟩ := Q11
    have N11 := Fr.app N0 Nq11
    rw [Fasl0_l0 ] at q11
    subst q11
    show Go p.tables e below _ (T11.setTop (mkF m 4 #[.val (.ref a1), .unset] [(.int (1 : Int32))]))
    refine g_ifY (pc' := 8) C X11 d43_4 (feq (show ¬ ((1 : Int32) = (0 : Int32)) from (by decide))).2 (by decide) (by decide) ?_
    refine g_aloadN (pc' := 9) C X11 d43_8 rfl rfl rfl ?_
    refine g_getF (pc' := 12) C X11 d43_9 (host := "") (Or.inl (wq hw 64 rfl)) Via.refl e11 Fv_a1 rfl (fun T12 X12 e12 => ?_)
    refine g_len (pc' := 13) C X12 d43_12 e12 V_v rfl ?_
    refine g_callS (y := (⟨"java/lang/StringUTF16", "newBytesFor", "(I)[B"⟩ : MethodName)) (argsL := [(.int (5 : Int32))]) (st := []) (pc' := 16) C X12 d43_13 (wq hw 208 rfl) (wq hw 178 rfl) (wq hw 23 rfl) (wq hw 179 rfl) (by decide) (rmnbf l Z a0 hw [] cs fm h0 n0 Z0 hF) (W := 0) (by decide) (by decide) (ce := 1) (sl := 10) rfl rfl (by decide) (by decide) rfl e12 rfl pd_14 rfl (Nat.le_refl _) rfl (fun rv13 T13 L13 X13 Q13 => ?_)
    obtain ⟨w13, kw13, q13, Nq13, Kq13, sz13_w, gn_w13, P13_0, P13_1⟩ := Q13
    have N13 := Fr.app N11 Nq13
    have ne13_14 : ¬ (a1 = w13) := Nat.ne_of_lt (Nat.lt_of_lt_of_le E_a1.lt sz13_w)
    have ne13_15 : ¬ (v1_ = w13) := Nat.ne_of_lt (Nat.lt_of_lt_of_le V_v.lt sz13_w)
    have FX_13 := FX_keep hF Kq13 (fun _ q => nomatch q)
    have E_a1_13 := E_a1.keep Kq13
    have Fv_a1_13 := Fv_a1.keep Kq13 nin0
    have Fm_a1_13 := Fm_a1.keep Kq13 nin0
    have Fn_a1_13 := Fn_a1.keep Kq13 nin0
    have Fc_a1_13 := Fc_a1.keep Kq13 nin0
    have V_v_13 := V_v.keep Kq13 nin0
    have Z13 := Nat.le_trans Z0 Kq13.1
    have sz_w13 := Nat.le_trans K0.1 sz13_w
    have K13 := K0.trans Kq13 all0
    subst q13
    show Go p.tables e below _ (T13.setTop (mkF m 16 #[.val (.ref a1), .unset] [(.ref w13)]))
    refine g_astoreN (pc' := 17) (Ls' := #[.val (.ref a1), .val (.ref w13)]) C X13 d43_16 rfl rfl rfl ?_
    refine g_aloadN (pc' := 18) C X13 d43_17 rfl rfl rfl ?_
    refine g_getF (pc' := 21) C X13 d43_18 (host := "") (Or.inl (wq hw 64 rfl)) Via.refl rfl Fv_a1_13 rfl (fun T16 X16 e16 => ?_)
    refine g_iconst (pc' := 22) (v := (0 : Int32)) C X16 d43_21 rfl rfl ?_
    refine g_aloadN (pc' := 23) C X16 d43_22 rfl rfl rfl ?_
    refine g_iconst (pc' := 24) (v := (0 : Int32)) C X16 d43_23 rfl rfl ?_
    refine g_aloadN (pc' := 25) C X16 d43_24 rfl rfl rfl ?_
    refine g_getF (pc' := 28) C X16 d43_25 (host := "") (Or.inl (wq hw 103 rfl)) Via.refl e16 Fn_a1_13 rfl (fun T17 X17 e17 => ?_)
    refine g_callS (y := (⟨"java/lang/StringLatin1", "inflate", "([BI[BII)V"⟩ : MethodName)) (argsL := [(.ref v1_), (.int (0 : Int32)), (.ref w13), (.int (0 : Int32)), (.int (1 : Int32))]) (st := []) (pc' := 31) C X17 d43_28 (wq hw 209 rfl) (wq hw 210 rfl) (wq hw 80 rfl) (wq hw 211 rfl) (by decide) (rmli1 l Z a0 hw [] v1_ w13 k1 (own_lat xs) kw13 cs fm T13.heap n0 Z13 FX_13 V_v_13 P13_0 gn_w13 ne13_15) (W := 0) (by decide) (by decide) (ce := 1) (sl := 10) rfl rfl (by decide) (by decide) rfl e17 rfl pd_12 rfl (Nat.le_refl _) rfl (fun rv18 T18 L18 X18 Q18 => ?_)
    obtain ⟨q18, Nq18, Kq18, P18_0⟩ := Q18
    have N18 := Fr.app N13 Nq18
    have FX_18 := FX_keep FX_13 Kq18 ((allS (by obtain ⟨c_, A_, _⟩ := P13_0; exact ⟨c_, A_.1, A_.plain⟩) all0))
    have E_a1_18 := E_a1_13.keep Kq18
    have Fv_a1_18 := Fv_a1_13.keep Kq18 (ninS ne13_14 nin0)
    have Fm_a1_18 := Fm_a1_13.keep Kq18 (ninS ne13_14 nin0)
    have Fn_a1_18 := Fn_a1_13.keep Kq18 (ninS ne13_14 nin0)
    have Fc_a1_18 := Fc_a1_13.keep Kq18 (ninS ne13_14 nin0)
    have V_v_18 := V_v_13.keep Kq18 (ninS ne13_15 nin0)
    have P13_1_18 := P13_1.keep Kq18
    have Z18 := Nat.le_trans Z13 Kq18.1
    have K18 := K13.trans Kq18 (allS (Or.inr sz_w13) all0)
    subst q18
    show Go p.tables e below _ (T18.setTop (mkF m 31 #[.val (.ref a1), .val (.ref w13)] []))
    refine g_aloadN (pc' := 32) C X18 d43_31 rfl rfl rfl ?_
    refine g_aloadN (pc' := 33) C X18 d43_32 rfl rfl rfl ?_
    refine g_putF (pc' := 36) C X18 d43_33 (host := "") (Or.inl (wq hw 64 rfl)) Via.refl rfl Fv_a1_18 E_a1_18 (Or.inl (wq hw 65 rfl)) (wq hw 41 rfl) (ty := (.array .byte)) (by decide) rfl rfl rfl (fun T19 h19 X19 e19 W19 => ?_)
    have F19 := Fv_a1_18.same W19
    have FX_19 := FX_wr FX_18 W19
    have E_a1_19 := E_a1_18.wr W19
    have Fm_a1_19 := Fm_a1_18.other W19 (Or.inr (slot_ne (Or.inl (wq hw 228 rfl)) (Or.inl (wq hw 65 rfl)) (by decide) (t := .boolean) (t' := (.array .byte)) (by decide) (by decide)))
    have Fn_a1_19 := Fn_a1_18.other W19 (Or.inr (slot_ne (Or.inl (wq hw 104 rfl)) (Or.inl (wq hw 65 rfl)) (by decide) (t := .int) (t' := (.array .byte)) (by decide) (by decide)))
    have Fc_a1_19 := Fc_a1_18.other W19 (Or.inr (slot_ne (Or.inl (wq hw 67 rfl)) (Or.inl (wq hw 65 rfl)) (by decide) (t := .byte) (t' := (.array .byte)) (by decide) (by decide)))
    have V_v_19 := V_v_18.other W19 (Ne.symm ne1v)
    have P13_1_19 := P13_1_18.wr W19
    have P18_0_19 := P18_0.other W19 (Ne.symm ne13_14)
    have Z19 := Nat.le_trans Z18 (Nat.le_of_eq W19.size.symm)
    have N19 := Fr.snoc X19 N18 gn_a1
    have K19 := K18.wr W19 (Or.inl (List.mem_of_getElem? (i := 0) rfl))
    refine g_aloadN (pc' := 37) C X19 d43_36 rfl rfl rfl ?_
    refine g_iconst (pc' := 38) (v := (1 : Int32)) C X19 d43_37 rfl rfl ?_
    refine g_putFN (pc' := 41) (v' := (.int (1 : Int32))) C X19 d43_38 (wq hw 66 rfl) Via.refl e19 Fc_a1_19 E_a1_19 (Or.inl (wq hw 67 rfl)) (wq hw 41 rfl) (ty := .byte) (by decide) rfl (by decide) rfl (fun T20 h20 X20 e20 W20 => ?_)
    have F20 := Fc_a1_19.same W20
    have FX_20 := FX_wr FX_19 W20
    have E_a1_20 := E_a1_19.wr W20
    have Fm_a1_20 := Fm_a1_19.other W20 (Or.inr (slot_ne (Or.inl (wq hw 228 rfl)) (Or.inl (wq hw 67 rfl)) (by decide) (t := .boolean) (t' := .byte) (by decide) (by decide)))
    have Fn_a1_20 := Fn_a1_19.other W20 (Or.inr (slot_ne (Or.inl (wq hw 104 rfl)) (Or.inl (wq hw 67 rfl)) (by decide) (t := .int) (t' := .byte) (by decide) (by decide)))
    have V_v_20 := V_v_19.other W20 (Ne.symm ne1v)
    have P13_1_20 := P13_1_19.wr W20
    have P18_0_20 := P18_0_19.other W20 (Ne.symm ne13_14)
    have F19_20 := F19.other W20 (Or.inr (slot_ne (Or.inl (wq hw 65 rfl)) (Or.inl (wq hw 67 rfl)) (by decide) (t := (.array .byte)) (t' := .byte) (by decide) (by decide)))
    have Z20 := Nat.le_trans Z19 (Nat.le_of_eq W20.size.symm)
    have N20 := Fr.snoc X20 N19 gn_a1
    have K20 := K19.wr W20 (Or.inl (List.mem_of_getElem? (i := 0) rfl))
    exact g_retV C X20 d43_41 (by decide) (by decide) ⟨w13, kw13, rfl, N20, (by rw [e20]; exact K20), sz_w13, gn_w13, (by rw [e20]; exact E_a1_20), (by rw [e20]; exact F19_20), (by rw [e20]; exact Fm_a1_20), (by rw [e20]; exact Fn_a1_20), (by rw [e20]; exact F20), (by rw [e20]; exact own_pw P18_0_20 (own_inf1 hx hy s0)), (by rw [e20]; exact P13_1_20)⟩
  · obtain rfl : n = (2 : Int32) := hne.trans en0
    refine g_aloadN (pc' := 1) C X0 d43_0 rfl rfl rfl ?_
    refine g_callV (b := a1) (z := (⟨"java/lang/AbstractStringBuilder", "isLatin1", "()Z"⟩ : MethodName)) (y := (⟨"java/lang/AbstractStringBuilder", "isLatin1", "()Z"⟩ : MethodName)) (argsL := []) (st := []) (pc' := 4) C X0 d43_1 (wq hw 110 rfl) (wq hw 111 rfl) (notFace_of_selects (args := #[]) (mvT C.hZ (wq hw 113 rfl))) (wq hw 113 rfl) (wq hw 112 rfl) (wq hw 60 rfl) (wq hw 114 rfl) (by decide) (rmasl0 l Z a0 hw [] a1 cs fm h0 n0 hF Fc_a1) (W := 0) (by decide) (by decide) (ce := 0) (sl := 0) rfl rfl (by decide) (by decide) rfl E_a1 e0 rfl pd_6 rfl (Nat.le_refl _) rfl (fun rv21 T21 L21 X21 Q21 => ?_)
    obtain ⟨q21, Nq21, e21⟩ := Q21
    have N21 := Fr.app N0 Nq21
    rw [Fasl0_l0 ] at q21
    subst q21
    show Go p.tables e below _ (T21.setTop (mkF m 4 #[.val (.ref a1), .unset] [(.int (1 : Int32))]))
    refine g_ifY (pc' := 8) C X21 d43_4 (feq (show ¬ ((1 : Int32) = (0 : Int32)) from (by decide))).2 (by decide) (by decide) ?_
    refine g_aloadN (pc' := 9) C X21 d43_8 rfl rfl rfl ?_
    refine g_getF (pc' := 12) C X21 d43_9 (host := "") (Or.inl (wq hw 64 rfl)) Via.refl e21 Fv_a1 rfl (fun T22 X22 e22 => ?_)
    refine g_len (pc' := 13) C X22 d43_12 e22 V_v rfl ?_
    refine g_callS (y := (⟨"java/lang/StringUTF16", "newBytesFor", "(I)[B"⟩ : MethodName)) (argsL := [(.int (5 : Int32))]) (st := []) (pc' := 16) C X22 d43_13 (wq hw 208 rfl) (wq hw 178 rfl) (wq hw 23 rfl) (wq hw 179 rfl) (by decide) (rmnbf l Z a0 hw [] cs fm h0 n0 Z0 hF) (W := 0) (by decide) (by decide) (ce := 1) (sl := 10) rfl rfl (by decide) (by decide) rfl e22 rfl pd_14 rfl (Nat.le_refl _) rfl (fun rv23 T23 L23 X23 Q23 => ?_)
    obtain ⟨w23, kw23, q23, Nq23, Kq23, sz23_w, gn_w23, P23_0, P23_1⟩ := Q23
    have N23 := Fr.app N21 Nq23
    have ne23_24 : ¬ (a1 = w23) := Nat.ne_of_lt (Nat.lt_of_lt_of_le E_a1.lt sz23_w)
    have ne23_25 : ¬ (v1_ = w23) := Nat.ne_of_lt (Nat.lt_of_lt_of_le V_v.lt sz23_w)
    have FX_23 := FX_keep hF Kq23 (fun _ q => nomatch q)
    have E_a1_23 := E_a1.keep Kq23
    have Fv_a1_23 := Fv_a1.keep Kq23 nin0
    have Fm_a1_23 := Fm_a1.keep Kq23 nin0
    have Fn_a1_23 := Fn_a1.keep Kq23 nin0
    have Fc_a1_23 := Fc_a1.keep Kq23 nin0
    have V_v_23 := V_v.keep Kq23 nin0
    have Z23 := Nat.le_trans Z0 Kq23.1
    have sz_w23 := Nat.le_trans K0.1 sz23_w
    have K23 := K0.trans Kq23 all0
    subst q23
    show Go p.tables e below _ (T23.setTop (mkF m 16 #[.val (.ref a1), .unset] [(.ref w23)]))
    refine g_astoreN (pc' := 17) (Ls' := #[.val (.ref a1), .val (.ref w23)]) C X23 d43_16 rfl rfl rfl ?_
    refine g_aloadN (pc' := 18) C X23 d43_17 rfl rfl rfl ?_
    refine g_getF (pc' := 21) C X23 d43_18 (host := "") (Or.inl (wq hw 64 rfl)) Via.refl rfl Fv_a1_23 rfl (fun T26 X26 e26 => ?_)
    refine g_iconst (pc' := 22) (v := (0 : Int32)) C X26 d43_21 rfl rfl ?_
    refine g_aloadN (pc' := 23) C X26 d43_22 rfl rfl rfl ?_
    refine g_iconst (pc' := 24) (v := (0 : Int32)) C X26 d43_23 rfl rfl ?_
    refine g_aloadN (pc' := 25) C X26 d43_24 rfl rfl rfl ?_
    refine g_getF (pc' := 28) C X26 d43_25 (host := "") (Or.inl (wq hw 103 rfl)) Via.refl e26 Fn_a1_23 rfl (fun T27 X27 e27 => ?_)
    refine g_callS (y := (⟨"java/lang/StringLatin1", "inflate", "([BI[BII)V"⟩ : MethodName)) (argsL := [(.ref v1_), (.int (0 : Int32)), (.ref w23), (.int (0 : Int32)), (.int (2 : Int32))]) (st := []) (pc' := 31) C X27 d43_28 (wq hw 209 rfl) (wq hw 210 rfl) (wq hw 80 rfl) (wq hw 211 rfl) (by decide) (rmli2 l Z a0 hw [] v1_ w23 k1 (own_lat xs) kw23 cs fm T23.heap n0 Z23 FX_23 V_v_23 P23_0 gn_w23 ne23_25) (W := 0) (by decide) (by decide) (ce := 1) (sl := 10) rfl rfl (by decide) (by decide) rfl e27 rfl pd_12 rfl (Nat.le_refl _) rfl (fun rv28 T28 L28 X28 Q28 => ?_)
    obtain ⟨q28, Nq28, Kq28, P28_0⟩ := Q28
    have N28 := Fr.app N23 Nq28
    have FX_28 := FX_keep FX_23 Kq28 ((allS (by obtain ⟨c_, A_, _⟩ := P23_0; exact ⟨c_, A_.1, A_.plain⟩) all0))
    have E_a1_28 := E_a1_23.keep Kq28
    have Fv_a1_28 := Fv_a1_23.keep Kq28 (ninS ne23_24 nin0)
    have Fm_a1_28 := Fm_a1_23.keep Kq28 (ninS ne23_24 nin0)
    have Fn_a1_28 := Fn_a1_23.keep Kq28 (ninS ne23_24 nin0)
    have Fc_a1_28 := Fc_a1_23.keep Kq28 (ninS ne23_24 nin0)
    have V_v_28 := V_v_23.keep Kq28 (ninS ne23_25 nin0)
    have P23_1_28 := P23_1.keep Kq28
    have Z28 := Nat.le_trans Z23 Kq28.1
    have K28 := K23.trans Kq28 (allS (Or.inr sz_w23) all0)
    subst q28
    show Go p.tables e below _ (T28.setTop (mkF m 31 #[.val (.ref a1), .val (.ref w23)] []))
    refine g_aloadN (pc' := 32) C X28 d43_31 rfl rfl rfl ?_
    refine g_aloadN (pc' := 33) C X28 d43_32 rfl rfl rfl ?_
    refine g_putF (pc' := 36) C X28 d43_33 (host := "") (Or.inl (wq hw 64 rfl)) Via.refl rfl Fv_a1_28 E_a1_28 (Or.inl (wq hw 65 rfl)) (wq hw 41 rfl) (ty := (.array .byte)) (by decide) rfl rfl rfl (fun T29 h29 X29 e29 W29 => ?_)
    have F29 := Fv_a1_28.same W29
    have FX_29 := FX_wr FX_28 W29
    have E_a1_29 := E_a1_28.wr W29
    have Fm_a1_29 := Fm_a1_28.other W29 (Or.inr (slot_ne (Or.inl (wq hw 228 rfl)) (Or.inl (wq hw 65 rfl)) (by decide) (t := .boolean) (t' := (.array .byte)) (by decide) (by decide)))
    have Fn_a1_29 := Fn_a1_28.other W29 (Or.inr (slot_ne (Or.inl (wq hw 104 rfl)) (Or.inl (wq hw 65 rfl)) (by decide) (t := .int) (t' := (.array .byte)) (by decide) (by decide)))
    have Fc_a1_29 := Fc_a1_28.other W29 (Or.inr (slot_ne (Or.inl (wq hw 67 rfl)) (Or.inl (wq hw 65 rfl)) (by decide) (t := .byte) (t' := (.array .byte)) (by decide) (by decide)))
    have V_v_29 := V_v_28.other W29 (Ne.symm ne1v)
    have P23_1_29 := P23_1_28.wr W29
    have P28_0_29 := P28_0.other W29 (Ne.symm ne23_24)
    have Z29 := Nat.le_trans Z28 (Nat.le_of_eq W29.size.symm)
    have N29 := Fr.snoc X29 N28 gn_a1
    have K29 := K28.wr W29 (Or.inl (List.mem_of_getElem? (i := 0) rfl))
    refine g_aloadN (pc' := 37) C X29 d43_36 rfl rfl rfl ?_
    refine g_iconst (pc' := 38) (v := (1 : Int32)) C X29 d43_37 rfl rfl ?_
    refine g_putFN (pc' := 41) (v' := (.int (1 : Int32))) C X29 d43_38 (wq hw 66 rfl) Via.refl e29 Fc_a1_29 E_a1_29 (Or.inl (wq hw 67 rfl)) (wq hw 41 rfl) (ty := .byte) (by decide) rfl (by decide) rfl (fun T30 h30 X30 e30 W30 => ?_)
    have F30 := Fc_a1_29.same W30
    have FX_30 := FX_wr FX_29 W30
    have E_a1_30 := E_a1_29.wr W30
    have Fm_a1_30 := Fm_a1_29.other W30 (Or.inr (slot_ne (Or.inl (wq hw 228 rfl)) (Or.inl (wq hw 67 rfl)) (by decide) (t := .boolean) (t' := .byte) (by decide) (by decide)))
    have Fn_a1_30 := Fn_a1_29.other W30 (Or.inr (slot_ne (Or.inl (wq hw 104 rfl)) (Or.inl (wq hw 67 rfl)) (by decide) (t := .int) (t' := .byte) (by decide) (by decide)))
    have V_v_30 := V_v_29.other W30 (Ne.symm ne1v)
    have P23_1_30 := P23_1_29.wr W30
    have P28_0_30 := P28_0_29.other W30 (Ne.symm ne23_24)
    have F29_30 := F29.other W30 (Or.inr (slot_ne (Or.inl (wq hw 65 rfl)) (Or.inl (wq hw 67 rfl)) (by decide) (t := (.array .byte)) (t' := .byte) (by decide) (by decide)))
    have Z30 := Nat.le_trans Z29 (Nat.le_of_eq W30.size.symm)
    have N30 := Fr.snoc X30 N29 gn_a1
    have K30 := K29.wr W30 (Or.inl (List.mem_of_getElem? (i := 0) rfl))
    exact g_retV C X30 d43_41 (by decide) (by decide) ⟨w23, kw23, rfl, N30, (by rw [e30]; exact K30), sz_w23, gn_w23, (by rw [e30]; exact E_a1_30), (by rw [e30]; exact F29_30), (by rw [e30]; exact Fm_a1_30), (by rw [e30]; exact Fn_a1_30), (by rw [e30]; exact F30), (by rw [e30]; exact own_pw P28_0_30 (own_inf2 hx hy s0)), (by rw [e30]; exact P23_1_30)⟩
  · obtain rfl : n = (3 : Int32) := hne.trans en0
    refine g_aloadN (pc' := 1) C X0 d43_0 rfl rfl rfl ?_
    refine g_callV (b := a1) (z := (⟨"java/lang/AbstractStringBuilder", "isLatin1", "()Z"⟩ : MethodName)) (y := (⟨"java/lang/AbstractStringBuilder", "isLatin1", "()Z"⟩ : MethodName)) (argsL := []) (st := []) (pc' := 4) C X0 d43_1 (wq hw 110 rfl) (wq hw 111 rfl) (notFace_of_selects (args := #[]) (mvT C.hZ (wq hw 113 rfl))) (wq hw 113 rfl) (wq hw 112 rfl) (wq hw 60 rfl) (wq hw 114 rfl) (by decide) (rmasl0 l Z a0 hw [] a1 cs fm h0 n0 hF Fc_a1) (W := 0) (by decide) (by decide) (ce := 0) (sl := 0) rfl rfl (by decide) (by decide) rfl E_a1 e0 rfl pd_6 rfl (Nat.le_refl _) rfl (fun rv31 T31 L31 X31 Q31 => ?_)
    obtain ⟨q31, Nq31, e31⟩ := Q31
    have N31 := Fr.app N0 Nq31
    rw [Fasl0_l0 ] at q31
    subst q31
    show Go p.tables e below _ (T31.setTop (mkF m 4 #[.val (.ref a1), .unset] [(.int (1 : Int32))]))
    refine g_ifY (pc' := 8) C X31 d43_4 (feq (show ¬ ((1 : Int32) = (0 : Int32)) from (by decide))).2 (by decide) (by decide) ?_
    refine g_aloadN (pc' := 9) C X31 d43_8 rfl rfl rfl ?_
    refine g_getF (pc' := 12) C X31 d43_9 (host := "") (Or.inl (wq hw 64 rfl)) Via.refl e31 Fv_a1 rfl (fun T32 X32 e32 => ?_)
    refine g_len (pc' := 13) C X32 d43_12 e32 V_v rfl ?_
    refine g_callS (y := (⟨"java/lang/StringUTF16", "newBytesFor", "(I)[B"⟩ : MethodName)) (argsL := [(.int (5 : Int32))]) (st := []) (pc' := 16) C X32 d43_13 (wq hw 208 rfl) (wq hw 178 rfl) (wq hw 23 rfl) (wq hw 179 rfl) (by decide) (rmnbf l Z a0 hw [] cs fm h0 n0 Z0 hF) (W := 0) (by decide) (by decide) (ce := 1) (sl := 10) rfl rfl (by decide) (by decide) rfl e32 rfl pd_14 rfl (Nat.le_refl _) rfl (fun rv33 T33 L33 X33 Q33 => ?_)
    obtain ⟨w33, kw33, q33, Nq33, Kq33, sz33_w, gn_w33, P33_0, P33_1⟩ := Q33
    have N33 := Fr.app N31 Nq33
    have ne33_34 : ¬ (a1 = w33) := Nat.ne_of_lt (Nat.lt_of_lt_of_le E_a1.lt sz33_w)
    have ne33_35 : ¬ (v1_ = w33) := Nat.ne_of_lt (Nat.lt_of_lt_of_le V_v.lt sz33_w)
    have FX_33 := FX_keep hF Kq33 (fun _ q => nomatch q)
    have E_a1_33 := E_a1.keep Kq33
    have Fv_a1_33 := Fv_a1.keep Kq33 nin0
    have Fm_a1_33 := Fm_a1.keep Kq33 nin0
    have Fn_a1_33 := Fn_a1.keep Kq33 nin0
    have Fc_a1_33 := Fc_a1.keep Kq33 nin0
    have V_v_33 := V_v.keep Kq33 nin0
    have Z33 := Nat.le_trans Z0 Kq33.1
    have sz_w33 := Nat.le_trans K0.1 sz33_w
    have K33 := K0.trans Kq33 all0
    subst q33
    show Go p.tables e below _ (T33.setTop (mkF m 16 #[.val (.ref a1), .unset] [(.ref w33)]))
    refine g_astoreN (pc' := 17) (Ls' := #[.val (.ref a1), .val (.ref w33)]) C X33 d43_16 rfl rfl rfl ?_
    refine g_aloadN (pc' := 18) C X33 d43_17 rfl rfl rfl ?_
    refine g_getF (pc' := 21) C X33 d43_18 (host := "") (Or.inl (wq hw 64 rfl)) Via.refl rfl Fv_a1_33 rfl (fun T36 X36 e36 => ?_)
    refine g_iconst (pc' := 22) (v := (0 : Int32)) C X36 d43_21 rfl rfl ?_
    refine g_aloadN (pc' := 23) C X36 d43_22 rfl rfl rfl ?_
    refine g_iconst (pc' := 24) (v := (0 : Int32)) C X36 d43_23 rfl rfl ?_
    refine g_aloadN (pc' := 25) C X36 d43_24 rfl rfl rfl ?_
    refine g_getF (pc' := 28) C X36 d43_25 (host := "") (Or.inl (wq hw 103 rfl)) Via.refl e36 Fn_a1_33 rfl (fun T37 X37 e37 => ?_)
    refine g_callS (y := (⟨"java/lang/StringLatin1", "inflate", "([BI[BII)V"⟩ : MethodName)) (argsL := [(.ref v1_), (.int (0 : Int32)), (.ref w33), (.int (0 : Int32)), (.int (3 : Int32))]) (st := []) (pc' := 31) C X37 d43_28 (wq hw 209 rfl) (wq hw 210 rfl) (wq hw 80 rfl) (wq hw 211 rfl) (by decide) (rmli3 l Z a0 hw [] v1_ w33 k1 (own_lat xs) kw33 cs fm T33.heap n0 Z33 FX_33 V_v_33 P33_0 gn_w33 ne33_35) (W := 0) (by decide) (by decide) (ce := 1) (sl := 10) rfl rfl (by decide) (by decide) rfl e37 rfl pd_12 rfl (Nat.le_refl _) rfl (fun rv38 T38 L38 X38 Q38 => ?_)
    obtain ⟨q38, Nq38, Kq38, P38_0⟩ := Q38
    have N38 := Fr.app N33 Nq38
    have FX_38 := FX_keep FX_33 Kq38 ((allS (by obtain ⟨c_, A_, _⟩ := P33_0; exact ⟨c_, A_.1, A_.plain⟩) all0))
    have E_a1_38 := E_a1_33.keep Kq38
    have Fv_a1_38 := Fv_a1_33.keep Kq38 (ninS ne33_34 nin0)
    have Fm_a1_38 := Fm_a1_33.keep Kq38 (ninS ne33_34 nin0)
    have Fn_a1_38 := Fn_a1_33.keep Kq38 (ninS ne33_34 nin0)
    have Fc_a1_38 := Fc_a1_33.keep Kq38 (ninS ne33_34 nin0)
    have V_v_38 := V_v_33.keep Kq38 (ninS ne33_35 nin0)
    have P33_1_38 := P33_1.keep Kq38
    have Z38 := Nat.le_trans Z33 Kq38.1
    have K38 := K33.trans Kq38 (allS (Or.inr sz_w33) all0)
    subst q38
    show Go p.tables e below _ (T38.setTop (mkF m 31 #[.val (.ref a1), .val (.ref w33)] []))
    refine g_aloadN (pc' := 32) C X38 d43_31 rfl rfl rfl ?_
    refine g_aloadN (pc' := 33) C X38 d43_32 rfl rfl rfl ?_
    refine g_putF (pc' := 36) C X38 d43_33 (host := "") (Or.inl (wq hw 64 rfl)) Via.refl rfl Fv_a1_38 E_a1_38 (Or.inl (wq hw 65 rfl)) (wq hw 41 rfl) (ty := (.array .byte)) (by decide) rfl rfl rfl (fun T39 h39 X39 e39 W39 => ?_)
    have F39 := Fv_a1_38.same W39
    have FX_39 := FX_wr FX_38 W39
    have E_a1_39 := E_a1_38.wr W39
    have Fm_a1_39 := Fm_a1_38.other W39 (Or.inr (slot_ne (Or.inl (wq hw 228 rfl)) (Or.inl (wq hw 65 rfl)) (by decide) (t := .boolean) (t' := (.array .byte)) (by decide) (by decide)))
    have Fn_a1_39 := Fn_a1_38.other W39 (Or.inr (slot_ne (Or.inl (wq hw 104 rfl)) (Or.inl (wq hw 65 rfl)) (by decide) (t := .int) (t' := (.array .byte)) (by decide) (by decide)))
    have Fc_a1_39 := Fc_a1_38.other W39 (Or.inr (slot_ne (Or.inl (wq hw 67 rfl)) (Or.inl (wq hw 65 rfl)) (by decide) (t := .byte) (t' := (.array .byte)) (by decide) (by decide)))
    have V_v_39 := V_v_38.other W39 (Ne.symm ne1v)
    have P33_1_39 := P33_1_38.wr W39
    have P38_0_39 := P38_0.other W39 (Ne.symm ne33_34)
    have Z39 := Nat.le_trans Z38 (Nat.le_of_eq W39.size.symm)
    have N39 := Fr.snoc X39 N38 gn_a1
    have K39 := K38.wr W39 (Or.inl (List.mem_of_getElem? (i := 0) rfl))
    refine g_aloadN (pc' := 37) C X39 d43_36 rfl rfl rfl ?_
    refine g_iconst (pc' := 38) (v := (1 : Int32)) C X39 d43_37 rfl rfl ?_
    refine g_putFN (pc' := 41) (v' := (.int (1 : Int32))) C X39 d43_38 (wq hw 66 rfl) Via.refl e39 Fc_a1_39 E_a1_39 (Or.inl (wq hw 67 rfl)) (wq hw 41 rfl) (ty := .byte) (by decide) rfl (by decide) rfl (fun T40 h40 X40 e40 W40 => ?_)
    have F40 := Fc_a1_39.same W40
    have FX_40 := FX_wr FX_39 W40
    have E_a1_40 := E_a1_39.wr W40
    have Fm_a1_40 := Fm_a1_39.other W40 (Or.inr (slot_ne (Or.inl (wq hw 228 rfl)) (Or.inl (wq hw 67 rfl)) (by decide) (t := .boolean) (t' := .byte) (by decide) (by decide)))
    have Fn_a1_40 := Fn_a1_39.other W40 (Or.inr (slot_ne (Or.inl (wq hw 104 rfl)) (Or.inl (wq hw 67 rfl)) (by decide) (t := .int) (t' := .byte) (by decide) (by decide)))
    have V_v_40 := V_v_39.other W40 (Ne.symm ne1v)
    have P33_1_40 := P33_1_39.wr W40
    have P38_0_40 := P38_0_39.other W40 (Ne.symm ne33_34)
    have F39_40 := F39.other W40 (Or.inr (slot_ne (Or.inl (wq hw 65 rfl)) (Or.inl (wq hw 67 rfl)) (by decide) (t := (.array .byte)) (t' := .byte) (by decide) (by decide)))
    have Z40 := Nat.le_trans Z39 (Nat.le_of_eq W40.size.symm)
    have N40 := Fr.snoc X40 N39 gn_a1
    have K40 := K39.wr W40 (Or.inl (List.mem_of_getElem? (i := 0) rfl))
    exact g_retV C X40 d43_41 (by decide) (by decide) ⟨w33, kw33, rfl, N40, (by rw [e40]; exact K40), sz_w33, gn_w33, (by rw [e40]; exact E_a1_40), (by rw [e40]; exact F39_40), (by rw [e40]; exact Fm_a1_40), (by rw [e40]; exact Fn_a1_40), (by rw [e40]; exact F40), (by rw [e40]; exact own_pw P38_0_40 (own_inf3 hx hy s0)), (by rw [e40]; exact P33_1_40)⟩
  · obtain rfl : n = (4 : Int32) := hne.trans en0
    refine g_aloadN (pc' := 1) C X0 d43_0 rfl rfl rfl ?_
    refine g_callV (b := a1) (z := (⟨"java/lang/AbstractStringBuilder", "isLatin1", "()Z"⟩ : MethodName)) (y := (⟨"java/lang/AbstractStringBuilder", "isLatin1", "()Z"⟩ : MethodName)) (argsL := []) (st := []) (pc' := 4) C X0 d43_1 (wq hw 110 rfl) (wq hw 111 rfl) (notFace_of_selects (args := #[]) (mvT C.hZ (wq hw 113 rfl))) (wq hw 113 rfl) (wq hw 112 rfl) (wq hw 60 rfl) (wq hw 114 rfl) (by decide) (rmasl0 l Z a0 hw [] a1 cs fm h0 n0 hF Fc_a1) (W := 0) (by decide) (by decide) (ce := 0) (sl := 0) rfl rfl (by decide) (by decide) rfl E_a1 e0 rfl pd_6 rfl (Nat.le_refl _) rfl (fun rv41 T41 L41 X41 Q41 => ?_)
    obtain ⟨q41, Nq41, e41⟩ := Q41
    have N41 := Fr.app N0 Nq41
    rw [Fasl0_l0 ] at q41
    subst q41
    show Go p.tables e below _ (T41.setTop (mkF m 4 #[.val (.ref a1), .unset] [(.int (1 : Int32))]))
    refine g_ifY (pc' := 8) C X41 d43_4 (feq (show ¬ ((1 : Int32) = (0 : Int32)) from (by decide))).2 (by decide) (by decide) ?_
    refine g_aloadN (pc' := 9) C X41 d43_8 rfl rfl rfl ?_
    refine g_getF (pc' := 12) C X41 d43_9 (host := "") (Or.inl (wq hw 64 rfl)) Via.refl e41 Fv_a1 rfl (fun T42 X42 e42 => ?_)
    refine g_len (pc' := 13) C X42 d43_12 e42 V_v rfl ?_
    refine g_callS (y := (⟨"java/lang/StringUTF16", "newBytesFor", "(I)[B"⟩ : MethodName)) (argsL := [(.int (5 : Int32))]) (st := []) (pc' := 16) C X42 d43_13 (wq hw 208 rfl) (wq hw 178 rfl) (wq hw 23 rfl) (wq hw 179 rfl) (by decide) (rmnbf l Z a0 hw [] cs fm h0 n0 Z0 hF) (W := 0) (by decide) (by decide) (ce := 1) (sl := 10) rfl rfl (by decide) (by decide) rfl e42 rfl pd_14 rfl (Nat.le_refl _) rfl (fun rv43 T43 L43 X43 Q43 => ?_)
    obtain ⟨w43, kw43, q43, Nq43, Kq43, sz43_w, gn_w43, P43_0, P43_1⟩ := Q43
    have N43 := Fr.app N41 Nq43
    have ne43_44 : ¬ (a1 = w43) := Nat.ne_of_lt (Nat.lt_of_lt_of_le E_a1.lt sz43_w)
    have ne43_45 : ¬ (v1_ = w43) := Nat.ne_of_lt (Nat.lt_of_lt_of_le V_v.lt sz43_w)
    have FX_43 := FX_keep hF Kq43 (fun _ q => nomatch q)
    have E_a1_43 := E_a1.keep Kq43
    have Fv_a1_43 := Fv_a1.keep Kq43 nin0
    have Fm_a1_43 := Fm_a1.keep Kq43 nin0
    have Fn_a1_43 := Fn_a1.keep Kq43 nin0
    have Fc_a1_43 := Fc_a1.keep Kq43 nin0
    have V_v_43 := V_v.keep Kq43 nin0
    have Z43 := Nat.le_trans Z0 Kq43.1
    have sz_w43 := Nat.le_trans K0.1 sz43_w
    have K43 := K0.trans Kq43 all0
    subst q43
    show Go p.tables e below _ (T43.setTop (mkF m 16 #[.val (.ref a1), .unset] [(.ref w43)]))
    refine g_astoreN (pc' := 17) (Ls' := #[.val (.ref a1), .val (.ref w43)]) C X43 d43_16 rfl rfl rfl ?_
    refine g_aloadN (pc' := 18) C X43 d43_17 rfl rfl rfl ?_
    refine g_getF (pc' := 21) C X43 d43_18 (host := "") (Or.inl (wq hw 64 rfl)) Via.refl rfl Fv_a1_43 rfl (fun T46 X46 e46 => ?_)
    refine g_iconst (pc' := 22) (v := (0 : Int32)) C X46 d43_21 rfl rfl ?_
    refine g_aloadN (pc' := 23) C X46 d43_22 rfl rfl rfl ?_
    refine g_iconst (pc' := 24) (v := (0 : Int32)) C X46 d43_23 rfl rfl ?_
    refine g_aloadN (pc' := 25) C X46 d43_24 rfl rfl rfl ?_
    refine g_getF (pc' := 28) C X46 d43_25 (host := "") (Or.inl (wq hw 103 rfl)) Via.refl e46 Fn_a1_43 rfl (fun T47 X47 e47 => ?_)
    refine g_callS (y := (⟨"java/lang/StringLatin1", "inflate", "([BI[BII)V"⟩ : MethodName)) (argsL := [(.ref v1_), (.int (0 : Int32)), (.ref w43), (.int (0 : Int32)), (.int (4 : Int32))]) (st := []) (pc' := 31) C X47 d43_28 (wq hw 209 rfl) (wq hw 210 rfl) (wq hw 80 rfl) (wq hw 211 rfl) (by decide) (rmli4 l Z a0 hw [] v1_ w43 k1 (own_lat xs) kw43 cs fm T43.heap n0 Z43 FX_43 V_v_43 P43_0 gn_w43 ne43_45) (W := 0) (by decide) (by decide) (ce := 1) (sl := 10) rfl rfl (by decide) (by decide) rfl e47 rfl pd_12 rfl (Nat.le_refl _) rfl (fun rv48 T48 L48 X48 Q48 => ?_)
    obtain ⟨q48, Nq48, Kq48, P48_0⟩ := Q48
    have N48 := Fr.app N43 Nq48
    have FX_48 := FX_keep FX_43 Kq48 ((allS (by obtain ⟨c_, A_, _⟩ := P43_0; exact ⟨c_, A_.1, A_.plain⟩) all0))
    have E_a1_48 := E_a1_43.keep Kq48
    have Fv_a1_48 := Fv_a1_43.keep Kq48 (ninS ne43_44 nin0)
    have Fm_a1_48 := Fm_a1_43.keep Kq48 (ninS ne43_44 nin0)
    have Fn_a1_48 := Fn_a1_43.keep Kq48 (ninS ne43_44 nin0)
    have Fc_a1_48 := Fc_a1_43.keep Kq48 (ninS ne43_44 nin0)
    have V_v_48 := V_v_43.keep Kq48 (ninS ne43_45 nin0)
    have P43_1_48 := P43_1.keep Kq48
    have Z48 := Nat.le_trans Z43 Kq48.1
    have K48 := K43.trans Kq48 (allS (Or.inr sz_w43) all0)
    subst q48
    show Go p.tables e below _ (T48.setTop (mkF m 31 #[.val (.ref a1), .val (.ref w43)] []))
    refine g_aloadN (pc' := 32) C X48 d43_31 rfl rfl rfl ?_
    refine g_aloadN (pc' := 33) C X48 d43_32 rfl rfl rfl ?_
    refine g_putF (pc' := 36) C X48 d43_33 (host := "") (Or.inl (wq hw 64 rfl)) Via.refl rfl Fv_a1_48 E_a1_48 (Or.inl (wq hw 65 rfl)) (wq hw 41 rfl) (ty := (.array .byte)) (by decide) rfl rfl rfl (fun T49 h49 X49 e49 W49 => ?_)
    have F49 := Fv_a1_48.same W49
    have FX_49 := FX_wr FX_48 W49
    have E_a1_49 := E_a1_48.wr W49
    have Fm_a1_49 := Fm_a1_48.other W49 (Or.inr (slot_ne (Or.inl (wq hw 228 rfl)) (Or.inl (wq hw 65 rfl)) (by decide) (t := .boolean) (t' := (.array .byte)) (by decide) (by decide)))
    have Fn_a1_49 := Fn_a1_48.other W49 (Or.inr (slot_ne (Or.inl (wq hw 104 rfl)) (Or.inl (wq hw 65 rfl)) (by decide) (t := .int) (t' := (.array .byte)) (by decide) (by decide)))
    have Fc_a1_49 := Fc_a1_48.other W49 (Or.inr (slot_ne (Or.inl (wq hw 67 rfl)) (Or.inl (wq hw 65 rfl)) (by decide) (t := .byte) (t' := (.array .byte)) (by decide) (by decide)))
    have V_v_49 := V_v_48.other W49 (Ne.symm ne1v)
    have P43_1_49 := P43_1_48.wr W49
    have P48_0_49 := P48_0.other W49 (Ne.symm ne43_44)
    have Z49 := Nat.le_trans Z48 (Nat.le_of_eq W49.size.symm)
    have N49 := Fr.snoc X49 N48 gn_a1
    have K49 := K48.wr W49 (Or.inl (List.mem_of_getElem? (i := 0) rfl))
    refine g_aloadN (pc' := 37) C X49 d43_36 rfl rfl rfl ?_
    refine g_iconst (pc' := 38) (v := (1 : Int32)) C X49 d43_37 rfl rfl ?_
    refine g_putFN (pc' := 41) (v' := (.int (1 : Int32))) C X49 d43_38 (wq hw 66 rfl) Via.refl e49 Fc_a1_49 E_a1_49 (Or.inl (wq hw 67 rfl)) (wq hw 41 rfl) (ty := .byte) (by decide) rfl (by decide) rfl (fun T50 h50 X50 e50 W50 => ?_)
    have F50 := Fc_a1_49.same W50
    have FX_50 := FX_wr FX_49 W50
    have E_a1_50 := E_a1_49.wr W50
    have Fm_a1_50 := Fm_a1_49.other W50 (Or.inr (slot_ne (Or.inl (wq hw 228 rfl)) (Or.inl (wq hw 67 rfl)) (by decide) (t := .boolean) (t' := .byte) (by decide) (by decide)))
    have Fn_a1_50 := Fn_a1_49.other W50 (Or.inr (slot_ne (Or.inl (wq hw 104 rfl)) (Or.inl (wq hw 67 rfl)) (by decide) (t := .int) (t' := .byte) (by decide) (by decide)))
    have V_v_50 := V_v_49.other W50 (Ne.symm ne1v)
    have P43_1_50 := P43_1_49.wr W50
    have P48_0_50 := P48_0_49.other W50 (Ne.symm ne43_44)
    have F49_50 := F49.other W50 (Or.inr (slot_ne (Or.inl (wq hw 65 rfl)) (Or.inl (wq hw 67 rfl)) (by decide) (t := (.array .byte)) (t' := .byte) (by decide) (by decide)))
    have Z50 := Nat.le_trans Z49 (Nat.le_of_eq W50.size.symm)
    have N50 := Fr.snoc X50 N49 gn_a1
    have K50 := K49.wr W50 (Or.inl (List.mem_of_getElem? (i := 0) rfl))
    exact g_retV C X50 d43_41 (by decide) (by decide) ⟨w43, kw43, rfl, N50, (by rw [e50]; exact K50), sz_w43, gn_w43, (by rw [e50]; exact E_a1_50), (by rw [e50]; exact F49_50), (by rw [e50]; exact Fm_a1_50), (by rw [e50]; exact Fn_a1_50), (by rw [e50]; exact F50), (by rw [e50]; exact own_pw P48_0_50 (own_inf4 hx hy s0)), (by rw [e50]; exact P43_1_50)⟩
theorem d49_0 : decode jdk_52_method_71_code 0 = .ok (.iload_n 1, 1) := by decide +kernel
theorem d49_1 : decode jdk_52_method_71_code 1 = .ok (.aload_n 0, 1) := by decide +kernel
theorem d49_2 : decode jdk_52_method_71_code 2 = .ok (.invokestatic 67, 3) := by decide +kernel
theorem d49_5 : decode jdk_52_method_71_code 5 = .ok (.aload_n 0, 1) := by decide +kernel
theorem d49_6 : decode jdk_52_method_71_code 6 = .ok (.iload_n 1, 1) := by decide +kernel
theorem d49_7 : decode jdk_52_method_71_code 7 = .ok (.iload_n 2, 1) := by decide +kernel
theorem d49_8 : decode jdk_52_method_71_code 8 = .ok (.invokestatic 111, 3) := by decide +kernel
theorem d49_11 : decode jdk_52_method_71_code 11 = .ok (.return_, 1) := by decide +kernel
theorem ef_usb (m : MethodId) (a1 : Addr) (p2 : Int32) (p3 : Int32) : entryFrame m #[(.ref a1), (.int p2), (.int p3)] 3 = mkF m 0 #[.val (.ref a1), .val (.int p2), .val (.int p3)] [] := by first | (simp [entryFrame, mkF, argsToLocals, Value.category]; done) | rfl
def Q_usb (Z : State) (a1 : Addr) (p2 : Int32) (p3 : Int32) (k1 : ClassId) (z1 : Int32) (lx : List Int32) (cs : Int32) (fm : Value) (h0 : Heap) (n0 : Nat) (vr : Option Value) (h : Heap) (L : List Loc) : Prop := (vr = none) ∧ (Fr n0 L) ∧ (Keep h0 h [a1]) ∧ (Arv Z h a1 k1 .byte z1 (own_vl (own_put lx p2 p3)) (.int (0 : Int32)))
set_option maxRecDepth 65536 in
set_option maxHeartbeats 40000000 in
theorem rmusb (l : Launch) (Z : State) (a0 : Array Value) (hw : ∀ d ∈ tables_1, d.before a0 Z = true) (ws : List Jvm.Cond) (a1 : Addr) (p2 : Int32) (p3 : Int32) (k1 : ClassId) (z1 : Int32) (lx : List Int32) (cs : Int32) (fm : Value) (h0 : Heap) (n0 : Nat) (Z0 : n0 ≤ h0.size) (hF : FX Z h0 cs fm) (V_b : Arv Z h0 a1 k1 .byte z1 (own_vl lx) (.int (0 : Int32))) (hb0 : ¬ ((p2 <<< ((1 : Int32) &&& 31)) < (0 : Int32))) (hb1 : (p2 <<< ((1 : Int32) &&& 31)) < z1) (hb2 : ¬ (((p2 <<< ((1 : Int32) &&& 31)) + (1 : Int32)) < (0 : Int32))) (hb3 : ((p2 <<< ((1 : Int32) &&& 31)) + (1 : Int32)) < z1) (hi0 : ¬ (p2 < (0 : Int32))) (hi1 : p2 < (z1 >>> ((1 : Int32) &&& 31))) (gn_a1 : n0 ≤ a1) :
    MetFree l (⟨"java/lang/StringUTF16", "putCharSB", "([BII)V"⟩ : MethodName) (head1 (Jvm.Cond.code (⟨"java/lang/StringUTF16", "putCharSB", "([BII)V"⟩ : MethodName) jdk_52_method_71_code 3 none :: ws) ({ frames := 3, cells := 0, slots := 0, locals := 40 } : Room)) (fun a U => a = #[(.ref a1), (.int p2), (.int p3)] ∧ Z.Warmed39 U.vm ∧ U.heap = h0) (fun _ _ _ _ _ => True) (fun _ U o U' => ∃ v L, o = .returned v ∧ Q_usb Z a1 p2 p3 k1 z1 lx cs fm h0 n0 v U'.heap L ∧ FrameEnd U o U' L ({ frames := 3, cells := 0, slots := 0, locals := 40 } : Room).cells ({ frames := 3, cells := 0, slots := 0, locals := 40 } : Room).slots) := by
  refine met_of (Ls := #[.val (.ref a1), .val (.int p2), .val (.int p3)]) (plainFor_of_name (by first | (simp [plainName, overriddenIn]; done) | decide +kernel)) (fun m => ef_usb m a1 p2 p3) ?_
  intro p e s m below meth c T0 C X0 e0
  obtain ⟨S_cs, hcs, S_fm, hfm, S_ad, S_hi, S_lo⟩ := id hF
  have N0 := Fr.nil n0
  have K0 : Keep h0 h0 [a1] := Keep.refl h0 _
  refine g_iloadN (pc' := 1) C X0 d49_0 rfl rfl ?_
  refine g_aloadN (pc' := 2) C X0 d49_1 rfl rfl rfl ?_
  refine g_callS (y := (⟨"java/lang/StringUTF16", "checkIndex", "(I[B)V"⟩ : MethodName)) (argsL := [(.int p2), (.ref a1)]) (st := []) (pc' := 5) C X0 d49_2 (wq hw 196 rfl) (wq hw 197 rfl) (wq hw 23 rfl) (wq hw 198 rfl) (by decide) (rmuci l Z a0 hw [] p2 a1 k1 z1 lx cs fm h0 n0 hF V_b hi0 hi1) (W := 0) (by decide) (by decide) (ce := 0) (sl := 0) rfl rfl (by decide) (by decide) rfl e0 rfl pd_3 rfl (Nat.le_refl _) rfl (fun rv1 T1 L1 X1 Q1 => ?_)
  obtain ⟨q1, Nq1, e1⟩ := Q1
  have N1 := Fr.app N0 Nq1
  subst q1
  show Go p.tables e below _ (T1.setTop (mkF m 5 #[.val (.ref a1), .val (.int p2), .val (.int p3)] []))
  refine g_aloadN (pc' := 6) C X1 d49_5 rfl rfl rfl ?_
  refine g_iloadN (pc' := 7) C X1 d49_6 rfl rfl ?_
  refine g_iloadN (pc' := 8) C X1 d49_7 rfl rfl ?_
  refine g_callS (y := (⟨"java/lang/StringUTF16", "putChar", "([BII)V"⟩ : MethodName)) (argsL := [(.ref a1), (.int p2), (.int p3)]) (st := []) (pc' := 11) C X1 d49_8 (wq hw 184 rfl) (wq hw 185 rfl) (wq hw 23 rfl) (wq hw 186 rfl) (by decide) (rmupc l Z a0 hw [] a1 p2 p3 k1 z1 lx cs fm h0 n0 Z0 hF V_b hb0 hb1 hb2 hb3 gn_a1) (W := 0) (by decide) (by decide) (ce := 0) (sl := 0) rfl rfl (by decide) (by decide) rfl e1 rfl pd_13 rfl (Nat.le_refl _) rfl (fun rv2 T2 L2 X2 Q2 => ?_)
  obtain ⟨q2, Nq2, Kq2, P2_0⟩ := Q2
  have N2 := Fr.app N1 Nq2
  have FX_2 := FX_keep hF Kq2 ((allS (by obtain ⟨c_, A_, _⟩ := V_b; exact ⟨c_, A_.1, A_.plain⟩) all0))
  have Z2 := Nat.le_trans Z0 Kq2.1
  have K2 := K0.trans Kq2 (allS (Or.inl (List.mem_of_getElem? (i := 0) rfl)) all0)
  subst q2
  show Go p.tables e below _ (T2.setTop (mkF m 11 #[.val (.ref a1), .val (.int p2), .val (.int p3)] []))
  exact g_retV C X2 d49_11 (by decide) (by decide) ⟨rfl, N2, K2, P2_0⟩
theorem own_len_snoc {xs : List Int32} {x : Int32} (h : xs.length < 5) : (xs ++ [x]).length ≤ 5 := by rw [List.length_append, List.length_singleton]; omega
theorem d20_0 : decode jdk_68_method_31_code 0 = .ok (.aload_n 0, 1) := by decide +kernel
theorem d20_1 : decode jdk_68_method_31_code 1 = .ok (.aload_n 0, 1) := by decide +kernel
theorem d20_2 : decode jdk_68_method_31_code 2 = .ok (.getfield 79, 3) := by decide +kernel
theorem d20_5 : decode jdk_68_method_31_code 5 = .ok (.iconst 1, 1) := by decide +kernel
theorem d20_6 : decode jdk_68_method_31_code 6 = .ok (.iadd, 1) := by decide +kernel
theorem d20_7 : decode jdk_68_method_31_code 7 = .ok (.invokevirtual 100, 3) := by decide +kernel
theorem d20_10 : decode jdk_68_method_31_code 10 = .ok (.aload_n 0, 1) := by decide +kernel
theorem d20_11 : decode jdk_68_method_31_code 11 = .ok (.invokevirtual 83, 3) := by decide +kernel
theorem d20_14 : decode jdk_68_method_31_code 14 = .ok (.ifCond .eq 31, 3) := by decide +kernel
theorem d20_17 : decode jdk_68_method_31_code 17 = .ok (.iload_n 1, 1) := by decide +kernel
theorem d20_18 : decode jdk_68_method_31_code 18 = .ok (.invokestatic 191, 3) := by decide +kernel
theorem pd_15 : parseMethodDescriptor "(C)Z" = some ⟨[.char], some .boolean⟩ := by decide +kernel
theorem d20_21 : decode jdk_68_method_31_code 21 = .ok (.ifCond .eq 24, 3) := by decide +kernel
theorem d20_45 : decode jdk_68_method_31_code 45 = .ok (.aload_n 0, 1) := by decide +kernel
theorem d20_46 : decode jdk_68_method_31_code 46 = .ok (.invokevirtual 83, 3) := by decide +kernel
theorem d20_49 : decode jdk_68_method_31_code 49 = .ok (.ifCond .eq 7, 3) := by decide +kernel
theorem d20_52 : decode jdk_68_method_31_code 52 = .ok (.aload_n 0, 1) := by decide +kernel
theorem d20_53 : decode jdk_68_method_31_code 53 = .ok (.invokevirtual 195, 3) := by decide +kernel
theorem pd_16 : parseMethodDescriptor "()V" = some ⟨[], none⟩ := by decide +kernel
theorem d20_56 : decode jdk_68_method_31_code 56 = .ok (.aload_n 0, 1) := by decide +kernel
theorem d20_57 : decode jdk_68_method_31_code 57 = .ok (.getfield 15, 3) := by decide +kernel
theorem d20_60 : decode jdk_68_method_31_code 60 = .ok (.aload_n 0, 1) := by decide +kernel
theorem d20_61 : decode jdk_68_method_31_code 61 = .ok (.dup, 1) := by decide +kernel
theorem d20_62 : decode jdk_68_method_31_code 62 = .ok (.getfield 79, 3) := by decide +kernel
theorem d20_65 : decode jdk_68_method_31_code 65 = .ok (.dup_x1, 1) := by decide +kernel
theorem d20_66 : decode jdk_68_method_31_code 66 = .ok (.iconst 1, 1) := by decide +kernel
theorem d20_67 : decode jdk_68_method_31_code 67 = .ok (.iadd, 1) := by decide +kernel
theorem d20_68 : decode jdk_68_method_31_code 68 = .ok (.putfield 79, 3) := by decide +kernel
theorem d20_71 : decode jdk_68_method_31_code 71 = .ok (.iload_n 1, 1) := by decide +kernel
theorem d20_72 : decode jdk_68_method_31_code 72 = .ok (.invokestatic 197, 3) := by decide +kernel
theorem d20_75 : decode jdk_68_method_31_code 75 = .ok (.aload_n 0, 1) := by decide +kernel
theorem d20_76 : decode jdk_68_method_31_code 76 = .ok (.areturn, 1) := by decide +kernel
theorem d20_24 : decode jdk_68_method_31_code 24 = .ok (.aload_n 0, 1) := by decide +kernel
theorem d20_25 : decode jdk_68_method_31_code 25 = .ok (.getfield 15, 3) := by decide +kernel
theorem d20_28 : decode jdk_68_method_31_code 28 = .ok (.aload_n 0, 1) := by decide +kernel
theorem d20_29 : decode jdk_68_method_31_code 29 = .ok (.dup, 1) := by decide +kernel
theorem d20_30 : decode jdk_68_method_31_code 30 = .ok (.getfield 79, 3) := by decide +kernel
theorem d20_33 : decode jdk_68_method_31_code 33 = .ok (.dup_x1, 1) := by decide +kernel
theorem d20_34 : decode jdk_68_method_31_code 34 = .ok (.iconst 1, 1) := by decide +kernel
theorem d20_35 : decode jdk_68_method_31_code 35 = .ok (.iadd, 1) := by decide +kernel
theorem d20_36 : decode jdk_68_method_31_code 36 = .ok (.putfield 79, 3) := by decide +kernel
theorem d20_39 : decode jdk_68_method_31_code 39 = .ok (.iload_n 1, 1) := by decide +kernel
theorem d20_40 : decode jdk_68_method_31_code 40 = .ok (.i2b, 1) := by decide +kernel
theorem d20_41 : decode jdk_68_method_31_code 41 = .ok (.bastore, 1) := by decide +kernel
theorem d20_42 : decode jdk_68_method_31_code 42 = .ok (.goto 33, 3) := by decide +kernel
theorem ef_apa (m : MethodId) (a1 : Addr) (p2 : Int32) : entryFrame m #[(.ref a1), (.int p2)] 2 = mkF m 0 #[.val (.ref a1), .val (.int p2)] [] := by first | (simp [entryFrame, mkF, argsToLocals, Value.category]; done) | rfl
def Q_apa (Z : State) (a1 : Addr) (p2 : Int32) (v1_ : Addr) (xs : List Int32) (cs : Int32) (fm : Value) (h0 : Heap) (n0 : Nat) (vr : Option Value) (h : Heap) (L : List Loc) : Prop := ∃ w : Addr, (vr = some (.ref a1)) ∧ (Fr n0 L) ∧ (Keep h0 h [a1, v1_]) ∧ (Bld Z h a1 w (xs ++ [p2])) ∧ (∀ o : Addr, o < h0.size → ¬ (o = v1_) → ¬ (o = w)) ∧ (n0 ≤ w) ∧ (¬ (a1 = w))
set_option maxRecDepth 65536 in
set_option maxHeartbeats 40000000 in
theorem rmapa (l : Launch) (Z : State) (a0 : Array Value) (hw : ∀ d ∈ tables_1, d.before a0 Z = true) (ws : List Jvm.Cond) (a1 : Addr) (p2 : Int32) (v1_ : Addr) (xs : List Int32) (cs : Int32) (fm : Value) (h0 : Heap) (n0 : Nat) (Z0 : n0 ≤ h0.size) (hF : FX Z h0 cs fm) (hB : Bld Z h0 a1 v1_ xs) (hlt : xs.length < 5) (hp : own_ch p2) (gn_a1 : n0 ≤ a1) (gn_v1_ : n0 ≤ v1_) (ne1v : ¬ (a1 = v1_)) :
    MetFree l (⟨"java/lang/AbstractStringBuilder", "append", "(C)Ljava/lang/AbstractStringBuilder;"⟩ : MethodName) (head1 (Jvm.Cond.code (⟨"java/lang/AbstractStringBuilder", "append", "(C)Ljava/lang/AbstractStringBuilder;"⟩ : MethodName) jdk_68_method_31_code 2 (some (.object "java/lang/AbstractStringBuilder")) :: ws) ({ frames := 6, cells := 1, slots := 10, locals := 89 } : Room)) (fun a U => a = #[(.ref a1), (.int p2)] ∧ Z.Warmed39 U.vm ∧ U.heap = h0) (fun _ _ _ _ _ => True) (fun _ U o U' => ∃ v L, o = .returned v ∧ Q_apa Z a1 p2 v1_ xs cs fm h0 n0 v U'.heap L ∧ FrameEnd U o U' L ({ frames := 6, cells := 1, slots := 10, locals := 89 } : Room).cells ({ frames := 6, cells := 1, slots := 10, locals := 89 } : Room).slots) := by
  refine met_of (Ls := #[.val (.ref a1), .val (.int p2)]) (plainFor_of_name (by first | (simp [plainName, overriddenIn]; done) | decide +kernel)) (fun m => ef_apa m a1 p2) ?_
  intro p e s m below meth c T0 C X0 e0
  obtain ⟨S_cs, hcs, S_fm, hfm, S_ad, S_hi, S_lo⟩ := id hF
  have N0 := Fr.nil n0
  have K0 : Keep h0 h0 [a1, v1_] := Keep.refl h0 _
  rcases hB with ⟨hl_a1, hx_a1, E_a1, Fv_a1, Fm_a1, E_v1_, k_a1, n, hne, Fn_a1, ⟨Fc_a1, hy_a1, V_v1_⟩ | ⟨Fc_a1, V_v1_⟩⟩
  · have _q := trivial
    refine g_aloadN (pc' := 1) C X0 d20_0 rfl rfl rfl ?_
    refine g_aloadN (pc' := 2) C X0 d20_1 rfl rfl rfl ?_
    refine g_getF (pc' := 5) C X0 d20_2 (host := "") (Or.inl (wq hw 103 rfl)) Via.refl e0 Fn_a1 rfl (fun T1 X1 e1 => ?_)
    refine g_iconst (pc' := 6) (v := (1 : Int32)) C X1 d20_5 rfl rfl ?_
    refine g_iadd (pc' := 7) C X1 d20_6 rfl ?_
    refine g_callQ (b := a1) (y := (⟨"java/lang/AbstractStringBuilder", "ensureCapacityInternal", "(I)V"⟩ : MethodName)) (argsL := [(.int (n + (1 : Int32)))]) (st := []) (pc' := 10) C X1 d20_7 (wq hw 105 rfl) (wq hw 106 rfl) (wq hw 107 rfl) (wq hw 60 rfl) (wq hw 108 rfl) (wq hw 109 rfl) (by decide) (rmens0 l Z a0 hw [] a1 (n + (1 : Int32)) v1_ k_a1 (own_lat xs) cs fm h0 n0 hF Fv_a1 Fc_a1 V_v1_ (own_q4 (P := fun n => ¬ ((0 : Int32) < ((n + (1 : Int32)) - (5 : Int32)))) (own_r4e hne (own_r4n hlt)) (by decide))) (W := 0) (by decide) (by decide) (ce := 0) (sl := 0) rfl rfl (by decide) (by decide) rfl E_a1 e1 rfl pd_7 rfl (Nat.le_refl _) rfl (fun rv2 T2 L2 X2 Q2 => ?_)
    obtain ⟨q2, Nq2, e2⟩ := Q2
    have N2 := Fr.app N0 Nq2
    subst q2
    show Go p.tables e below _ (T2.setTop (mkF m 10 #[.val (.ref a1), .val (.int p2)] []))
    refine g_aloadN (pc' := 11) C X2 d20_10 rfl rfl rfl ?_
    refine g_callV (b := a1) (z := (⟨"java/lang/AbstractStringBuilder", "isLatin1", "()Z"⟩ : MethodName)) (y := (⟨"java/lang/AbstractStringBuilder", "isLatin1", "()Z"⟩ : MethodName)) (argsL := []) (st := []) (pc' := 14) C X2 d20_11 (wq hw 110 rfl) (wq hw 111 rfl) (notFace_of_selects (args := #[]) (mvT C.hZ (wq hw 113 rfl))) (wq hw 113 rfl) (wq hw 112 rfl) (wq hw 60 rfl) (wq hw 114 rfl) (by decide) (rmasl0 l Z a0 hw [] a1 cs fm h0 n0 hF Fc_a1) (W := 0) (by decide) (by decide) (ce := 0) (sl := 0) rfl rfl (by decide) (by decide) rfl E_a1 e2 rfl pd_6 rfl (Nat.le_refl _) rfl (fun rv3 T3 L3 X3 Q3 => ?_)
    obtain ⟨q3, Nq3, e3⟩ := Q3
    have N3 := Fr.app N2 Nq3
    rw [Fasl0_l0 ] at q3
    subst q3
    show Go p.tables e below _ (T3.setTop (mkF m 14 #[.val (.ref a1), .val (.int p2)] [(.int (1 : Int32))]))
    refine g_ifN (pc' := 17) C X3 d20_14 (feq (show ¬ ((1 : Int32) = (0 : Int32)) from (by decide))).1 rfl ?_
    refine g_iloadN (pc' := 18) C X3 d20_17 rfl rfl ?_
    refine g_callS (y := (⟨"java/lang/StringLatin1", "canEncode", "(C)Z"⟩ : MethodName)) (argsL := [(.int p2)]) (st := []) (pc' := 21) C X3 d20_18 (wq hw 115 rfl) (wq hw 116 rfl) (wq hw 80 rfl) (wq hw 117 rfl) (by decide) (rmcan l Z a0 hw [] p2 cs fm h0 n0 hF) (W := 0) (by decide) (by decide) (ce := 0) (sl := 0) rfl rfl (by decide) (by decide) rfl e3 rfl pd_15 rfl (Nat.le_refl _) rfl (fun rv4 T4 L4 X4 Q4 => ?_)
    obtain ⟨q4, Nq4, e4⟩ := Q4
    have N4 := Fr.app N3 Nq4
    by_cases c5 : (255 : Int32) < p2
    · rw [Fcan_l0 p2 c5] at q4
      subst q4
      show Go p.tables e below _ (T4.setTop (mkF m 21 #[.val (.ref a1), .val (.int p2)] [(.int (0 : Int32))]))
      refine g_ifY (pc' := 45) C X4 d20_21 (teq (show (0 : Int32) = (0 : Int32) from (by decide))).1 (by decide) (by decide) ?_
      refine g_aloadN (pc' := 46) C X4 d20_45 rfl rfl rfl ?_
      refine g_callV (b := a1) (z := (⟨"java/lang/AbstractStringBuilder", "isLatin1", "()Z"⟩ : MethodName)) (y := (⟨"java/lang/AbstractStringBuilder", "isLatin1", "()Z"⟩ : MethodName)) (argsL := []) (st := []) (pc' := 49) C X4 d20_46 (wq hw 110 rfl) (wq hw 111 rfl) (notFace_of_selects (args := #[]) (mvT C.hZ (wq hw 113 rfl))) (wq hw 113 rfl) (wq hw 112 rfl) (wq hw 60 rfl) (wq hw 114 rfl) (by decide) (rmasl0 l Z a0 hw [] a1 cs fm h0 n0 hF Fc_a1) (W := 0) (by decide) (by decide) (ce := 0) (sl := 0) rfl rfl (by decide) (by decide) rfl E_a1 e4 rfl pd_6 rfl (Nat.le_refl _) rfl (fun rv6 T6 L6 X6 Q6 => ?_)
      obtain ⟨q6, Nq6, e6⟩ := Q6
      have N6 := Fr.app N4 Nq6
      rw [Fasl0_l0 ] at q6
      subst q6
      show Go p.tables e below _ (T6.setTop (mkF m 49 #[.val (.ref a1), .val (.int p2)] [(.int (1 : Int32))]))
      refine g_ifN (pc' := 52) C X6 d20_49 (feq (show ¬ ((1 : Int32) = (0 : Int32)) from (by decide))).1 rfl ?_
      refine g_aloadN (pc' := 53) C X6 d20_52 rfl rfl rfl ?_
      refine g_callQ (b := a1) (y := (⟨"java/lang/AbstractStringBuilder", "inflate", "()V"⟩ : MethodName)) (argsL := []) (st := []) (pc' := 56) C X6 d20_53 (wq hw 203 rfl) (wq hw 204 rfl) (wq hw 205 rfl) (wq hw 60 rfl) (wq hw 206 rfl) (wq hw 207 rfl) (by decide) (rminf l Z a0 hw [] a1 v1_ k_a1 n xs cs fm h0 n0 Z0 hF E_a1 Fv_a1 Fm_a1 Fn_a1 Fc_a1 V_v1_ gn_a1 ne1v hx_a1 hy_a1 hne (own_r4n hlt) hl_a1) (W := 0) (by decide) (by decide) (ce := 1) (sl := 10) rfl rfl (by decide) (by decide) rfl E_a1 e6 rfl pd_16 rfl (Nat.le_refl _) rfl (fun rv7 T7 L7 X7 Q7 => ?_)
      obtain ⟨w7, kw7, q7, Nq7, Kq7, sz7_w, gn_w7, P7_0, P7_1, P7_2, P7_3, P7_4, P7_5, P7_6⟩ := Q7
      have N7 := Fr.app N6 Nq7
      have ne7_8 : ¬ (a1 = w7) := Nat.ne_of_lt (Nat.lt_of_lt_of_le E_a1.lt sz7_w)
      have ne7_9 : ¬ (v1_ = w7) := Nat.ne_of_lt (Nat.lt_of_lt_of_le E_v1_.lt sz7_w)
      have FX_7 := FX_keep hF Kq7 ((allS (by obtain ⟨c_, _, h1_, _, _, h2_, _⟩ := E_a1; exact ⟨c_, h1_, h2_⟩) all0))
      have E_v1__7 := E_v1_.keep Kq7
      have V_v1__7 := V_v1_.keep Kq7 (ninS (Ne.symm ne1v) nin0)
      have Z7 := Nat.le_trans Z0 Kq7.1
      have sz_w7 := Nat.le_trans K0.1 sz7_w
      have K7 := K0.trans Kq7 (allS (Or.inl (List.mem_of_getElem? (i := 0) rfl)) all0)
      subst q7
      show Go p.tables e below _ (T7.setTop (mkF m 56 #[.val (.ref a1), .val (.int p2)] []))
      refine g_aloadN (pc' := 57) C X7 d20_56 rfl rfl rfl ?_
      refine g_getF (pc' := 60) C X7 d20_57 (host := "") (Or.inl (wq hw 64 rfl)) Via.refl rfl P7_1 rfl (fun T10 X10 e10 => ?_)
      refine g_aloadN (pc' := 61) C X10 d20_60 rfl rfl rfl ?_
      refine g_dup (pc' := 62) C X10 d20_61 rfl rfl ?_
      refine g_getF (pc' := 65) C X10 d20_62 (host := "") (Or.inl (wq hw 103 rfl)) Via.refl e10 P7_3 rfl (fun T11 X11 e11 => ?_)
      refine g_dupX1 (pc' := 66) C X11 d20_65 rfl rfl rfl ?_
      refine g_iconst (pc' := 67) (v := (1 : Int32)) C X11 d20_66 rfl rfl ?_
      refine g_iadd (pc' := 68) C X11 d20_67 rfl ?_
      refine g_putF (pc' := 71) C X11 d20_68 (host := "") (Or.inl (wq hw 103 rfl)) Via.refl e11 P7_3 P7_0 (Or.inl (wq hw 104 rfl)) (wq hw 41 rfl) (ty := .int) (by decide) rfl rfl rfl (fun T12 h12 X12 e12 W12 => ?_)
      have F12 := P7_3.same W12
      have FX_12 := FX_wr FX_7 W12
      have E_v1__12 := E_v1__7.wr W12
      have V_v1__12 := V_v1__7.other W12 (Ne.symm ne1v)
      have P7_0_12 := P7_0.wr W12
      have P7_1_12 := P7_1.other W12 (Or.inr (slot_ne (Or.inl (wq hw 65 rfl)) (Or.inl (wq hw 104 rfl)) (by decide) (t := (.array .byte)) (t' := .int) (by decide) (by decide)))
      have P7_2_12 := P7_2.other W12 (Or.inr (slot_ne (Or.inl (wq hw 228 rfl)) (Or.inl (wq hw 104 rfl)) (by decide) (t := .boolean) (t' := .int) (by decide) (by decide)))
      have P7_4_12 := P7_4.other W12 (Or.inr (slot_ne (Or.inl (wq hw 67 rfl)) (Or.inl (wq hw 104 rfl)) (by decide) (t := .byte) (t' := .int) (by decide) (by decide)))
      have P7_5_12 := P7_5.other W12 (Ne.symm ne7_8)
      have P7_6_12 := P7_6.wr W12
      have Z12 := Nat.le_trans Z7 (Nat.le_of_eq W12.size.symm)
      have N12 := Fr.snoc X12 N7 gn_a1
      have K12 := K7.wr W12 (Or.inl (List.mem_of_getElem? (i := 0) rfl))
      refine g_iloadN (pc' := 72) C X12 d20_71 rfl rfl ?_
      refine g_callS (y := (⟨"java/lang/StringUTF16", "putCharSB", "([BII)V"⟩ : MethodName)) (argsL := [(.ref w7), (.int n), (.int p2)]) (st := []) (pc' := 75) C X12 d20_72 (wq hw 224 rfl) (wq hw 225 rfl) (wq hw 23 rfl) (wq hw 226 rfl) (by decide) (rmusb l Z a0 hw [] w7 n p2 kw7 (10 : Int32) (own_u xs) cs fm h12 n0 Z12 FX_12 P7_5_12 (own_q4 (P := fun n => ¬ ((n <<< ((1 : Int32) &&& 31)) < (0 : Int32))) (own_r4e hne (own_r4n hlt)) (by decide)) (own_q4 (P := fun n => (n <<< ((1 : Int32) &&& 31)) < (10 : Int32)) (own_r4e hne (own_r4n hlt)) (by decide)) (own_q4 (P := fun n => ¬ (((n <<< ((1 : Int32) &&& 31)) + (1 : Int32)) < (0 : Int32))) (own_r4e hne (own_r4n hlt)) (by decide)) (own_q4 (P := fun n => ((n <<< ((1 : Int32) &&& 31)) + (1 : Int32)) < (10 : Int32)) (own_r4e hne (own_r4n hlt)) (by decide)) (own_q4 (P := fun n => ¬ (n < (0 : Int32))) (own_r4e hne (own_r4n hlt)) (by decide)) (own_q4 (P := fun n => n < ((10 : Int32) >>> ((1 : Int32) &&& 31))) (own_r4e hne (own_r4n hlt)) (by decide)) gn_w7) (W := 0) (by decide) (by decide) (ce := 1) (sl := 10) rfl rfl (by decide) (by decide) rfl e12 rfl pd_13 rfl (Nat.le_refl _) rfl (fun rv13 T13 L13 X13 Q13 => ?_)
      obtain ⟨q13, Nq13, Kq13, P13_0⟩ := Q13
      have N13 := Fr.app N12 Nq13
      have FX_13 := FX_keep FX_12 Kq13 ((allS (by obtain ⟨c_, A_, _⟩ := P7_5_12; exact ⟨c_, A_.1, A_.plain⟩) all0))
      have E_v1__13 := E_v1__12.keep Kq13
      have V_v1__13 := V_v1__12.keep Kq13 (ninS ne7_9 nin0)
      have P7_0_13 := P7_0_12.keep Kq13
      have P7_1_13 := P7_1_12.keep Kq13 (ninS ne7_8 nin0)
      have P7_2_13 := P7_2_12.keep Kq13 (ninS ne7_8 nin0)
      have P7_4_13 := P7_4_12.keep Kq13 (ninS ne7_8 nin0)
      have P7_6_13 := P7_6_12.keep Kq13
      have F12_13 := F12.keep Kq13 (ninS ne7_8 nin0)
      have Z13 := Nat.le_trans Z12 Kq13.1
      have K13 := K12.trans Kq13 (allS (Or.inr sz_w7) all0)
      subst q13
      show Go p.tables e below _ (T13.setTop (mkF m 75 #[.val (.ref a1), .val (.int p2)] []))
      refine g_aloadN (pc' := 76) C X13 d20_75 rfl rfl rfl ?_
      exact g_retA C X13 rfl rfl rfl d20_76 (by decide) (by decide) ⟨w7, rfl, N13, K13, ⟨own_len_snoc hlt, own_all_snoc hx_a1 hp, P7_0_13, P7_1_13, P7_2_13, P7_6_13, _, _, own_n_snoc hne hlt, F12_13, Or.inr ⟨P7_4_13, own_pw P13_0 (own_put_snoc (own_r4e hne (own_r4n hlt)) (by rw [hne]; exact (own_ntn hl_a1).symm) (fun _ => rfl))⟩⟩, fun _ l _ => Nat.ne_of_lt (Nat.lt_of_lt_of_le l sz_w7), gn_w7, ne7_8⟩
    · rw [Fcan_l1 p2 c5] at q4
      subst q4
      show Go p.tables e below _ (T4.setTop (mkF m 21 #[.val (.ref a1), .val (.int p2)] [(.int (1 : Int32))]))
      refine g_ifN (pc' := 24) C X4 d20_21 (feq (show ¬ ((1 : Int32) = (0 : Int32)) from (by decide))).1 rfl ?_
      refine g_aloadN (pc' := 25) C X4 d20_24 rfl rfl rfl ?_
      refine g_getF (pc' := 28) C X4 d20_25 (host := "") (Or.inl (wq hw 64 rfl)) Via.refl e4 Fv_a1 rfl (fun T14 X14 e14 => ?_)
      refine g_aloadN (pc' := 29) C X14 d20_28 rfl rfl rfl ?_
      refine g_dup (pc' := 30) C X14 d20_29 rfl rfl ?_
      refine g_getF (pc' := 33) C X14 d20_30 (host := "") (Or.inl (wq hw 103 rfl)) Via.refl e14 Fn_a1 rfl (fun T15 X15 e15 => ?_)
      refine g_dupX1 (pc' := 34) C X15 d20_33 rfl rfl rfl ?_
      refine g_iconst (pc' := 35) (v := (1 : Int32)) C X15 d20_34 rfl rfl ?_
      refine g_iadd (pc' := 36) C X15 d20_35 rfl ?_
      refine g_putF (pc' := 39) C X15 d20_36 (host := "") (Or.inl (wq hw 103 rfl)) Via.refl e15 Fn_a1 E_a1 (Or.inl (wq hw 104 rfl)) (wq hw 41 rfl) (ty := .int) (by decide) rfl rfl rfl (fun T16 h16 X16 e16 W16 => ?_)
      have F16 := Fn_a1.same W16
      have FX_16 := FX_wr hF W16
      have E_a1_16 := E_a1.wr W16
      have Fv_a1_16 := Fv_a1.other W16 (Or.inr (slot_ne (Or.inl (wq hw 65 rfl)) (Or.inl (wq hw 104 rfl)) (by decide) (t := (.array .byte)) (t' := .int) (by decide) (by decide)))
      have Fm_a1_16 := Fm_a1.other W16 (Or.inr (slot_ne (Or.inl (wq hw 228 rfl)) (Or.inl (wq hw 104 rfl)) (by decide) (t := .boolean) (t' := .int) (by decide) (by decide)))
      have Fc_a1_16 := Fc_a1.other W16 (Or.inr (slot_ne (Or.inl (wq hw 67 rfl)) (Or.inl (wq hw 104 rfl)) (by decide) (t := .byte) (t' := .int) (by decide) (by decide)))
      have E_v1__16 := E_v1_.wr W16
      have V_v1__16 := V_v1_.other W16 (Ne.symm ne1v)
      have Z16 := Nat.le_trans Z0 (Nat.le_of_eq W16.size.symm)
      have N16 := Fr.snoc X16 N4 gn_a1
      have K16 := K0.wr W16 (Or.inl (List.mem_of_getElem? (i := 0) rfl))
      refine g_iloadN (pc' := 40) C X16 d20_39 rfl rfl ?_
      refine g_i2b (pc' := 41) C X16 d20_40 rfl ?_
      refine g_stB (pc' := 42) (i := n.toNatClampNeg) C X16 d20_41 e16 (V_v1__16.pad (pad_rep _ _ (n.toNatClampNeg + 1))) ⟨(own_q4 (P := fun n => ¬ (n < (0 : Int32))) (own_r4e hne (own_r4n hlt)) (by decide)), (own_q4 (P := fun n => n < (5 : Int32)) (own_r4e hne (own_r4n hlt)) (by decide))⟩ rfl own_lts rfl (fun T17 h17 X17 e17 W17 V17q => ?_)
      have V17 : Arv Z h17 v1_ k_a1 .byte (5 : Int32) (own_vl (own_s (own_lat xs) n (nar .byte p2.toInt8.toInt32))) (.int (0 : Int32)) := own_vl_set _ _ _ ▸ V17q
      have FX_17 := FX_wr FX_16 W17
      have E_a1_17 := E_a1_16.wr W17
      have Fv_a1_17 := Fv_a1_16.other W17 (Or.inl ne1v)
      have Fm_a1_17 := Fm_a1_16.other W17 (Or.inl ne1v)
      have Fc_a1_17 := Fc_a1_16.other W17 (Or.inl ne1v)
      have E_v1__17 := E_v1__16.wr W17
      have F16_17 := F16.other W17 (Or.inl ne1v)
      have Z17 := Nat.le_trans Z16 (Nat.le_of_eq W17.size.symm)
      have N17 := Fr.snoc X17 N16 gn_v1_
      have K17 := K16.wr W17 (Or.inl (List.mem_of_getElem? (i := 1) rfl))
      refine g_goto (pc' := 75) C X17 d20_42 (by decide) (by decide) ?_
      refine g_aloadN (pc' := 76) C X17 d20_75 rfl rfl rfl ?_
      exact g_retA C X17 rfl rfl rfl d20_76 (by decide) (by decide) ⟨v1_, rfl, N17, (by rw [e17]; exact K17), (by rw [e17]; exact ⟨own_len_snoc hlt, own_all_snoc hx_a1 hp, E_a1_17, Fv_a1_17, Fm_a1_17, E_v1__17, _, _, own_n_snoc hne hlt, F16_17, Or.inl ⟨Fc_a1_17, own_all_snoc hy_a1 c5, own_pw V17 (own_lat_snoc hne hl_a1)⟩⟩), fun _ _ q => q, gn_v1_, ne1v⟩
  · have _q := trivial
    refine g_aloadN (pc' := 1) C X0 d20_0 rfl rfl rfl ?_
    refine g_aloadN (pc' := 2) C X0 d20_1 rfl rfl rfl ?_
    refine g_getF (pc' := 5) C X0 d20_2 (host := "") (Or.inl (wq hw 103 rfl)) Via.refl e0 Fn_a1 rfl (fun T18 X18 e18 => ?_)
    refine g_iconst (pc' := 6) (v := (1 : Int32)) C X18 d20_5 rfl rfl ?_
    refine g_iadd (pc' := 7) C X18 d20_6 rfl ?_
    refine g_callQ (b := a1) (y := (⟨"java/lang/AbstractStringBuilder", "ensureCapacityInternal", "(I)V"⟩ : MethodName)) (argsL := [(.int (n + (1 : Int32)))]) (st := []) (pc' := 10) C X18 d20_7 (wq hw 105 rfl) (wq hw 106 rfl) (wq hw 107 rfl) (wq hw 60 rfl) (wq hw 108 rfl) (wq hw 109 rfl) (by decide) (rmens1 l Z a0 hw [] a1 (n + (1 : Int32)) v1_ k_a1 (own_u xs) cs fm h0 n0 hF Fv_a1 Fc_a1 V_v1_ (own_q4 (P := fun n => ¬ ((0 : Int32) < ((n + (1 : Int32)) - (5 : Int32)))) (own_r4e hne (own_r4n hlt)) (by decide))) (W := 0) (by decide) (by decide) (ce := 0) (sl := 0) rfl rfl (by decide) (by decide) rfl E_a1 e18 rfl pd_7 rfl (Nat.le_refl _) rfl (fun rv19 T19 L19 X19 Q19 => ?_)
    obtain ⟨q19, Nq19, e19⟩ := Q19
    have N19 := Fr.app N0 Nq19
    subst q19
    show Go p.tables e below _ (T19.setTop (mkF m 10 #[.val (.ref a1), .val (.int p2)] []))
    refine g_aloadN (pc' := 11) C X19 d20_10 rfl rfl rfl ?_
    refine g_callV (b := a1) (z := (⟨"java/lang/AbstractStringBuilder", "isLatin1", "()Z"⟩ : MethodName)) (y := (⟨"java/lang/AbstractStringBuilder", "isLatin1", "()Z"⟩ : MethodName)) (argsL := []) (st := []) (pc' := 14) C X19 d20_11 (wq hw 110 rfl) (wq hw 111 rfl) (notFace_of_selects (args := #[]) (mvT C.hZ (wq hw 113 rfl))) (wq hw 113 rfl) (wq hw 112 rfl) (wq hw 60 rfl) (wq hw 114 rfl) (by decide) (rmasl1 l Z a0 hw [] a1 cs fm h0 n0 hF Fc_a1) (W := 0) (by decide) (by decide) (ce := 0) (sl := 0) rfl rfl (by decide) (by decide) rfl E_a1 e19 rfl pd_6 rfl (Nat.le_refl _) rfl (fun rv20 T20 L20 X20 Q20 => ?_)
    obtain ⟨q20, Nq20, e20⟩ := Q20
    have N20 := Fr.app N19 Nq20
    rw [Fasl1_l0 ] at q20
    subst q20
    show Go p.tables e below _ (T20.setTop (mkF m 14 #[.val (.ref a1), .val (.int p2)] [(.int (0 : Int32))]))
    refine g_ifY (pc' := 45) C X20 d20_14 (teq (show (0 : Int32) = (0 : Int32) from (by decide))).1 (by decide) (by decide) ?_
    refine g_aloadN (pc' := 46) C X20 d20_45 rfl rfl rfl ?_
    refine g_callV (b := a1) (z := (⟨"java/lang/AbstractStringBuilder", "isLatin1", "()Z"⟩ : MethodName)) (y := (⟨"java/lang/AbstractStringBuilder", "isLatin1", "()Z"⟩ : MethodName)) (argsL := []) (st := []) (pc' := 49) C X20 d20_46 (wq hw 110 rfl) (wq hw 111 rfl) (notFace_of_selects (args := #[]) (mvT C.hZ (wq hw 113 rfl))) (wq hw 113 rfl) (wq hw 112 rfl) (wq hw 60 rfl) (wq hw 114 rfl) (by decide) (rmasl1 l Z a0 hw [] a1 cs fm h0 n0 hF Fc_a1) (W := 0) (by decide) (by decide) (ce := 0) (sl := 0) rfl rfl (by decide) (by decide) rfl E_a1 e20 rfl pd_6 rfl (Nat.le_refl _) rfl (fun rv21 T21 L21 X21 Q21 => ?_)
    obtain ⟨q21, Nq21, e21⟩ := Q21
    have N21 := Fr.app N20 Nq21
    rw [Fasl1_l0 ] at q21
    subst q21
    show Go p.tables e below _ (T21.setTop (mkF m 49 #[.val (.ref a1), .val (.int p2)] [(.int (0 : Int32))]))
    refine g_ifY (pc' := 56) C X21 d20_49 (teq (show (0 : Int32) = (0 : Int32) from (by decide))).1 (by decide) (by decide) ?_
    refine g_aloadN (pc' := 57) C X21 d20_56 rfl rfl rfl ?_
    refine g_getF (pc' := 60) C X21 d20_57 (host := "") (Or.inl (wq hw 64 rfl)) Via.refl e21 Fv_a1 rfl (fun T22 X22 e22 => ?_)
    refine g_aloadN (pc' := 61) C X22 d20_60 rfl rfl rfl ?_
    refine g_dup (pc' := 62) C X22 d20_61 rfl rfl ?_
    refine g_getF (pc' := 65) C X22 d20_62 (host := "") (Or.inl (wq hw 103 rfl)) Via.refl e22 Fn_a1 rfl (fun T23 X23 e23 => ?_)
    refine g_dupX1 (pc' := 66) C X23 d20_65 rfl rfl rfl ?_
    refine g_iconst (pc' := 67) (v := (1 : Int32)) C X23 d20_66 rfl rfl ?_
    refine g_iadd (pc' := 68) C X23 d20_67 rfl ?_
    refine g_putF (pc' := 71) C X23 d20_68 (host := "") (Or.inl (wq hw 103 rfl)) Via.refl e23 Fn_a1 E_a1 (Or.inl (wq hw 104 rfl)) (wq hw 41 rfl) (ty := .int) (by decide) rfl rfl rfl (fun T24 h24 X24 e24 W24 => ?_)
    have F24 := Fn_a1.same W24
    have FX_24 := FX_wr hF W24
    have E_a1_24 := E_a1.wr W24
    have Fv_a1_24 := Fv_a1.other W24 (Or.inr (slot_ne (Or.inl (wq hw 65 rfl)) (Or.inl (wq hw 104 rfl)) (by decide) (t := (.array .byte)) (t' := .int) (by decide) (by decide)))
    have Fm_a1_24 := Fm_a1.other W24 (Or.inr (slot_ne (Or.inl (wq hw 228 rfl)) (Or.inl (wq hw 104 rfl)) (by decide) (t := .boolean) (t' := .int) (by decide) (by decide)))
    have Fc_a1_24 := Fc_a1.other W24 (Or.inr (slot_ne (Or.inl (wq hw 67 rfl)) (Or.inl (wq hw 104 rfl)) (by decide) (t := .byte) (t' := .int) (by decide) (by decide)))
    have E_v1__24 := E_v1_.wr W24
    have V_v1__24 := V_v1_.other W24 (Ne.symm ne1v)
    have Z24 := Nat.le_trans Z0 (Nat.le_of_eq W24.size.symm)
    have N24 := Fr.snoc X24 N21 gn_a1
    have K24 := K0.wr W24 (Or.inl (List.mem_of_getElem? (i := 0) rfl))
    refine g_iloadN (pc' := 72) C X24 d20_71 rfl rfl ?_
    refine g_callS (y := (⟨"java/lang/StringUTF16", "putCharSB", "([BII)V"⟩ : MethodName)) (argsL := [(.ref v1_), (.int n), (.int p2)]) (st := []) (pc' := 75) C X24 d20_72 (wq hw 224 rfl) (wq hw 225 rfl) (wq hw 23 rfl) (wq hw 226 rfl) (by decide) (rmusb l Z a0 hw [] v1_ n p2 k_a1 (10 : Int32) (own_u xs) cs fm h24 n0 Z24 FX_24 V_v1__24 (own_q4 (P := fun n => ¬ ((n <<< ((1 : Int32) &&& 31)) < (0 : Int32))) (own_r4e hne (own_r4n hlt)) (by decide)) (own_q4 (P := fun n => (n <<< ((1 : Int32) &&& 31)) < (10 : Int32)) (own_r4e hne (own_r4n hlt)) (by decide)) (own_q4 (P := fun n => ¬ (((n <<< ((1 : Int32) &&& 31)) + (1 : Int32)) < (0 : Int32))) (own_r4e hne (own_r4n hlt)) (by decide)) (own_q4 (P := fun n => ((n <<< ((1 : Int32) &&& 31)) + (1 : Int32)) < (10 : Int32)) (own_r4e hne (own_r4n hlt)) (by decide)) (own_q4 (P := fun n => ¬ (n < (0 : Int32))) (own_r4e hne (own_r4n hlt)) (by decide)) (own_q4 (P := fun n => n < ((10 : Int32) >>> ((1 : Int32) &&& 31))) (own_r4e hne (own_r4n hlt)) (by decide)) gn_v1_) (W := 0) (by decide) (by decide) (ce := 0) (sl := 0) rfl rfl (by decide) (by decide) rfl e24 rfl pd_13 rfl (Nat.le_refl _) rfl (fun rv25 T25 L25 X25 Q25 => ?_)
    obtain ⟨q25, Nq25, Kq25, P25_0⟩ := Q25
    have N25 := Fr.app N24 Nq25
    have FX_25 := FX_keep FX_24 Kq25 ((allS (by obtain ⟨c_, A_, _⟩ := V_v1__24; exact ⟨c_, A_.1, A_.plain⟩) all0))
    have E_a1_25 := E_a1_24.keep Kq25
    have Fv_a1_25 := Fv_a1_24.keep Kq25 (ninS ne1v nin0)
    have Fm_a1_25 := Fm_a1_24.keep Kq25 (ninS ne1v nin0)
    have Fc_a1_25 := Fc_a1_24.keep Kq25 (ninS ne1v nin0)
    have E_v1__25 := E_v1__24.keep Kq25
    have F24_25 := F24.keep Kq25 (ninS ne1v nin0)
    have Z25 := Nat.le_trans Z24 Kq25.1
    have K25 := K24.trans Kq25 (allS (Or.inl (List.mem_of_getElem? (i := 1) rfl)) all0)
    subst q25
    show Go p.tables e below _ (T25.setTop (mkF m 75 #[.val (.ref a1), .val (.int p2)] []))
    refine g_aloadN (pc' := 76) C X25 d20_75 rfl rfl rfl ?_
    exact g_retA C X25 rfl rfl rfl d20_76 (by decide) (by decide) ⟨v1_, rfl, N25, K25, ⟨own_len_snoc hlt, own_all_snoc hx_a1 hp, E_a1_25, Fv_a1_25, Fm_a1_25, E_v1__25, _, _, own_n_snoc hne hlt, F24_25, Or.inr ⟨Fc_a1_25, own_pw P25_0 (own_put_snoc (own_r4e hne (own_r4n hlt)) (by rw [hne]; exact (own_ntn hl_a1).symm) (fun _ => rfl))⟩⟩, fun _ _ q => q, gn_v1_, ne1v⟩
theorem d19_0 : decode jdk_67_method_14_code 0 = .ok (.aload_n 0, 1) := by decide +kernel
theorem d19_1 : decode jdk_67_method_14_code 1 = .ok (.iload_n 1, 1) := by decide +kernel
theorem d19_2 : decode jdk_67_method_14_code 2 = .ok (.invokespecial 50, 3) := by decide +kernel
theorem pd_17 : parseMethodDescriptor "(C)Ljava/lang/AbstractStringBuilder;" = some ⟨[.char], some (.object "java/lang/AbstractStringBuilder")⟩ := by decide +kernel
theorem d19_5 : decode jdk_67_method_14_code 5 = .ok (.pop, 1) := by decide +kernel
theorem d19_6 : decode jdk_67_method_14_code 6 = .ok (.aload_n 0, 1) := by decide +kernel
theorem d19_7 : decode jdk_67_method_14_code 7 = .ok (.areturn, 1) := by decide +kernel
theorem ef_aps (m : MethodId) (a1 : Addr) (p2 : Int32) : entryFrame m #[(.ref a1), (.int p2)] 2 = mkF m 0 #[.val (.ref a1), .val (.int p2)] [] := by first | (simp [entryFrame, mkF, argsToLocals, Value.category]; done) | rfl
def Q_aps (Z : State) (a1 : Addr) (p2 : Int32) (v1_ : Addr) (xs : List Int32) (cs : Int32) (fm : Value) (h0 : Heap) (n0 : Nat) (vr : Option Value) (h : Heap) (L : List Loc) : Prop := ∃ w : Addr, (vr = some (.ref a1)) ∧ (Fr n0 L) ∧ (Keep h0 h [a1, v1_]) ∧ (Bld Z h a1 w (xs ++ [p2])) ∧ (∀ o : Addr, o < h0.size → ¬ (o = v1_) → ¬ (o = w)) ∧ (n0 ≤ w) ∧ (¬ (a1 = w))
set_option maxRecDepth 65536 in
set_option maxHeartbeats 40000000 in
theorem rmaps (l : Launch) (Z : State) (a0 : Array Value) (hw : ∀ d ∈ tables_1, d.before a0 Z = true) (ws : List Jvm.Cond) (a1 : Addr) (p2 : Int32) (v1_ : Addr) (xs : List Int32) (cs : Int32) (fm : Value) (h0 : Heap) (n0 : Nat) (Z0 : n0 ≤ h0.size) (hF : FX Z h0 cs fm) (hB : Bld Z h0 a1 v1_ xs) (hlt : xs.length < 5) (hp : own_ch p2) (gn_a1 : n0 ≤ a1) (gn_v1_ : n0 ≤ v1_) (ne1v : ¬ (a1 = v1_)) :
    MetFree l (⟨"java/lang/StringBuilder", "append", "(C)Ljava/lang/StringBuilder;"⟩ : MethodName) (head1 (Jvm.Cond.code (⟨"java/lang/StringBuilder", "append", "(C)Ljava/lang/StringBuilder;"⟩ : MethodName) jdk_67_method_14_code 2 (some (.object "java/lang/StringBuilder")) :: ws) ({ frames := 7, cells := 1, slots := 10, locals := 102 } : Room)) (fun a U => a = #[(.ref a1), (.int p2)] ∧ Z.Warmed39 U.vm ∧ U.heap = h0) (fun _ _ _ _ _ => True) (fun _ U o U' => ∃ v L, o = .returned v ∧ Q_aps Z a1 p2 v1_ xs cs fm h0 n0 v U'.heap L ∧ FrameEnd U o U' L ({ frames := 7, cells := 1, slots := 10, locals := 102 } : Room).cells ({ frames := 7, cells := 1, slots := 10, locals := 102 } : Room).slots) := by
  refine met_of (Ls := #[.val (.ref a1), .val (.int p2)]) (plainFor_of_name (by first | (simp [plainName, overriddenIn]; done) | decide +kernel)) (fun m => ef_aps m a1 p2) ?_
  intro p e s m below meth c T0 C X0 e0
  obtain ⟨S_cs, hcs, S_fm, hfm, S_ad, S_hi, S_lo⟩ := id hF
  have N0 := Fr.nil n0
  have K0 : Keep h0 h0 [a1, v1_] := Keep.refl h0 _
  refine g_aloadN (pc' := 1) C X0 d19_0 rfl rfl rfl ?_
  refine g_iloadN (pc' := 2) C X0 d19_1 rfl rfl ?_
  refine g_callU (b := a1) (y := (⟨"java/lang/AbstractStringBuilder", "append", "(C)Ljava/lang/AbstractStringBuilder;"⟩ : MethodName)) (argsL := [(.int p2)]) (st := []) (pc' := 5) C X0 d19_2 (wq hw 98 rfl) (wq hw 99 rfl) (own_nface (wq hw 108 rfl) rfl rfl (State.Warmed39.refl _)) (wq hw 100 rfl) (by decide) (wq hw 60 rfl) (wq hw 102 rfl) (by decide) (rmapa l Z a0 hw [] a1 p2 v1_ xs cs fm h0 n0 Z0 hF hB hlt hp gn_a1 gn_v1_ ne1v) (W := 0) (by decide) (by decide) (ce := 1) (sl := 10) rfl rfl (by decide) (by decide) rfl (Bld_exa hB) e0 rfl pd_17 rfl (Nat.le_refl _) rfl (fun rv1 T1 L1 X1 Q1 => ?_)
  obtain ⟨w1, q1, Nq1, Kq1, P1_0, xp1_0, xp1_1, xp1_2⟩ := Q1
  have N1 := Fr.app N0 Nq1
  have gn_w1 := xp1_1
  have FX_1 := FX_keep hF Kq1 ((allS (Bld_pl0 hB) (allS (Bld_pl1 hB) all0)))
  have Z1 := Nat.le_trans Z0 Kq1.1
  have K1 := K0.trans Kq1 (allS (Or.inl (List.mem_of_getElem? (i := 0) rfl)) (allS (Or.inl (List.mem_of_getElem? (i := 1) rfl)) all0))
  subst q1
  show Go p.tables e below _ (T1.setTop (mkF m 5 #[.val (.ref a1), .val (.int p2)] [(.ref a1)]))
  refine g_pop (pc' := 6) C X1 d19_5 rfl rfl ?_
  refine g_aloadN (pc' := 7) C X1 d19_6 rfl rfl rfl ?_
  exact g_retA C X1 rfl rfl rfl d19_7 (by decide) (by decide) ⟨w1, rfl, N1, K1, P1_0, xp1_0, xp1_1, xp1_2⟩
theorem d27_0 : decode jdk_68_method_64_code 0 = .ok (.aload_n 0, 1) := by decide +kernel
theorem d27_1 : decode jdk_68_method_64_code 1 = .ok (.getfield 15, 3) := by decide +kernel
theorem d27_4 : decode jdk_68_method_64_code 4 = .ok (.areturn, 1) := by decide +kernel
theorem ef_gv (m : MethodId) (a1 : Addr) : entryFrame m #[(.ref a1)] 1 = mkF m 0 #[.val (.ref a1)] [] := by first | (simp [entryFrame, mkF, argsToLocals, Value.category]; done) | rfl
def Q_gv (Z : State) (a1 : Addr) (v1_ : Addr) (cs : Int32) (fm : Value) (h0 : Heap) (n0 : Nat) (v : Option Value) (h : Heap) (L : List Loc) : Prop := v = some (.ref v1_) ∧ Fr n0 L ∧ h = h0
set_option maxRecDepth 65536 in
set_option maxHeartbeats 40000000 in
theorem rmgv (l : Launch) (Z : State) (a0 : Array Value) (hw : ∀ d ∈ tables_1, d.before a0 Z = true) (ws : List Jvm.Cond) (a1 : Addr) (v1_ : Addr) (cs : Int32) (fm : Value) (h0 : Heap) (n0 : Nat) (hF : FX Z h0 cs fm) (Fv_a1 : Fld Z h0 a1 "java/lang/AbstractStringBuilder" "value" "[B" (.ref v1_)) :
    MetFree l (⟨"java/lang/AbstractStringBuilder", "getValue", "()[B"⟩ : MethodName) (head1 (Jvm.Cond.code (⟨"java/lang/AbstractStringBuilder", "getValue", "()[B"⟩ : MethodName) jdk_68_method_64_code 1 (some (.array .byte)) :: ws) ({ frames := 0, cells := 0, slots := 0, locals := 0 } : Room)) (fun a U => a = #[(.ref a1)] ∧ Z.Warmed39 U.vm ∧ U.heap = h0) (fun _ _ _ _ _ => True) (fun _ U o U' => ∃ v L, o = .returned v ∧ Q_gv Z a1 v1_ cs fm h0 n0 v U'.heap L ∧ FrameEnd U o U' L ({ frames := 0, cells := 0, slots := 0, locals := 0 } : Room).cells ({ frames := 0, cells := 0, slots := 0, locals := 0 } : Room).slots) := by
  refine met_of (Ls := #[.val (.ref a1)]) (plainFor_of_name (by first | (simp [plainName, overriddenIn]; done) | decide +kernel)) (fun m => ef_gv m a1) ?_
  intro p e s m below meth c T0 C X0 e0
  obtain ⟨S_cs, hcs, S_fm, hfm, S_ad, S_hi, S_lo⟩ := id hF
  have N0 := Fr.nil n0
  refine g_aloadN (pc' := 1) C X0 d27_0 rfl rfl rfl ?_
  refine g_getF (pc' := 4) C X0 d27_1 (host := "") (Or.inl (wq hw 64 rfl)) Via.refl e0 Fv_a1 rfl (fun T1 X1 e1 => ?_)
  exact g_retA C X1 rfl rfl rfl d27_4 (by decide) (by decide) ⟨rfl, N0, e1⟩
theorem d29_0 : decode jdk_68_method_6_code 0 = .ok (.aload_n 0, 1) := by decide +kernel
theorem d29_1 : decode jdk_68_method_6_code 1 = .ok (.getfield 79, 3) := by decide +kernel
theorem d29_4 : decode jdk_68_method_6_code 4 = .ok (.ireturn, 1) := by decide +kernel
theorem ef_abl (m : MethodId) (a1 : Addr) : entryFrame m #[(.ref a1)] 1 = mkF m 0 #[.val (.ref a1)] [] := by first | (simp [entryFrame, mkF, argsToLocals, Value.category]; done) | rfl
def Q_abl (Z : State) (a1 : Addr) (n : Int32) (cs : Int32) (fm : Value) (h0 : Heap) (n0 : Nat) (v : Option Value) (h : Heap) (L : List Loc) : Prop := v = some (.int n) ∧ Fr n0 L ∧ h = h0
set_option maxRecDepth 65536 in
set_option maxHeartbeats 40000000 in
theorem rmabl (l : Launch) (Z : State) (a0 : Array Value) (hw : ∀ d ∈ tables_1, d.before a0 Z = true) (ws : List Jvm.Cond) (a1 : Addr) (n : Int32) (cs : Int32) (fm : Value) (h0 : Heap) (n0 : Nat) (hF : FX Z h0 cs fm) (Fn_a1 : Fld Z h0 a1 "java/lang/AbstractStringBuilder" "count" "I" (.int n)) :
    MetFree l (⟨"java/lang/AbstractStringBuilder", "length", "()I"⟩ : MethodName) (head1 (Jvm.Cond.code (⟨"java/lang/AbstractStringBuilder", "length", "()I"⟩ : MethodName) jdk_68_method_6_code 1 (some .int) :: ws) ({ frames := 0, cells := 0, slots := 0, locals := 0 } : Room)) (fun a U => a = #[(.ref a1)] ∧ Z.Warmed39 U.vm ∧ U.heap = h0) (fun _ _ _ _ _ => True) (fun _ U o U' => ∃ v L, o = .returned v ∧ Q_abl Z a1 n cs fm h0 n0 v U'.heap L ∧ FrameEnd U o U' L ({ frames := 0, cells := 0, slots := 0, locals := 0 } : Room).cells ({ frames := 0, cells := 0, slots := 0, locals := 0 } : Room).slots) := by
  refine met_of (Ls := #[.val (.ref a1)]) (plainFor_of_name (by first | (simp [plainName, overriddenIn]; done) | decide +kernel)) (fun m => ef_abl m a1) ?_
  intro p e s m below meth c T0 C X0 e0
  obtain ⟨S_cs, hcs, S_fm, hfm, S_ad, S_hi, S_lo⟩ := id hF
  have N0 := Fr.nil n0
  refine g_aloadN (pc' := 1) C X0 d29_0 rfl rfl rfl ?_
  refine g_getF (pc' := 4) C X0 d29_1 (host := "") (Or.inl (wq hw 103 rfl)) Via.refl e0 Fn_a1 rfl (fun T1 X1 e1 => ?_)
  exact g_retI C X1 d29_4 (by decide) (by decide) ⟨rfl, N0, e1⟩
theorem d28_0 : decode jdk_67_method_93_code 0 = .ok (.aload_n 0, 1) := by decide +kernel
theorem d28_1 : decode jdk_67_method_93_code 1 = .ok (.invokespecial 343, 3) := by decide +kernel
theorem pd_18 : parseMethodDescriptor "()I" = some ⟨[], some .int⟩ := by decide +kernel
theorem d28_4 : decode jdk_67_method_93_code 4 = .ok (.ireturn, 1) := by decide +kernel
theorem ef_sbl (m : MethodId) (a1 : Addr) : entryFrame m #[(.ref a1)] 1 = mkF m 0 #[.val (.ref a1)] [] := by first | (simp [entryFrame, mkF, argsToLocals, Value.category]; done) | rfl
def Q_sbl (Z : State) (a1 : Addr) (n : Int32) (cs : Int32) (fm : Value) (h0 : Heap) (n0 : Nat) (v : Option Value) (h : Heap) (L : List Loc) : Prop := v = some (.int n) ∧ Fr n0 L ∧ h = h0
set_option maxRecDepth 65536 in
set_option maxHeartbeats 40000000 in
theorem rmsbl (l : Launch) (Z : State) (a0 : Array Value) (hw : ∀ d ∈ tables_1, d.before a0 Z = true) (ws : List Jvm.Cond) (a1 : Addr) (n : Int32) (cs : Int32) (fm : Value) (h0 : Heap) (n0 : Nat) (hF : FX Z h0 cs fm) (E_a1 : Exa Z h0 a1 "java/lang/StringBuilder") (Fn_a1 : Fld Z h0 a1 "java/lang/AbstractStringBuilder" "count" "I" (.int n)) :
    MetFree l (⟨"java/lang/StringBuilder", "length", "()I"⟩ : MethodName) (head1 (Jvm.Cond.code (⟨"java/lang/StringBuilder", "length", "()I"⟩ : MethodName) jdk_67_method_93_code 1 (some .int) :: ws) ({ frames := 1, cells := 0, slots := 0, locals := 12 } : Room)) (fun a U => a = #[(.ref a1)] ∧ Z.Warmed39 U.vm ∧ U.heap = h0) (fun _ _ _ _ _ => True) (fun _ U o U' => ∃ v L, o = .returned v ∧ Q_sbl Z a1 n cs fm h0 n0 v U'.heap L ∧ FrameEnd U o U' L ({ frames := 1, cells := 0, slots := 0, locals := 12 } : Room).cells ({ frames := 1, cells := 0, slots := 0, locals := 12 } : Room).slots) := by
  refine met_of (Ls := #[.val (.ref a1)]) (plainFor_of_name (by first | (simp [plainName, overriddenIn]; done) | decide +kernel)) (fun m => ef_sbl m a1) ?_
  intro p e s m below meth c T0 C X0 e0
  obtain ⟨S_cs, hcs, S_fm, hfm, S_ad, S_hi, S_lo⟩ := id hF
  have N0 := Fr.nil n0
  refine g_aloadN (pc' := 1) C X0 d28_0 rfl rfl rfl ?_
  refine g_callU (b := a1) (y := (⟨"java/lang/AbstractStringBuilder", "length", "()I"⟩ : MethodName)) (argsL := []) (st := []) (pc' := 4) C X0 d28_1 (wq hw 141 rfl) (wq hw 137 rfl) (own_nface (wq hw 108 rfl) rfl rfl (State.Warmed39.refl _)) (wq hw 100 rfl) (by decide) (wq hw 60 rfl) (wq hw 142 rfl) (by decide) (rmabl l Z a0 hw [] a1 n cs fm h0 n0 hF Fn_a1) (W := 0) (by decide) (by decide) (ce := 0) (sl := 0) rfl rfl (by decide) (by decide) rfl E_a1 e0 rfl pd_18 rfl (Nat.le_refl _) rfl (fun rv1 T1 L1 X1 Q1 => ?_)
  obtain ⟨q1, Nq1, e1⟩ := Q1
  have N1 := Fr.app N0 Nq1
  subst q1
  show Go p.tables e below _ (T1.setTop (mkF m 4 #[.val (.ref a1)] [(.int n)]))
  exact g_retI C X1 d28_4 (by decide) (by decide) ⟨rfl, N1, e1⟩
theorem d52_0 : decode jdk_29_method_69_code 0 = .ok (.iload_n 0, 1) := by decide +kernel
theorem d52_1 : decode jdk_29_method_69_code 1 = .ok (.iload_n 1, 1) := by decide +kernel
theorem d52_2 : decode jdk_29_method_69_code 2 = .ok (.if_icmp .gt 7, 3) := by decide +kernel
theorem d52_9 : decode jdk_29_method_69_code 9 = .ok (.iload_n 1, 1) := by decide +kernel
theorem d52_10 : decode jdk_29_method_69_code 10 = .ok (.ireturn, 1) := by decide +kernel
theorem d52_5 : decode jdk_29_method_69_code 5 = .ok (.iload_n 0, 1) := by decide +kernel
theorem d52_6 : decode jdk_29_method_69_code 6 = .ok (.goto 4, 3) := by decide +kernel
def Fmn (p1 : Int32) (p2 : Int32) : Int32 := (if p2 < p1 then p2 else p1)
theorem Fmn_l0 (p1 : Int32) (p2 : Int32) (h0 : p2 < p1) : Fmn p1 p2 = p2 := by
  unfold Fmn; rw [if_pos h0]
theorem Fmn_l1 (p1 : Int32) (p2 : Int32) (h0 : ¬ (p2 < p1)) : Fmn p1 p2 = p1 := by
  unfold Fmn; rw [if_neg h0]
theorem ef_mn (m : MethodId) (p1 : Int32) (p2 : Int32) : entryFrame m #[(.int p1), (.int p2)] 2 = mkF m 0 #[.val (.int p1), .val (.int p2)] [] := by first | (simp [entryFrame, mkF, argsToLocals, Value.category]; done) | rfl
def Q_mn (Z : State) (p1 : Int32) (p2 : Int32) (cs : Int32) (fm : Value) (h0 : Heap) (n0 : Nat) (v : Option Value) (h : Heap) (L : List Loc) : Prop := v = some (.int (Fmn p1 p2)) ∧ Fr n0 L ∧ h = h0
set_option maxRecDepth 65536 in
set_option maxHeartbeats 40000000 in
theorem rmmn (l : Launch) (Z : State) (a0 : Array Value) (hw : ∀ d ∈ tables_1, d.before a0 Z = true) (ws : List Jvm.Cond) (p1 : Int32) (p2 : Int32) (cs : Int32) (fm : Value) (h0 : Heap) (n0 : Nat) (hF : FX Z h0 cs fm) :
    MetFree l (⟨"java/lang/Math", "min", "(II)I"⟩ : MethodName) (head1 (Jvm.Cond.code (⟨"java/lang/Math", "min", "(II)I"⟩ : MethodName) jdk_29_method_69_code 2 (some .int) :: ws) ({ frames := 0, cells := 0, slots := 0, locals := 0 } : Room)) (fun a U => a = #[(.int p1), (.int p2)] ∧ Z.Warmed39 U.vm ∧ U.heap = h0) (fun _ _ _ _ _ => True) (fun _ U o U' => ∃ v L, o = .returned v ∧ Q_mn Z p1 p2 cs fm h0 n0 v U'.heap L ∧ FrameEnd U o U' L ({ frames := 0, cells := 0, slots := 0, locals := 0 } : Room).cells ({ frames := 0, cells := 0, slots := 0, locals := 0 } : Room).slots) := by
  refine met_of (Ls := #[.val (.int p1), .val (.int p2)]) (Jvm.Free.JP.mathPlain rfl (by decide +kernel)) (fun m => ef_mn m p1 p2) ?_
  intro p e s m below meth c T0 C X0 e0
  obtain ⟨S_cs, hcs, S_fm, hfm, S_ad, S_hi, S_lo⟩ := id hF
  have N0 := Fr.nil n0
  refine g_iloadN (pc' := 1) C X0 d52_0 rfl rfl ?_
  refine g_iloadN (pc' := 2) C X0 d52_1 rfl rfl ?_
  by_cases c1 : p2 < p1
  · refine g_icmpY (pc' := 9) C X0 d52_2 (tlt c1).2.2.1 (by decide) (by decide) ?_
    refine g_iloadN (pc' := 10) C X0 d52_9 rfl rfl ?_
    exact g_retI C X0 d52_10 (by decide) (by decide) ⟨congrArg (fun z => some (Value.int z)) (Fmn_l0 p1 p2 c1).symm, N0, e0⟩
  · refine g_icmpN (pc' := 5) C X0 d52_2 (flt c1).2.2.1 rfl ?_
    refine g_iloadN (pc' := 6) C X0 d52_5 rfl rfl ?_
    refine g_goto (pc' := 10) C X0 d52_6 (by decide) (by decide) ?_
    exact g_retI C X0 d52_10 (by decide) (by decide) ⟨congrArg (fun z => some (Value.int z)) (Fmn_l1 p1 p2 c1).symm, N0, e0⟩
theorem d51_0 : decode jdk_65_method_131_code 0 = .ok (.iload_n 1, 1) := by decide +kernel
theorem d51_1 : decode jdk_65_method_131_code 1 = .ok (.iload_n 0, 1) := by decide +kernel
theorem d51_2 : decode jdk_65_method_131_code 2 = .ok (.if_icmp .ge 35, 3) := by decide +kernel
theorem d51_37 : decode jdk_65_method_131_code 37 = .ok (.return_, 1) := by decide +kernel
theorem ef_ckl (m : MethodId) (p1 : Int32) (p2 : Int32) : entryFrame m #[(.int p1), (.int p2)] 2 = mkF m 0 #[.val (.int p1), .val (.int p2)] [] := by first | (simp [entryFrame, mkF, argsToLocals, Value.category]; done) | rfl
def Q_ckl (Z : State) (p1 : Int32) (p2 : Int32) (cs : Int32) (fm : Value) (h0 : Heap) (n0 : Nat) (v : Option Value) (h : Heap) (L : List Loc) : Prop := v = none ∧ Fr n0 L ∧ h = h0
set_option maxRecDepth 65536 in
set_option maxHeartbeats 40000000 in
theorem rmckl (l : Launch) (Z : State) (a0 : Array Value) (hw : ∀ d ∈ tables_1, d.before a0 Z = true) (ws : List Jvm.Cond) (p1 : Int32) (p2 : Int32) (cs : Int32) (fm : Value) (h0 : Heap) (n0 : Nat) (hF : FX Z h0 cs fm) (hcl : ¬ (p2 < p1)) :
    MetFree l (⟨"java/util/Arrays", "checkLength", "(II)V"⟩ : MethodName) (head1 (Jvm.Cond.code (⟨"java/util/Arrays", "checkLength", "(II)V"⟩ : MethodName) jdk_65_method_131_code 2 none :: ws) ({ frames := 0, cells := 0, slots := 0, locals := 0 } : Room)) (fun a U => a = #[(.int p1), (.int p2)] ∧ Z.Warmed39 U.vm ∧ U.heap = h0) (fun _ _ _ _ _ => True) (fun _ U o U' => ∃ v L, o = .returned v ∧ Q_ckl Z p1 p2 cs fm h0 n0 v U'.heap L ∧ FrameEnd U o U' L ({ frames := 0, cells := 0, slots := 0, locals := 0 } : Room).cells ({ frames := 0, cells := 0, slots := 0, locals := 0 } : Room).slots) := by
  refine met_of (Ls := #[.val (.int p1), .val (.int p2)]) (plainFor_of_name (by first | (simp [plainName, overriddenIn]; done) | decide +kernel)) (fun m => ef_ckl m p1 p2) ?_
  intro p e s m below meth c T0 C X0 e0
  obtain ⟨S_cs, hcs, S_fm, hfm, S_ad, S_hi, S_lo⟩ := id hF
  have N0 := Fr.nil n0
  refine g_iloadN (pc' := 1) C X0 d51_0 rfl rfl ?_
  refine g_iloadN (pc' := 2) C X0 d51_1 rfl rfl ?_
  refine g_icmpY (pc' := 37) C X0 d51_2 (flt hcl).2.1 (by decide) (by decide) ?_
  exact g_retV C X0 d51_37 (by decide) (by decide) ⟨rfl, N0, e0⟩
theorem own_hl {k : Nat} {v : Value} : (0 : Int32).toNatClampNeg + k ≤ (own_vl [] ++ List.replicate k v).length := by
  show 0 + k ≤ _
  rw [List.length_append, List.length_replicate]; omega
theorem own_cpv {Z : State} {h : Heap} {w : Addr} {k : ClassId} {ty : FieldType} {n : Int32} {lx : List Int32} {N : Nat} (hz : ∀ i, N ≤ i → lx.getD i 0 = 0)
    (A : Arv Z h w k ty n ((own_vl [] ++ List.replicate N (Value.int (0 : Int32))).take (0 : Int32).toNatClampNeg ++ (List.range N).map (fun i => (own_vl lx).getD ((0 : Int32).toNatClampNeg + i) (Value.int (0 : Int32))) ++ (own_vl [] ++ List.replicate N (Value.int (0 : Int32))).drop ((0 : Int32).toNatClampNeg + N)) (Value.int (0 : Int32))) : Arv Z h w k ty n (own_vl lx) (Value.int (0 : Int32)) := by
  refine A.pad fun i => ?_
  have z0 : (0 : Int32).toNatClampNeg = 0 := rfl
  have e0 : own_vl [] ++ List.replicate N (Value.int 0) = List.replicate N (Value.int 0) := rfl
  rw [z0, e0, List.take_zero, List.nil_append, Nat.zero_add, List.drop_replicate, Nat.sub_self, List.replicate_zero, List.append_nil, own_vl_getD, List.getD_eq_getElem?_getD (l := List.map (fun i => (own_vl lx).getD (0 + i) (Value.int 0)) (List.range N)), List.getElem?_map]
  by_cases q : i < N
  · rw [List.getElem?_range q]
    show _ = (own_vl lx).getD (0 + i) (Value.int 0)
    rw [Nat.zero_add, own_vl_getD]
  · rw [List.getElem?_eq_none (by rw [List.length_range]; omega), hz i (by omega)]; rfl
theorem own_cap {a b : Int32} (h0 : ¬ a < 0) (h : a < b) : a.toNatClampNeg ≤ b.toNatClampNeg := by
  rw [Int32.lt_iff_toInt_lt] at h
  show a.toInt.toNat ≤ b.toInt.toNat
  omega
theorem own_sub0 (a : Int32) : a - (0 : Int32) = a := Int32.sub_zero a
theorem d50_0 : decode jdk_65_method_133_code 0 = .ok (.iload_n 1, 1) := by decide +kernel
theorem d50_1 : decode jdk_65_method_133_code 1 = .ok (.iload_n 2, 1) := by decide +kernel
theorem d50_2 : decode jdk_65_method_133_code 2 = .ok (.invokestatic 343, 3) := by decide +kernel
theorem d50_5 : decode jdk_65_method_133_code 5 = .ok (.iload_n 2, 1) := by decide +kernel
theorem d50_6 : decode jdk_65_method_133_code 6 = .ok (.iload_n 1, 1) := by decide +kernel
theorem d50_7 : decode jdk_65_method_133_code 7 = .ok (.isub, 1) := by decide +kernel
theorem d50_8 : decode jdk_65_method_133_code 8 = .ok (.istore_n 3, 1) := by decide +kernel
theorem d50_9 : decode jdk_65_method_133_code 9 = .ok (.iload_n 3, 1) := by decide +kernel
theorem d50_10 : decode jdk_65_method_133_code 10 = .ok (.newarray .byte, 2) := by decide +kernel
theorem d50_12 : decode jdk_65_method_133_code 12 = .ok (.astore 4, 2) := by decide +kernel
theorem d50_14 : decode jdk_65_method_133_code 14 = .ok (.aload_n 0, 1) := by decide +kernel
theorem d50_15 : decode jdk_65_method_133_code 15 = .ok (.iload_n 1, 1) := by decide +kernel
theorem d50_16 : decode jdk_65_method_133_code 16 = .ok (.aload 4, 2) := by decide +kernel
theorem d50_18 : decode jdk_65_method_133_code 18 = .ok (.iconst 0, 1) := by decide +kernel
theorem d50_19 : decode jdk_65_method_133_code 19 = .ok (.aload_n 0, 1) := by decide +kernel
theorem d50_20 : decode jdk_65_method_133_code 20 = .ok (.arraylength, 1) := by decide +kernel
theorem d50_21 : decode jdk_65_method_133_code 21 = .ok (.iload_n 1, 1) := by decide +kernel
theorem d50_22 : decode jdk_65_method_133_code 22 = .ok (.isub, 1) := by decide +kernel
theorem d50_23 : decode jdk_65_method_133_code 23 = .ok (.iload_n 3, 1) := by decide +kernel
theorem d50_24 : decode jdk_65_method_133_code 24 = .ok (.invokestatic 304, 3) := by decide +kernel
theorem pd_19 : parseMethodDescriptor "(II)I" = some ⟨[.int, .int], some .int⟩ := by decide +kernel
theorem d50_27 : decode jdk_65_method_133_code 27 = .ok (.invokestatic 150, 3) := by decide +kernel
theorem d50_30 : decode jdk_65_method_133_code 30 = .ok (.aload 4, 2) := by decide +kernel
theorem d50_32 : decode jdk_65_method_133_code 32 = .ok (.areturn, 1) := by decide +kernel
theorem ef_crb5 (m : MethodId) (a1 : Addr) (p3 : Int32) : entryFrame m #[(.ref a1), (.int (0 : Int32)), (.int p3)] 5 = mkF m 0 #[.val (.ref a1), .val (.int (0 : Int32)), .val (.int p3), .unset, .unset] [] := by first | (simp [entryFrame, mkF, argsToLocals, Value.category]; done) | rfl
def Q_crb5 (Z : State) (a1 : Addr) (p3 : Int32) (k1 : ClassId) (lx : List Int32) (cs : Int32) (fm : Value) (h0 : Heap) (n0 : Nat) (vr : Option Value) (h : Heap) (L : List Loc) : Prop := ∃ w : Addr, ∃ kw : ClassId, (vr = some (.ref w)) ∧ (Fr n0 L) ∧ (Keep h0 h []) ∧ (h0.size ≤ w) ∧ (n0 ≤ w) ∧ (Arv Z h w kw .byte (p3 - (0 : Int32)) (own_vl lx) (.int (0 : Int32)))
set_option maxRecDepth 65536 in
set_option maxHeartbeats 40000000 in
theorem rmcrb5 (l : Launch) (Z : State) (a0 : Array Value) (hw : ∀ d ∈ tables_1, d.before a0 Z = true) (ws : List Jvm.Cond) (a1 : Addr) (p3 : Int32) (k1 : ClassId) (lx : List Int32) (cs : Int32) (fm : Value) (h0 : Heap) (n0 : Nat) (Z0 : n0 ≤ h0.size) (hF : FX Z h0 cs fm) (V_b : Arv Z h0 a1 k1 .byte (5 : Int32) (own_vl lx) (.int (0 : Int32))) (hcl_ : ¬ (p3 < (0 : Int32))) (h0_ : ¬ ((p3 - (0 : Int32)) < (0 : Int32))) (h1_ : (p3 - (0 : Int32)) < (5 : Int32)) (hz_ : ∀ i, (p3 - (0 : Int32)).toNatClampNeg ≤ i → lx.getD i 0 = 0) :
    MetFree l (⟨"java/util/Arrays", "copyOfRangeByte", "([BII)[B"⟩ : MethodName) (head1 (Jvm.Cond.code (⟨"java/util/Arrays", "copyOfRangeByte", "([BII)[B"⟩ : MethodName) jdk_65_method_133_code 5 (some (.array .byte)) :: ws) ({ frames := 1, cells := 1, slots := 5, locals := 40 } : Room)) (fun a U => a = #[(.ref a1), (.int (0 : Int32)), (.int p3)] ∧ Z.Warmed39 U.vm ∧ U.heap = h0) (fun _ _ _ _ _ => True) (fun _ U o U' => ∃ v L, o = .returned v ∧ Q_crb5 Z a1 p3 k1 lx cs fm h0 n0 v U'.heap L ∧ FrameEnd U o U' L ({ frames := 1, cells := 1, slots := 5, locals := 40 } : Room).cells ({ frames := 1, cells := 1, slots := 5, locals := 40 } : Room).slots) := by
  refine met_of (Ls := #[.val (.ref a1), .val (.int (0 : Int32)), .val (.int p3), .unset, .unset]) (plainFor_of_name (by first | (simp [plainName, overriddenIn]; done) | decide +kernel)) (fun m => ef_crb5 m a1 p3) ?_
  intro p e s m below meth c T0 C X0 e0
  obtain ⟨S_cs, hcs, S_fm, hfm, S_ad, S_hi, S_lo⟩ := id hF
  have N0 := Fr.nil n0
  have K0 : Keep h0 h0 [] := Keep.refl h0 _
  refine g_iloadN (pc' := 1) C X0 d50_0 rfl rfl ?_
  refine g_iloadN (pc' := 2) C X0 d50_1 rfl rfl ?_
  refine g_callS (y := (⟨"java/util/Arrays", "checkLength", "(II)V"⟩ : MethodName)) (argsL := [(.int (0 : Int32)), (.int p3)]) (st := []) (pc' := 5) C X0 d50_2 (wq hw 232 rfl) (wq hw 233 rfl) (wq hw 146 rfl) (wq hw 234 rfl) (by decide) (rmckl l Z a0 hw [] (0 : Int32) p3 cs fm h0 n0 hF hcl_) (W := 0) (by decide) (by decide) (ce := 0) (sl := 0) rfl rfl (by decide) (by decide) rfl e0 rfl pd_1 rfl (Nat.le_refl _) rfl (fun rv1 T1 L1 X1 Q1 => ?_)
  obtain ⟨q1, Nq1, e1⟩ := Q1
  have N1 := Fr.app N0 Nq1
  subst q1
  show Go p.tables e below _ (T1.setTop (mkF m 5 #[.val (.ref a1), .val (.int (0 : Int32)), .val (.int p3), .unset, .unset] []))
  refine g_iloadN (pc' := 6) C X1 d50_5 rfl rfl ?_
  refine g_iloadN (pc' := 7) C X1 d50_6 rfl rfl ?_
  refine g_isub (pc' := 8) C X1 d50_7 rfl ?_
  refine g_istoreN (pc' := 9) (Ls' := #[.val (.ref a1), .val (.int (0 : Int32)), .val (.int p3), .val (.int (p3 - (0 : Int32))), .unset]) C X1 d50_8 rfl rfl ?_
  refine g_iloadN (pc' := 10) C X1 d50_9 rfl rfl ?_
  refine g_newPE (pc' := 12) (cap := 5) (ad := "[B") C X1 (by decide) d50_10 (wq hw 25 rfl) e1 h0_ (own_cap h0_ h1_) (by decide) (ce := 1) (sl := 5) rfl rfl (by decide) (by decide) rfl (fun T2 h2 b2 ck2 g2 X2 e2 E2 V2 A2 => ?_)
  have ne2_3 : ¬ (a1 = b2) := Nat.ne_of_lt (Nat.lt_of_lt_of_le V_b.lt (Nat.le_of_eq g2.symm))
  have FX_2 := FX_ext hF E2
  have V_b_2 := V_b.ext E2
  have gn_b2 : n0 ≤ b2 := Nat.le_trans Z0 (Nat.le_of_eq g2.symm)
  have Z2 := Nat.le_trans Z0 E2.1
  have sz_b2 : h0.size ≤ b2 := Nat.le_trans K0.1 (Nat.le_of_eq g2.symm)
  have K2 := K0.ext E2
  refine g_astore (pc' := 14) (Ls' := #[.val (.ref a1), .val (.int (0 : Int32)), .val (.int p3), .val (.int (p3 - (0 : Int32))), .val (.ref b2)]) C X2 d50_12 rfl rfl rfl ?_
  refine g_aloadN (pc' := 15) C X2 d50_14 rfl rfl rfl ?_
  refine g_iloadN (pc' := 16) C X2 d50_15 rfl rfl ?_
  refine g_aload (pc' := 18) C X2 d50_16 rfl rfl rfl ?_
  refine g_iconst (pc' := 19) (v := (0 : Int32)) C X2 d50_18 rfl rfl ?_
  refine g_aloadN (pc' := 20) C X2 d50_19 rfl rfl rfl ?_
  refine g_len (pc' := 21) C X2 d50_20 e2 V_b_2 rfl ?_
  refine g_iloadN (pc' := 22) C X2 d50_21 rfl rfl ?_
  refine g_isub (pc' := 23) C X2 d50_22 rfl ?_
  refine own_cast (congrArg (fun z_c => T2.setTop (mkF m 23 #[.val (.ref a1), .val (.int (0 : Int32)), .val (.int p3), .val (.int (p3 - (0 : Int32))), .val (.ref b2)] (.int z_c :: [(.int (0 : Int32)), (.ref b2), (.int (0 : Int32)), (.ref a1)]))) (show ((5 : Int32) - (0 : Int32)) = (5 : Int32) from by decide)) ?_
  refine g_iloadN (pc' := 24) C X2 d50_23 rfl rfl ?_
  refine g_callS (y := (⟨"java/lang/Math", "min", "(II)I"⟩ : MethodName)) (argsL := [(.int (5 : Int32)), (.int (p3 - (0 : Int32)))]) (st := [(.int (0 : Int32)), (.ref b2), (.int (0 : Int32)), (.ref a1)]) (pc' := 27) C X2 d50_24 (wq hw 235 rfl) (wq hw 236 rfl) (wq hw 237 rfl) (wq hw 238 rfl) (by decide) (rmmn l Z a0 hw [] (5 : Int32) (p3 - (0 : Int32)) cs fm h2 n0 FX_2) (W := 4) (by decide) (by decide) (ce := 1) (sl := 5) rfl rfl (by decide) (by decide) rfl e2 rfl pd_19 rfl (Nat.le_refl _) rfl (fun rv4 T4 L4 X4 Q4 => ?_)
  obtain ⟨q4, Nq4, e4⟩ := Q4
  have N4 := Fr.app N1 Nq4
  rw [Fmn_l0 (5 : Int32) (p3 - (0 : Int32)) h1_] at q4
  subst q4
  show Go p.tables e below _ (T4.setTop (mkF m 27 #[.val (.ref a1), .val (.int (0 : Int32)), .val (.int p3), .val (.int (p3 - (0 : Int32))), .val (.ref b2)] [(.int (p3 - (0 : Int32))), (.int (0 : Int32)), (.ref b2), (.int (0 : Int32)), (.ref a1)]))
  refine g_cp (W := 0) (pc' := 30) C X4 d50_27 (wq hw 239 rfl) (wq hw 242 rfl) (wq hw 240 rfl) (wq hw 241 rfl) e4 V_b_2 (V2.pad (pad_rep _ _ ((p3 - (0 : Int32))).toNatClampNeg)) rfl (by decide) (by decide) h0_ (Nat.le_trans (Nat.le_of_eq (Nat.zero_add _)) (own_cap h0_ h1_)) (Nat.le_of_eq (Nat.zero_add _)) rfl own_hl N4 gn_b2 rfl (by decide) (Nat.le_refl _) (by decide) rfl (fun T5 h5 L5 X5 e5 N5 Kq5 A5 => ?_)
  have V5 : Arv Z h5 b2 ck2 .byte (p3 - (0 : Int32)) (own_vl lx) (.int (0 : Int32)) := own_cpv hz_ A5
  have FX_5 := FX_keep FX_2 Kq5 ((allS (by obtain ⟨c_, A_, _⟩ := V2; exact ⟨c_, A_.1, A_.plain⟩) all0))
  have V_b_5 := V_b_2.keep Kq5 (ninS ne2_3 nin0)
  have A2_5 := A2.keep Kq5
  have Z5 := Nat.le_trans Z2 Kq5.1
  have K5 := K2.trans Kq5 (allS (Or.inr sz_b2) all0)
  refine g_aload (pc' := 32) C X5 d50_30 rfl rfl rfl ?_
  exact g_retA C X5 rfl rfl rfl d50_32 (by decide) (by decide) ⟨b2, ck2, rfl, N5, (by rw [e5]; exact K5), sz_b2, gn_b2, (by rw [e5]; exact V5)⟩
theorem ef_crb10 (m : MethodId) (a1 : Addr) (p3 : Int32) : entryFrame m #[(.ref a1), (.int (0 : Int32)), (.int p3)] 5 = mkF m 0 #[.val (.ref a1), .val (.int (0 : Int32)), .val (.int p3), .unset, .unset] [] := by first | (simp [entryFrame, mkF, argsToLocals, Value.category]; done) | rfl
def Q_crb10 (Z : State) (a1 : Addr) (p3 : Int32) (k1 : ClassId) (lx : List Int32) (cs : Int32) (fm : Value) (h0 : Heap) (n0 : Nat) (vr : Option Value) (h : Heap) (L : List Loc) : Prop := ∃ w : Addr, ∃ kw : ClassId, (vr = some (.ref w)) ∧ (Fr n0 L) ∧ (Keep h0 h []) ∧ (h0.size ≤ w) ∧ (n0 ≤ w) ∧ (Arv Z h w kw .byte (p3 - (0 : Int32)) (own_vl lx) (.int (0 : Int32)))
set_option maxRecDepth 65536 in
set_option maxHeartbeats 40000000 in
theorem rmcrb10 (l : Launch) (Z : State) (a0 : Array Value) (hw : ∀ d ∈ tables_1, d.before a0 Z = true) (ws : List Jvm.Cond) (a1 : Addr) (p3 : Int32) (k1 : ClassId) (lx : List Int32) (cs : Int32) (fm : Value) (h0 : Heap) (n0 : Nat) (Z0 : n0 ≤ h0.size) (hF : FX Z h0 cs fm) (V_b : Arv Z h0 a1 k1 .byte (10 : Int32) (own_vl lx) (.int (0 : Int32))) (hcl_ : ¬ (p3 < (0 : Int32))) (h0_ : ¬ ((p3 - (0 : Int32)) < (0 : Int32))) (h1_ : (p3 - (0 : Int32)) < (10 : Int32)) (hz_ : ∀ i, (p3 - (0 : Int32)).toNatClampNeg ≤ i → lx.getD i 0 = 0) :
    MetFree l (⟨"java/util/Arrays", "copyOfRangeByte", "([BII)[B"⟩ : MethodName) (head1 (Jvm.Cond.code (⟨"java/util/Arrays", "copyOfRangeByte", "([BII)[B"⟩ : MethodName) jdk_65_method_133_code 5 (some (.array .byte)) :: ws) ({ frames := 1, cells := 1, slots := 10, locals := 40 } : Room)) (fun a U => a = #[(.ref a1), (.int (0 : Int32)), (.int p3)] ∧ Z.Warmed39 U.vm ∧ U.heap = h0) (fun _ _ _ _ _ => True) (fun _ U o U' => ∃ v L, o = .returned v ∧ Q_crb10 Z a1 p3 k1 lx cs fm h0 n0 v U'.heap L ∧ FrameEnd U o U' L ({ frames := 1, cells := 1, slots := 10, locals := 40 } : Room).cells ({ frames := 1, cells := 1, slots := 10, locals := 40 } : Room).slots) := by
  refine met_of (Ls := #[.val (.ref a1), .val (.int (0 : Int32)), .val (.int p3), .unset, .unset]) (plainFor_of_name (by first | (simp [plainName, overriddenIn]; done) | decide +kernel)) (fun m => ef_crb10 m a1 p3) ?_
  intro p e s m below meth c T0 C X0 e0
  obtain ⟨S_cs, hcs, S_fm, hfm, S_ad, S_hi, S_lo⟩ := id hF
  have N0 := Fr.nil n0
  have K0 : Keep h0 h0 [] := Keep.refl h0 _
  refine g_iloadN (pc' := 1) C X0 d50_0 rfl rfl ?_
  refine g_iloadN (pc' := 2) C X0 d50_1 rfl rfl ?_
  refine g_callS (y := (⟨"java/util/Arrays", "checkLength", "(II)V"⟩ : MethodName)) (argsL := [(.int (0 : Int32)), (.int p3)]) (st := []) (pc' := 5) C X0 d50_2 (wq hw 232 rfl) (wq hw 233 rfl) (wq hw 146 rfl) (wq hw 234 rfl) (by decide) (rmckl l Z a0 hw [] (0 : Int32) p3 cs fm h0 n0 hF hcl_) (W := 0) (by decide) (by decide) (ce := 0) (sl := 0) rfl rfl (by decide) (by decide) rfl e0 rfl pd_1 rfl (Nat.le_refl _) rfl (fun rv1 T1 L1 X1 Q1 => ?_)
  obtain ⟨q1, Nq1, e1⟩ := Q1
  have N1 := Fr.app N0 Nq1
  subst q1
  show Go p.tables e below _ (T1.setTop (mkF m 5 #[.val (.ref a1), .val (.int (0 : Int32)), .val (.int p3), .unset, .unset] []))
  refine g_iloadN (pc' := 6) C X1 d50_5 rfl rfl ?_
  refine g_iloadN (pc' := 7) C X1 d50_6 rfl rfl ?_
  refine g_isub (pc' := 8) C X1 d50_7 rfl ?_
  refine g_istoreN (pc' := 9) (Ls' := #[.val (.ref a1), .val (.int (0 : Int32)), .val (.int p3), .val (.int (p3 - (0 : Int32))), .unset]) C X1 d50_8 rfl rfl ?_
  refine g_iloadN (pc' := 10) C X1 d50_9 rfl rfl ?_
  refine g_newPE (pc' := 12) (cap := 10) (ad := "[B") C X1 (by decide) d50_10 (wq hw 25 rfl) e1 h0_ (own_cap h0_ h1_) (by decide) (ce := 1) (sl := 10) rfl rfl (by decide) (by decide) rfl (fun T2 h2 b2 ck2 g2 X2 e2 E2 V2 A2 => ?_)
  have ne2_3 : ¬ (a1 = b2) := Nat.ne_of_lt (Nat.lt_of_lt_of_le V_b.lt (Nat.le_of_eq g2.symm))
  have FX_2 := FX_ext hF E2
  have V_b_2 := V_b.ext E2
  have gn_b2 : n0 ≤ b2 := Nat.le_trans Z0 (Nat.le_of_eq g2.symm)
  have Z2 := Nat.le_trans Z0 E2.1
  have sz_b2 : h0.size ≤ b2 := Nat.le_trans K0.1 (Nat.le_of_eq g2.symm)
  have K2 := K0.ext E2
  refine g_astore (pc' := 14) (Ls' := #[.val (.ref a1), .val (.int (0 : Int32)), .val (.int p3), .val (.int (p3 - (0 : Int32))), .val (.ref b2)]) C X2 d50_12 rfl rfl rfl ?_
  refine g_aloadN (pc' := 15) C X2 d50_14 rfl rfl rfl ?_
  refine g_iloadN (pc' := 16) C X2 d50_15 rfl rfl ?_
  refine g_aload (pc' := 18) C X2 d50_16 rfl rfl rfl ?_
  refine g_iconst (pc' := 19) (v := (0 : Int32)) C X2 d50_18 rfl rfl ?_
  refine g_aloadN (pc' := 20) C X2 d50_19 rfl rfl rfl ?_
  refine g_len (pc' := 21) C X2 d50_20 e2 V_b_2 rfl ?_
  refine g_iloadN (pc' := 22) C X2 d50_21 rfl rfl ?_
  refine g_isub (pc' := 23) C X2 d50_22 rfl ?_
  refine own_cast (congrArg (fun z_c => T2.setTop (mkF m 23 #[.val (.ref a1), .val (.int (0 : Int32)), .val (.int p3), .val (.int (p3 - (0 : Int32))), .val (.ref b2)] (.int z_c :: [(.int (0 : Int32)), (.ref b2), (.int (0 : Int32)), (.ref a1)]))) (show ((10 : Int32) - (0 : Int32)) = (10 : Int32) from by decide)) ?_
  refine g_iloadN (pc' := 24) C X2 d50_23 rfl rfl ?_
  refine g_callS (y := (⟨"java/lang/Math", "min", "(II)I"⟩ : MethodName)) (argsL := [(.int (10 : Int32)), (.int (p3 - (0 : Int32)))]) (st := [(.int (0 : Int32)), (.ref b2), (.int (0 : Int32)), (.ref a1)]) (pc' := 27) C X2 d50_24 (wq hw 235 rfl) (wq hw 236 rfl) (wq hw 237 rfl) (wq hw 238 rfl) (by decide) (rmmn l Z a0 hw [] (10 : Int32) (p3 - (0 : Int32)) cs fm h2 n0 FX_2) (W := 4) (by decide) (by decide) (ce := 1) (sl := 10) rfl rfl (by decide) (by decide) rfl e2 rfl pd_19 rfl (Nat.le_refl _) rfl (fun rv4 T4 L4 X4 Q4 => ?_)
  obtain ⟨q4, Nq4, e4⟩ := Q4
  have N4 := Fr.app N1 Nq4
  rw [Fmn_l0 (10 : Int32) (p3 - (0 : Int32)) h1_] at q4
  subst q4
  show Go p.tables e below _ (T4.setTop (mkF m 27 #[.val (.ref a1), .val (.int (0 : Int32)), .val (.int p3), .val (.int (p3 - (0 : Int32))), .val (.ref b2)] [(.int (p3 - (0 : Int32))), (.int (0 : Int32)), (.ref b2), (.int (0 : Int32)), (.ref a1)]))
  refine g_cp (W := 0) (pc' := 30) C X4 d50_27 (wq hw 239 rfl) (wq hw 242 rfl) (wq hw 240 rfl) (wq hw 241 rfl) e4 V_b_2 (V2.pad (pad_rep _ _ ((p3 - (0 : Int32))).toNatClampNeg)) rfl (by decide) (by decide) h0_ (Nat.le_trans (Nat.le_of_eq (Nat.zero_add _)) (own_cap h0_ h1_)) (Nat.le_of_eq (Nat.zero_add _)) rfl own_hl N4 gn_b2 rfl (by decide) (Nat.le_refl _) (by decide) rfl (fun T5 h5 L5 X5 e5 N5 Kq5 A5 => ?_)
  have V5 : Arv Z h5 b2 ck2 .byte (p3 - (0 : Int32)) (own_vl lx) (.int (0 : Int32)) := own_cpv hz_ A5
  have FX_5 := FX_keep FX_2 Kq5 ((allS (by obtain ⟨c_, A_, _⟩ := V2; exact ⟨c_, A_.1, A_.plain⟩) all0))
  have V_b_5 := V_b_2.keep Kq5 (ninS ne2_3 nin0)
  have A2_5 := A2.keep Kq5
  have Z5 := Nat.le_trans Z2 Kq5.1
  have K5 := K2.trans Kq5 (allS (Or.inr sz_b2) all0)
  refine g_aload (pc' := 32) C X5 d50_30 rfl rfl rfl ?_
  exact g_retA C X5 rfl rfl rfl d50_32 (by decide) (by decide) ⟨b2, ck2, rfl, N5, (by rw [e5]; exact K5), sz_b2, gn_b2, (by rw [e5]; exact V5)⟩
theorem d30_0 : decode jdk_65_method_132_code 0 = .ok (.iload_n 1, 1) := by decide +kernel
theorem d30_1 : decode jdk_65_method_132_code 1 = .ok (.ifCond .ne 9, 3) := by decide +kernel
theorem d30_4 : decode jdk_65_method_132_code 4 = .ok (.iload_n 2, 1) := by decide +kernel
theorem d30_5 : decode jdk_65_method_132_code 5 = .ok (.aload_n 0, 1) := by decide +kernel
theorem d30_6 : decode jdk_65_method_132_code 6 = .ok (.arraylength, 1) := by decide +kernel
theorem d30_7 : decode jdk_65_method_132_code 7 = .ok (.if_icmp .eq 10, 3) := by decide +kernel
theorem d30_17 : decode jdk_65_method_132_code 17 = .ok (.aload_n 0, 1) := by decide +kernel
theorem d30_18 : decode jdk_65_method_132_code 18 = .ok (.invokevirtual 310, 3) := by decide +kernel
theorem d30_21 : decode jdk_65_method_132_code 21 = .ok (.checkcast 311, 3) := by decide +kernel
theorem d30_24 : decode jdk_65_method_132_code 24 = .ok (.areturn, 1) := by decide +kernel
theorem d30_10 : decode jdk_65_method_132_code 10 = .ok (.aload_n 0, 1) := by decide +kernel
theorem d30_11 : decode jdk_65_method_132_code 11 = .ok (.iload_n 1, 1) := by decide +kernel
theorem d30_12 : decode jdk_65_method_132_code 12 = .ok (.iload_n 2, 1) := by decide +kernel
theorem d30_13 : decode jdk_65_method_132_code 13 = .ok (.invokestatic 339, 3) := by decide +kernel
theorem pd_20 : parseMethodDescriptor "([BII)[B" = some ⟨[(.array .byte), .int, .int], some (.array .byte)⟩ := by decide +kernel
theorem d30_16 : decode jdk_65_method_132_code 16 = .ok (.areturn, 1) := by decide +kernel
theorem ef_cor5 (m : MethodId) (a1 : Addr) (p3 : Int32) : entryFrame m #[(.ref a1), (.int (0 : Int32)), (.int p3)] 3 = mkF m 0 #[.val (.ref a1), .val (.int (0 : Int32)), .val (.int p3)] [] := by first | (simp [entryFrame, mkF, argsToLocals, Value.category]; done) | rfl
def Q_cor5 (Z : State) (a1 : Addr) (p3 : Int32) (k1 : ClassId) (lx : List Int32) (cs : Int32) (fm : Value) (h0 : Heap) (n0 : Nat) (vr : Option Value) (h : Heap) (L : List Loc) : Prop := ∃ w : Addr, ∃ kw : ClassId, (vr = some (.ref w)) ∧ (Fr n0 L) ∧ (Keep h0 h []) ∧ (h0.size ≤ w) ∧ (n0 ≤ w) ∧ (Arv Z h w kw .byte p3 (own_vl lx) (.int (0 : Int32)))
set_option maxRecDepth 65536 in
set_option maxHeartbeats 40000000 in
theorem rmcor5 (l : Launch) (Z : State) (a0 : Array Value) (hw : ∀ d ∈ tables_1, d.before a0 Z = true) (ws : List Jvm.Cond) (a1 : Addr) (p3 : Int32) (k1 : ClassId) (lx : List Int32) (cs : Int32) (fm : Value) (h0 : Heap) (n0 : Nat) (Z0 : n0 ≤ h0.size) (hF : FX Z h0 cs fm) (V_b : Arv Z h0 a1 k1 .byte (5 : Int32) (own_vl lx) (.int (0 : Int32))) (E_a1 : Exa Z h0 a1 "[B") (hcl_ : ¬ (p3 < (0 : Int32))) (h0_ : ¬ ((p3 - (0 : Int32)) < (0 : Int32))) (hk_ : ¬ (p3 = (5 : Int32)) → (p3 - (0 : Int32)) < (5 : Int32)) (hz_ : ∀ i, (p3 - (0 : Int32)).toNatClampNeg ≤ i → lx.getD i 0 = 0) :
    MetFree l (⟨"java/util/Arrays", "copyOfRange", "([BII)[B"⟩ : MethodName) (head1 (Jvm.Cond.code (⟨"java/util/Arrays", "copyOfRange", "([BII)[B"⟩ : MethodName) jdk_65_method_132_code 3 (some (.array .byte)) :: ws) ({ frames := 2, cells := 1, slots := 5, locals := 56 } : Room)) (fun a U => a = #[(.ref a1), (.int (0 : Int32)), (.int p3)] ∧ Z.Warmed39 U.vm ∧ U.heap = h0) (fun _ _ _ _ _ => True) (fun _ U o U' => ∃ v L, o = .returned v ∧ Q_cor5 Z a1 p3 k1 lx cs fm h0 n0 v U'.heap L ∧ FrameEnd U o U' L ({ frames := 2, cells := 1, slots := 5, locals := 56 } : Room).cells ({ frames := 2, cells := 1, slots := 5, locals := 56 } : Room).slots) := by
  refine met_of (Ls := #[.val (.ref a1), .val (.int (0 : Int32)), .val (.int p3)]) (plainFor_of_name (by first | (simp [plainName, overriddenIn]; done) | decide +kernel)) (fun m => ef_cor5 m a1 p3) ?_
  intro p e s m below meth c T0 C X0 e0
  obtain ⟨S_cs, hcs, S_fm, hfm, S_ad, S_hi, S_lo⟩ := id hF
  have N0 := Fr.nil n0
  have K0 : Keep h0 h0 [] := Keep.refl h0 _
  refine g_iloadN (pc' := 1) C X0 d30_0 rfl rfl ?_
  refine g_ifN (pc' := 4) C X0 d30_1 (teq (show (0 : Int32) = (0 : Int32) from (by decide))).2 rfl ?_
  refine g_iloadN (pc' := 5) C X0 d30_4 rfl rfl ?_
  refine g_aloadN (pc' := 6) C X0 d30_5 rfl rfl rfl ?_
  refine g_len (pc' := 7) C X0 d30_6 e0 V_b rfl ?_
  by_cases c1 : p3 = (5 : Int32)
  · refine g_icmpY (pc' := 17) C X0 d30_7 (teq c1).1 (by decide) (by decide) ?_
    refine g_aloadN (pc' := 18) C X0 d30_17 rfl rfl rfl ?_
    refine g_clone (W := 0) (cap := 5) (pc' := 21) C X0 d30_18 (wq hw 148 rfl) (wq hw 149 rfl) (wq hw 153 rfl) (wq hw 151 rfl) (wq hw 152 rfl) (wq hw 154 rfl) e0 V_b E_a1 rfl (by decide) (Nat.le_refl _) (by decide) (by decide) (ce := 1) (sl := 5) rfl rfl (by decide) (by decide) rfl (fun T2 h2 b2 g2 X2 e2 E2 V2 A2 => ?_)
    have ne2_3 : ¬ (a1 = b2) := Nat.ne_of_lt (Nat.lt_of_lt_of_le V_b.lt (Nat.le_of_eq g2.symm))
    have FX_2 := FX_ext hF E2
    have V_b_2 := V_b.ext E2
    have E_a1_2 := E_a1.ext E2
    have gn_b2 : n0 ≤ b2 := Nat.le_trans Z0 (Nat.le_of_eq g2.symm)
    have Z2 := Nat.le_trans Z0 E2.1
    have sz_b2 : h0.size ≤ b2 := Nat.le_trans K0.1 (Nat.le_of_eq g2.symm)
    have K2 := K0.ext E2
    refine g_castY (pc' := 24) C X2 d30_21 (wq hw 155 rfl) e2 (Ins.self A2) rfl (fun T4 X4 e4 => ?_)
    exact g_retA C X4 rfl rfl rfl d30_24 (by decide) (by decide) ⟨b2, k1, rfl, N0, (by rw [e4]; exact K2), sz_b2, gn_b2, (by rw [e4, c1]; exact V2)⟩
  · refine g_icmpN (pc' := 10) C X0 d30_7 (feq c1).1 rfl ?_
    refine g_aloadN (pc' := 11) C X0 d30_10 rfl rfl rfl ?_
    refine g_iloadN (pc' := 12) C X0 d30_11 rfl rfl ?_
    refine g_iloadN (pc' := 13) C X0 d30_12 rfl rfl ?_
    refine g_callS (y := (⟨"java/util/Arrays", "copyOfRangeByte", "([BII)[B"⟩ : MethodName)) (argsL := [(.ref a1), (.int (0 : Int32)), (.int p3)]) (st := []) (pc' := 16) C X0 d30_13 (wq hw 229 rfl) (wq hw 230 rfl) (wq hw 146 rfl) (wq hw 231 rfl) (by decide) (rmcrb5 l Z a0 hw [] a1 p3 k1 lx cs fm h0 n0 Z0 hF V_b hcl_ h0_ (hk_ c1) hz_) (W := 0) (by decide) (by decide) (ce := 1) (sl := 5) rfl rfl (by decide) (by decide) rfl e0 rfl pd_20 rfl (Nat.le_refl _) rfl (fun rv5 T5 L5 X5 Q5 => ?_)
    obtain ⟨w5, kw5, q5, Nq5, Kq5, sz5_w, gn_w5, P5_0⟩ := Q5
    have N5 := Fr.app N0 Nq5
    have ne5_6 : ¬ (a1 = w5) := Nat.ne_of_lt (Nat.lt_of_lt_of_le V_b.lt sz5_w)
    have FX_5 := FX_keep hF Kq5 (fun _ q => nomatch q)
    have V_b_5 := V_b.keep Kq5 nin0
    have E_a1_5 := E_a1.keep Kq5
    have Z5 := Nat.le_trans Z0 Kq5.1
    have sz_w5 := Nat.le_trans K0.1 sz5_w
    have K5 := K0.trans Kq5 all0
    subst q5
    show Go p.tables e below _ (T5.setTop (mkF m 16 #[.val (.ref a1), .val (.int (0 : Int32)), .val (.int p3)] [(.ref w5)]))
    exact g_retA C X5 rfl rfl rfl d30_16 (by decide) (by decide) ⟨w5, kw5, rfl, N5, K5, sz_w5, gn_w5, (own_sub0 p3 ▸ P5_0)⟩
theorem ef_cor10 (m : MethodId) (a1 : Addr) (p3 : Int32) : entryFrame m #[(.ref a1), (.int (0 : Int32)), (.int p3)] 3 = mkF m 0 #[.val (.ref a1), .val (.int (0 : Int32)), .val (.int p3)] [] := by first | (simp [entryFrame, mkF, argsToLocals, Value.category]; done) | rfl
def Q_cor10 (Z : State) (a1 : Addr) (p3 : Int32) (k1 : ClassId) (lx : List Int32) (cs : Int32) (fm : Value) (h0 : Heap) (n0 : Nat) (vr : Option Value) (h : Heap) (L : List Loc) : Prop := ∃ w : Addr, ∃ kw : ClassId, (vr = some (.ref w)) ∧ (Fr n0 L) ∧ (Keep h0 h []) ∧ (h0.size ≤ w) ∧ (n0 ≤ w) ∧ (Arv Z h w kw .byte p3 (own_vl lx) (.int (0 : Int32)))
set_option maxRecDepth 65536 in
set_option maxHeartbeats 40000000 in
theorem rmcor10 (l : Launch) (Z : State) (a0 : Array Value) (hw : ∀ d ∈ tables_1, d.before a0 Z = true) (ws : List Jvm.Cond) (a1 : Addr) (p3 : Int32) (k1 : ClassId) (lx : List Int32) (cs : Int32) (fm : Value) (h0 : Heap) (n0 : Nat) (Z0 : n0 ≤ h0.size) (hF : FX Z h0 cs fm) (V_b : Arv Z h0 a1 k1 .byte (10 : Int32) (own_vl lx) (.int (0 : Int32))) (E_a1 : Exa Z h0 a1 "[B") (hcl_ : ¬ (p3 < (0 : Int32))) (h0_ : ¬ ((p3 - (0 : Int32)) < (0 : Int32))) (hk_ : ¬ (p3 = (10 : Int32)) → (p3 - (0 : Int32)) < (10 : Int32)) (hz_ : ∀ i, (p3 - (0 : Int32)).toNatClampNeg ≤ i → lx.getD i 0 = 0) :
    MetFree l (⟨"java/util/Arrays", "copyOfRange", "([BII)[B"⟩ : MethodName) (head1 (Jvm.Cond.code (⟨"java/util/Arrays", "copyOfRange", "([BII)[B"⟩ : MethodName) jdk_65_method_132_code 3 (some (.array .byte)) :: ws) ({ frames := 2, cells := 1, slots := 10, locals := 56 } : Room)) (fun a U => a = #[(.ref a1), (.int (0 : Int32)), (.int p3)] ∧ Z.Warmed39 U.vm ∧ U.heap = h0) (fun _ _ _ _ _ => True) (fun _ U o U' => ∃ v L, o = .returned v ∧ Q_cor10 Z a1 p3 k1 lx cs fm h0 n0 v U'.heap L ∧ FrameEnd U o U' L ({ frames := 2, cells := 1, slots := 10, locals := 56 } : Room).cells ({ frames := 2, cells := 1, slots := 10, locals := 56 } : Room).slots) := by
  refine met_of (Ls := #[.val (.ref a1), .val (.int (0 : Int32)), .val (.int p3)]) (plainFor_of_name (by first | (simp [plainName, overriddenIn]; done) | decide +kernel)) (fun m => ef_cor10 m a1 p3) ?_
  intro p e s m below meth c T0 C X0 e0
  obtain ⟨S_cs, hcs, S_fm, hfm, S_ad, S_hi, S_lo⟩ := id hF
  have N0 := Fr.nil n0
  have K0 : Keep h0 h0 [] := Keep.refl h0 _
  refine g_iloadN (pc' := 1) C X0 d30_0 rfl rfl ?_
  refine g_ifN (pc' := 4) C X0 d30_1 (teq (show (0 : Int32) = (0 : Int32) from (by decide))).2 rfl ?_
  refine g_iloadN (pc' := 5) C X0 d30_4 rfl rfl ?_
  refine g_aloadN (pc' := 6) C X0 d30_5 rfl rfl rfl ?_
  refine g_len (pc' := 7) C X0 d30_6 e0 V_b rfl ?_
  by_cases c1 : p3 = (10 : Int32)
  · refine g_icmpY (pc' := 17) C X0 d30_7 (teq c1).1 (by decide) (by decide) ?_
    refine g_aloadN (pc' := 18) C X0 d30_17 rfl rfl rfl ?_
    refine g_clone (W := 0) (cap := 10) (pc' := 21) C X0 d30_18 (wq hw 148 rfl) (wq hw 149 rfl) (wq hw 153 rfl) (wq hw 151 rfl) (wq hw 152 rfl) (wq hw 154 rfl) e0 V_b E_a1 rfl (by decide) (Nat.le_refl _) (by decide) (by decide) (ce := 1) (sl := 10) rfl rfl (by decide) (by decide) rfl (fun T2 h2 b2 g2 X2 e2 E2 V2 A2 => ?_)
    have ne2_3 : ¬ (a1 = b2) := Nat.ne_of_lt (Nat.lt_of_lt_of_le V_b.lt (Nat.le_of_eq g2.symm))
    have FX_2 := FX_ext hF E2
    have V_b_2 := V_b.ext E2
    have E_a1_2 := E_a1.ext E2
    have gn_b2 : n0 ≤ b2 := Nat.le_trans Z0 (Nat.le_of_eq g2.symm)
    have Z2 := Nat.le_trans Z0 E2.1
    have sz_b2 : h0.size ≤ b2 := Nat.le_trans K0.1 (Nat.le_of_eq g2.symm)
    have K2 := K0.ext E2
    refine g_castY (pc' := 24) C X2 d30_21 (wq hw 155 rfl) e2 (Ins.self A2) rfl (fun T4 X4 e4 => ?_)
    exact g_retA C X4 rfl rfl rfl d30_24 (by decide) (by decide) ⟨b2, k1, rfl, N0, (by rw [e4]; exact K2), sz_b2, gn_b2, (by rw [e4, c1]; exact V2)⟩
  · refine g_icmpN (pc' := 10) C X0 d30_7 (feq c1).1 rfl ?_
    refine g_aloadN (pc' := 11) C X0 d30_10 rfl rfl rfl ?_
    refine g_iloadN (pc' := 12) C X0 d30_11 rfl rfl ?_
    refine g_iloadN (pc' := 13) C X0 d30_12 rfl rfl ?_
    refine g_callS (y := (⟨"java/util/Arrays", "copyOfRangeByte", "([BII)[B"⟩ : MethodName)) (argsL := [(.ref a1), (.int (0 : Int32)), (.int p3)]) (st := []) (pc' := 16) C X0 d30_13 (wq hw 229 rfl) (wq hw 230 rfl) (wq hw 146 rfl) (wq hw 231 rfl) (by decide) (rmcrb10 l Z a0 hw [] a1 p3 k1 lx cs fm h0 n0 Z0 hF V_b hcl_ h0_ (hk_ c1) hz_) (W := 0) (by decide) (by decide) (ce := 1) (sl := 10) rfl rfl (by decide) (by decide) rfl e0 rfl pd_20 rfl (Nat.le_refl _) rfl (fun rv5 T5 L5 X5 Q5 => ?_)
    obtain ⟨w5, kw5, q5, Nq5, Kq5, sz5_w, gn_w5, P5_0⟩ := Q5
    have N5 := Fr.app N0 Nq5
    have ne5_6 : ¬ (a1 = w5) := Nat.ne_of_lt (Nat.lt_of_lt_of_le V_b.lt sz5_w)
    have FX_5 := FX_keep hF Kq5 (fun _ q => nomatch q)
    have V_b_5 := V_b.keep Kq5 nin0
    have E_a1_5 := E_a1.keep Kq5
    have Z5 := Nat.le_trans Z0 Kq5.1
    have sz_w5 := Nat.le_trans K0.1 sz5_w
    have K5 := K0.trans Kq5 all0
    subst q5
    show Go p.tables e below _ (T5.setTop (mkF m 16 #[.val (.ref a1), .val (.int (0 : Int32)), .val (.int p3)] [(.ref w5)]))
    exact g_retA C X5 rfl rfl rfl d30_16 (by decide) (by decide) ⟨w5, kw5, rfl, N5, K5, sz_w5, gn_w5, (own_sub0 p3 ▸ P5_0)⟩
theorem own_hzl {xs : List Int32} {n : Int32} (hne : n = own_n xs) (hl : xs.length ≤ 5) : ∀ i, (n - (0 : Int32)).toNatClampNeg ≤ i → (own_lat xs).getD i 0 = 0 := by
  intro i hi
  rw [own_sub0, hne, own_ntn hl] at hi
  rw [List.getD_eq_getElem?_getD, List.getElem?_eq_none (by unfold own_lat; rw [List.length_map]; exact hi)]; rfl
theorem own_dbl {xs : List Int32} {n : Int32} (hne : n = own_n xs) (hl : xs.length ≤ 5) : (n <<< ((1 : Int32) &&& 31)) = n + n := own_q5 (P := fun n => (n <<< ((1 : Int32) &&& 31)) = n + n) (own_r5e hne hl) (by decide)
theorem own_hzu {xs : List Int32} {n : Int32} (hne : n = own_n xs) (hl : xs.length ≤ 5) : ∀ i, ((n <<< ((1 : Int32) &&& 31)) - (0 : Int32)).toNatClampNeg ≤ i → (own_u xs).getD i 0 = 0 := by
  intro i hi
  have e : (n <<< ((1 : Int32) &&& 31)).toNatClampNeg = 2 * n.toNatClampNeg := own_q5 (P := fun n => (n <<< ((1 : Int32) &&& 31)).toNatClampNeg = 2 * n.toNatClampNeg) (own_r5e hne hl) (by decide)
  rw [own_sub0, e, hne, own_ntn hl] at hi
  rw [List.getD_eq_getElem?_getD, List.getElem?_eq_none (by rw [own_u_len]; exact hi)]; rfl
theorem d26_0 : decode jdk_42_method_150_code 0 = .ok (.aload_n 0, 1) := by decide +kernel
theorem d26_1 : decode jdk_42_method_150_code 1 = .ok (.invokespecial 1, 3) := by decide +kernel
theorem d26_4 : decode jdk_42_method_150_code 4 = .ok (.aload_n 1, 1) := by decide +kernel
theorem d26_5 : decode jdk_42_method_150_code 5 = .ok (.invokevirtual 552, 3) := by decide +kernel
theorem pd_21 : parseMethodDescriptor "()[B" = some ⟨[], some (.array .byte)⟩ := by decide +kernel
theorem d26_8 : decode jdk_42_method_150_code 8 = .ok (.astore_n 3, 1) := by decide +kernel
theorem d26_9 : decode jdk_42_method_150_code 9 = .ok (.aload_n 1, 1) := by decide +kernel
theorem d26_10 : decode jdk_42_method_150_code 10 = .ok (.invokevirtual 549, 3) := by decide +kernel
theorem d26_13 : decode jdk_42_method_150_code 13 = .ok (.istore 4, 2) := by decide +kernel
theorem d26_15 : decode jdk_42_method_150_code 15 = .ok (.aload_n 1, 1) := by decide +kernel
theorem d26_16 : decode jdk_42_method_150_code 16 = .ok (.invokevirtual 1047, 3) := by decide +kernel
theorem d26_19 : decode jdk_42_method_150_code 19 = .ok (.ifCond .eq 22, 3) := by decide +kernel
theorem d26_22 : decode jdk_42_method_150_code 22 = .ok (.aload_n 0, 1) := by decide +kernel
theorem d26_23 : decode jdk_42_method_150_code 23 = .ok (.iconst 0, 1) := by decide +kernel
theorem d26_24 : decode jdk_42_method_150_code 24 = .ok (.putfield 15, 3) := by decide +kernel
theorem d26_27 : decode jdk_42_method_150_code 27 = .ok (.aload_n 0, 1) := by decide +kernel
theorem d26_28 : decode jdk_42_method_150_code 28 = .ok (.aload_n 3, 1) := by decide +kernel
theorem d26_29 : decode jdk_42_method_150_code 29 = .ok (.iconst 0, 1) := by decide +kernel
theorem d26_30 : decode jdk_42_method_150_code 30 = .ok (.iload 4, 2) := by decide +kernel
theorem d26_32 : decode jdk_42_method_150_code 32 = .ok (.invokestatic 54, 3) := by decide +kernel
theorem d26_35 : decode jdk_42_method_150_code 35 = .ok (.putfield 9, 3) := by decide +kernel
theorem d26_38 : decode jdk_42_method_150_code 38 = .ok (.goto 59, 3) := by decide +kernel
theorem d26_97 : decode jdk_42_method_150_code 97 = .ok (.return_, 1) := by decide +kernel
theorem d26_41 : decode jdk_42_method_150_code 41 = .ok (.getstatic 38, 3) := by decide +kernel
theorem d26_44 : decode jdk_42_method_150_code 44 = .ok (.ifCond .eq 35, 3) := by decide +kernel
theorem d26_47 : decode jdk_42_method_150_code 47 = .ok (.aload_n 1, 1) := by decide +kernel
theorem d26_48 : decode jdk_42_method_150_code 48 = .ok (.getfield 1048, 3) := by decide +kernel
theorem d26_51 : decode jdk_42_method_150_code 51 = .ok (.ifCond .eq 28, 3) := by decide +kernel
theorem d26_79 : decode jdk_42_method_150_code 79 = .ok (.aload_n 0, 1) := by decide +kernel
theorem d26_80 : decode jdk_42_method_150_code 80 = .ok (.iconst 1, 1) := by decide +kernel
theorem d26_81 : decode jdk_42_method_150_code 81 = .ok (.putfield 15, 3) := by decide +kernel
theorem d26_84 : decode jdk_42_method_150_code 84 = .ok (.aload_n 0, 1) := by decide +kernel
theorem d26_85 : decode jdk_42_method_150_code 85 = .ok (.aload_n 3, 1) := by decide +kernel
theorem d26_86 : decode jdk_42_method_150_code 86 = .ok (.iconst 0, 1) := by decide +kernel
theorem d26_87 : decode jdk_42_method_150_code 87 = .ok (.iload 4, 2) := by decide +kernel
theorem d26_89 : decode jdk_42_method_150_code 89 = .ok (.iconst 1, 1) := by decide +kernel
theorem d26_90 : decode jdk_42_method_150_code 90 = .ok (.ishl, 1) := by decide +kernel
theorem d26_91 : decode jdk_42_method_150_code 91 = .ok (.invokestatic 54, 3) := by decide +kernel
theorem d26_94 : decode jdk_42_method_150_code 94 = .ok (.putfield 9, 3) := by decide +kernel
theorem ef_siv (m : MethodId) (a1 : Addr) (a2 : Addr) : entryFrame m #[(.ref a1), (.ref a2), .null] 5 = mkF m 0 #[.val (.ref a1), .val (.ref a2), .val .null, .unset, .unset] [] := by first | (simp [entryFrame, mkF, argsToLocals, Value.category]; done) | rfl
def Q_siv (Z : State) (a1 : Addr) (a2 : Addr) (v1_ : Addr) (xs : List Int32) (cs : Int32) (fm : Value) (h0 : Heap) (n0 : Nat) (vr : Option Value) (h : Heap) (L : List Loc) : Prop := ∃ w : Addr, (vr = none) ∧ (Fr n0 L) ∧ (Keep h0 h [a1]) ∧ (h0.size ≤ w) ∧ (n0 ≤ w) ∧ (Str Z h a1 w xs)
set_option maxRecDepth 65536 in
set_option maxHeartbeats 40000000 in
theorem rmsiv (l : Launch) (Z : State) (a0 : Array Value) (hw : ∀ d ∈ tables_1, d.before a0 Z = true) (ws : List Jvm.Cond) (a1 : Addr) (a2 : Addr) (v1_ : Addr) (xs : List Int32) (cs : Int32) (fm : Value) (h0 : Heap) (n0 : Nat) (Z0 : n0 ≤ h0.size) (hF : FX Z h0 cs fm) (E_a1 : Exa Z h0 a1 "java/lang/String") (Fv_a1 : Fld Z h0 a1 "java/lang/String" "value" "[B" .null) (Fc_a1 : Fld Z h0 a1 "java/lang/String" "coder" "B" (.int (0 : Int32))) (hB : Bld Z h0 a2 v1_ xs) (gn_a1 : n0 ≤ a1) (ne21 : ¬ (a2 = a1)) (nev1 : ¬ (v1_ = a1)) :
    MetFree l (⟨"java/lang/String", "<init>", "(Ljava/lang/AbstractStringBuilder;Ljava/lang/Void;)V"⟩ : MethodName) (head1 (Jvm.Cond.code (⟨"java/lang/String", "<init>", "(Ljava/lang/AbstractStringBuilder;Ljava/lang/Void;)V"⟩ : MethodName) jdk_42_method_150_code 5 none :: ws) ({ frames := 3, cells := 1, slots := 10, locals := 71 } : Room)) (fun a U => a = #[(.ref a1), (.ref a2), .null] ∧ Z.Warmed39 U.vm ∧ U.heap = h0) (fun _ _ _ _ _ => True) (fun _ U o U' => ∃ v L, o = .returned v ∧ Q_siv Z a1 a2 v1_ xs cs fm h0 n0 v U'.heap L ∧ FrameEnd U o U' L ({ frames := 3, cells := 1, slots := 10, locals := 71 } : Room).cells ({ frames := 3, cells := 1, slots := 10, locals := 71 } : Room).slots) := by
  refine met_of (Ls := #[.val (.ref a1), .val (.ref a2), .val .null, .unset, .unset]) (plainFor_of_name (by first | (simp [plainName, overriddenIn]; done) | decide +kernel)) (fun m => ef_siv m a1 a2) ?_
  intro p e s m below meth c T0 C X0 e0
  obtain ⟨S_cs, hcs, S_fm, hfm, S_ad, S_hi, S_lo⟩ := id hF
  have N0 := Fr.nil n0
  have K0 : Keep h0 h0 [a1] := Keep.refl h0 _
  rcases hB with ⟨hl_a2, hx_a2, E_a2, Fv_a2, Fm_a2, E_v1_, k_a2, n, hne, Fn_a2, ⟨Fc_a2, hy_a2, V_v1_⟩ | ⟨Fc_a2, V_v1_⟩⟩
  · have _q := trivial
    refine g_aloadN (pc' := 1) C X0 d26_0 rfl rfl rfl ?_
    refine g_initO (W := 0) (pc' := 4) C X0 d26_1 (wq hw 17 rfl) (wq hw 18 rfl) (wq hw 19 rfl) e0 rfl (by decide) (Nat.le_refl _) (by decide) rfl (fun T1 X1 e1 => ?_)
    refine g_aloadN (pc' := 5) C X1 d26_4 rfl rfl rfl ?_
    refine g_callV (b := a2) (z := (⟨"java/lang/AbstractStringBuilder", "getValue", "()[B"⟩ : MethodName)) (y := (⟨"java/lang/AbstractStringBuilder", "getValue", "()[B"⟩ : MethodName)) (argsL := []) (st := []) (pc' := 8) C X1 d26_5 (wq hw 130 rfl) (wq hw 131 rfl) (notFace_of_selects (args := #[]) (mvT C.hZ (wq hw 133 rfl))) (wq hw 133 rfl) (wq hw 132 rfl) (wq hw 60 rfl) (wq hw 134 rfl) (by decide) (rmgv l Z a0 hw [] a2 v1_ cs fm h0 n0 hF Fv_a2) (W := 0) (by decide) (by decide) (ce := 0) (sl := 0) rfl rfl (by decide) (by decide) rfl E_a2 e1 rfl pd_21 rfl (Nat.le_refl _) rfl (fun rv2 T2 L2 X2 Q2 => ?_)
    obtain ⟨q2, Nq2, e2⟩ := Q2
    have N2 := Fr.app N0 Nq2
    subst q2
    show Go p.tables e below _ (T2.setTop (mkF m 8 #[.val (.ref a1), .val (.ref a2), .val .null, .unset, .unset] [(.ref v1_)]))
    refine g_astoreN (pc' := 9) (Ls' := #[.val (.ref a1), .val (.ref a2), .val .null, .val (.ref v1_), .unset]) C X2 d26_8 rfl rfl rfl ?_
    refine g_aloadN (pc' := 10) C X2 d26_9 rfl rfl rfl ?_
    refine g_callV (b := a2) (z := (⟨"java/lang/StringBuilder", "length", "()I"⟩ : MethodName)) (y := (⟨"java/lang/AbstractStringBuilder", "length", "()I"⟩ : MethodName)) (argsL := []) (st := []) (pc' := 13) C X2 d26_10 (wq hw 135 rfl) (wq hw 136 rfl) (own_nface (wq hw 108 rfl) rfl rfl C.hZ) (wq hw 138 rfl) (wq hw 139 rfl) (wq hw 42 rfl) (wq hw 140 rfl) (by decide) (rmsbl l Z a0 hw [] a2 n cs fm h0 n0 hF E_a2 Fn_a2) (W := 0) (by decide) (by decide) (ce := 0) (sl := 0) rfl rfl (by decide) (by decide) rfl E_a2 e2 rfl pd_18 rfl (Nat.le_refl _) rfl (fun rv3 T3 L3 X3 Q3 => ?_)
    obtain ⟨q3, Nq3, e3⟩ := Q3
    have N3 := Fr.app N2 Nq3
    subst q3
    show Go p.tables e below _ (T3.setTop (mkF m 13 #[.val (.ref a1), .val (.ref a2), .val .null, .val (.ref v1_), .unset] [(.int n)]))
    refine g_istore (pc' := 15) (Ls' := #[.val (.ref a1), .val (.ref a2), .val .null, .val (.ref v1_), .val (.int n)]) C X3 d26_13 rfl rfl ?_
    refine g_aloadN (pc' := 16) C X3 d26_15 rfl rfl rfl ?_
    refine g_callV (b := a2) (z := (⟨"java/lang/AbstractStringBuilder", "isLatin1", "()Z"⟩ : MethodName)) (y := (⟨"java/lang/AbstractStringBuilder", "isLatin1", "()Z"⟩ : MethodName)) (argsL := []) (st := []) (pc' := 19) C X3 d26_16 (wq hw 143 rfl) (wq hw 111 rfl) (notFace_of_selects (args := #[]) (mvT C.hZ (wq hw 113 rfl))) (wq hw 113 rfl) (wq hw 112 rfl) (wq hw 60 rfl) (wq hw 114 rfl) (by decide) (rmasl0 l Z a0 hw [] a2 cs fm h0 n0 hF Fc_a2) (W := 0) (by decide) (by decide) (ce := 0) (sl := 0) rfl rfl (by decide) (by decide) rfl E_a2 e3 rfl pd_6 rfl (Nat.le_refl _) rfl (fun rv4 T4 L4 X4 Q4 => ?_)
    obtain ⟨q4, Nq4, e4⟩ := Q4
    have N4 := Fr.app N3 Nq4
    rw [Fasl0_l0 ] at q4
    subst q4
    show Go p.tables e below _ (T4.setTop (mkF m 19 #[.val (.ref a1), .val (.ref a2), .val .null, .val (.ref v1_), .val (.int n)] [(.int (1 : Int32))]))
    refine g_ifN (pc' := 22) C X4 d26_19 (feq (show ¬ ((1 : Int32) = (0 : Int32)) from (by decide))).1 rfl ?_
    refine g_aloadN (pc' := 23) C X4 d26_22 rfl rfl rfl ?_
    refine g_iconst (pc' := 24) (v := (0 : Int32)) C X4 d26_23 rfl rfl ?_
    refine g_putFN (pc' := 27) (v' := (.int (0 : Int32))) C X4 d26_24 (wq hw 32 rfl) Via.refl e4 Fc_a1 E_a1 (Or.inr ⟨(wq hw 33 rfl), rfl, rfl⟩) (wq hw 8 rfl) (ty := .byte) (by decide) rfl (by decide) rfl (fun T5 h5 X5 e5 W5 => ?_)
    have F5 := Fc_a1.same W5
    have FX_5 := FX_wr hF W5
    have E_a1_5 := E_a1.wr W5
    have Fv_a1_5 := Fv_a1.other W5 (Or.inr (slot_ne (Or.inr (wq hw 35 rfl)) (Or.inr (wq hw 33 rfl)) (by decide) (t := (.array .byte)) (t' := .byte) (by decide) (by decide)))
    have E_a2_5 := E_a2.wr W5
    have Fv_a2_5 := Fv_a2.other W5 (Or.inl ne21)
    have Fm_a2_5 := Fm_a2.other W5 (Or.inl ne21)
    have Fn_a2_5 := Fn_a2.other W5 (Or.inl ne21)
    have Fc_a2_5 := Fc_a2.other W5 (Or.inl ne21)
    have E_v1__5 := E_v1_.wr W5
    have V_v1__5 := V_v1_.other W5 nev1
    have Z5 := Nat.le_trans Z0 (Nat.le_of_eq W5.size.symm)
    have N5 := Fr.snoc X5 N4 gn_a1
    have K5 := K0.wr W5 (Or.inl (List.mem_of_getElem? (i := 0) rfl))
    refine g_aloadN (pc' := 28) C X5 d26_27 rfl rfl rfl ?_
    refine g_aloadN (pc' := 29) C X5 d26_28 rfl rfl rfl ?_
    refine g_iconst (pc' := 30) (v := (0 : Int32)) C X5 d26_29 rfl rfl ?_
    refine g_iload (pc' := 32) C X5 d26_30 rfl rfl ?_
    refine g_callS (y := (⟨"java/util/Arrays", "copyOfRange", "([BII)[B"⟩ : MethodName)) (argsL := [(.ref v1_), (.int (0 : Int32)), (.int n)]) (st := [(.ref a1)]) (pc' := 35) C X5 d26_32 (wq hw 144 rfl) (wq hw 145 rfl) (wq hw 146 rfl) (wq hw 147 rfl) (by decide) (rmcor5 l Z a0 hw [] v1_ n k_a2 (own_lat xs) cs fm h5 n0 Z5 FX_5 V_v1__5 E_v1__5 (own_q5 (P := fun n => ¬ (n < (0 : Int32))) (own_r5e hne hl_a2) (by decide)) (own_q5 (P := fun n => ¬ ((n - (0 : Int32)) < (0 : Int32))) (own_r5e hne hl_a2) (by decide)) (own_q5 (P := fun n => ¬ (n = (5 : Int32)) → (n - (0 : Int32)) < (5 : Int32)) (own_r5e hne hl_a2) (by decide)) (own_hzl hne hl_a2)) (W := 1) (by decide) (by decide) (ce := 1) (sl := 5) rfl rfl (by decide) (by decide) rfl e5 rfl pd_20 rfl (Nat.le_refl _) rfl (fun rv6 T6 L6 X6 Q6 => ?_)
    obtain ⟨w6, kw6, q6, Nq6, Kq6, sz6_w, gn_w6, P6_0⟩ := Q6
    have N6 := Fr.app N5 Nq6
    have ne6_7 : ¬ (a1 = w6) := Nat.ne_of_lt (Nat.lt_of_lt_of_le E_a1_5.lt sz6_w)
    have ne6_8 : ¬ (a2 = w6) := Nat.ne_of_lt (Nat.lt_of_lt_of_le E_a2_5.lt sz6_w)
    have ne6_9 : ¬ (v1_ = w6) := Nat.ne_of_lt (Nat.lt_of_lt_of_le E_v1__5.lt sz6_w)
    have FX_6 := FX_keep FX_5 Kq6 (fun _ q => nomatch q)
    have E_a1_6 := E_a1_5.keep Kq6
    have Fv_a1_6 := Fv_a1_5.keep Kq6 nin0
    have E_a2_6 := E_a2_5.keep Kq6
    have Fv_a2_6 := Fv_a2_5.keep Kq6 nin0
    have Fm_a2_6 := Fm_a2_5.keep Kq6 nin0
    have Fn_a2_6 := Fn_a2_5.keep Kq6 nin0
    have Fc_a2_6 := Fc_a2_5.keep Kq6 nin0
    have E_v1__6 := E_v1__5.keep Kq6
    have V_v1__6 := V_v1__5.keep Kq6 nin0
    have F5_6 := F5.keep Kq6 nin0
    have Z6 := Nat.le_trans Z5 Kq6.1
    have sz_w6 := Nat.le_trans K5.1 sz6_w
    have K6 := K5.trans Kq6 all0
    subst q6
    show Go p.tables e below _ (T6.setTop (mkF m 35 #[.val (.ref a1), .val (.ref a2), .val .null, .val (.ref v1_), .val (.int n)] [(.ref w6), (.ref a1)]))
    refine g_putF (pc' := 38) C X6 d26_35 (host := "") (Or.inl (wq hw 34 rfl)) Via.refl rfl Fv_a1_6 E_a1_6 (Or.inr ⟨(wq hw 35 rfl), rfl, rfl⟩) (wq hw 8 rfl) (ty := (.array .byte)) (by decide) rfl rfl rfl (fun T10 h10 X10 e10 W10 => ?_)
    have F10 := Fv_a1_6.same W10
    have FX_10 := FX_wr FX_6 W10
    have E_a1_10 := E_a1_6.wr W10
    have E_a2_10 := E_a2_6.wr W10
    have Fv_a2_10 := Fv_a2_6.other W10 (Or.inl ne21)
    have Fm_a2_10 := Fm_a2_6.other W10 (Or.inl ne21)
    have Fn_a2_10 := Fn_a2_6.other W10 (Or.inl ne21)
    have Fc_a2_10 := Fc_a2_6.other W10 (Or.inl ne21)
    have E_v1__10 := E_v1__6.wr W10
    have V_v1__10 := V_v1__6.other W10 nev1
    have F5_10 := F5_6.other W10 (Or.inr (slot_ne (Or.inr (wq hw 33 rfl)) (Or.inr (wq hw 35 rfl)) (by decide) (t := .byte) (t' := (.array .byte)) (by decide) (by decide)))
    have P6_0_10 := P6_0.other W10 (Ne.symm ne6_7)
    have Z10 := Nat.le_trans Z6 (Nat.le_of_eq W10.size.symm)
    have N10 := Fr.snoc X10 N6 gn_a1
    have K10 := K6.wr W10 (Or.inl (List.mem_of_getElem? (i := 0) rfl))
    refine g_goto (pc' := 97) C X10 d26_38 (by decide) (by decide) ?_
    exact g_retV C X10 d26_97 (by decide) (by decide) ⟨w6, rfl, N10, (by rw [e10]; exact K10), sz_w6, gn_w6, (by rw [e10]; exact ⟨hl_a2, hx_a2, E_a1_10, F10, _, n, hne, Or.inl ⟨F5_10, hy_a2, P6_0_10⟩⟩)⟩
  · have _q := trivial
    refine g_aloadN (pc' := 1) C X0 d26_0 rfl rfl rfl ?_
    refine g_initO (W := 0) (pc' := 4) C X0 d26_1 (wq hw 17 rfl) (wq hw 18 rfl) (wq hw 19 rfl) e0 rfl (by decide) (Nat.le_refl _) (by decide) rfl (fun T11 X11 e11 => ?_)
    refine g_aloadN (pc' := 5) C X11 d26_4 rfl rfl rfl ?_
    refine g_callV (b := a2) (z := (⟨"java/lang/AbstractStringBuilder", "getValue", "()[B"⟩ : MethodName)) (y := (⟨"java/lang/AbstractStringBuilder", "getValue", "()[B"⟩ : MethodName)) (argsL := []) (st := []) (pc' := 8) C X11 d26_5 (wq hw 130 rfl) (wq hw 131 rfl) (notFace_of_selects (args := #[]) (mvT C.hZ (wq hw 133 rfl))) (wq hw 133 rfl) (wq hw 132 rfl) (wq hw 60 rfl) (wq hw 134 rfl) (by decide) (rmgv l Z a0 hw [] a2 v1_ cs fm h0 n0 hF Fv_a2) (W := 0) (by decide) (by decide) (ce := 0) (sl := 0) rfl rfl (by decide) (by decide) rfl E_a2 e11 rfl pd_21 rfl (Nat.le_refl _) rfl (fun rv12 T12 L12 X12 Q12 => ?_)
    obtain ⟨q12, Nq12, e12⟩ := Q12
    have N12 := Fr.app N0 Nq12
    subst q12
    show Go p.tables e below _ (T12.setTop (mkF m 8 #[.val (.ref a1), .val (.ref a2), .val .null, .unset, .unset] [(.ref v1_)]))
    refine g_astoreN (pc' := 9) (Ls' := #[.val (.ref a1), .val (.ref a2), .val .null, .val (.ref v1_), .unset]) C X12 d26_8 rfl rfl rfl ?_
    refine g_aloadN (pc' := 10) C X12 d26_9 rfl rfl rfl ?_
    refine g_callV (b := a2) (z := (⟨"java/lang/StringBuilder", "length", "()I"⟩ : MethodName)) (y := (⟨"java/lang/AbstractStringBuilder", "length", "()I"⟩ : MethodName)) (argsL := []) (st := []) (pc' := 13) C X12 d26_10 (wq hw 135 rfl) (wq hw 136 rfl) (own_nface (wq hw 108 rfl) rfl rfl C.hZ) (wq hw 138 rfl) (wq hw 139 rfl) (wq hw 42 rfl) (wq hw 140 rfl) (by decide) (rmsbl l Z a0 hw [] a2 n cs fm h0 n0 hF E_a2 Fn_a2) (W := 0) (by decide) (by decide) (ce := 0) (sl := 0) rfl rfl (by decide) (by decide) rfl E_a2 e12 rfl pd_18 rfl (Nat.le_refl _) rfl (fun rv13 T13 L13 X13 Q13 => ?_)
    obtain ⟨q13, Nq13, e13⟩ := Q13
    have N13 := Fr.app N12 Nq13
    subst q13
    show Go p.tables e below _ (T13.setTop (mkF m 13 #[.val (.ref a1), .val (.ref a2), .val .null, .val (.ref v1_), .unset] [(.int n)]))
    refine g_istore (pc' := 15) (Ls' := #[.val (.ref a1), .val (.ref a2), .val .null, .val (.ref v1_), .val (.int n)]) C X13 d26_13 rfl rfl ?_
    refine g_aloadN (pc' := 16) C X13 d26_15 rfl rfl rfl ?_
    refine g_callV (b := a2) (z := (⟨"java/lang/AbstractStringBuilder", "isLatin1", "()Z"⟩ : MethodName)) (y := (⟨"java/lang/AbstractStringBuilder", "isLatin1", "()Z"⟩ : MethodName)) (argsL := []) (st := []) (pc' := 19) C X13 d26_16 (wq hw 143 rfl) (wq hw 111 rfl) (notFace_of_selects (args := #[]) (mvT C.hZ (wq hw 113 rfl))) (wq hw 113 rfl) (wq hw 112 rfl) (wq hw 60 rfl) (wq hw 114 rfl) (by decide) (rmasl1 l Z a0 hw [] a2 cs fm h0 n0 hF Fc_a2) (W := 0) (by decide) (by decide) (ce := 0) (sl := 0) rfl rfl (by decide) (by decide) rfl E_a2 e13 rfl pd_6 rfl (Nat.le_refl _) rfl (fun rv14 T14 L14 X14 Q14 => ?_)
    obtain ⟨q14, Nq14, e14⟩ := Q14
    have N14 := Fr.app N13 Nq14
    rw [Fasl1_l0 ] at q14
    subst q14
    show Go p.tables e below _ (T14.setTop (mkF m 19 #[.val (.ref a1), .val (.ref a2), .val .null, .val (.ref v1_), .val (.int n)] [(.int (0 : Int32))]))
    refine g_ifY (pc' := 41) C X14 d26_19 (teq (show (0 : Int32) = (0 : Int32) from (by decide))).1 (by decide) (by decide) ?_
    refine g_getS (pc' := 44) C X14 d26_41 (host := "") (Or.inl (wq hw 20 rfl)) Via.refl e14 S_cs rfl (fun T15 X15 e15 => ?_)
    refine g_ifN (pc' := 47) C X15 d26_44 (feq hcs).1 rfl ?_
    refine g_aloadN (pc' := 48) C X15 d26_47 rfl rfl rfl ?_
    refine g_getF (pc' := 51) C X15 d26_48 (host := "") (Or.inl (wq hw 227 rfl)) Via.refl e15 Fm_a2 rfl (fun T16 X16 e16 => ?_)
    refine g_ifY (pc' := 79) C X16 d26_51 (teq (show (0 : Int32) = (0 : Int32) from (by decide))).1 (by decide) (by decide) ?_
    refine g_aloadN (pc' := 80) C X16 d26_79 rfl rfl rfl ?_
    refine g_iconst (pc' := 81) (v := (1 : Int32)) C X16 d26_80 rfl rfl ?_
    refine g_putFN (pc' := 84) (v' := (.int (1 : Int32))) C X16 d26_81 (wq hw 32 rfl) Via.refl e16 Fc_a1 E_a1 (Or.inr ⟨(wq hw 33 rfl), rfl, rfl⟩) (wq hw 8 rfl) (ty := .byte) (by decide) rfl (by decide) rfl (fun T17 h17 X17 e17 W17 => ?_)
    have F17 := Fc_a1.same W17
    have FX_17 := FX_wr hF W17
    have E_a1_17 := E_a1.wr W17
    have Fv_a1_17 := Fv_a1.other W17 (Or.inr (slot_ne (Or.inr (wq hw 35 rfl)) (Or.inr (wq hw 33 rfl)) (by decide) (t := (.array .byte)) (t' := .byte) (by decide) (by decide)))
    have E_a2_17 := E_a2.wr W17
    have Fv_a2_17 := Fv_a2.other W17 (Or.inl ne21)
    have Fm_a2_17 := Fm_a2.other W17 (Or.inl ne21)
    have Fn_a2_17 := Fn_a2.other W17 (Or.inl ne21)
    have Fc_a2_17 := Fc_a2.other W17 (Or.inl ne21)
    have E_v1__17 := E_v1_.wr W17
    have V_v1__17 := V_v1_.other W17 nev1
    have Z17 := Nat.le_trans Z0 (Nat.le_of_eq W17.size.symm)
    have N17 := Fr.snoc X17 N14 gn_a1
    have K17 := K0.wr W17 (Or.inl (List.mem_of_getElem? (i := 0) rfl))
    refine g_aloadN (pc' := 85) C X17 d26_84 rfl rfl rfl ?_
    refine g_aloadN (pc' := 86) C X17 d26_85 rfl rfl rfl ?_
    refine g_iconst (pc' := 87) (v := (0 : Int32)) C X17 d26_86 rfl rfl ?_
    refine g_iload (pc' := 89) C X17 d26_87 rfl rfl ?_
    refine g_iconst (pc' := 90) (v := (1 : Int32)) C X17 d26_89 rfl rfl ?_
    refine g_ishl (pc' := 91) C X17 d26_90 rfl ?_
    refine g_callS (y := (⟨"java/util/Arrays", "copyOfRange", "([BII)[B"⟩ : MethodName)) (argsL := [(.ref v1_), (.int (0 : Int32)), (.int (n <<< ((1 : Int32) &&& 31)))]) (st := [(.ref a1)]) (pc' := 94) C X17 d26_91 (wq hw 144 rfl) (wq hw 145 rfl) (wq hw 146 rfl) (wq hw 147 rfl) (by decide) (rmcor10 l Z a0 hw [] v1_ (n <<< ((1 : Int32) &&& 31)) k_a2 (own_u xs) cs fm h17 n0 Z17 FX_17 V_v1__17 E_v1__17 (own_q5 (P := fun n => ¬ ((n <<< ((1 : Int32) &&& 31)) < (0 : Int32))) (own_r5e hne hl_a2) (by decide)) (own_q5 (P := fun n => ¬ (((n <<< ((1 : Int32) &&& 31)) - (0 : Int32)) < (0 : Int32))) (own_r5e hne hl_a2) (by decide)) (own_q5 (P := fun n => ¬ ((n <<< ((1 : Int32) &&& 31)) = (10 : Int32)) → ((n <<< ((1 : Int32) &&& 31)) - (0 : Int32)) < (10 : Int32)) (own_r5e hne hl_a2) (by decide)) (own_hzu hne hl_a2)) (W := 1) (by decide) (by decide) (ce := 1) (sl := 10) rfl rfl (by decide) (by decide) rfl e17 rfl pd_20 rfl (Nat.le_refl _) rfl (fun rv18 T18 L18 X18 Q18 => ?_)
    obtain ⟨w18, kw18, q18, Nq18, Kq18, sz18_w, gn_w18, P18_0⟩ := Q18
    have N18 := Fr.app N17 Nq18
    have ne18_19 : ¬ (a1 = w18) := Nat.ne_of_lt (Nat.lt_of_lt_of_le E_a1_17.lt sz18_w)
    have ne18_20 : ¬ (a2 = w18) := Nat.ne_of_lt (Nat.lt_of_lt_of_le E_a2_17.lt sz18_w)
    have ne18_21 : ¬ (v1_ = w18) := Nat.ne_of_lt (Nat.lt_of_lt_of_le E_v1__17.lt sz18_w)
    have FX_18 := FX_keep FX_17 Kq18 (fun _ q => nomatch q)
    have E_a1_18 := E_a1_17.keep Kq18
    have Fv_a1_18 := Fv_a1_17.keep Kq18 nin0
    have E_a2_18 := E_a2_17.keep Kq18
    have Fv_a2_18 := Fv_a2_17.keep Kq18 nin0
    have Fm_a2_18 := Fm_a2_17.keep Kq18 nin0
    have Fn_a2_18 := Fn_a2_17.keep Kq18 nin0
    have Fc_a2_18 := Fc_a2_17.keep Kq18 nin0
    have E_v1__18 := E_v1__17.keep Kq18
    have V_v1__18 := V_v1__17.keep Kq18 nin0
    have F17_18 := F17.keep Kq18 nin0
    have Z18 := Nat.le_trans Z17 Kq18.1
    have sz_w18 := Nat.le_trans K17.1 sz18_w
    have K18 := K17.trans Kq18 all0
    subst q18
    show Go p.tables e below _ (T18.setTop (mkF m 94 #[.val (.ref a1), .val (.ref a2), .val .null, .val (.ref v1_), .val (.int n)] [(.ref w18), (.ref a1)]))
    refine g_putF (pc' := 97) C X18 d26_94 (host := "") (Or.inl (wq hw 34 rfl)) Via.refl rfl Fv_a1_18 E_a1_18 (Or.inr ⟨(wq hw 35 rfl), rfl, rfl⟩) (wq hw 8 rfl) (ty := (.array .byte)) (by decide) rfl rfl rfl (fun T22 h22 X22 e22 W22 => ?_)
    have F22 := Fv_a1_18.same W22
    have FX_22 := FX_wr FX_18 W22
    have E_a1_22 := E_a1_18.wr W22
    have E_a2_22 := E_a2_18.wr W22
    have Fv_a2_22 := Fv_a2_18.other W22 (Or.inl ne21)
    have Fm_a2_22 := Fm_a2_18.other W22 (Or.inl ne21)
    have Fn_a2_22 := Fn_a2_18.other W22 (Or.inl ne21)
    have Fc_a2_22 := Fc_a2_18.other W22 (Or.inl ne21)
    have E_v1__22 := E_v1__18.wr W22
    have V_v1__22 := V_v1__18.other W22 nev1
    have F17_22 := F17_18.other W22 (Or.inr (slot_ne (Or.inr (wq hw 33 rfl)) (Or.inr (wq hw 35 rfl)) (by decide) (t := .byte) (t' := (.array .byte)) (by decide) (by decide)))
    have P18_0_22 := P18_0.other W22 (Ne.symm ne18_19)
    have Z22 := Nat.le_trans Z18 (Nat.le_of_eq W22.size.symm)
    have N22 := Fr.snoc X22 N18 gn_a1
    have K22 := K18.wr W22 (Or.inl (List.mem_of_getElem? (i := 0) rfl))
    exact g_retV C X22 d26_97 (by decide) (by decide) ⟨w18, rfl, N22, (by rw [e22]; exact K22), sz_w18, gn_w18, (by rw [e22]; exact ⟨hl_a2, hx_a2, E_a1_22, F22, _, n, hne, Or.inr ⟨F17_22, own_dbl hne hl_a2 ▸ P18_0_22⟩⟩)⟩
theorem d25_0 : decode jdk_42_method_53_code 0 = .ok (.aload_n 0, 1) := by decide +kernel
theorem d25_1 : decode jdk_42_method_53_code 1 = .ok (.aload_n 1, 1) := by decide +kernel
theorem d25_2 : decode jdk_42_method_53_code 2 = .ok (.aconst_null, 1) := by decide +kernel
theorem d25_3 : decode jdk_42_method_53_code 3 = .ok (.invokespecial 489, 3) := by decide +kernel
theorem pd_22 : parseMethodDescriptor "(Ljava/lang/AbstractStringBuilder;Ljava/lang/Void;)V" = some ⟨[(.object "java/lang/AbstractStringBuilder"), (.object "java/lang/Void")], none⟩ := by decide +kernel
theorem d25_6 : decode jdk_42_method_53_code 6 = .ok (.return_, 1) := by decide +kernel
theorem ef_sib (m : MethodId) (a1 : Addr) (a2 : Addr) : entryFrame m #[(.ref a1), (.ref a2)] 2 = mkF m 0 #[.val (.ref a1), .val (.ref a2)] [] := by first | (simp [entryFrame, mkF, argsToLocals, Value.category]; done) | rfl
def Q_sib (Z : State) (a1 : Addr) (a2 : Addr) (v1_ : Addr) (xs : List Int32) (cs : Int32) (fm : Value) (h0 : Heap) (n0 : Nat) (vr : Option Value) (h : Heap) (L : List Loc) : Prop := ∃ w : Addr, (vr = none) ∧ (Fr n0 L) ∧ (Keep h0 h [a1]) ∧ (h0.size ≤ w) ∧ (n0 ≤ w) ∧ (Str Z h a1 w xs)
set_option maxRecDepth 65536 in
set_option maxHeartbeats 40000000 in
theorem rmsib (l : Launch) (Z : State) (a0 : Array Value) (hw : ∀ d ∈ tables_1, d.before a0 Z = true) (ws : List Jvm.Cond) (a1 : Addr) (a2 : Addr) (v1_ : Addr) (xs : List Int32) (cs : Int32) (fm : Value) (h0 : Heap) (n0 : Nat) (Z0 : n0 ≤ h0.size) (hF : FX Z h0 cs fm) (E_a1 : Exa Z h0 a1 "java/lang/String") (Fv_a1 : Fld Z h0 a1 "java/lang/String" "value" "[B" .null) (Fc_a1 : Fld Z h0 a1 "java/lang/String" "coder" "B" (.int (0 : Int32))) (hB : Bld Z h0 a2 v1_ xs) (gn_a1 : n0 ≤ a1) (ne21 : ¬ (a2 = a1)) (nev1 : ¬ (v1_ = a1)) :
    MetFree l (⟨"java/lang/String", "<init>", "(Ljava/lang/StringBuilder;)V"⟩ : MethodName) (head1 (Jvm.Cond.code (⟨"java/lang/String", "<init>", "(Ljava/lang/StringBuilder;)V"⟩ : MethodName) jdk_42_method_53_code 2 none :: ws) ({ frames := 4, cells := 1, slots := 10, locals := 87 } : Room)) (fun a U => a = #[(.ref a1), (.ref a2)] ∧ Z.Warmed39 U.vm ∧ U.heap = h0) (fun _ _ _ _ _ => True) (fun _ U o U' => ∃ v L, o = .returned v ∧ Q_sib Z a1 a2 v1_ xs cs fm h0 n0 v U'.heap L ∧ FrameEnd U o U' L ({ frames := 4, cells := 1, slots := 10, locals := 87 } : Room).cells ({ frames := 4, cells := 1, slots := 10, locals := 87 } : Room).slots) := by
  refine met_of (Ls := #[.val (.ref a1), .val (.ref a2)]) (plainFor_of_name (by first | (simp [plainName, overriddenIn]; done) | decide +kernel)) (fun m => ef_sib m a1 a2) ?_
  intro p e s m below meth c T0 C X0 e0
  obtain ⟨S_cs, hcs, S_fm, hfm, S_ad, S_hi, S_lo⟩ := id hF
  have N0 := Fr.nil n0
  have K0 : Keep h0 h0 [a1] := Keep.refl h0 _
  refine g_aloadN (pc' := 1) C X0 d25_0 rfl rfl rfl ?_
  refine g_aloadN (pc' := 2) C X0 d25_1 rfl rfl rfl ?_
  refine g_null (pc' := 3) C X0 d25_2 rfl ?_
  refine g_callI (b := a1) (y := (⟨"java/lang/String", "<init>", "(Ljava/lang/AbstractStringBuilder;Ljava/lang/Void;)V"⟩ : MethodName)) (argsL := [(.ref a2), .null]) (st := []) (pc' := 6) C X0 rfl d25_3 (wq hw 127 rfl) (wq hw 128 rfl) (wq hw 9 rfl) (wq hw 129 rfl) (by decide) (rmsiv l Z a0 hw [] a1 a2 v1_ xs cs fm h0 n0 Z0 hF E_a1 Fv_a1 Fc_a1 hB gn_a1 ne21 nev1) (W := 0) (by decide) (by decide) (ce := 1) (sl := 10) rfl rfl (by decide) (by decide) rfl e0 rfl pd_22 rfl (Nat.le_refl _) rfl (fun rv1 T1 L1 X1 Q1 => ?_)
  obtain ⟨w1, q1, Nq1, Kq1, sz1_w, gn_w1, P1_0⟩ := Q1
  have N1 := Fr.app N0 Nq1
  have ne1_2 : ¬ (a1 = w1) := Nat.ne_of_lt (Nat.lt_of_lt_of_le E_a1.lt sz1_w)
  have ne1_3 : ¬ (a2 = w1) := Nat.ne_of_lt (Nat.lt_of_lt_of_le (Bld_lt0 hB) sz1_w)
  have ne1_4 : ¬ (v1_ = w1) := Nat.ne_of_lt (Nat.lt_of_lt_of_le (Bld_lt1 hB) sz1_w)
  have FX_1 := FX_keep hF Kq1 ((allS (by obtain ⟨c_, _, h1_, _, _, h2_, _⟩ := E_a1; exact ⟨c_, h1_, h2_⟩) all0))
  have E_a1_1 := E_a1.keep Kq1
  have hB_1 := Bld_keep hB Kq1 (ninS ne21 nin0) (ninS nev1 nin0)
  have Z1 := Nat.le_trans Z0 Kq1.1
  have sz_w1 := Nat.le_trans K0.1 sz1_w
  have K1 := K0.trans Kq1 (allS (Or.inl (List.mem_of_getElem? (i := 0) rfl)) all0)
  subst q1
  show Go p.tables e below _ (T1.setTop (mkF m 6 #[.val (.ref a1), .val (.ref a2)] []))
  exact g_retV C X1 d25_6 (by decide) (by decide) ⟨w1, rfl, N1, K1, sz_w1, gn_w1, P1_0⟩
theorem d24_0 : decode jdk_67_method_42_code 0 = .ok (.new 18, 3) := by decide +kernel
theorem d24_3 : decode jdk_67_method_42_code 3 = .ok (.dup, 1) := by decide +kernel
theorem d24_4 : decode jdk_67_method_42_code 4 = .ok (.aload_n 0, 1) := by decide +kernel
theorem d24_5 : decode jdk_67_method_42_code 5 = .ok (.invokespecial 137, 3) := by decide +kernel
theorem pd_23 : parseMethodDescriptor "(Ljava/lang/StringBuilder;)V" = some ⟨[(.object "java/lang/StringBuilder")], none⟩ := by decide +kernel
theorem d24_8 : decode jdk_67_method_42_code 8 = .ok (.areturn, 1) := by decide +kernel
theorem ef_tos (m : MethodId) (a1 : Addr) : entryFrame m #[(.ref a1)] 1 = mkF m 0 #[.val (.ref a1)] [] := by first | (simp [entryFrame, mkF, argsToLocals, Value.category]; done) | rfl
def Q_tos (Z : State) (a1 : Addr) (v1_ : Addr) (xs : List Int32) (cs : Int32) (fm : Value) (h0 : Heap) (n0 : Nat) (vr : Option Value) (h : Heap) (L : List Loc) : Prop := ∃ r : Addr, ∃ w : Addr, (vr = some (.ref r)) ∧ (Fr n0 L) ∧ (Keep h0 h []) ∧ (h0.size ≤ r) ∧ (h0.size ≤ w) ∧ (n0 ≤ r) ∧ (n0 ≤ w) ∧ (Str Z h r w xs)
set_option maxRecDepth 65536 in
set_option maxHeartbeats 40000000 in
theorem rmtos (l : Launch) (Z : State) (a0 : Array Value) (hw : ∀ d ∈ tables_1, d.before a0 Z = true) (ws : List Jvm.Cond) (a1 : Addr) (v1_ : Addr) (xs : List Int32) (cs : Int32) (fm : Value) (h0 : Heap) (n0 : Nat) (Z0 : n0 ≤ h0.size) (hF : FX Z h0 cs fm) (hB : Bld Z h0 a1 v1_ xs) :
    MetFree l (⟨"java/lang/StringBuilder", "toString", "()Ljava/lang/String;"⟩ : MethodName) (head1 (Jvm.Cond.code (⟨"java/lang/StringBuilder", "toString", "()Ljava/lang/String;"⟩ : MethodName) jdk_67_method_42_code 1 (some (.object "java/lang/String")) :: ws) ({ frames := 5, cells := 2, slots := 14, locals := 101 } : Room)) (fun a U => a = #[(.ref a1)] ∧ Z.Warmed39 U.vm ∧ U.heap = h0) (fun _ _ _ _ _ => True) (fun _ U o U' => ∃ v L, o = .returned v ∧ Q_tos Z a1 v1_ xs cs fm h0 n0 v U'.heap L ∧ FrameEnd U o U' L ({ frames := 5, cells := 2, slots := 14, locals := 101 } : Room).cells ({ frames := 5, cells := 2, slots := 14, locals := 101 } : Room).slots) := by
  refine met_of (Ls := #[.val (.ref a1)]) (plainFor_of_name (by first | (simp [plainName, overriddenIn]; done) | decide +kernel)) (fun m => ef_tos m a1) ?_
  intro p e s m below meth c T0 C X0 e0
  obtain ⟨S_cs, hcs, S_fm, hfm, S_ad, S_hi, S_lo⟩ := id hF
  have N0 := Fr.nil n0
  have K0 : Keep h0 h0 [] := Keep.refl h0 _
  refine g_new (pc' := 3) C X0 d24_0 (wq hw 123 rfl) (wq hw 8 rfl) (wq hw 9 rfl) e0 (ce := 1) (sl := 4) rfl rfl (by decide) (by decide) rfl (fun T1 h1 b1 g1 X1 e1 E1 A1 D1 => ?_)
  have ne1_2 : ¬ (a1 = b1) := Nat.ne_of_lt (Nat.lt_of_lt_of_le (Bld_lt0 hB) (Nat.le_of_eq g1.symm))
  have ne1_3 : ¬ (v1_ = b1) := Nat.ne_of_lt (Nat.lt_of_lt_of_le (Bld_lt1 hB) (Nat.le_of_eq g1.symm))
  have FX_1 := FX_ext hF E1
  have hB_1 := Bld_ext hB E1
  have gn_b1 : n0 ≤ b1 := Nat.le_trans Z0 (Nat.le_of_eq g1.symm)
  have Z1 := Nat.le_trans Z0 E1.1
  have sz_b1 : h0.size ≤ b1 := Nat.le_trans K0.1 (Nat.le_of_eq g1.symm)
  have K1 := K0.ext E1
  have F1_coder : Fld Z h1 b1 "java/lang/String" "coder" "B" (.int (0 : Int32)) := D1 (Or.inr (wq hw 33 rfl)) (ty := .byte) (by decide)
  have F1_value : Fld Z h1 b1 "java/lang/String" "value" "[B" .null := D1 (Or.inr (wq hw 35 rfl)) (ty := (.array .byte)) (by decide)
  refine g_dup (pc' := 4) C X1 d24_3 rfl rfl ?_
  refine g_aloadN (pc' := 5) C X1 d24_4 rfl rfl rfl ?_
  refine g_callI (b := b1) (y := (⟨"java/lang/String", "<init>", "(Ljava/lang/StringBuilder;)V"⟩ : MethodName)) (argsL := [(.ref a1)]) (st := [(.ref b1)]) (pc' := 8) C X1 rfl d24_5 (wq hw 124 rfl) (wq hw 125 rfl) (wq hw 9 rfl) (wq hw 126 rfl) (by decide) (rmsib l Z a0 hw [] b1 a1 v1_ xs cs fm h1 n0 Z1 FX_1 A1 F1_value F1_coder hB_1 gn_b1 ne1_2 ne1_3) (W := 1) (by decide) (by decide) (ce := 2) (sl := 14) rfl rfl (by decide) (by decide) rfl e1 rfl pd_23 rfl (Nat.le_refl _) rfl (fun rv4 T4 L4 X4 Q4 => ?_)
  obtain ⟨w4, q4, Nq4, Kq4, sz4_w, gn_w4, P4_0⟩ := Q4
  have N4 := Fr.app N0 Nq4
  have ne4_5 : ¬ (b1 = w4) := Nat.ne_of_lt (Nat.lt_of_lt_of_le A1.lt sz4_w)
  have ne4_6 : ¬ (a1 = w4) := Nat.ne_of_lt (Nat.lt_of_lt_of_le (Bld_lt0 hB_1) sz4_w)
  have ne4_7 : ¬ (v1_ = w4) := Nat.ne_of_lt (Nat.lt_of_lt_of_le (Bld_lt1 hB_1) sz4_w)
  have FX_4 := FX_keep FX_1 Kq4 ((allS (by obtain ⟨c_, _, h1_, _, _, h2_, _⟩ := A1; exact ⟨c_, h1_, h2_⟩) all0))
  have hB_4 := Bld_keep hB_1 Kq4 (ninS ne1_2 nin0) (ninS ne1_3 nin0)
  have A1_4 := A1.keep Kq4
  have Z4 := Nat.le_trans Z1 Kq4.1
  have sz_w4 := Nat.le_trans K1.1 sz4_w
  have K4 := K1.trans Kq4 (allS (Or.inr sz_b1) all0)
  subst q4
  show Go p.tables e below _ (T4.setTop (mkF m 8 #[.val (.ref a1)] [(.ref b1)]))
  exact g_retA C X4 rfl rfl rfl d24_8 (by decide) (by decide) ⟨b1, w4, rfl, N4, K4, sz_b1, sz_w4, gn_b1, gn_w4, P4_0⟩
theorem own_all5 {P : Int32 → Prop} {x0 x1 x2 x3 x4 : Int32} (h0 : P x0) (h1 : P x1) (h2 : P x2) (h3 : P x3) (h4 : P x4) : ∀ x ∈ [x0, x1, x2, x3, x4], P x := by
  intro x hx
  simp only [List.mem_cons, List.not_mem_nil, or_false] at hx
  rcases hx with rfl | rfl | rfl | rfl | rfl <;> assumption
def own_wd (x0 x1 x2 x3 x4 : Int32) : Prop := (255 : Int32) < x0 ∨ (¬ ((255 : Int32) < x0) ∧ (255 : Int32) < x1) ∨ (¬ ((255 : Int32) < x0) ∧ ¬ ((255 : Int32) < x1) ∧ (255 : Int32) < x2) ∨ (¬ ((255 : Int32) < x0) ∧ ¬ ((255 : Int32) < x1) ∧ ¬ ((255 : Int32) < x2) ∧ (255 : Int32) < x3) ∨ (¬ ((255 : Int32) < x0) ∧ ¬ ((255 : Int32) < x1) ∧ ¬ ((255 : Int32) < x2) ∧ ¬ ((255 : Int32) < x3) ∧ (255 : Int32) < x4)
theorem own_nw (x0 x1 x2 x3 x4 : Int32) : (¬ ((255 : Int32) < x0) ∧ ¬ ((255 : Int32) < x1) ∧ ¬ ((255 : Int32) < x2) ∧ ¬ ((255 : Int32) < x3) ∧ ¬ ((255 : Int32) < x4)) ∨ own_wd x0 x1 x2 x3 x4 := by
  unfold own_wd
  by_cases h0 : (255 : Int32) < x0
  · exact Or.inr (Or.inl h0)
  · by_cases h1 : (255 : Int32) < x1
    · exact Or.inr (Or.inr (Or.inl ⟨h0, h1⟩))
    · by_cases h2 : (255 : Int32) < x2
      · exact Or.inr (Or.inr (Or.inr (Or.inl ⟨h0, h1, h2⟩)))
      · by_cases h3 : (255 : Int32) < x3
        · exact Or.inr (Or.inr (Or.inr (Or.inr (Or.inl ⟨h0, h1, h2, h3⟩))))
        · by_cases h4 : (255 : Int32) < x4
          · exact Or.inr (Or.inr (Or.inr (Or.inr (Or.inr ⟨h0, h1, h2, h3, h4⟩))))
          · exact Or.inl ⟨h0, h1, h2, h3, h4⟩
theorem own_msz {w v N n : Nat} (xp : ∀ o : Nat, o < N → ¬ (o = v) → ¬ (o = w)) (hv : n ≤ v) (hN : n ≤ N) : n ≤ w := by
  by_cases h : w < N
  · by_cases q : w = v
    · rw [q]; exact hv
    · exact absurd rfl (xp w h q)
  · omega

theorem d6_0 : decode jdk_52_method_21_code 0 = .ok (.iconst 0, 1) := by decide +kernel
theorem d6_1 : decode jdk_52_method_21_code 1 = .ok (.istore 5, 2) := by decide +kernel
theorem d6_3 : decode jdk_52_method_21_code 3 = .ok (.iload 5, 2) := by decide +kernel
theorem d6_5 : decode jdk_52_method_21_code 5 = .ok (.iload 4, 2) := by decide +kernel
theorem d6_7 : decode jdk_52_method_21_code 7 = .ok (.if_icmp .ge 37, 3) := by decide +kernel
theorem d6_10 : decode jdk_52_method_21_code 10 = .ok (.aload_n 0, 1) := by decide +kernel
theorem d6_11 : decode jdk_52_method_21_code 11 = .ok (.iload_n 1, 1) := by decide +kernel
theorem d6_12 : decode jdk_52_method_21_code 12 = .ok (.caload, 1) := by decide +kernel
theorem d6_13 : decode jdk_52_method_21_code 13 = .ok (.istore 6, 2) := by decide +kernel
theorem d6_15 : decode jdk_52_method_21_code 15 = .ok (.iload 6, 2) := by decide +kernel
theorem d6_17 : decode jdk_52_method_21_code 17 = .ok (.sipush 255, 3) := by decide +kernel
theorem d6_20 : decode jdk_52_method_21_code 20 = .ok (.if_icmp .le 6, 3) := by decide +kernel
theorem d6_26 : decode jdk_52_method_21_code 26 = .ok (.aload_n 2, 1) := by decide +kernel
theorem d6_27 : decode jdk_52_method_21_code 27 = .ok (.iload_n 3, 1) := by decide +kernel
theorem d6_28 : decode jdk_52_method_21_code 28 = .ok (.iload 6, 2) := by decide +kernel
theorem d6_30 : decode jdk_52_method_21_code 30 = .ok (.i2b, 1) := by decide +kernel
theorem d6_31 : decode jdk_52_method_21_code 31 = .ok (.bastore, 1) := by decide +kernel
theorem d6_32 : decode jdk_52_method_21_code 32 = .ok (.iinc 1 1, 3) := by decide +kernel
theorem d6_35 : decode jdk_52_method_21_code 35 = .ok (.iinc 3 1, 3) := by decide +kernel
theorem d6_38 : decode jdk_52_method_21_code 38 = .ok (.iinc 5 1, 3) := by decide +kernel
theorem d6_41 : decode jdk_52_method_21_code 41 = .ok (.goto (-38), 3) := by decide +kernel
theorem d6_44 : decode jdk_52_method_21_code 44 = .ok (.iload 4, 2) := by decide +kernel
theorem d6_46 : decode jdk_52_method_21_code 46 = .ok (.ireturn, 1) := by decide +kernel
def FcmN  : Int32 := (5 : Int32)
theorem FcmN_l0   : FcmN  = (5 : Int32) := rfl
theorem ef_cmN (m : MethodId) (a1 : Addr) (a3 : Addr) : entryFrame m #[(.ref a1), (.int (0 : Int32)), (.ref a3), (.int (0 : Int32)), (.int (5 : Int32))] 7 = mkF m 0 #[.val (.ref a1), .val (.int (0 : Int32)), .val (.ref a3), .val (.int (0 : Int32)), .val (.int (5 : Int32)), .unset, .unset] [] := by first | (simp [entryFrame, mkF, argsToLocals, Value.category]; done) | rfl
def Q_cmN (Z : State) (a1 : Addr) (a3 : Addr) (kc : ClassId) (k2 : ClassId) (x0 : Int32) (x1 : Int32) (x2 : Int32) (x3 : Int32) (x4 : Int32) (cs : Int32) (fm : Value) (h0 : Heap) (n0 : Nat) (vr : Option Value) (h : Heap) (L : List Loc) : Prop := (vr = some (.int (FcmN ))) ∧ (Fr n0 L) ∧ (Keep h0 h [a3]) ∧ (Arv Z h a3 k2 .byte (5 : Int32) (own_vl (own_s (own_s (own_s (own_s (own_s [] (0 : Int32) (nar .byte x0.toInt8.toInt32)) (1 : Int32) (nar .byte x1.toInt8.toInt32)) (2 : Int32) (nar .byte x2.toInt8.toInt32)) (3 : Int32) (nar .byte x3.toInt8.toInt32)) (4 : Int32) (nar .byte x4.toInt8.toInt32))) (.int (0 : Int32)))
set_option maxRecDepth 65536 in
set_option maxHeartbeats 40000000 in
theorem rmcmN (l : Launch) (Z : State) (a0 : Array Value) (hw : ∀ d ∈ tables_1, d.before a0 Z = true) (ws : List Jvm.Cond) (a1 : Addr) (a3 : Addr) (kc : ClassId) (k2 : ClassId) (x0 : Int32) (x1 : Int32) (x2 : Int32) (x3 : Int32) (x4 : Int32) (cs : Int32) (fm : Value) (h0 : Heap) (n0 : Nat) (Z0 : n0 ≤ h0.size) (hF : FX Z h0 cs fm) (V_c : Arv Z h0 a1 kc .char (5 : Int32) [(.int x0), (.int x1), (.int x2), (.int x3), (.int x4)] (.int (0 : Int32))) (V_d : Arv Z h0 a3 k2 .byte (5 : Int32) (own_vl []) (.int (0 : Int32))) (gn_a3 : n0 ≤ a3) (ne13 : ¬ (a1 = a3)) (hw0 : ¬ ((255 : Int32) < x0)) (hw1 : ¬ ((255 : Int32) < x1)) (hw2 : ¬ ((255 : Int32) < x2)) (hw3 : ¬ ((255 : Int32) < x3)) (hw4 : ¬ ((255 : Int32) < x4)) :
    MetFree l (⟨"java/lang/StringUTF16", "compress", "([CI[BII)I"⟩ : MethodName) (head1 (Jvm.Cond.code (⟨"java/lang/StringUTF16", "compress", "([CI[BII)I"⟩ : MethodName) jdk_52_method_21_code 7 (some .int) :: ws) ({ frames := 0, cells := 0, slots := 0, locals := 0 } : Room)) (fun a U => a = #[(.ref a1), (.int (0 : Int32)), (.ref a3), (.int (0 : Int32)), (.int (5 : Int32))] ∧ Z.Warmed39 U.vm ∧ U.heap = h0) (fun _ _ _ _ _ => True) (fun _ U o U' => ∃ v L, o = .returned v ∧ Q_cmN Z a1 a3 kc k2 x0 x1 x2 x3 x4 cs fm h0 n0 v U'.heap L ∧ FrameEnd U o U' L ({ frames := 0, cells := 0, slots := 0, locals := 0 } : Room).cells ({ frames := 0, cells := 0, slots := 0, locals := 0 } : Room).slots) := by
  refine met_of (Ls := #[.val (.ref a1), .val (.int (0 : Int32)), .val (.ref a3), .val (.int (0 : Int32)), .val (.int (5 : Int32)), .unset, .unset]) (plainFor_of_name (by first | (simp [plainName, overriddenIn]; done) | decide +kernel)) (fun m => ef_cmN m a1 a3) ?_
  intro p e s m below meth c T0 C X0 e0
  obtain ⟨S_cs, hcs, S_fm, hfm, S_ad, S_hi, S_lo⟩ := id hF
  have N0 := Fr.nil n0
  have K0 : Keep h0 h0 [a3] := Keep.refl h0 _
  refine g_iconst (pc' := 1) (v := (0 : Int32)) C X0 d6_0 rfl rfl ?_
  refine g_istore (pc' := 3) (Ls' := #[.val (.ref a1), .val (.int (0 : Int32)), .val (.ref a3), .val (.int (0 : Int32)), .val (.int (5 : Int32)), .val (.int (0 : Int32)), .unset]) C X0 d6_1 rfl rfl ?_
  refine g_iload (pc' := 5) C X0 d6_3 rfl rfl ?_
  refine g_iload (pc' := 7) C X0 d6_5 rfl rfl ?_
  refine g_icmpN (pc' := 10) C X0 d6_7 (tlt (show (0 : Int32) < (5 : Int32) from (by decide))).2.1 rfl ?_
  refine g_aloadN (pc' := 11) C X0 d6_10 rfl rfl rfl ?_
  refine g_iloadN (pc' := 12) C X0 d6_11 rfl rfl ?_
  refine g_ldC (pc' := 13) (v := (.int x0)) C X0 d6_12 e0 V_c ⟨by decide, by decide⟩ rfl rfl ?_
  refine g_istore (pc' := 15) (Ls' := #[.val (.ref a1), .val (.int (0 : Int32)), .val (.ref a3), .val (.int (0 : Int32)), .val (.int (5 : Int32)), .val (.int (0 : Int32)), .val (.int x0)]) C X0 d6_13 rfl rfl ?_
  refine g_iload (pc' := 17) C X0 d6_15 rfl rfl ?_
  refine g_sipush (pc' := 20) (v := (255 : Int32)) C X0 d6_17 rfl rfl ?_
  refine g_icmpY (pc' := 26) C X0 d6_20 (flt hw0).2.2.2 (by decide) (by decide) ?_
  refine g_aloadN (pc' := 27) C X0 d6_26 rfl rfl rfl ?_
  refine g_iloadN (pc' := 28) C X0 d6_27 rfl rfl ?_
  refine g_iload (pc' := 30) C X0 d6_28 rfl rfl ?_
  refine g_i2b (pc' := 31) C X0 d6_30 rfl ?_
  refine g_stB (pc' := 32) (i := (0 : Int32).toNatClampNeg) C X0 d6_31 e0 (V_d.pad (pad_rep _ _ ((0 : Int32).toNatClampNeg + 1))) ⟨by decide, by decide⟩ rfl own_lts rfl (fun T1 h1 X1 e1 W1 V1q => ?_)
  have V1 : Arv Z h1 a3 k2 .byte (5 : Int32) (own_vl (own_s [] (0 : Int32) (nar .byte x0.toInt8.toInt32))) (.int (0 : Int32)) := own_vl_set _ _ _ ▸ V1q
  have FX_1 := FX_wr hF W1
  have V_c_1 := V_c.other W1 ne13
  have Z1 := Nat.le_trans Z0 (Nat.le_of_eq W1.size.symm)
  have N1 := Fr.snoc X1 N0 gn_a3
  have K1 := K0.wr W1 (Or.inl (List.mem_of_getElem? (i := 0) rfl))
  refine g_iinc (pc' := 35) (Ls' := #[.val (.ref a1), .val (.int ((0 : Int32) + (1 : Int32))), .val (.ref a3), .val (.int (0 : Int32)), .val (.int (5 : Int32)), .val (.int (0 : Int32)), .val (.int x0)]) C X1 d6_32 rfl rfl rfl ?_
  refine own_cast (show T1.setTop (mkF m 35 #[.val (.ref a1), .val (.int ((0 : Int32) + (1 : Int32))), .val (.ref a3), .val (.int (0 : Int32)), .val (.int (5 : Int32)), .val (.int (0 : Int32)), .val (.int x0)] []) = T1.setTop (mkF m 35 #[.val (.ref a1), .val (.int (1 : Int32)), .val (.ref a3), .val (.int (0 : Int32)), .val (.int (5 : Int32)), .val (.int (0 : Int32)), .val (.int x0)] []) from by rw [(show ((0 : Int32) + (1 : Int32)) = (1 : Int32) from by decide)]) ?_
  refine g_iinc (pc' := 38) (Ls' := #[.val (.ref a1), .val (.int (1 : Int32)), .val (.ref a3), .val (.int ((0 : Int32) + (1 : Int32))), .val (.int (5 : Int32)), .val (.int (0 : Int32)), .val (.int x0)]) C X1 d6_35 rfl rfl rfl ?_
  refine own_cast (show T1.setTop (mkF m 38 #[.val (.ref a1), .val (.int (1 : Int32)), .val (.ref a3), .val (.int ((0 : Int32) + (1 : Int32))), .val (.int (5 : Int32)), .val (.int (0 : Int32)), .val (.int x0)] []) = T1.setTop (mkF m 38 #[.val (.ref a1), .val (.int (1 : Int32)), .val (.ref a3), .val (.int (1 : Int32)), .val (.int (5 : Int32)), .val (.int (0 : Int32)), .val (.int x0)] []) from by rw [(show ((0 : Int32) + (1 : Int32)) = (1 : Int32) from by decide)]) ?_
  refine g_iinc (pc' := 41) (Ls' := #[.val (.ref a1), .val (.int (1 : Int32)), .val (.ref a3), .val (.int (1 : Int32)), .val (.int (5 : Int32)), .val (.int ((0 : Int32) + (1 : Int32))), .val (.int x0)]) C X1 d6_38 rfl rfl rfl ?_
  refine own_cast (show T1.setTop (mkF m 41 #[.val (.ref a1), .val (.int (1 : Int32)), .val (.ref a3), .val (.int (1 : Int32)), .val (.int (5 : Int32)), .val (.int ((0 : Int32) + (1 : Int32))), .val (.int x0)] []) = T1.setTop (mkF m 41 #[.val (.ref a1), .val (.int (1 : Int32)), .val (.ref a3), .val (.int (1 : Int32)), .val (.int (5 : Int32)), .val (.int (1 : Int32)), .val (.int x0)] []) from by rw [(show ((0 : Int32) + (1 : Int32)) = (1 : Int32) from by decide)]) ?_
  refine g_goto (pc' := 3) C X1 d6_41 (by decide) (by decide) ?_
  refine g_iload (pc' := 5) C X1 d6_3 rfl rfl ?_
  refine g_iload (pc' := 7) C X1 d6_5 rfl rfl ?_
  refine g_icmpN (pc' := 10) C X1 d6_7 (tlt (show (1 : Int32) < (5 : Int32) from (by decide))).2.1 rfl ?_
  refine g_aloadN (pc' := 11) C X1 d6_10 rfl rfl rfl ?_
  refine g_iloadN (pc' := 12) C X1 d6_11 rfl rfl ?_
  refine g_ldC (pc' := 13) (v := (.int x1)) C X1 d6_12 e1 V_c_1 ⟨by decide, by decide⟩ rfl rfl ?_
  refine g_istore (pc' := 15) (Ls' := #[.val (.ref a1), .val (.int (1 : Int32)), .val (.ref a3), .val (.int (1 : Int32)), .val (.int (5 : Int32)), .val (.int (1 : Int32)), .val (.int x1)]) C X1 d6_13 rfl rfl ?_
  refine g_iload (pc' := 17) C X1 d6_15 rfl rfl ?_
  refine g_sipush (pc' := 20) (v := (255 : Int32)) C X1 d6_17 rfl rfl ?_
  refine g_icmpY (pc' := 26) C X1 d6_20 (flt hw1).2.2.2 (by decide) (by decide) ?_
  refine g_aloadN (pc' := 27) C X1 d6_26 rfl rfl rfl ?_
  refine g_iloadN (pc' := 28) C X1 d6_27 rfl rfl ?_
  refine g_iload (pc' := 30) C X1 d6_28 rfl rfl ?_
  refine g_i2b (pc' := 31) C X1 d6_30 rfl ?_
  refine g_stB (pc' := 32) (i := (1 : Int32).toNatClampNeg) C X1 d6_31 e1 (V1.pad (pad_rep _ _ ((1 : Int32).toNatClampNeg + 1))) ⟨by decide, by decide⟩ rfl own_lts rfl (fun T2 h2 X2 e2 W2 V2q => ?_)
  have V2 : Arv Z h2 a3 k2 .byte (5 : Int32) (own_vl (own_s (own_s [] (0 : Int32) (nar .byte x0.toInt8.toInt32)) (1 : Int32) (nar .byte x1.toInt8.toInt32))) (.int (0 : Int32)) := own_vl_set _ _ _ ▸ V2q
  have FX_2 := FX_wr FX_1 W2
  have V_c_2 := V_c_1.other W2 ne13
  have Z2 := Nat.le_trans Z1 (Nat.le_of_eq W2.size.symm)
  have N2 := Fr.snoc X2 N1 gn_a3
  have K2 := K1.wr W2 (Or.inl (List.mem_of_getElem? (i := 0) rfl))
  refine g_iinc (pc' := 35) (Ls' := #[.val (.ref a1), .val (.int ((1 : Int32) + (1 : Int32))), .val (.ref a3), .val (.int (1 : Int32)), .val (.int (5 : Int32)), .val (.int (1 : Int32)), .val (.int x1)]) C X2 d6_32 rfl rfl rfl ?_
  refine own_cast (show T2.setTop (mkF m 35 #[.val (.ref a1), .val (.int ((1 : Int32) + (1 : Int32))), .val (.ref a3), .val (.int (1 : Int32)), .val (.int (5 : Int32)), .val (.int (1 : Int32)), .val (.int x1)] []) = T2.setTop (mkF m 35 #[.val (.ref a1), .val (.int (2 : Int32)), .val (.ref a3), .val (.int (1 : Int32)), .val (.int (5 : Int32)), .val (.int (1 : Int32)), .val (.int x1)] []) from by rw [(show ((1 : Int32) + (1 : Int32)) = (2 : Int32) from by decide)]) ?_
  refine g_iinc (pc' := 38) (Ls' := #[.val (.ref a1), .val (.int (2 : Int32)), .val (.ref a3), .val (.int ((1 : Int32) + (1 : Int32))), .val (.int (5 : Int32)), .val (.int (1 : Int32)), .val (.int x1)]) C X2 d6_35 rfl rfl rfl ?_
  refine own_cast (show T2.setTop (mkF m 38 #[.val (.ref a1), .val (.int (2 : Int32)), .val (.ref a3), .val (.int ((1 : Int32) + (1 : Int32))), .val (.int (5 : Int32)), .val (.int (1 : Int32)), .val (.int x1)] []) = T2.setTop (mkF m 38 #[.val (.ref a1), .val (.int (2 : Int32)), .val (.ref a3), .val (.int (2 : Int32)), .val (.int (5 : Int32)), .val (.int (1 : Int32)), .val (.int x1)] []) from by rw [(show ((1 : Int32) + (1 : Int32)) = (2 : Int32) from by decide)]) ?_
  refine g_iinc (pc' := 41) (Ls' := #[.val (.ref a1), .val (.int (2 : Int32)), .val (.ref a3), .val (.int (2 : Int32)), .val (.int (5 : Int32)), .val (.int ((1 : Int32) + (1 : Int32))), .val (.int x1)]) C X2 d6_38 rfl rfl rfl ?_
  refine own_cast (show T2.setTop (mkF m 41 #[.val (.ref a1), .val (.int (2 : Int32)), .val (.ref a3), .val (.int (2 : Int32)), .val (.int (5 : Int32)), .val (.int ((1 : Int32) + (1 : Int32))), .val (.int x1)] []) = T2.setTop (mkF m 41 #[.val (.ref a1), .val (.int (2 : Int32)), .val (.ref a3), .val (.int (2 : Int32)), .val (.int (5 : Int32)), .val (.int (2 : Int32)), .val (.int x1)] []) from by rw [(show ((1 : Int32) + (1 : Int32)) = (2 : Int32) from by decide)]) ?_
  refine g_goto (pc' := 3) C X2 d6_41 (by decide) (by decide) ?_
  refine g_iload (pc' := 5) C X2 d6_3 rfl rfl ?_
  refine g_iload (pc' := 7) C X2 d6_5 rfl rfl ?_
  refine g_icmpN (pc' := 10) C X2 d6_7 (tlt (show (2 : Int32) < (5 : Int32) from (by decide))).2.1 rfl ?_
  refine g_aloadN (pc' := 11) C X2 d6_10 rfl rfl rfl ?_
  refine g_iloadN (pc' := 12) C X2 d6_11 rfl rfl ?_
  refine g_ldC (pc' := 13) (v := (.int x2)) C X2 d6_12 e2 V_c_2 ⟨by decide, by decide⟩ rfl rfl ?_
  refine g_istore (pc' := 15) (Ls' := #[.val (.ref a1), .val (.int (2 : Int32)), .val (.ref a3), .val (.int (2 : Int32)), .val (.int (5 : Int32)), .val (.int (2 : Int32)), .val (.int x2)]) C X2 d6_13 rfl rfl ?_
  refine g_iload (pc' := 17) C X2 d6_15 rfl rfl ?_
  refine g_sipush (pc' := 20) (v := (255 : Int32)) C X2 d6_17 rfl rfl ?_
  refine g_icmpY (pc' := 26) C X2 d6_20 (flt hw2).2.2.2 (by decide) (by decide) ?_
  refine g_aloadN (pc' := 27) C X2 d6_26 rfl rfl rfl ?_
  refine g_iloadN (pc' := 28) C X2 d6_27 rfl rfl ?_
  refine g_iload (pc' := 30) C X2 d6_28 rfl rfl ?_
  refine g_i2b (pc' := 31) C X2 d6_30 rfl ?_
  refine g_stB (pc' := 32) (i := (2 : Int32).toNatClampNeg) C X2 d6_31 e2 (V2.pad (pad_rep _ _ ((2 : Int32).toNatClampNeg + 1))) ⟨by decide, by decide⟩ rfl own_lts rfl (fun T3 h3 X3 e3 W3 V3q => ?_)
  have V3 : Arv Z h3 a3 k2 .byte (5 : Int32) (own_vl (own_s (own_s (own_s [] (0 : Int32) (nar .byte x0.toInt8.toInt32)) (1 : Int32) (nar .byte x1.toInt8.toInt32)) (2 : Int32) (nar .byte x2.toInt8.toInt32))) (.int (0 : Int32)) := own_vl_set _ _ _ ▸ V3q
  have FX_3 := FX_wr FX_2 W3
  have V_c_3 := V_c_2.other W3 ne13
  have Z3 := Nat.le_trans Z2 (Nat.le_of_eq W3.size.symm)
  have N3 := Fr.snoc X3 N2 gn_a3
  have K3 := K2.wr W3 (Or.inl (List.mem_of_getElem? (i := 0) rfl))
  refine g_iinc (pc' := 35) (Ls' := #[.val (.ref a1), .val (.int ((2 : Int32) + (1 : Int32))), .val (.ref a3), .val (.int (2 : Int32)), .val (.int (5 : Int32)), .val (.int (2 : Int32)), .val (.int x2)]) C X3 d6_32 rfl rfl rfl ?_
  refine own_cast (show T3.setTop (mkF m 35 #[.val (.ref a1), .val (.int ((2 : Int32) + (1 : Int32))), .val (.ref a3), .val (.int (2 : Int32)), .val (.int (5 : Int32)), .val (.int (2 : Int32)), .val (.int x2)] []) = T3.setTop (mkF m 35 #[.val (.ref a1), .val (.int (3 : Int32)), .val (.ref a3), .val (.int (2 : Int32)), .val (.int (5 : Int32)), .val (.int (2 : Int32)), .val (.int x2)] []) from by rw [(show ((2 : Int32) + (1 : Int32)) = (3 : Int32) from by decide)]) ?_
  refine g_iinc (pc' := 38) (Ls' := #[.val (.ref a1), .val (.int (3 : Int32)), .val (.ref a3), .val (.int ((2 : Int32) + (1 : Int32))), .val (.int (5 : Int32)), .val (.int (2 : Int32)), .val (.int x2)]) C X3 d6_35 rfl rfl rfl ?_
  refine own_cast (show T3.setTop (mkF m 38 #[.val (.ref a1), .val (.int (3 : Int32)), .val (.ref a3), .val (.int ((2 : Int32) + (1 : Int32))), .val (.int (5 : Int32)), .val (.int (2 : Int32)), .val (.int x2)] []) = T3.setTop (mkF m 38 #[.val (.ref a1), .val (.int (3 : Int32)), .val (.ref a3), .val (.int (3 : Int32)), .val (.int (5 : Int32)), .val (.int (2 : Int32)), .val (.int x2)] []) from by rw [(show ((2 : Int32) + (1 : Int32)) = (3 : Int32) from by decide)]) ?_
  refine g_iinc (pc' := 41) (Ls' := #[.val (.ref a1), .val (.int (3 : Int32)), .val (.ref a3), .val (.int (3 : Int32)), .val (.int (5 : Int32)), .val (.int ((2 : Int32) + (1 : Int32))), .val (.int x2)]) C X3 d6_38 rfl rfl rfl ?_
  refine own_cast (show T3.setTop (mkF m 41 #[.val (.ref a1), .val (.int (3 : Int32)), .val (.ref a3), .val (.int (3 : Int32)), .val (.int (5 : Int32)), .val (.int ((2 : Int32) + (1 : Int32))), .val (.int x2)] []) = T3.setTop (mkF m 41 #[.val (.ref a1), .val (.int (3 : Int32)), .val (.ref a3), .val (.int (3 : Int32)), .val (.int (5 : Int32)), .val (.int (3 : Int32)), .val (.int x2)] []) from by rw [(show ((2 : Int32) + (1 : Int32)) = (3 : Int32) from by decide)]) ?_
  refine g_goto (pc' := 3) C X3 d6_41 (by decide) (by decide) ?_
  refine g_iload (pc' := 5) C X3 d6_3 rfl rfl ?_
  refine g_iload (pc' := 7) C X3 d6_5 rfl rfl ?_
  refine g_icmpN (pc' := 10) C X3 d6_7 (tlt (show (3 : Int32) < (5 : Int32) from (by decide))).2.1 rfl ?_
  refine g_aloadN (pc' := 11) C X3 d6_10 rfl rfl rfl ?_
  refine g_iloadN (pc' := 12) C X3 d6_11 rfl rfl ?_
  refine g_ldC (pc' := 13) (v := (.int x3)) C X3 d6_12 e3 V_c_3 ⟨by decide, by decide⟩ rfl rfl ?_
  refine g_istore (pc' := 15) (Ls' := #[.val (.ref a1), .val (.int (3 : Int32)), .val (.ref a3), .val (.int (3 : Int32)), .val (.int (5 : Int32)), .val (.int (3 : Int32)), .val (.int x3)]) C X3 d6_13 rfl rfl ?_
  refine g_iload (pc' := 17) C X3 d6_15 rfl rfl ?_
  refine g_sipush (pc' := 20) (v := (255 : Int32)) C X3 d6_17 rfl rfl ?_
  refine g_icmpY (pc' := 26) C X3 d6_20 (flt hw3).2.2.2 (by decide) (by decide) ?_
  refine g_aloadN (pc' := 27) C X3 d6_26 rfl rfl rfl ?_
  refine g_iloadN (pc' := 28) C X3 d6_27 rfl rfl ?_
  refine g_iload (pc' := 30) C X3 d6_28 rfl rfl ?_
  refine g_i2b (pc' := 31) C X3 d6_30 rfl ?_
  refine g_stB (pc' := 32) (i := (3 : Int32).toNatClampNeg) C X3 d6_31 e3 (V3.pad (pad_rep _ _ ((3 : Int32).toNatClampNeg + 1))) ⟨by decide, by decide⟩ rfl own_lts rfl (fun T4 h4 X4 e4 W4 V4q => ?_)
  have V4 : Arv Z h4 a3 k2 .byte (5 : Int32) (own_vl (own_s (own_s (own_s (own_s [] (0 : Int32) (nar .byte x0.toInt8.toInt32)) (1 : Int32) (nar .byte x1.toInt8.toInt32)) (2 : Int32) (nar .byte x2.toInt8.toInt32)) (3 : Int32) (nar .byte x3.toInt8.toInt32))) (.int (0 : Int32)) := own_vl_set _ _ _ ▸ V4q
  have FX_4 := FX_wr FX_3 W4
  have V_c_4 := V_c_3.other W4 ne13
  have Z4 := Nat.le_trans Z3 (Nat.le_of_eq W4.size.symm)
  have N4 := Fr.snoc X4 N3 gn_a3
  have K4 := K3.wr W4 (Or.inl (List.mem_of_getElem? (i := 0) rfl))
  refine g_iinc (pc' := 35) (Ls' := #[.val (.ref a1), .val (.int ((3 : Int32) + (1 : Int32))), .val (.ref a3), .val (.int (3 : Int32)), .val (.int (5 : Int32)), .val (.int (3 : Int32)), .val (.int x3)]) C X4 d6_32 rfl rfl rfl ?_
  refine own_cast (show T4.setTop (mkF m 35 #[.val (.ref a1), .val (.int ((3 : Int32) + (1 : Int32))), .val (.ref a3), .val (.int (3 : Int32)), .val (.int (5 : Int32)), .val (.int (3 : Int32)), .val (.int x3)] []) = T4.setTop (mkF m 35 #[.val (.ref a1), .val (.int (4 : Int32)), .val (.ref a3), .val (.int (3 : Int32)), .val (.int (5 : Int32)), .val (.int (3 : Int32)), .val (.int x3)] []) from by rw [(show ((3 : Int32) + (1 : Int32)) = (4 : Int32) from by decide)]) ?_
  refine g_iinc (pc' := 38) (Ls' := #[.val (.ref a1), .val (.int (4 : Int32)), .val (.ref a3), .val (.int ((3 : Int32) + (1 : Int32))), .val (.int (5 : Int32)), .val (.int (3 : Int32)), .val (.int x3)]) C X4 d6_35 rfl rfl rfl ?_
  refine own_cast (show T4.setTop (mkF m 38 #[.val (.ref a1), .val (.int (4 : Int32)), .val (.ref a3), .val (.int ((3 : Int32) + (1 : Int32))), .val (.int (5 : Int32)), .val (.int (3 : Int32)), .val (.int x3)] []) = T4.setTop (mkF m 38 #[.val (.ref a1), .val (.int (4 : Int32)), .val (.ref a3), .val (.int (4 : Int32)), .val (.int (5 : Int32)), .val (.int (3 : Int32)), .val (.int x3)] []) from by rw [(show ((3 : Int32) + (1 : Int32)) = (4 : Int32) from by decide)]) ?_
  refine g_iinc (pc' := 41) (Ls' := #[.val (.ref a1), .val (.int (4 : Int32)), .val (.ref a3), .val (.int (4 : Int32)), .val (.int (5 : Int32)), .val (.int ((3 : Int32) + (1 : Int32))), .val (.int x3)]) C X4 d6_38 rfl rfl rfl ?_
  refine own_cast (show T4.setTop (mkF m 41 #[.val (.ref a1), .val (.int (4 : Int32)), .val (.ref a3), .val (.int (4 : Int32)), .val (.int (5 : Int32)), .val (.int ((3 : Int32) + (1 : Int32))), .val (.int x3)] []) = T4.setTop (mkF m 41 #[.val (.ref a1), .val (.int (4 : Int32)), .val (.ref a3), .val (.int (4 : Int32)), .val (.int (5 : Int32)), .val (.int (4 : Int32)), .val (.int x3)] []) from by rw [(show ((3 : Int32) + (1 : Int32)) = (4 : Int32) from by decide)]) ?_
  refine g_goto (pc' := 3) C X4 d6_41 (by decide) (by decide) ?_
  refine g_iload (pc' := 5) C X4 d6_3 rfl rfl ?_
  refine g_iload (pc' := 7) C X4 d6_5 rfl rfl ?_
  refine g_icmpN (pc' := 10) C X4 d6_7 (tlt (show (4 : Int32) < (5 : Int32) from (by decide))).2.1 rfl ?_
  refine g_aloadN (pc' := 11) C X4 d6_10 rfl rfl rfl ?_
  refine g_iloadN (pc' := 12) C X4 d6_11 rfl rfl ?_
  refine g_ldC (pc' := 13) (v := (.int x4)) C X4 d6_12 e4 V_c_4 ⟨by decide, by decide⟩ rfl rfl ?_
  refine g_istore (pc' := 15) (Ls' := #[.val (.ref a1), .val (.int (4 : Int32)), .val (.ref a3), .val (.int (4 : Int32)), .val (.int (5 : Int32)), .val (.int (4 : Int32)), .val (.int x4)]) C X4 d6_13 rfl rfl ?_
  refine g_iload (pc' := 17) C X4 d6_15 rfl rfl ?_
  refine g_sipush (pc' := 20) (v := (255 : Int32)) C X4 d6_17 rfl rfl ?_
  refine g_icmpY (pc' := 26) C X4 d6_20 (flt hw4).2.2.2 (by decide) (by decide) ?_
  refine g_aloadN (pc' := 27) C X4 d6_26 rfl rfl rfl ?_
  refine g_iloadN (pc' := 28) C X4 d6_27 rfl rfl ?_
  refine g_iload (pc' := 30) C X4 d6_28 rfl rfl ?_
  refine g_i2b (pc' := 31) C X4 d6_30 rfl ?_
  refine g_stB (pc' := 32) (i := (4 : Int32).toNatClampNeg) C X4 d6_31 e4 (V4.pad (pad_rep _ _ ((4 : Int32).toNatClampNeg + 1))) ⟨by decide, by decide⟩ rfl own_lts rfl (fun T5 h5 X5 e5 W5 V5q => ?_)
  have V5 : Arv Z h5 a3 k2 .byte (5 : Int32) (own_vl (own_s (own_s (own_s (own_s (own_s [] (0 : Int32) (nar .byte x0.toInt8.toInt32)) (1 : Int32) (nar .byte x1.toInt8.toInt32)) (2 : Int32) (nar .byte x2.toInt8.toInt32)) (3 : Int32) (nar .byte x3.toInt8.toInt32)) (4 : Int32) (nar .byte x4.toInt8.toInt32))) (.int (0 : Int32)) := own_vl_set _ _ _ ▸ V5q
  have FX_5 := FX_wr FX_4 W5
  have V_c_5 := V_c_4.other W5 ne13
  have Z5 := Nat.le_trans Z4 (Nat.le_of_eq W5.size.symm)
  have N5 := Fr.snoc X5 N4 gn_a3
  have K5 := K4.wr W5 (Or.inl (List.mem_of_getElem? (i := 0) rfl))
  refine g_iinc (pc' := 35) (Ls' := #[.val (.ref a1), .val (.int ((4 : Int32) + (1 : Int32))), .val (.ref a3), .val (.int (4 : Int32)), .val (.int (5 : Int32)), .val (.int (4 : Int32)), .val (.int x4)]) C X5 d6_32 rfl rfl rfl ?_
  refine own_cast (show T5.setTop (mkF m 35 #[.val (.ref a1), .val (.int ((4 : Int32) + (1 : Int32))), .val (.ref a3), .val (.int (4 : Int32)), .val (.int (5 : Int32)), .val (.int (4 : Int32)), .val (.int x4)] []) = T5.setTop (mkF m 35 #[.val (.ref a1), .val (.int (5 : Int32)), .val (.ref a3), .val (.int (4 : Int32)), .val (.int (5 : Int32)), .val (.int (4 : Int32)), .val (.int x4)] []) from by rw [(show ((4 : Int32) + (1 : Int32)) = (5 : Int32) from by decide)]) ?_
  refine g_iinc (pc' := 38) (Ls' := #[.val (.ref a1), .val (.int (5 : Int32)), .val (.ref a3), .val (.int ((4 : Int32) + (1 : Int32))), .val (.int (5 : Int32)), .val (.int (4 : Int32)), .val (.int x4)]) C X5 d6_35 rfl rfl rfl ?_
  refine own_cast (show T5.setTop (mkF m 38 #[.val (.ref a1), .val (.int (5 : Int32)), .val (.ref a3), .val (.int ((4 : Int32) + (1 : Int32))), .val (.int (5 : Int32)), .val (.int (4 : Int32)), .val (.int x4)] []) = T5.setTop (mkF m 38 #[.val (.ref a1), .val (.int (5 : Int32)), .val (.ref a3), .val (.int (5 : Int32)), .val (.int (5 : Int32)), .val (.int (4 : Int32)), .val (.int x4)] []) from by rw [(show ((4 : Int32) + (1 : Int32)) = (5 : Int32) from by decide)]) ?_
  refine g_iinc (pc' := 41) (Ls' := #[.val (.ref a1), .val (.int (5 : Int32)), .val (.ref a3), .val (.int (5 : Int32)), .val (.int (5 : Int32)), .val (.int ((4 : Int32) + (1 : Int32))), .val (.int x4)]) C X5 d6_38 rfl rfl rfl ?_
  refine own_cast (show T5.setTop (mkF m 41 #[.val (.ref a1), .val (.int (5 : Int32)), .val (.ref a3), .val (.int (5 : Int32)), .val (.int (5 : Int32)), .val (.int ((4 : Int32) + (1 : Int32))), .val (.int x4)] []) = T5.setTop (mkF m 41 #[.val (.ref a1), .val (.int (5 : Int32)), .val (.ref a3), .val (.int (5 : Int32)), .val (.int (5 : Int32)), .val (.int (5 : Int32)), .val (.int x4)] []) from by rw [(show ((4 : Int32) + (1 : Int32)) = (5 : Int32) from by decide)]) ?_
  refine g_goto (pc' := 3) C X5 d6_41 (by decide) (by decide) ?_
  refine g_iload (pc' := 5) C X5 d6_3 rfl rfl ?_
  refine g_iload (pc' := 7) C X5 d6_5 rfl rfl ?_
  refine g_icmpY (pc' := 44) C X5 d6_7 (flt (show ¬ ((5 : Int32) < (5 : Int32)) from (by decide))).2.1 (by decide) (by decide) ?_
  refine g_iload (pc' := 46) C X5 d6_44 rfl rfl ?_
  exact g_retI C X5 d6_46 (by decide) (by decide) ⟨congrArg (fun z => some (Value.int z)) (FcmN_l0  ).symm, N5, (by rw [e5]; exact K5), (by rw [e5]; exact V5)⟩
theorem d6_23 : decode jdk_52_method_21_code 23 = .ok (.iload 5, 2) := by decide +kernel
theorem d6_25 : decode jdk_52_method_21_code 25 = .ok (.ireturn, 1) := by decide +kernel
def FcmW0  : Int32 := (0 : Int32)
theorem FcmW0_l0   : FcmW0  = (0 : Int32) := rfl
theorem ef_cmW0 (m : MethodId) (a1 : Addr) (a3 : Addr) : entryFrame m #[(.ref a1), (.int (0 : Int32)), (.ref a3), (.int (0 : Int32)), (.int (5 : Int32))] 7 = mkF m 0 #[.val (.ref a1), .val (.int (0 : Int32)), .val (.ref a3), .val (.int (0 : Int32)), .val (.int (5 : Int32)), .unset, .unset] [] := by first | (simp [entryFrame, mkF, argsToLocals, Value.category]; done) | rfl
def Q_cmW0 (Z : State) (a1 : Addr) (a3 : Addr) (kc : ClassId) (k2 : ClassId) (x0 : Int32) (x1 : Int32) (x2 : Int32) (x3 : Int32) (x4 : Int32) (cs : Int32) (fm : Value) (h0 : Heap) (n0 : Nat) (vr : Option Value) (h : Heap) (L : List Loc) : Prop := (vr = some (.int (FcmW0 ))) ∧ (Fr n0 L) ∧ (Keep h0 h [a3])
set_option maxRecDepth 65536 in
set_option maxHeartbeats 40000000 in
theorem rmcmW0 (l : Launch) (Z : State) (a0 : Array Value) (hw : ∀ d ∈ tables_1, d.before a0 Z = true) (ws : List Jvm.Cond) (a1 : Addr) (a3 : Addr) (kc : ClassId) (k2 : ClassId) (x0 : Int32) (x1 : Int32) (x2 : Int32) (x3 : Int32) (x4 : Int32) (cs : Int32) (fm : Value) (h0 : Heap) (n0 : Nat) (Z0 : n0 ≤ h0.size) (hF : FX Z h0 cs fm) (V_c : Arv Z h0 a1 kc .char (5 : Int32) [(.int x0), (.int x1), (.int x2), (.int x3), (.int x4)] (.int (0 : Int32))) (V_d : Arv Z h0 a3 k2 .byte (5 : Int32) (own_vl []) (.int (0 : Int32))) (gn_a3 : n0 ≤ a3) (ne13 : ¬ (a1 = a3)) (hw0 : (255 : Int32) < x0) :
    MetFree l (⟨"java/lang/StringUTF16", "compress", "([CI[BII)I"⟩ : MethodName) (head1 (Jvm.Cond.code (⟨"java/lang/StringUTF16", "compress", "([CI[BII)I"⟩ : MethodName) jdk_52_method_21_code 7 (some .int) :: ws) ({ frames := 0, cells := 0, slots := 0, locals := 0 } : Room)) (fun a U => a = #[(.ref a1), (.int (0 : Int32)), (.ref a3), (.int (0 : Int32)), (.int (5 : Int32))] ∧ Z.Warmed39 U.vm ∧ U.heap = h0) (fun _ _ _ _ _ => True) (fun _ U o U' => ∃ v L, o = .returned v ∧ Q_cmW0 Z a1 a3 kc k2 x0 x1 x2 x3 x4 cs fm h0 n0 v U'.heap L ∧ FrameEnd U o U' L ({ frames := 0, cells := 0, slots := 0, locals := 0 } : Room).cells ({ frames := 0, cells := 0, slots := 0, locals := 0 } : Room).slots) := by
  refine met_of (Ls := #[.val (.ref a1), .val (.int (0 : Int32)), .val (.ref a3), .val (.int (0 : Int32)), .val (.int (5 : Int32)), .unset, .unset]) (plainFor_of_name (by first | (simp [plainName, overriddenIn]; done) | decide +kernel)) (fun m => ef_cmW0 m a1 a3) ?_
  intro p e s m below meth c T0 C X0 e0
  obtain ⟨S_cs, hcs, S_fm, hfm, S_ad, S_hi, S_lo⟩ := id hF
  have N0 := Fr.nil n0
  have K0 : Keep h0 h0 [a3] := Keep.refl h0 _
  refine g_iconst (pc' := 1) (v := (0 : Int32)) C X0 d6_0 rfl rfl ?_
  refine g_istore (pc' := 3) (Ls' := #[.val (.ref a1), .val (.int (0 : Int32)), .val (.ref a3), .val (.int (0 : Int32)), .val (.int (5 : Int32)), .val (.int (0 : Int32)), .unset]) C X0 d6_1 rfl rfl ?_
  refine g_iload (pc' := 5) C X0 d6_3 rfl rfl ?_
  refine g_iload (pc' := 7) C X0 d6_5 rfl rfl ?_
  refine g_icmpN (pc' := 10) C X0 d6_7 (tlt (show (0 : Int32) < (5 : Int32) from (by decide))).2.1 rfl ?_
  refine g_aloadN (pc' := 11) C X0 d6_10 rfl rfl rfl ?_
  refine g_iloadN (pc' := 12) C X0 d6_11 rfl rfl ?_
  refine g_ldC (pc' := 13) (v := (.int x0)) C X0 d6_12 e0 V_c ⟨by decide, by decide⟩ rfl rfl ?_
  refine g_istore (pc' := 15) (Ls' := #[.val (.ref a1), .val (.int (0 : Int32)), .val (.ref a3), .val (.int (0 : Int32)), .val (.int (5 : Int32)), .val (.int (0 : Int32)), .val (.int x0)]) C X0 d6_13 rfl rfl ?_
  refine g_iload (pc' := 17) C X0 d6_15 rfl rfl ?_
  refine g_sipush (pc' := 20) (v := (255 : Int32)) C X0 d6_17 rfl rfl ?_
  refine g_icmpN (pc' := 23) C X0 d6_20 (tlt hw0).2.2.2 rfl ?_
  refine g_iload (pc' := 25) C X0 d6_23 rfl rfl ?_
  exact g_retI C X0 d6_25 (by decide) (by decide) ⟨congrArg (fun z => some (Value.int z)) (FcmW0_l0  ).symm, N0, (by rw [e0]; exact K0)⟩
def FcmW1  : Int32 := (1 : Int32)
theorem FcmW1_l0   : FcmW1  = (1 : Int32) := rfl
theorem ef_cmW1 (m : MethodId) (a1 : Addr) (a3 : Addr) : entryFrame m #[(.ref a1), (.int (0 : Int32)), (.ref a3), (.int (0 : Int32)), (.int (5 : Int32))] 7 = mkF m 0 #[.val (.ref a1), .val (.int (0 : Int32)), .val (.ref a3), .val (.int (0 : Int32)), .val (.int (5 : Int32)), .unset, .unset] [] := by first | (simp [entryFrame, mkF, argsToLocals, Value.category]; done) | rfl
def Q_cmW1 (Z : State) (a1 : Addr) (a3 : Addr) (kc : ClassId) (k2 : ClassId) (x0 : Int32) (x1 : Int32) (x2 : Int32) (x3 : Int32) (x4 : Int32) (cs : Int32) (fm : Value) (h0 : Heap) (n0 : Nat) (vr : Option Value) (h : Heap) (L : List Loc) : Prop := (vr = some (.int (FcmW1 ))) ∧ (Fr n0 L) ∧ (Keep h0 h [a3])
set_option maxRecDepth 65536 in
set_option maxHeartbeats 40000000 in
theorem rmcmW1 (l : Launch) (Z : State) (a0 : Array Value) (hw : ∀ d ∈ tables_1, d.before a0 Z = true) (ws : List Jvm.Cond) (a1 : Addr) (a3 : Addr) (kc : ClassId) (k2 : ClassId) (x0 : Int32) (x1 : Int32) (x2 : Int32) (x3 : Int32) (x4 : Int32) (cs : Int32) (fm : Value) (h0 : Heap) (n0 : Nat) (Z0 : n0 ≤ h0.size) (hF : FX Z h0 cs fm) (V_c : Arv Z h0 a1 kc .char (5 : Int32) [(.int x0), (.int x1), (.int x2), (.int x3), (.int x4)] (.int (0 : Int32))) (V_d : Arv Z h0 a3 k2 .byte (5 : Int32) (own_vl []) (.int (0 : Int32))) (gn_a3 : n0 ≤ a3) (ne13 : ¬ (a1 = a3)) (hw0 : ¬ ((255 : Int32) < x0)) (hw1 : (255 : Int32) < x1) :
    MetFree l (⟨"java/lang/StringUTF16", "compress", "([CI[BII)I"⟩ : MethodName) (head1 (Jvm.Cond.code (⟨"java/lang/StringUTF16", "compress", "([CI[BII)I"⟩ : MethodName) jdk_52_method_21_code 7 (some .int) :: ws) ({ frames := 0, cells := 0, slots := 0, locals := 0 } : Room)) (fun a U => a = #[(.ref a1), (.int (0 : Int32)), (.ref a3), (.int (0 : Int32)), (.int (5 : Int32))] ∧ Z.Warmed39 U.vm ∧ U.heap = h0) (fun _ _ _ _ _ => True) (fun _ U o U' => ∃ v L, o = .returned v ∧ Q_cmW1 Z a1 a3 kc k2 x0 x1 x2 x3 x4 cs fm h0 n0 v U'.heap L ∧ FrameEnd U o U' L ({ frames := 0, cells := 0, slots := 0, locals := 0 } : Room).cells ({ frames := 0, cells := 0, slots := 0, locals := 0 } : Room).slots) := by
  refine met_of (Ls := #[.val (.ref a1), .val (.int (0 : Int32)), .val (.ref a3), .val (.int (0 : Int32)), .val (.int (5 : Int32)), .unset, .unset]) (plainFor_of_name (by first | (simp [plainName, overriddenIn]; done) | decide +kernel)) (fun m => ef_cmW1 m a1 a3) ?_
  intro p e s m below meth c T0 C X0 e0
  obtain ⟨S_cs, hcs, S_fm, hfm, S_ad, S_hi, S_lo⟩ := id hF
  have N0 := Fr.nil n0
  have K0 : Keep h0 h0 [a3] := Keep.refl h0 _
  refine g_iconst (pc' := 1) (v := (0 : Int32)) C X0 d6_0 rfl rfl ?_
  refine g_istore (pc' := 3) (Ls' := #[.val (.ref a1), .val (.int (0 : Int32)), .val (.ref a3), .val (.int (0 : Int32)), .val (.int (5 : Int32)), .val (.int (0 : Int32)), .unset]) C X0 d6_1 rfl rfl ?_
  refine g_iload (pc' := 5) C X0 d6_3 rfl rfl ?_
  refine g_iload (pc' := 7) C X0 d6_5 rfl rfl ?_
  refine g_icmpN (pc' := 10) C X0 d6_7 (tlt (show (0 : Int32) < (5 : Int32) from (by decide))).2.1 rfl ?_
  refine g_aloadN (pc' := 11) C X0 d6_10 rfl rfl rfl ?_
  refine g_iloadN (pc' := 12) C X0 d6_11 rfl rfl ?_
  refine g_ldC (pc' := 13) (v := (.int x0)) C X0 d6_12 e0 V_c ⟨by decide, by decide⟩ rfl rfl ?_
  refine g_istore (pc' := 15) (Ls' := #[.val (.ref a1), .val (.int (0 : Int32)), .val (.ref a3), .val (.int (0 : Int32)), .val (.int (5 : Int32)), .val (.int (0 : Int32)), .val (.int x0)]) C X0 d6_13 rfl rfl ?_
  refine g_iload (pc' := 17) C X0 d6_15 rfl rfl ?_
  refine g_sipush (pc' := 20) (v := (255 : Int32)) C X0 d6_17 rfl rfl ?_
  refine g_icmpY (pc' := 26) C X0 d6_20 (flt hw0).2.2.2 (by decide) (by decide) ?_
  refine g_aloadN (pc' := 27) C X0 d6_26 rfl rfl rfl ?_
  refine g_iloadN (pc' := 28) C X0 d6_27 rfl rfl ?_
  refine g_iload (pc' := 30) C X0 d6_28 rfl rfl ?_
  refine g_i2b (pc' := 31) C X0 d6_30 rfl ?_
  refine g_stB (pc' := 32) (i := (0 : Int32).toNatClampNeg) C X0 d6_31 e0 (V_d.pad (pad_rep _ _ ((0 : Int32).toNatClampNeg + 1))) ⟨by decide, by decide⟩ rfl own_lts rfl (fun T1 h1 X1 e1 W1 V1q => ?_)
  have V1 : Arv Z h1 a3 k2 .byte (5 : Int32) (own_vl (own_s [] (0 : Int32) (nar .byte x0.toInt8.toInt32))) (.int (0 : Int32)) := own_vl_set _ _ _ ▸ V1q
  have FX_1 := FX_wr hF W1
  have V_c_1 := V_c.other W1 ne13
  have Z1 := Nat.le_trans Z0 (Nat.le_of_eq W1.size.symm)
  have N1 := Fr.snoc X1 N0 gn_a3
  have K1 := K0.wr W1 (Or.inl (List.mem_of_getElem? (i := 0) rfl))
  refine g_iinc (pc' := 35) (Ls' := #[.val (.ref a1), .val (.int ((0 : Int32) + (1 : Int32))), .val (.ref a3), .val (.int (0 : Int32)), .val (.int (5 : Int32)), .val (.int (0 : Int32)), .val (.int x0)]) C X1 d6_32 rfl rfl rfl ?_
  refine own_cast (show T1.setTop (mkF m 35 #[.val (.ref a1), .val (.int ((0 : Int32) + (1 : Int32))), .val (.ref a3), .val (.int (0 : Int32)), .val (.int (5 : Int32)), .val (.int (0 : Int32)), .val (.int x0)] []) = T1.setTop (mkF m 35 #[.val (.ref a1), .val (.int (1 : Int32)), .val (.ref a3), .val (.int (0 : Int32)), .val (.int (5 : Int32)), .val (.int (0 : Int32)), .val (.int x0)] []) from by rw [(show ((0 : Int32) + (1 : Int32)) = (1 : Int32) from by decide)]) ?_
  refine g_iinc (pc' := 38) (Ls' := #[.val (.ref a1), .val (.int (1 : Int32)), .val (.ref a3), .val (.int ((0 : Int32) + (1 : Int32))), .val (.int (5 : Int32)), .val (.int (0 : Int32)), .val (.int x0)]) C X1 d6_35 rfl rfl rfl ?_
  refine own_cast (show T1.setTop (mkF m 38 #[.val (.ref a1), .val (.int (1 : Int32)), .val (.ref a3), .val (.int ((0 : Int32) + (1 : Int32))), .val (.int (5 : Int32)), .val (.int (0 : Int32)), .val (.int x0)] []) = T1.setTop (mkF m 38 #[.val (.ref a1), .val (.int (1 : Int32)), .val (.ref a3), .val (.int (1 : Int32)), .val (.int (5 : Int32)), .val (.int (0 : Int32)), .val (.int x0)] []) from by rw [(show ((0 : Int32) + (1 : Int32)) = (1 : Int32) from by decide)]) ?_
  refine g_iinc (pc' := 41) (Ls' := #[.val (.ref a1), .val (.int (1 : Int32)), .val (.ref a3), .val (.int (1 : Int32)), .val (.int (5 : Int32)), .val (.int ((0 : Int32) + (1 : Int32))), .val (.int x0)]) C X1 d6_38 rfl rfl rfl ?_
  refine own_cast (show T1.setTop (mkF m 41 #[.val (.ref a1), .val (.int (1 : Int32)), .val (.ref a3), .val (.int (1 : Int32)), .val (.int (5 : Int32)), .val (.int ((0 : Int32) + (1 : Int32))), .val (.int x0)] []) = T1.setTop (mkF m 41 #[.val (.ref a1), .val (.int (1 : Int32)), .val (.ref a3), .val (.int (1 : Int32)), .val (.int (5 : Int32)), .val (.int (1 : Int32)), .val (.int x0)] []) from by rw [(show ((0 : Int32) + (1 : Int32)) = (1 : Int32) from by decide)]) ?_
  refine g_goto (pc' := 3) C X1 d6_41 (by decide) (by decide) ?_
  refine g_iload (pc' := 5) C X1 d6_3 rfl rfl ?_
  refine g_iload (pc' := 7) C X1 d6_5 rfl rfl ?_
  refine g_icmpN (pc' := 10) C X1 d6_7 (tlt (show (1 : Int32) < (5 : Int32) from (by decide))).2.1 rfl ?_
  refine g_aloadN (pc' := 11) C X1 d6_10 rfl rfl rfl ?_
  refine g_iloadN (pc' := 12) C X1 d6_11 rfl rfl ?_
  refine g_ldC (pc' := 13) (v := (.int x1)) C X1 d6_12 e1 V_c_1 ⟨by decide, by decide⟩ rfl rfl ?_
  refine g_istore (pc' := 15) (Ls' := #[.val (.ref a1), .val (.int (1 : Int32)), .val (.ref a3), .val (.int (1 : Int32)), .val (.int (5 : Int32)), .val (.int (1 : Int32)), .val (.int x1)]) C X1 d6_13 rfl rfl ?_
  refine g_iload (pc' := 17) C X1 d6_15 rfl rfl ?_
  refine g_sipush (pc' := 20) (v := (255 : Int32)) C X1 d6_17 rfl rfl ?_
  refine g_icmpN (pc' := 23) C X1 d6_20 (tlt hw1).2.2.2 rfl ?_
  refine g_iload (pc' := 25) C X1 d6_23 rfl rfl ?_
  exact g_retI C X1 d6_25 (by decide) (by decide) ⟨congrArg (fun z => some (Value.int z)) (FcmW1_l0  ).symm, N1, (by rw [e1]; exact K1)⟩
def FcmW2  : Int32 := (2 : Int32)
theorem FcmW2_l0   : FcmW2  = (2 : Int32) := rfl
theorem ef_cmW2 (m : MethodId) (a1 : Addr) (a3 : Addr) : entryFrame m #[(.ref a1), (.int (0 : Int32)), (.ref a3), (.int (0 : Int32)), (.int (5 : Int32))] 7 = mkF m 0 #[.val (.ref a1), .val (.int (0 : Int32)), .val (.ref a3), .val (.int (0 : Int32)), .val (.int (5 : Int32)), .unset, .unset] [] := by first | (simp [entryFrame, mkF, argsToLocals, Value.category]; done) | rfl
def Q_cmW2 (Z : State) (a1 : Addr) (a3 : Addr) (kc : ClassId) (k2 : ClassId) (x0 : Int32) (x1 : Int32) (x2 : Int32) (x3 : Int32) (x4 : Int32) (cs : Int32) (fm : Value) (h0 : Heap) (n0 : Nat) (vr : Option Value) (h : Heap) (L : List Loc) : Prop := (vr = some (.int (FcmW2 ))) ∧ (Fr n0 L) ∧ (Keep h0 h [a3])
set_option maxRecDepth 65536 in
set_option maxHeartbeats 40000000 in
theorem rmcmW2 (l : Launch) (Z : State) (a0 : Array Value) (hw : ∀ d ∈ tables_1, d.before a0 Z = true) (ws : List Jvm.Cond) (a1 : Addr) (a3 : Addr) (kc : ClassId) (k2 : ClassId) (x0 : Int32) (x1 : Int32) (x2 : Int32) (x3 : Int32) (x4 : Int32) (cs : Int32) (fm : Value) (h0 : Heap) (n0 : Nat) (Z0 : n0 ≤ h0.size) (hF : FX Z h0 cs fm) (V_c : Arv Z h0 a1 kc .char (5 : Int32) [(.int x0), (.int x1), (.int x2), (.int x3), (.int x4)] (.int (0 : Int32))) (V_d : Arv Z h0 a3 k2 .byte (5 : Int32) (own_vl []) (.int (0 : Int32))) (gn_a3 : n0 ≤ a3) (ne13 : ¬ (a1 = a3)) (hw0 : ¬ ((255 : Int32) < x0)) (hw1 : ¬ ((255 : Int32) < x1)) (hw2 : (255 : Int32) < x2) :
    MetFree l (⟨"java/lang/StringUTF16", "compress", "([CI[BII)I"⟩ : MethodName) (head1 (Jvm.Cond.code (⟨"java/lang/StringUTF16", "compress", "([CI[BII)I"⟩ : MethodName) jdk_52_method_21_code 7 (some .int) :: ws) ({ frames := 0, cells := 0, slots := 0, locals := 0 } : Room)) (fun a U => a = #[(.ref a1), (.int (0 : Int32)), (.ref a3), (.int (0 : Int32)), (.int (5 : Int32))] ∧ Z.Warmed39 U.vm ∧ U.heap = h0) (fun _ _ _ _ _ => True) (fun _ U o U' => ∃ v L, o = .returned v ∧ Q_cmW2 Z a1 a3 kc k2 x0 x1 x2 x3 x4 cs fm h0 n0 v U'.heap L ∧ FrameEnd U o U' L ({ frames := 0, cells := 0, slots := 0, locals := 0 } : Room).cells ({ frames := 0, cells := 0, slots := 0, locals := 0 } : Room).slots) := by
  refine met_of (Ls := #[.val (.ref a1), .val (.int (0 : Int32)), .val (.ref a3), .val (.int (0 : Int32)), .val (.int (5 : Int32)), .unset, .unset]) (plainFor_of_name (by first | (simp [plainName, overriddenIn]; done) | decide +kernel)) (fun m => ef_cmW2 m a1 a3) ?_
  intro p e s m below meth c T0 C X0 e0
  obtain ⟨S_cs, hcs, S_fm, hfm, S_ad, S_hi, S_lo⟩ := id hF
  have N0 := Fr.nil n0
  have K0 : Keep h0 h0 [a3] := Keep.refl h0 _
  refine g_iconst (pc' := 1) (v := (0 : Int32)) C X0 d6_0 rfl rfl ?_
  refine g_istore (pc' := 3) (Ls' := #[.val (.ref a1), .val (.int (0 : Int32)), .val (.ref a3), .val (.int (0 : Int32)), .val (.int (5 : Int32)), .val (.int (0 : Int32)), .unset]) C X0 d6_1 rfl rfl ?_
  refine g_iload (pc' := 5) C X0 d6_3 rfl rfl ?_
  refine g_iload (pc' := 7) C X0 d6_5 rfl rfl ?_
  refine g_icmpN (pc' := 10) C X0 d6_7 (tlt (show (0 : Int32) < (5 : Int32) from (by decide))).2.1 rfl ?_
  refine g_aloadN (pc' := 11) C X0 d6_10 rfl rfl rfl ?_
  refine g_iloadN (pc' := 12) C X0 d6_11 rfl rfl ?_
  refine g_ldC (pc' := 13) (v := (.int x0)) C X0 d6_12 e0 V_c ⟨by decide, by decide⟩ rfl rfl ?_
  refine g_istore (pc' := 15) (Ls' := #[.val (.ref a1), .val (.int (0 : Int32)), .val (.ref a3), .val (.int (0 : Int32)), .val (.int (5 : Int32)), .val (.int (0 : Int32)), .val (.int x0)]) C X0 d6_13 rfl rfl ?_
  refine g_iload (pc' := 17) C X0 d6_15 rfl rfl ?_
  refine g_sipush (pc' := 20) (v := (255 : Int32)) C X0 d6_17 rfl rfl ?_
  refine g_icmpY (pc' := 26) C X0 d6_20 (flt hw0).2.2.2 (by decide) (by decide) ?_
  refine g_aloadN (pc' := 27) C X0 d6_26 rfl rfl rfl ?_
  refine g_iloadN (pc' := 28) C X0 d6_27 rfl rfl ?_
  refine g_iload (pc' := 30) C X0 d6_28 rfl rfl ?_
  refine g_i2b (pc' := 31) C X0 d6_30 rfl ?_
  refine g_stB (pc' := 32) (i := (0 : Int32).toNatClampNeg) C X0 d6_31 e0 (V_d.pad (pad_rep _ _ ((0 : Int32).toNatClampNeg + 1))) ⟨by decide, by decide⟩ rfl own_lts rfl (fun T1 h1 X1 e1 W1 V1q => ?_)
  have V1 : Arv Z h1 a3 k2 .byte (5 : Int32) (own_vl (own_s [] (0 : Int32) (nar .byte x0.toInt8.toInt32))) (.int (0 : Int32)) := own_vl_set _ _ _ ▸ V1q
  have FX_1 := FX_wr hF W1
  have V_c_1 := V_c.other W1 ne13
  have Z1 := Nat.le_trans Z0 (Nat.le_of_eq W1.size.symm)
  have N1 := Fr.snoc X1 N0 gn_a3
  have K1 := K0.wr W1 (Or.inl (List.mem_of_getElem? (i := 0) rfl))
  refine g_iinc (pc' := 35) (Ls' := #[.val (.ref a1), .val (.int ((0 : Int32) + (1 : Int32))), .val (.ref a3), .val (.int (0 : Int32)), .val (.int (5 : Int32)), .val (.int (0 : Int32)), .val (.int x0)]) C X1 d6_32 rfl rfl rfl ?_
  refine own_cast (show T1.setTop (mkF m 35 #[.val (.ref a1), .val (.int ((0 : Int32) + (1 : Int32))), .val (.ref a3), .val (.int (0 : Int32)), .val (.int (5 : Int32)), .val (.int (0 : Int32)), .val (.int x0)] []) = T1.setTop (mkF m 35 #[.val (.ref a1), .val (.int (1 : Int32)), .val (.ref a3), .val (.int (0 : Int32)), .val (.int (5 : Int32)), .val (.int (0 : Int32)), .val (.int x0)] []) from by rw [(show ((0 : Int32) + (1 : Int32)) = (1 : Int32) from by decide)]) ?_
  refine g_iinc (pc' := 38) (Ls' := #[.val (.ref a1), .val (.int (1 : Int32)), .val (.ref a3), .val (.int ((0 : Int32) + (1 : Int32))), .val (.int (5 : Int32)), .val (.int (0 : Int32)), .val (.int x0)]) C X1 d6_35 rfl rfl rfl ?_
  refine own_cast (show T1.setTop (mkF m 38 #[.val (.ref a1), .val (.int (1 : Int32)), .val (.ref a3), .val (.int ((0 : Int32) + (1 : Int32))), .val (.int (5 : Int32)), .val (.int (0 : Int32)), .val (.int x0)] []) = T1.setTop (mkF m 38 #[.val (.ref a1), .val (.int (1 : Int32)), .val (.ref a3), .val (.int (1 : Int32)), .val (.int (5 : Int32)), .val (.int (0 : Int32)), .val (.int x0)] []) from by rw [(show ((0 : Int32) + (1 : Int32)) = (1 : Int32) from by decide)]) ?_
  refine g_iinc (pc' := 41) (Ls' := #[.val (.ref a1), .val (.int (1 : Int32)), .val (.ref a3), .val (.int (1 : Int32)), .val (.int (5 : Int32)), .val (.int ((0 : Int32) + (1 : Int32))), .val (.int x0)]) C X1 d6_38 rfl rfl rfl ?_
  refine own_cast (show T1.setTop (mkF m 41 #[.val (.ref a1), .val (.int (1 : Int32)), .val (.ref a3), .val (.int (1 : Int32)), .val (.int (5 : Int32)), .val (.int ((0 : Int32) + (1 : Int32))), .val (.int x0)] []) = T1.setTop (mkF m 41 #[.val (.ref a1), .val (.int (1 : Int32)), .val (.ref a3), .val (.int (1 : Int32)), .val (.int (5 : Int32)), .val (.int (1 : Int32)), .val (.int x0)] []) from by rw [(show ((0 : Int32) + (1 : Int32)) = (1 : Int32) from by decide)]) ?_
  refine g_goto (pc' := 3) C X1 d6_41 (by decide) (by decide) ?_
  refine g_iload (pc' := 5) C X1 d6_3 rfl rfl ?_
  refine g_iload (pc' := 7) C X1 d6_5 rfl rfl ?_
  refine g_icmpN (pc' := 10) C X1 d6_7 (tlt (show (1 : Int32) < (5 : Int32) from (by decide))).2.1 rfl ?_
  refine g_aloadN (pc' := 11) C X1 d6_10 rfl rfl rfl ?_
  refine g_iloadN (pc' := 12) C X1 d6_11 rfl rfl ?_
  refine g_ldC (pc' := 13) (v := (.int x1)) C X1 d6_12 e1 V_c_1 ⟨by decide, by decide⟩ rfl rfl ?_
  refine g_istore (pc' := 15) (Ls' := #[.val (.ref a1), .val (.int (1 : Int32)), .val (.ref a3), .val (.int (1 : Int32)), .val (.int (5 : Int32)), .val (.int (1 : Int32)), .val (.int x1)]) C X1 d6_13 rfl rfl ?_
  refine g_iload (pc' := 17) C X1 d6_15 rfl rfl ?_
  refine g_sipush (pc' := 20) (v := (255 : Int32)) C X1 d6_17 rfl rfl ?_
  refine g_icmpY (pc' := 26) C X1 d6_20 (flt hw1).2.2.2 (by decide) (by decide) ?_
  refine g_aloadN (pc' := 27) C X1 d6_26 rfl rfl rfl ?_
  refine g_iloadN (pc' := 28) C X1 d6_27 rfl rfl ?_
  refine g_iload (pc' := 30) C X1 d6_28 rfl rfl ?_
  refine g_i2b (pc' := 31) C X1 d6_30 rfl ?_
  refine g_stB (pc' := 32) (i := (1 : Int32).toNatClampNeg) C X1 d6_31 e1 (V1.pad (pad_rep _ _ ((1 : Int32).toNatClampNeg + 1))) ⟨by decide, by decide⟩ rfl own_lts rfl (fun T2 h2 X2 e2 W2 V2q => ?_)
  have V2 : Arv Z h2 a3 k2 .byte (5 : Int32) (own_vl (own_s (own_s [] (0 : Int32) (nar .byte x0.toInt8.toInt32)) (1 : Int32) (nar .byte x1.toInt8.toInt32))) (.int (0 : Int32)) := own_vl_set _ _ _ ▸ V2q
  have FX_2 := FX_wr FX_1 W2
  have V_c_2 := V_c_1.other W2 ne13
  have Z2 := Nat.le_trans Z1 (Nat.le_of_eq W2.size.symm)
  have N2 := Fr.snoc X2 N1 gn_a3
  have K2 := K1.wr W2 (Or.inl (List.mem_of_getElem? (i := 0) rfl))
  refine g_iinc (pc' := 35) (Ls' := #[.val (.ref a1), .val (.int ((1 : Int32) + (1 : Int32))), .val (.ref a3), .val (.int (1 : Int32)), .val (.int (5 : Int32)), .val (.int (1 : Int32)), .val (.int x1)]) C X2 d6_32 rfl rfl rfl ?_
  refine own_cast (show T2.setTop (mkF m 35 #[.val (.ref a1), .val (.int ((1 : Int32) + (1 : Int32))), .val (.ref a3), .val (.int (1 : Int32)), .val (.int (5 : Int32)), .val (.int (1 : Int32)), .val (.int x1)] []) = T2.setTop (mkF m 35 #[.val (.ref a1), .val (.int (2 : Int32)), .val (.ref a3), .val (.int (1 : Int32)), .val (.int (5 : Int32)), .val (.int (1 : Int32)), .val (.int x1)] []) from by rw [(show ((1 : Int32) + (1 : Int32)) = (2 : Int32) from by decide)]) ?_
  refine g_iinc (pc' := 38) (Ls' := #[.val (.ref a1), .val (.int (2 : Int32)), .val (.ref a3), .val (.int ((1 : Int32) + (1 : Int32))), .val (.int (5 : Int32)), .val (.int (1 : Int32)), .val (.int x1)]) C X2 d6_35 rfl rfl rfl ?_
  refine own_cast (show T2.setTop (mkF m 38 #[.val (.ref a1), .val (.int (2 : Int32)), .val (.ref a3), .val (.int ((1 : Int32) + (1 : Int32))), .val (.int (5 : Int32)), .val (.int (1 : Int32)), .val (.int x1)] []) = T2.setTop (mkF m 38 #[.val (.ref a1), .val (.int (2 : Int32)), .val (.ref a3), .val (.int (2 : Int32)), .val (.int (5 : Int32)), .val (.int (1 : Int32)), .val (.int x1)] []) from by rw [(show ((1 : Int32) + (1 : Int32)) = (2 : Int32) from by decide)]) ?_
  refine g_iinc (pc' := 41) (Ls' := #[.val (.ref a1), .val (.int (2 : Int32)), .val (.ref a3), .val (.int (2 : Int32)), .val (.int (5 : Int32)), .val (.int ((1 : Int32) + (1 : Int32))), .val (.int x1)]) C X2 d6_38 rfl rfl rfl ?_
  refine own_cast (show T2.setTop (mkF m 41 #[.val (.ref a1), .val (.int (2 : Int32)), .val (.ref a3), .val (.int (2 : Int32)), .val (.int (5 : Int32)), .val (.int ((1 : Int32) + (1 : Int32))), .val (.int x1)] []) = T2.setTop (mkF m 41 #[.val (.ref a1), .val (.int (2 : Int32)), .val (.ref a3), .val (.int (2 : Int32)), .val (.int (5 : Int32)), .val (.int (2 : Int32)), .val (.int x1)] []) from by rw [(show ((1 : Int32) + (1 : Int32)) = (2 : Int32) from by decide)]) ?_
  refine g_goto (pc' := 3) C X2 d6_41 (by decide) (by decide) ?_
  refine g_iload (pc' := 5) C X2 d6_3 rfl rfl ?_
  refine g_iload (pc' := 7) C X2 d6_5 rfl rfl ?_
  refine g_icmpN (pc' := 10) C X2 d6_7 (tlt (show (2 : Int32) < (5 : Int32) from (by decide))).2.1 rfl ?_
  refine g_aloadN (pc' := 11) C X2 d6_10 rfl rfl rfl ?_
  refine g_iloadN (pc' := 12) C X2 d6_11 rfl rfl ?_
  refine g_ldC (pc' := 13) (v := (.int x2)) C X2 d6_12 e2 V_c_2 ⟨by decide, by decide⟩ rfl rfl ?_
  refine g_istore (pc' := 15) (Ls' := #[.val (.ref a1), .val (.int (2 : Int32)), .val (.ref a3), .val (.int (2 : Int32)), .val (.int (5 : Int32)), .val (.int (2 : Int32)), .val (.int x2)]) C X2 d6_13 rfl rfl ?_
  refine g_iload (pc' := 17) C X2 d6_15 rfl rfl ?_
  refine g_sipush (pc' := 20) (v := (255 : Int32)) C X2 d6_17 rfl rfl ?_
  refine g_icmpN (pc' := 23) C X2 d6_20 (tlt hw2).2.2.2 rfl ?_
  refine g_iload (pc' := 25) C X2 d6_23 rfl rfl ?_
  exact g_retI C X2 d6_25 (by decide) (by decide) ⟨congrArg (fun z => some (Value.int z)) (FcmW2_l0  ).symm, N2, (by rw [e2]; exact K2)⟩
def FcmW3  : Int32 := (3 : Int32)
theorem FcmW3_l0   : FcmW3  = (3 : Int32) := rfl
theorem ef_cmW3 (m : MethodId) (a1 : Addr) (a3 : Addr) : entryFrame m #[(.ref a1), (.int (0 : Int32)), (.ref a3), (.int (0 : Int32)), (.int (5 : Int32))] 7 = mkF m 0 #[.val (.ref a1), .val (.int (0 : Int32)), .val (.ref a3), .val (.int (0 : Int32)), .val (.int (5 : Int32)), .unset, .unset] [] := by first | (simp [entryFrame, mkF, argsToLocals, Value.category]; done) | rfl
def Q_cmW3 (Z : State) (a1 : Addr) (a3 : Addr) (kc : ClassId) (k2 : ClassId) (x0 : Int32) (x1 : Int32) (x2 : Int32) (x3 : Int32) (x4 : Int32) (cs : Int32) (fm : Value) (h0 : Heap) (n0 : Nat) (vr : Option Value) (h : Heap) (L : List Loc) : Prop := (vr = some (.int (FcmW3 ))) ∧ (Fr n0 L) ∧ (Keep h0 h [a3])
set_option maxRecDepth 65536 in
set_option maxHeartbeats 40000000 in
theorem rmcmW3 (l : Launch) (Z : State) (a0 : Array Value) (hw : ∀ d ∈ tables_1, d.before a0 Z = true) (ws : List Jvm.Cond) (a1 : Addr) (a3 : Addr) (kc : ClassId) (k2 : ClassId) (x0 : Int32) (x1 : Int32) (x2 : Int32) (x3 : Int32) (x4 : Int32) (cs : Int32) (fm : Value) (h0 : Heap) (n0 : Nat) (Z0 : n0 ≤ h0.size) (hF : FX Z h0 cs fm) (V_c : Arv Z h0 a1 kc .char (5 : Int32) [(.int x0), (.int x1), (.int x2), (.int x3), (.int x4)] (.int (0 : Int32))) (V_d : Arv Z h0 a3 k2 .byte (5 : Int32) (own_vl []) (.int (0 : Int32))) (gn_a3 : n0 ≤ a3) (ne13 : ¬ (a1 = a3)) (hw0 : ¬ ((255 : Int32) < x0)) (hw1 : ¬ ((255 : Int32) < x1)) (hw2 : ¬ ((255 : Int32) < x2)) (hw3 : (255 : Int32) < x3) :
    MetFree l (⟨"java/lang/StringUTF16", "compress", "([CI[BII)I"⟩ : MethodName) (head1 (Jvm.Cond.code (⟨"java/lang/StringUTF16", "compress", "([CI[BII)I"⟩ : MethodName) jdk_52_method_21_code 7 (some .int) :: ws) ({ frames := 0, cells := 0, slots := 0, locals := 0 } : Room)) (fun a U => a = #[(.ref a1), (.int (0 : Int32)), (.ref a3), (.int (0 : Int32)), (.int (5 : Int32))] ∧ Z.Warmed39 U.vm ∧ U.heap = h0) (fun _ _ _ _ _ => True) (fun _ U o U' => ∃ v L, o = .returned v ∧ Q_cmW3 Z a1 a3 kc k2 x0 x1 x2 x3 x4 cs fm h0 n0 v U'.heap L ∧ FrameEnd U o U' L ({ frames := 0, cells := 0, slots := 0, locals := 0 } : Room).cells ({ frames := 0, cells := 0, slots := 0, locals := 0 } : Room).slots) := by
  refine met_of (Ls := #[.val (.ref a1), .val (.int (0 : Int32)), .val (.ref a3), .val (.int (0 : Int32)), .val (.int (5 : Int32)), .unset, .unset]) (plainFor_of_name (by first | (simp [plainName, overriddenIn]; done) | decide +kernel)) (fun m => ef_cmW3 m a1 a3) ?_
  intro p e s m below meth c T0 C X0 e0
  obtain ⟨S_cs, hcs, S_fm, hfm, S_ad, S_hi, S_lo⟩ := id hF
  have N0 := Fr.nil n0
  have K0 : Keep h0 h0 [a3] := Keep.refl h0 _
  refine g_iconst (pc' := 1) (v := (0 : Int32)) C X0 d6_0 rfl rfl ?_
  refine g_istore (pc' := 3) (Ls' := #[.val (.ref a1), .val (.int (0 : Int32)), .val (.ref a3), .val (.int (0 : Int32)), .val (.int (5 : Int32)), .val (.int (0 : Int32)), .unset]) C X0 d6_1 rfl rfl ?_
  refine g_iload (pc' := 5) C X0 d6_3 rfl rfl ?_
  refine g_iload (pc' := 7) C X0 d6_5 rfl rfl ?_
  refine g_icmpN (pc' := 10) C X0 d6_7 (tlt (show (0 : Int32) < (5 : Int32) from (by decide))).2.1 rfl ?_
  refine g_aloadN (pc' := 11) C X0 d6_10 rfl rfl rfl ?_
  refine g_iloadN (pc' := 12) C X0 d6_11 rfl rfl ?_
  refine g_ldC (pc' := 13) (v := (.int x0)) C X0 d6_12 e0 V_c ⟨by decide, by decide⟩ rfl rfl ?_
  refine g_istore (pc' := 15) (Ls' := #[.val (.ref a1), .val (.int (0 : Int32)), .val (.ref a3), .val (.int (0 : Int32)), .val (.int (5 : Int32)), .val (.int (0 : Int32)), .val (.int x0)]) C X0 d6_13 rfl rfl ?_
  refine g_iload (pc' := 17) C X0 d6_15 rfl rfl ?_
  refine g_sipush (pc' := 20) (v := (255 : Int32)) C X0 d6_17 rfl rfl ?_
  refine g_icmpY (pc' := 26) C X0 d6_20 (flt hw0).2.2.2 (by decide) (by decide) ?_
  refine g_aloadN (pc' := 27) C X0 d6_26 rfl rfl rfl ?_
  refine g_iloadN (pc' := 28) C X0 d6_27 rfl rfl ?_
  refine g_iload (pc' := 30) C X0 d6_28 rfl rfl ?_
  refine g_i2b (pc' := 31) C X0 d6_30 rfl ?_
  refine g_stB (pc' := 32) (i := (0 : Int32).toNatClampNeg) C X0 d6_31 e0 (V_d.pad (pad_rep _ _ ((0 : Int32).toNatClampNeg + 1))) ⟨by decide, by decide⟩ rfl own_lts rfl (fun T1 h1 X1 e1 W1 V1q => ?_)
  have V1 : Arv Z h1 a3 k2 .byte (5 : Int32) (own_vl (own_s [] (0 : Int32) (nar .byte x0.toInt8.toInt32))) (.int (0 : Int32)) := own_vl_set _ _ _ ▸ V1q
  have FX_1 := FX_wr hF W1
  have V_c_1 := V_c.other W1 ne13
  have Z1 := Nat.le_trans Z0 (Nat.le_of_eq W1.size.symm)
  have N1 := Fr.snoc X1 N0 gn_a3
  have K1 := K0.wr W1 (Or.inl (List.mem_of_getElem? (i := 0) rfl))
  refine g_iinc (pc' := 35) (Ls' := #[.val (.ref a1), .val (.int ((0 : Int32) + (1 : Int32))), .val (.ref a3), .val (.int (0 : Int32)), .val (.int (5 : Int32)), .val (.int (0 : Int32)), .val (.int x0)]) C X1 d6_32 rfl rfl rfl ?_
  refine own_cast (show T1.setTop (mkF m 35 #[.val (.ref a1), .val (.int ((0 : Int32) + (1 : Int32))), .val (.ref a3), .val (.int (0 : Int32)), .val (.int (5 : Int32)), .val (.int (0 : Int32)), .val (.int x0)] []) = T1.setTop (mkF m 35 #[.val (.ref a1), .val (.int (1 : Int32)), .val (.ref a3), .val (.int (0 : Int32)), .val (.int (5 : Int32)), .val (.int (0 : Int32)), .val (.int x0)] []) from by rw [(show ((0 : Int32) + (1 : Int32)) = (1 : Int32) from by decide)]) ?_
  refine g_iinc (pc' := 38) (Ls' := #[.val (.ref a1), .val (.int (1 : Int32)), .val (.ref a3), .val (.int ((0 : Int32) + (1 : Int32))), .val (.int (5 : Int32)), .val (.int (0 : Int32)), .val (.int x0)]) C X1 d6_35 rfl rfl rfl ?_
  refine own_cast (show T1.setTop (mkF m 38 #[.val (.ref a1), .val (.int (1 : Int32)), .val (.ref a3), .val (.int ((0 : Int32) + (1 : Int32))), .val (.int (5 : Int32)), .val (.int (0 : Int32)), .val (.int x0)] []) = T1.setTop (mkF m 38 #[.val (.ref a1), .val (.int (1 : Int32)), .val (.ref a3), .val (.int (1 : Int32)), .val (.int (5 : Int32)), .val (.int (0 : Int32)), .val (.int x0)] []) from by rw [(show ((0 : Int32) + (1 : Int32)) = (1 : Int32) from by decide)]) ?_
  refine g_iinc (pc' := 41) (Ls' := #[.val (.ref a1), .val (.int (1 : Int32)), .val (.ref a3), .val (.int (1 : Int32)), .val (.int (5 : Int32)), .val (.int ((0 : Int32) + (1 : Int32))), .val (.int x0)]) C X1 d6_38 rfl rfl rfl ?_
  refine own_cast (show T1.setTop (mkF m 41 #[.val (.ref a1), .val (.int (1 : Int32)), .val (.ref a3), .val (.int (1 : Int32)), .val (.int (5 : Int32)), .val (.int ((0 : Int32) + (1 : Int32))), .val (.int x0)] []) = T1.setTop (mkF m 41 #[.val (.ref a1), .val (.int (1 : Int32)), .val (.ref a3), .val (.int (1 : Int32)), .val (.int (5 : Int32)), .val (.int (1 : Int32)), .val (.int x0)] []) from by rw [(show ((0 : Int32) + (1 : Int32)) = (1 : Int32) from by decide)]) ?_
  refine g_goto (pc' := 3) C X1 d6_41 (by decide) (by decide) ?_
  refine g_iload (pc' := 5) C X1 d6_3 rfl rfl ?_
  refine g_iload (pc' := 7) C X1 d6_5 rfl rfl ?_
  refine g_icmpN (pc' := 10) C X1 d6_7 (tlt (show (1 : Int32) < (5 : Int32) from (by decide))).2.1 rfl ?_
  refine g_aloadN (pc' := 11) C X1 d6_10 rfl rfl rfl ?_
  refine g_iloadN (pc' := 12) C X1 d6_11 rfl rfl ?_
  refine g_ldC (pc' := 13) (v := (.int x1)) C X1 d6_12 e1 V_c_1 ⟨by decide, by decide⟩ rfl rfl ?_
  refine g_istore (pc' := 15) (Ls' := #[.val (.ref a1), .val (.int (1 : Int32)), .val (.ref a3), .val (.int (1 : Int32)), .val (.int (5 : Int32)), .val (.int (1 : Int32)), .val (.int x1)]) C X1 d6_13 rfl rfl ?_
  refine g_iload (pc' := 17) C X1 d6_15 rfl rfl ?_
  refine g_sipush (pc' := 20) (v := (255 : Int32)) C X1 d6_17 rfl rfl ?_
  refine g_icmpY (pc' := 26) C X1 d6_20 (flt hw1).2.2.2 (by decide) (by decide) ?_
  refine g_aloadN (pc' := 27) C X1 d6_26 rfl rfl rfl ?_
  refine g_iloadN (pc' := 28) C X1 d6_27 rfl rfl ?_
  refine g_iload (pc' := 30) C X1 d6_28 rfl rfl ?_
  refine g_i2b (pc' := 31) C X1 d6_30 rfl ?_
  refine g_stB (pc' := 32) (i := (1 : Int32).toNatClampNeg) C X1 d6_31 e1 (V1.pad (pad_rep _ _ ((1 : Int32).toNatClampNeg + 1))) ⟨by decide, by decide⟩ rfl own_lts rfl (fun T2 h2 X2 e2 W2 V2q => ?_)
  have V2 : Arv Z h2 a3 k2 .byte (5 : Int32) (own_vl (own_s (own_s [] (0 : Int32) (nar .byte x0.toInt8.toInt32)) (1 : Int32) (nar .byte x1.toInt8.toInt32))) (.int (0 : Int32)) := own_vl_set _ _ _ ▸ V2q
  have FX_2 := FX_wr FX_1 W2
  have V_c_2 := V_c_1.other W2 ne13
  have Z2 := Nat.le_trans Z1 (Nat.le_of_eq W2.size.symm)
  have N2 := Fr.snoc X2 N1 gn_a3
  have K2 := K1.wr W2 (Or.inl (List.mem_of_getElem? (i := 0) rfl))
  refine g_iinc (pc' := 35) (Ls' := #[.val (.ref a1), .val (.int ((1 : Int32) + (1 : Int32))), .val (.ref a3), .val (.int (1 : Int32)), .val (.int (5 : Int32)), .val (.int (1 : Int32)), .val (.int x1)]) C X2 d6_32 rfl rfl rfl ?_
  refine own_cast (show T2.setTop (mkF m 35 #[.val (.ref a1), .val (.int ((1 : Int32) + (1 : Int32))), .val (.ref a3), .val (.int (1 : Int32)), .val (.int (5 : Int32)), .val (.int (1 : Int32)), .val (.int x1)] []) = T2.setTop (mkF m 35 #[.val (.ref a1), .val (.int (2 : Int32)), .val (.ref a3), .val (.int (1 : Int32)), .val (.int (5 : Int32)), .val (.int (1 : Int32)), .val (.int x1)] []) from by rw [(show ((1 : Int32) + (1 : Int32)) = (2 : Int32) from by decide)]) ?_
  refine g_iinc (pc' := 38) (Ls' := #[.val (.ref a1), .val (.int (2 : Int32)), .val (.ref a3), .val (.int ((1 : Int32) + (1 : Int32))), .val (.int (5 : Int32)), .val (.int (1 : Int32)), .val (.int x1)]) C X2 d6_35 rfl rfl rfl ?_
  refine own_cast (show T2.setTop (mkF m 38 #[.val (.ref a1), .val (.int (2 : Int32)), .val (.ref a3), .val (.int ((1 : Int32) + (1 : Int32))), .val (.int (5 : Int32)), .val (.int (1 : Int32)), .val (.int x1)] []) = T2.setTop (mkF m 38 #[.val (.ref a1), .val (.int (2 : Int32)), .val (.ref a3), .val (.int (2 : Int32)), .val (.int (5 : Int32)), .val (.int (1 : Int32)), .val (.int x1)] []) from by rw [(show ((1 : Int32) + (1 : Int32)) = (2 : Int32) from by decide)]) ?_
  refine g_iinc (pc' := 41) (Ls' := #[.val (.ref a1), .val (.int (2 : Int32)), .val (.ref a3), .val (.int (2 : Int32)), .val (.int (5 : Int32)), .val (.int ((1 : Int32) + (1 : Int32))), .val (.int x1)]) C X2 d6_38 rfl rfl rfl ?_
  refine own_cast (show T2.setTop (mkF m 41 #[.val (.ref a1), .val (.int (2 : Int32)), .val (.ref a3), .val (.int (2 : Int32)), .val (.int (5 : Int32)), .val (.int ((1 : Int32) + (1 : Int32))), .val (.int x1)] []) = T2.setTop (mkF m 41 #[.val (.ref a1), .val (.int (2 : Int32)), .val (.ref a3), .val (.int (2 : Int32)), .val (.int (5 : Int32)), .val (.int (2 : Int32)), .val (.int x1)] []) from by rw [(show ((1 : Int32) + (1 : Int32)) = (2 : Int32) from by decide)]) ?_
  refine g_goto (pc' := 3) C X2 d6_41 (by decide) (by decide) ?_
  refine g_iload (pc' := 5) C X2 d6_3 rfl rfl ?_
  refine g_iload (pc' := 7) C X2 d6_5 rfl rfl ?_
  refine g_icmpN (pc' := 10) C X2 d6_7 (tlt (show (2 : Int32) < (5 : Int32) from (by decide))).2.1 rfl ?_
  refine g_aloadN (pc' := 11) C X2 d6_10 rfl rfl rfl ?_
  refine g_iloadN (pc' := 12) C X2 d6_11 rfl rfl ?_
  refine g_ldC (pc' := 13) (v := (.int x2)) C X2 d6_12 e2 V_c_2 ⟨by decide, by decide⟩ rfl rfl ?_
  refine g_istore (pc' := 15) (Ls' := #[.val (.ref a1), .val (.int (2 : Int32)), .val (.ref a3), .val (.int (2 : Int32)), .val (.int (5 : Int32)), .val (.int (2 : Int32)), .val (.int x2)]) C X2 d6_13 rfl rfl ?_
  refine g_iload (pc' := 17) C X2 d6_15 rfl rfl ?_
  refine g_sipush (pc' := 20) (v := (255 : Int32)) C X2 d6_17 rfl rfl ?_
  refine g_icmpY (pc' := 26) C X2 d6_20 (flt hw2).2.2.2 (by decide) (by decide) ?_
  refine g_aloadN (pc' := 27) C X2 d6_26 rfl rfl rfl ?_
  refine g_iloadN (pc' := 28) C X2 d6_27 rfl rfl ?_
  refine g_iload (pc' := 30) C X2 d6_28 rfl rfl ?_
  refine g_i2b (pc' := 31) C X2 d6_30 rfl ?_
  refine g_stB (pc' := 32) (i := (2 : Int32).toNatClampNeg) C X2 d6_31 e2 (V2.pad (pad_rep _ _ ((2 : Int32).toNatClampNeg + 1))) ⟨by decide, by decide⟩ rfl own_lts rfl (fun T3 h3 X3 e3 W3 V3q => ?_)
  have V3 : Arv Z h3 a3 k2 .byte (5 : Int32) (own_vl (own_s (own_s (own_s [] (0 : Int32) (nar .byte x0.toInt8.toInt32)) (1 : Int32) (nar .byte x1.toInt8.toInt32)) (2 : Int32) (nar .byte x2.toInt8.toInt32))) (.int (0 : Int32)) := own_vl_set _ _ _ ▸ V3q
  have FX_3 := FX_wr FX_2 W3
  have V_c_3 := V_c_2.other W3 ne13
  have Z3 := Nat.le_trans Z2 (Nat.le_of_eq W3.size.symm)
  have N3 := Fr.snoc X3 N2 gn_a3
  have K3 := K2.wr W3 (Or.inl (List.mem_of_getElem? (i := 0) rfl))
  refine g_iinc (pc' := 35) (Ls' := #[.val (.ref a1), .val (.int ((2 : Int32) + (1 : Int32))), .val (.ref a3), .val (.int (2 : Int32)), .val (.int (5 : Int32)), .val (.int (2 : Int32)), .val (.int x2)]) C X3 d6_32 rfl rfl rfl ?_
  refine own_cast (show T3.setTop (mkF m 35 #[.val (.ref a1), .val (.int ((2 : Int32) + (1 : Int32))), .val (.ref a3), .val (.int (2 : Int32)), .val (.int (5 : Int32)), .val (.int (2 : Int32)), .val (.int x2)] []) = T3.setTop (mkF m 35 #[.val (.ref a1), .val (.int (3 : Int32)), .val (.ref a3), .val (.int (2 : Int32)), .val (.int (5 : Int32)), .val (.int (2 : Int32)), .val (.int x2)] []) from by rw [(show ((2 : Int32) + (1 : Int32)) = (3 : Int32) from by decide)]) ?_
  refine g_iinc (pc' := 38) (Ls' := #[.val (.ref a1), .val (.int (3 : Int32)), .val (.ref a3), .val (.int ((2 : Int32) + (1 : Int32))), .val (.int (5 : Int32)), .val (.int (2 : Int32)), .val (.int x2)]) C X3 d6_35 rfl rfl rfl ?_
  refine own_cast (show T3.setTop (mkF m 38 #[.val (.ref a1), .val (.int (3 : Int32)), .val (.ref a3), .val (.int ((2 : Int32) + (1 : Int32))), .val (.int (5 : Int32)), .val (.int (2 : Int32)), .val (.int x2)] []) = T3.setTop (mkF m 38 #[.val (.ref a1), .val (.int (3 : Int32)), .val (.ref a3), .val (.int (3 : Int32)), .val (.int (5 : Int32)), .val (.int (2 : Int32)), .val (.int x2)] []) from by rw [(show ((2 : Int32) + (1 : Int32)) = (3 : Int32) from by decide)]) ?_
  refine g_iinc (pc' := 41) (Ls' := #[.val (.ref a1), .val (.int (3 : Int32)), .val (.ref a3), .val (.int (3 : Int32)), .val (.int (5 : Int32)), .val (.int ((2 : Int32) + (1 : Int32))), .val (.int x2)]) C X3 d6_38 rfl rfl rfl ?_
  refine own_cast (show T3.setTop (mkF m 41 #[.val (.ref a1), .val (.int (3 : Int32)), .val (.ref a3), .val (.int (3 : Int32)), .val (.int (5 : Int32)), .val (.int ((2 : Int32) + (1 : Int32))), .val (.int x2)] []) = T3.setTop (mkF m 41 #[.val (.ref a1), .val (.int (3 : Int32)), .val (.ref a3), .val (.int (3 : Int32)), .val (.int (5 : Int32)), .val (.int (3 : Int32)), .val (.int x2)] []) from by rw [(show ((2 : Int32) + (1 : Int32)) = (3 : Int32) from by decide)]) ?_
  refine g_goto (pc' := 3) C X3 d6_41 (by decide) (by decide) ?_
  refine g_iload (pc' := 5) C X3 d6_3 rfl rfl ?_
  refine g_iload (pc' := 7) C X3 d6_5 rfl rfl ?_
  refine g_icmpN (pc' := 10) C X3 d6_7 (tlt (show (3 : Int32) < (5 : Int32) from (by decide))).2.1 rfl ?_
  refine g_aloadN (pc' := 11) C X3 d6_10 rfl rfl rfl ?_
  refine g_iloadN (pc' := 12) C X3 d6_11 rfl rfl ?_
  refine g_ldC (pc' := 13) (v := (.int x3)) C X3 d6_12 e3 V_c_3 ⟨by decide, by decide⟩ rfl rfl ?_
  refine g_istore (pc' := 15) (Ls' := #[.val (.ref a1), .val (.int (3 : Int32)), .val (.ref a3), .val (.int (3 : Int32)), .val (.int (5 : Int32)), .val (.int (3 : Int32)), .val (.int x3)]) C X3 d6_13 rfl rfl ?_
  refine g_iload (pc' := 17) C X3 d6_15 rfl rfl ?_
  refine g_sipush (pc' := 20) (v := (255 : Int32)) C X3 d6_17 rfl rfl ?_
  refine g_icmpN (pc' := 23) C X3 d6_20 (tlt hw3).2.2.2 rfl ?_
  refine g_iload (pc' := 25) C X3 d6_23 rfl rfl ?_
  exact g_retI C X3 d6_25 (by decide) (by decide) ⟨congrArg (fun z => some (Value.int z)) (FcmW3_l0  ).symm, N3, (by rw [e3]; exact K3)⟩
def FcmW4  : Int32 := (4 : Int32)
theorem FcmW4_l0   : FcmW4  = (4 : Int32) := rfl
theorem ef_cmW4 (m : MethodId) (a1 : Addr) (a3 : Addr) : entryFrame m #[(.ref a1), (.int (0 : Int32)), (.ref a3), (.int (0 : Int32)), (.int (5 : Int32))] 7 = mkF m 0 #[.val (.ref a1), .val (.int (0 : Int32)), .val (.ref a3), .val (.int (0 : Int32)), .val (.int (5 : Int32)), .unset, .unset] [] := by first | (simp [entryFrame, mkF, argsToLocals, Value.category]; done) | rfl
def Q_cmW4 (Z : State) (a1 : Addr) (a3 : Addr) (kc : ClassId) (k2 : ClassId) (x0 : Int32) (x1 : Int32) (x2 : Int32) (x3 : Int32) (x4 : Int32) (cs : Int32) (fm : Value) (h0 : Heap) (n0 : Nat) (vr : Option Value) (h : Heap) (L : List Loc) : Prop := (vr = some (.int (FcmW4 ))) ∧ (Fr n0 L) ∧ (Keep h0 h [a3])
set_option maxRecDepth 65536 in
set_option maxHeartbeats 40000000 in
theorem rmcmW4 (l : Launch) (Z : State) (a0 : Array Value) (hw : ∀ d ∈ tables_1, d.before a0 Z = true) (ws : List Jvm.Cond) (a1 : Addr) (a3 : Addr) (kc : ClassId) (k2 : ClassId) (x0 : Int32) (x1 : Int32) (x2 : Int32) (x3 : Int32) (x4 : Int32) (cs : Int32) (fm : Value) (h0 : Heap) (n0 : Nat) (Z0 : n0 ≤ h0.size) (hF : FX Z h0 cs fm) (V_c : Arv Z h0 a1 kc .char (5 : Int32) [(.int x0), (.int x1), (.int x2), (.int x3), (.int x4)] (.int (0 : Int32))) (V_d : Arv Z h0 a3 k2 .byte (5 : Int32) (own_vl []) (.int (0 : Int32))) (gn_a3 : n0 ≤ a3) (ne13 : ¬ (a1 = a3)) (hw0 : ¬ ((255 : Int32) < x0)) (hw1 : ¬ ((255 : Int32) < x1)) (hw2 : ¬ ((255 : Int32) < x2)) (hw3 : ¬ ((255 : Int32) < x3)) (hw4 : (255 : Int32) < x4) :
    MetFree l (⟨"java/lang/StringUTF16", "compress", "([CI[BII)I"⟩ : MethodName) (head1 (Jvm.Cond.code (⟨"java/lang/StringUTF16", "compress", "([CI[BII)I"⟩ : MethodName) jdk_52_method_21_code 7 (some .int) :: ws) ({ frames := 0, cells := 0, slots := 0, locals := 0 } : Room)) (fun a U => a = #[(.ref a1), (.int (0 : Int32)), (.ref a3), (.int (0 : Int32)), (.int (5 : Int32))] ∧ Z.Warmed39 U.vm ∧ U.heap = h0) (fun _ _ _ _ _ => True) (fun _ U o U' => ∃ v L, o = .returned v ∧ Q_cmW4 Z a1 a3 kc k2 x0 x1 x2 x3 x4 cs fm h0 n0 v U'.heap L ∧ FrameEnd U o U' L ({ frames := 0, cells := 0, slots := 0, locals := 0 } : Room).cells ({ frames := 0, cells := 0, slots := 0, locals := 0 } : Room).slots) := by
  refine met_of (Ls := #[.val (.ref a1), .val (.int (0 : Int32)), .val (.ref a3), .val (.int (0 : Int32)), .val (.int (5 : Int32)), .unset, .unset]) (plainFor_of_name (by first | (simp [plainName, overriddenIn]; done) | decide +kernel)) (fun m => ef_cmW4 m a1 a3) ?_
  intro p e s m below meth c T0 C X0 e0
  obtain ⟨S_cs, hcs, S_fm, hfm, S_ad, S_hi, S_lo⟩ := id hF
  have N0 := Fr.nil n0
  have K0 : Keep h0 h0 [a3] := Keep.refl h0 _
  refine g_iconst (pc' := 1) (v := (0 : Int32)) C X0 d6_0 rfl rfl ?_
  refine g_istore (pc' := 3) (Ls' := #[.val (.ref a1), .val (.int (0 : Int32)), .val (.ref a3), .val (.int (0 : Int32)), .val (.int (5 : Int32)), .val (.int (0 : Int32)), .unset]) C X0 d6_1 rfl rfl ?_
  refine g_iload (pc' := 5) C X0 d6_3 rfl rfl ?_
  refine g_iload (pc' := 7) C X0 d6_5 rfl rfl ?_
  refine g_icmpN (pc' := 10) C X0 d6_7 (tlt (show (0 : Int32) < (5 : Int32) from (by decide))).2.1 rfl ?_
  refine g_aloadN (pc' := 11) C X0 d6_10 rfl rfl rfl ?_
  refine g_iloadN (pc' := 12) C X0 d6_11 rfl rfl ?_
  refine g_ldC (pc' := 13) (v := (.int x0)) C X0 d6_12 e0 V_c ⟨by decide, by decide⟩ rfl rfl ?_
  refine g_istore (pc' := 15) (Ls' := #[.val (.ref a1), .val (.int (0 : Int32)), .val (.ref a3), .val (.int (0 : Int32)), .val (.int (5 : Int32)), .val (.int (0 : Int32)), .val (.int x0)]) C X0 d6_13 rfl rfl ?_
  refine g_iload (pc' := 17) C X0 d6_15 rfl rfl ?_
  refine g_sipush (pc' := 20) (v := (255 : Int32)) C X0 d6_17 rfl rfl ?_
  refine g_icmpY (pc' := 26) C X0 d6_20 (flt hw0).2.2.2 (by decide) (by decide) ?_
  refine g_aloadN (pc' := 27) C X0 d6_26 rfl rfl rfl ?_
  refine g_iloadN (pc' := 28) C X0 d6_27 rfl rfl ?_
  refine g_iload (pc' := 30) C X0 d6_28 rfl rfl ?_
  refine g_i2b (pc' := 31) C X0 d6_30 rfl ?_
  refine g_stB (pc' := 32) (i := (0 : Int32).toNatClampNeg) C X0 d6_31 e0 (V_d.pad (pad_rep _ _ ((0 : Int32).toNatClampNeg + 1))) ⟨by decide, by decide⟩ rfl own_lts rfl (fun T1 h1 X1 e1 W1 V1q => ?_)
  have V1 : Arv Z h1 a3 k2 .byte (5 : Int32) (own_vl (own_s [] (0 : Int32) (nar .byte x0.toInt8.toInt32))) (.int (0 : Int32)) := own_vl_set _ _ _ ▸ V1q
  have FX_1 := FX_wr hF W1
  have V_c_1 := V_c.other W1 ne13
  have Z1 := Nat.le_trans Z0 (Nat.le_of_eq W1.size.symm)
  have N1 := Fr.snoc X1 N0 gn_a3
  have K1 := K0.wr W1 (Or.inl (List.mem_of_getElem? (i := 0) rfl))
  refine g_iinc (pc' := 35) (Ls' := #[.val (.ref a1), .val (.int ((0 : Int32) + (1 : Int32))), .val (.ref a3), .val (.int (0 : Int32)), .val (.int (5 : Int32)), .val (.int (0 : Int32)), .val (.int x0)]) C X1 d6_32 rfl rfl rfl ?_
  refine own_cast (show T1.setTop (mkF m 35 #[.val (.ref a1), .val (.int ((0 : Int32) + (1 : Int32))), .val (.ref a3), .val (.int (0 : Int32)), .val (.int (5 : Int32)), .val (.int (0 : Int32)), .val (.int x0)] []) = T1.setTop (mkF m 35 #[.val (.ref a1), .val (.int (1 : Int32)), .val (.ref a3), .val (.int (0 : Int32)), .val (.int (5 : Int32)), .val (.int (0 : Int32)), .val (.int x0)] []) from by rw [(show ((0 : Int32) + (1 : Int32)) = (1 : Int32) from by decide)]) ?_
  refine g_iinc (pc' := 38) (Ls' := #[.val (.ref a1), .val (.int (1 : Int32)), .val (.ref a3), .val (.int ((0 : Int32) + (1 : Int32))), .val (.int (5 : Int32)), .val (.int (0 : Int32)), .val (.int x0)]) C X1 d6_35 rfl rfl rfl ?_
  refine own_cast (show T1.setTop (mkF m 38 #[.val (.ref a1), .val (.int (1 : Int32)), .val (.ref a3), .val (.int ((0 : Int32) + (1 : Int32))), .val (.int (5 : Int32)), .val (.int (0 : Int32)), .val (.int x0)] []) = T1.setTop (mkF m 38 #[.val (.ref a1), .val (.int (1 : Int32)), .val (.ref a3), .val (.int (1 : Int32)), .val (.int (5 : Int32)), .val (.int (0 : Int32)), .val (.int x0)] []) from by rw [(show ((0 : Int32) + (1 : Int32)) = (1 : Int32) from by decide)]) ?_
  refine g_iinc (pc' := 41) (Ls' := #[.val (.ref a1), .val (.int (1 : Int32)), .val (.ref a3), .val (.int (1 : Int32)), .val (.int (5 : Int32)), .val (.int ((0 : Int32) + (1 : Int32))), .val (.int x0)]) C X1 d6_38 rfl rfl rfl ?_
  refine own_cast (show T1.setTop (mkF m 41 #[.val (.ref a1), .val (.int (1 : Int32)), .val (.ref a3), .val (.int (1 : Int32)), .val (.int (5 : Int32)), .val (.int ((0 : Int32) + (1 : Int32))), .val (.int x0)] []) = T1.setTop (mkF m 41 #[.val (.ref a1), .val (.int (1 : Int32)), .val (.ref a3), .val (.int (1 : Int32)), .val (.int (5 : Int32)), .val (.int (1 : Int32)), .val (.int x0)] []) from by rw [(show ((0 : Int32) + (1 : Int32)) = (1 : Int32) from by decide)]) ?_
  refine g_goto (pc' := 3) C X1 d6_41 (by decide) (by decide) ?_
  refine g_iload (pc' := 5) C X1 d6_3 rfl rfl ?_
  refine g_iload (pc' := 7) C X1 d6_5 rfl rfl ?_
  refine g_icmpN (pc' := 10) C X1 d6_7 (tlt (show (1 : Int32) < (5 : Int32) from (by decide))).2.1 rfl ?_
  refine g_aloadN (pc' := 11) C X1 d6_10 rfl rfl rfl ?_
  refine g_iloadN (pc' := 12) C X1 d6_11 rfl rfl ?_
  refine g_ldC (pc' := 13) (v := (.int x1)) C X1 d6_12 e1 V_c_1 ⟨by decide, by decide⟩ rfl rfl ?_
  refine g_istore (pc' := 15) (Ls' := #[.val (.ref a1), .val (.int (1 : Int32)), .val (.ref a3), .val (.int (1 : Int32)), .val (.int (5 : Int32)), .val (.int (1 : Int32)), .val (.int x1)]) C X1 d6_13 rfl rfl ?_
  refine g_iload (pc' := 17) C X1 d6_15 rfl rfl ?_
  refine g_sipush (pc' := 20) (v := (255 : Int32)) C X1 d6_17 rfl rfl ?_
  refine g_icmpY (pc' := 26) C X1 d6_20 (flt hw1).2.2.2 (by decide) (by decide) ?_
  refine g_aloadN (pc' := 27) C X1 d6_26 rfl rfl rfl ?_
  refine g_iloadN (pc' := 28) C X1 d6_27 rfl rfl ?_
  refine g_iload (pc' := 30) C X1 d6_28 rfl rfl ?_
  refine g_i2b (pc' := 31) C X1 d6_30 rfl ?_
  refine g_stB (pc' := 32) (i := (1 : Int32).toNatClampNeg) C X1 d6_31 e1 (V1.pad (pad_rep _ _ ((1 : Int32).toNatClampNeg + 1))) ⟨by decide, by decide⟩ rfl own_lts rfl (fun T2 h2 X2 e2 W2 V2q => ?_)
  have V2 : Arv Z h2 a3 k2 .byte (5 : Int32) (own_vl (own_s (own_s [] (0 : Int32) (nar .byte x0.toInt8.toInt32)) (1 : Int32) (nar .byte x1.toInt8.toInt32))) (.int (0 : Int32)) := own_vl_set _ _ _ ▸ V2q
  have FX_2 := FX_wr FX_1 W2
  have V_c_2 := V_c_1.other W2 ne13
  have Z2 := Nat.le_trans Z1 (Nat.le_of_eq W2.size.symm)
  have N2 := Fr.snoc X2 N1 gn_a3
  have K2 := K1.wr W2 (Or.inl (List.mem_of_getElem? (i := 0) rfl))
  refine g_iinc (pc' := 35) (Ls' := #[.val (.ref a1), .val (.int ((1 : Int32) + (1 : Int32))), .val (.ref a3), .val (.int (1 : Int32)), .val (.int (5 : Int32)), .val (.int (1 : Int32)), .val (.int x1)]) C X2 d6_32 rfl rfl rfl ?_
  refine own_cast (show T2.setTop (mkF m 35 #[.val (.ref a1), .val (.int ((1 : Int32) + (1 : Int32))), .val (.ref a3), .val (.int (1 : Int32)), .val (.int (5 : Int32)), .val (.int (1 : Int32)), .val (.int x1)] []) = T2.setTop (mkF m 35 #[.val (.ref a1), .val (.int (2 : Int32)), .val (.ref a3), .val (.int (1 : Int32)), .val (.int (5 : Int32)), .val (.int (1 : Int32)), .val (.int x1)] []) from by rw [(show ((1 : Int32) + (1 : Int32)) = (2 : Int32) from by decide)]) ?_
  refine g_iinc (pc' := 38) (Ls' := #[.val (.ref a1), .val (.int (2 : Int32)), .val (.ref a3), .val (.int ((1 : Int32) + (1 : Int32))), .val (.int (5 : Int32)), .val (.int (1 : Int32)), .val (.int x1)]) C X2 d6_35 rfl rfl rfl ?_
  refine own_cast (show T2.setTop (mkF m 38 #[.val (.ref a1), .val (.int (2 : Int32)), .val (.ref a3), .val (.int ((1 : Int32) + (1 : Int32))), .val (.int (5 : Int32)), .val (.int (1 : Int32)), .val (.int x1)] []) = T2.setTop (mkF m 38 #[.val (.ref a1), .val (.int (2 : Int32)), .val (.ref a3), .val (.int (2 : Int32)), .val (.int (5 : Int32)), .val (.int (1 : Int32)), .val (.int x1)] []) from by rw [(show ((1 : Int32) + (1 : Int32)) = (2 : Int32) from by decide)]) ?_
  refine g_iinc (pc' := 41) (Ls' := #[.val (.ref a1), .val (.int (2 : Int32)), .val (.ref a3), .val (.int (2 : Int32)), .val (.int (5 : Int32)), .val (.int ((1 : Int32) + (1 : Int32))), .val (.int x1)]) C X2 d6_38 rfl rfl rfl ?_
  refine own_cast (show T2.setTop (mkF m 41 #[.val (.ref a1), .val (.int (2 : Int32)), .val (.ref a3), .val (.int (2 : Int32)), .val (.int (5 : Int32)), .val (.int ((1 : Int32) + (1 : Int32))), .val (.int x1)] []) = T2.setTop (mkF m 41 #[.val (.ref a1), .val (.int (2 : Int32)), .val (.ref a3), .val (.int (2 : Int32)), .val (.int (5 : Int32)), .val (.int (2 : Int32)), .val (.int x1)] []) from by rw [(show ((1 : Int32) + (1 : Int32)) = (2 : Int32) from by decide)]) ?_
  refine g_goto (pc' := 3) C X2 d6_41 (by decide) (by decide) ?_
  refine g_iload (pc' := 5) C X2 d6_3 rfl rfl ?_
  refine g_iload (pc' := 7) C X2 d6_5 rfl rfl ?_
  refine g_icmpN (pc' := 10) C X2 d6_7 (tlt (show (2 : Int32) < (5 : Int32) from (by decide))).2.1 rfl ?_
  refine g_aloadN (pc' := 11) C X2 d6_10 rfl rfl rfl ?_
  refine g_iloadN (pc' := 12) C X2 d6_11 rfl rfl ?_
  refine g_ldC (pc' := 13) (v := (.int x2)) C X2 d6_12 e2 V_c_2 ⟨by decide, by decide⟩ rfl rfl ?_
  refine g_istore (pc' := 15) (Ls' := #[.val (.ref a1), .val (.int (2 : Int32)), .val (.ref a3), .val (.int (2 : Int32)), .val (.int (5 : Int32)), .val (.int (2 : Int32)), .val (.int x2)]) C X2 d6_13 rfl rfl ?_
  refine g_iload (pc' := 17) C X2 d6_15 rfl rfl ?_
  refine g_sipush (pc' := 20) (v := (255 : Int32)) C X2 d6_17 rfl rfl ?_
  refine g_icmpY (pc' := 26) C X2 d6_20 (flt hw2).2.2.2 (by decide) (by decide) ?_
  refine g_aloadN (pc' := 27) C X2 d6_26 rfl rfl rfl ?_
  refine g_iloadN (pc' := 28) C X2 d6_27 rfl rfl ?_
  refine g_iload (pc' := 30) C X2 d6_28 rfl rfl ?_
  refine g_i2b (pc' := 31) C X2 d6_30 rfl ?_
  refine g_stB (pc' := 32) (i := (2 : Int32).toNatClampNeg) C X2 d6_31 e2 (V2.pad (pad_rep _ _ ((2 : Int32).toNatClampNeg + 1))) ⟨by decide, by decide⟩ rfl own_lts rfl (fun T3 h3 X3 e3 W3 V3q => ?_)
  have V3 : Arv Z h3 a3 k2 .byte (5 : Int32) (own_vl (own_s (own_s (own_s [] (0 : Int32) (nar .byte x0.toInt8.toInt32)) (1 : Int32) (nar .byte x1.toInt8.toInt32)) (2 : Int32) (nar .byte x2.toInt8.toInt32))) (.int (0 : Int32)) := own_vl_set _ _ _ ▸ V3q
  have FX_3 := FX_wr FX_2 W3
  have V_c_3 := V_c_2.other W3 ne13
  have Z3 := Nat.le_trans Z2 (Nat.le_of_eq W3.size.symm)
  have N3 := Fr.snoc X3 N2 gn_a3
  have K3 := K2.wr W3 (Or.inl (List.mem_of_getElem? (i := 0) rfl))
  refine g_iinc (pc' := 35) (Ls' := #[.val (.ref a1), .val (.int ((2 : Int32) + (1 : Int32))), .val (.ref a3), .val (.int (2 : Int32)), .val (.int (5 : Int32)), .val (.int (2 : Int32)), .val (.int x2)]) C X3 d6_32 rfl rfl rfl ?_
  refine own_cast (show T3.setTop (mkF m 35 #[.val (.ref a1), .val (.int ((2 : Int32) + (1 : Int32))), .val (.ref a3), .val (.int (2 : Int32)), .val (.int (5 : Int32)), .val (.int (2 : Int32)), .val (.int x2)] []) = T3.setTop (mkF m 35 #[.val (.ref a1), .val (.int (3 : Int32)), .val (.ref a3), .val (.int (2 : Int32)), .val (.int (5 : Int32)), .val (.int (2 : Int32)), .val (.int x2)] []) from by rw [(show ((2 : Int32) + (1 : Int32)) = (3 : Int32) from by decide)]) ?_
  refine g_iinc (pc' := 38) (Ls' := #[.val (.ref a1), .val (.int (3 : Int32)), .val (.ref a3), .val (.int ((2 : Int32) + (1 : Int32))), .val (.int (5 : Int32)), .val (.int (2 : Int32)), .val (.int x2)]) C X3 d6_35 rfl rfl rfl ?_
  refine own_cast (show T3.setTop (mkF m 38 #[.val (.ref a1), .val (.int (3 : Int32)), .val (.ref a3), .val (.int ((2 : Int32) + (1 : Int32))), .val (.int (5 : Int32)), .val (.int (2 : Int32)), .val (.int x2)] []) = T3.setTop (mkF m 38 #[.val (.ref a1), .val (.int (3 : Int32)), .val (.ref a3), .val (.int (3 : Int32)), .val (.int (5 : Int32)), .val (.int (2 : Int32)), .val (.int x2)] []) from by rw [(show ((2 : Int32) + (1 : Int32)) = (3 : Int32) from by decide)]) ?_
  refine g_iinc (pc' := 41) (Ls' := #[.val (.ref a1), .val (.int (3 : Int32)), .val (.ref a3), .val (.int (3 : Int32)), .val (.int (5 : Int32)), .val (.int ((2 : Int32) + (1 : Int32))), .val (.int x2)]) C X3 d6_38 rfl rfl rfl ?_
  refine own_cast (show T3.setTop (mkF m 41 #[.val (.ref a1), .val (.int (3 : Int32)), .val (.ref a3), .val (.int (3 : Int32)), .val (.int (5 : Int32)), .val (.int ((2 : Int32) + (1 : Int32))), .val (.int x2)] []) = T3.setTop (mkF m 41 #[.val (.ref a1), .val (.int (3 : Int32)), .val (.ref a3), .val (.int (3 : Int32)), .val (.int (5 : Int32)), .val (.int (3 : Int32)), .val (.int x2)] []) from by rw [(show ((2 : Int32) + (1 : Int32)) = (3 : Int32) from by decide)]) ?_
  refine g_goto (pc' := 3) C X3 d6_41 (by decide) (by decide) ?_
  refine g_iload (pc' := 5) C X3 d6_3 rfl rfl ?_
  refine g_iload (pc' := 7) C X3 d6_5 rfl rfl ?_
  refine g_icmpN (pc' := 10) C X3 d6_7 (tlt (show (3 : Int32) < (5 : Int32) from (by decide))).2.1 rfl ?_
  refine g_aloadN (pc' := 11) C X3 d6_10 rfl rfl rfl ?_
  refine g_iloadN (pc' := 12) C X3 d6_11 rfl rfl ?_
  refine g_ldC (pc' := 13) (v := (.int x3)) C X3 d6_12 e3 V_c_3 ⟨by decide, by decide⟩ rfl rfl ?_
  refine g_istore (pc' := 15) (Ls' := #[.val (.ref a1), .val (.int (3 : Int32)), .val (.ref a3), .val (.int (3 : Int32)), .val (.int (5 : Int32)), .val (.int (3 : Int32)), .val (.int x3)]) C X3 d6_13 rfl rfl ?_
  refine g_iload (pc' := 17) C X3 d6_15 rfl rfl ?_
  refine g_sipush (pc' := 20) (v := (255 : Int32)) C X3 d6_17 rfl rfl ?_
  refine g_icmpY (pc' := 26) C X3 d6_20 (flt hw3).2.2.2 (by decide) (by decide) ?_
  refine g_aloadN (pc' := 27) C X3 d6_26 rfl rfl rfl ?_
  refine g_iloadN (pc' := 28) C X3 d6_27 rfl rfl ?_
  refine g_iload (pc' := 30) C X3 d6_28 rfl rfl ?_
  refine g_i2b (pc' := 31) C X3 d6_30 rfl ?_
  refine g_stB (pc' := 32) (i := (3 : Int32).toNatClampNeg) C X3 d6_31 e3 (V3.pad (pad_rep _ _ ((3 : Int32).toNatClampNeg + 1))) ⟨by decide, by decide⟩ rfl own_lts rfl (fun T4 h4 X4 e4 W4 V4q => ?_)
  have V4 : Arv Z h4 a3 k2 .byte (5 : Int32) (own_vl (own_s (own_s (own_s (own_s [] (0 : Int32) (nar .byte x0.toInt8.toInt32)) (1 : Int32) (nar .byte x1.toInt8.toInt32)) (2 : Int32) (nar .byte x2.toInt8.toInt32)) (3 : Int32) (nar .byte x3.toInt8.toInt32))) (.int (0 : Int32)) := own_vl_set _ _ _ ▸ V4q
  have FX_4 := FX_wr FX_3 W4
  have V_c_4 := V_c_3.other W4 ne13
  have Z4 := Nat.le_trans Z3 (Nat.le_of_eq W4.size.symm)
  have N4 := Fr.snoc X4 N3 gn_a3
  have K4 := K3.wr W4 (Or.inl (List.mem_of_getElem? (i := 0) rfl))
  refine g_iinc (pc' := 35) (Ls' := #[.val (.ref a1), .val (.int ((3 : Int32) + (1 : Int32))), .val (.ref a3), .val (.int (3 : Int32)), .val (.int (5 : Int32)), .val (.int (3 : Int32)), .val (.int x3)]) C X4 d6_32 rfl rfl rfl ?_
  refine own_cast (show T4.setTop (mkF m 35 #[.val (.ref a1), .val (.int ((3 : Int32) + (1 : Int32))), .val (.ref a3), .val (.int (3 : Int32)), .val (.int (5 : Int32)), .val (.int (3 : Int32)), .val (.int x3)] []) = T4.setTop (mkF m 35 #[.val (.ref a1), .val (.int (4 : Int32)), .val (.ref a3), .val (.int (3 : Int32)), .val (.int (5 : Int32)), .val (.int (3 : Int32)), .val (.int x3)] []) from by rw [(show ((3 : Int32) + (1 : Int32)) = (4 : Int32) from by decide)]) ?_
  refine g_iinc (pc' := 38) (Ls' := #[.val (.ref a1), .val (.int (4 : Int32)), .val (.ref a3), .val (.int ((3 : Int32) + (1 : Int32))), .val (.int (5 : Int32)), .val (.int (3 : Int32)), .val (.int x3)]) C X4 d6_35 rfl rfl rfl ?_
  refine own_cast (show T4.setTop (mkF m 38 #[.val (.ref a1), .val (.int (4 : Int32)), .val (.ref a3), .val (.int ((3 : Int32) + (1 : Int32))), .val (.int (5 : Int32)), .val (.int (3 : Int32)), .val (.int x3)] []) = T4.setTop (mkF m 38 #[.val (.ref a1), .val (.int (4 : Int32)), .val (.ref a3), .val (.int (4 : Int32)), .val (.int (5 : Int32)), .val (.int (3 : Int32)), .val (.int x3)] []) from by rw [(show ((3 : Int32) + (1 : Int32)) = (4 : Int32) from by decide)]) ?_
  refine g_iinc (pc' := 41) (Ls' := #[.val (.ref a1), .val (.int (4 : Int32)), .val (.ref a3), .val (.int (4 : Int32)), .val (.int (5 : Int32)), .val (.int ((3 : Int32) + (1 : Int32))), .val (.int x3)]) C X4 d6_38 rfl rfl rfl ?_
  refine own_cast (show T4.setTop (mkF m 41 #[.val (.ref a1), .val (.int (4 : Int32)), .val (.ref a3), .val (.int (4 : Int32)), .val (.int (5 : Int32)), .val (.int ((3 : Int32) + (1 : Int32))), .val (.int x3)] []) = T4.setTop (mkF m 41 #[.val (.ref a1), .val (.int (4 : Int32)), .val (.ref a3), .val (.int (4 : Int32)), .val (.int (5 : Int32)), .val (.int (4 : Int32)), .val (.int x3)] []) from by rw [(show ((3 : Int32) + (1 : Int32)) = (4 : Int32) from by decide)]) ?_
  refine g_goto (pc' := 3) C X4 d6_41 (by decide) (by decide) ?_
  refine g_iload (pc' := 5) C X4 d6_3 rfl rfl ?_
  refine g_iload (pc' := 7) C X4 d6_5 rfl rfl ?_
  refine g_icmpN (pc' := 10) C X4 d6_7 (tlt (show (4 : Int32) < (5 : Int32) from (by decide))).2.1 rfl ?_
  refine g_aloadN (pc' := 11) C X4 d6_10 rfl rfl rfl ?_
  refine g_iloadN (pc' := 12) C X4 d6_11 rfl rfl ?_
  refine g_ldC (pc' := 13) (v := (.int x4)) C X4 d6_12 e4 V_c_4 ⟨by decide, by decide⟩ rfl rfl ?_
  refine g_istore (pc' := 15) (Ls' := #[.val (.ref a1), .val (.int (4 : Int32)), .val (.ref a3), .val (.int (4 : Int32)), .val (.int (5 : Int32)), .val (.int (4 : Int32)), .val (.int x4)]) C X4 d6_13 rfl rfl ?_
  refine g_iload (pc' := 17) C X4 d6_15 rfl rfl ?_
  refine g_sipush (pc' := 20) (v := (255 : Int32)) C X4 d6_17 rfl rfl ?_
  refine g_icmpN (pc' := 23) C X4 d6_20 (tlt hw4).2.2.2 rfl ?_
  refine g_iload (pc' := 25) C X4 d6_23 rfl rfl ?_
  exact g_retI C X4 d6_25 (by decide) (by decide) ⟨congrArg (fun z => some (Value.int z)) (FcmW4_l0  ).symm, N4, (by rw [e4]; exact K4)⟩
theorem own_lat_sn {L xs : List Int32} {n x : Int32} (hn : n = own_n xs) (hl : xs.length ≤ 5) (hL : ∀ i, (own_lat xs).getD i 0 = L.getD i 0) : ∀ i, (own_lat (xs ++ [x])).getD i 0 = (own_s L n (own_B x)).getD i 0 := by
  intro i; rw [own_lat_snoc hn hl i, own_s_getD, own_s_getD, hL]
theorem own_lat5 (x0 x1 x2 x3 x4 : Int32) : ∀ i, (own_lat [x0, x1, x2, x3, x4]).getD i 0 = ((own_s (own_s (own_s (own_s (own_s [] (0 : Int32) (nar .byte x0.toInt8.toInt32)) (1 : Int32) (nar .byte x1.toInt8.toInt32)) (2 : Int32) (nar .byte x2.toInt8.toInt32)) (3 : Int32) (nar .byte x3.toInt8.toInt32)) (4 : Int32) (nar .byte x4.toInt8.toInt32)) : List Int32).getD i 0 := (own_lat_sn (xs := [x0, x1, x2, x3]) (n := (4 : Int32)) (x := x4) rfl (by show 4 ≤ 5; decide) (own_lat_sn (xs := [x0, x1, x2]) (n := (3 : Int32)) (x := x3) rfl (by show 3 ≤ 5; decide) (own_lat_sn (xs := [x0, x1]) (n := (2 : Int32)) (x := x2) rfl (by show 2 ≤ 5; decide) (own_lat_sn (xs := [x0]) (n := (1 : Int32)) (x := x1) rfl (by show 1 ≤ 5; decide) (own_lat_sn (xs := []) (n := (0 : Int32)) (x := x0) rfl (by show 0 ≤ 5; decide) (fun _ => rfl))))))
theorem own_put5 (x0 x1 x2 x3 x4 : Int32) : ∀ i, (own_u [x0, x1, x2, x3, x4]).getD i 0 = ((own_put (own_put (own_put (own_put (own_put [] (0 : Int32) x0) (1 : Int32) x1) (2 : Int32) x2) (3 : Int32) x3) (4 : Int32) x4) : List Int32).getD i 0 := (own_put_snoc (ys := [x0, x1, x2, x3]) (j := (4 : Int32)) (x := x4) (by unfold own_r4; decide) rfl (own_put_snoc (ys := [x0, x1, x2]) (j := (3 : Int32)) (x := x3) (by unfold own_r4; decide) rfl (own_put_snoc (ys := [x0, x1]) (j := (2 : Int32)) (x := x2) (by unfold own_r4; decide) rfl (own_put_snoc (ys := [x0]) (j := (1 : Int32)) (x := x1) (by unfold own_r4; decide) rfl (own_put_snoc (ys := []) (j := (0 : Int32)) (x := x0) (by unfold own_r4; decide) rfl (fun _ => rfl))))))
theorem own_gc {xs : List Int32} {p : Int32} (hx : ∀ x ∈ xs, own_ch x) (hl : xs.length ≤ 5) (h0 : ¬ (p < (0 : Int32))) (h1 : p < own_n xs) (hw : (255 : Int32) < own_g xs p) : (255 : Int32) < (nar .char ((((own_g (own_u xs) (p <<< ((1 : Int32) &&& 31))) &&& (255 : Int32)) <<< ((0 : Int32) &&& 31)) ||| (((own_g (own_u xs) ((p <<< ((1 : Int32) &&& 31)) + (1 : Int32))) &&& (255 : Int32)) <<< ((8 : Int32) &&& 31))).toUInt32.toUInt16.toUInt32.toInt32) := by
  have c := own_g_all hx (⟨by decide, by decide⟩ : own_ch 0) p
  rw [own_gU1 hl h0 h1, own_gU2 hl h0 h1, own_cx c]; exact hw
theorem d35_0 : decode jdk_52_method_14_code 0 = .ok (.iload_n 2, 1) := by decide +kernel
theorem d35_1 : decode jdk_52_method_14_code 1 = .ok (.invokestatic 107, 3) := by decide +kernel
theorem d35_4 : decode jdk_52_method_14_code 4 = .ok (.astore_n 3, 1) := by decide +kernel
theorem d35_5 : decode jdk_52_method_14_code 5 = .ok (.iconst 0, 1) := by decide +kernel
theorem d35_6 : decode jdk_52_method_14_code 6 = .ok (.istore 4, 2) := by decide +kernel
theorem d35_8 : decode jdk_52_method_14_code 8 = .ok (.iload 4, 2) := by decide +kernel
theorem d35_10 : decode jdk_52_method_14_code 10 = .ok (.iload_n 2, 1) := by decide +kernel
theorem d35_11 : decode jdk_52_method_14_code 11 = .ok (.if_icmp .ge 21, 3) := by decide +kernel
theorem d35_14 : decode jdk_52_method_14_code 14 = .ok (.aload_n 3, 1) := by decide +kernel
theorem d35_15 : decode jdk_52_method_14_code 15 = .ok (.iload 4, 2) := by decide +kernel
theorem d35_17 : decode jdk_52_method_14_code 17 = .ok (.aload_n 0, 1) := by decide +kernel
theorem d35_18 : decode jdk_52_method_14_code 18 = .ok (.iload_n 1, 1) := by decide +kernel
theorem d35_19 : decode jdk_52_method_14_code 19 = .ok (.caload, 1) := by decide +kernel
theorem d35_20 : decode jdk_52_method_14_code 20 = .ok (.invokestatic 111, 3) := by decide +kernel
theorem d35_23 : decode jdk_52_method_14_code 23 = .ok (.iinc 1 1, 3) := by decide +kernel
theorem d35_26 : decode jdk_52_method_14_code 26 = .ok (.iinc 4 1, 3) := by decide +kernel
theorem d35_29 : decode jdk_52_method_14_code 29 = .ok (.goto (-21), 3) := by decide +kernel
theorem d35_32 : decode jdk_52_method_14_code 32 = .ok (.aload_n 3, 1) := by decide +kernel
theorem d35_33 : decode jdk_52_method_14_code 33 = .ok (.areturn, 1) := by decide +kernel
theorem ef_tob (m : MethodId) (a1 : Addr) : entryFrame m #[(.ref a1), (.int (0 : Int32)), (.int (5 : Int32))] 5 = mkF m 0 #[.val (.ref a1), .val (.int (0 : Int32)), .val (.int (5 : Int32)), .unset, .unset] [] := by first | (simp [entryFrame, mkF, argsToLocals, Value.category]; done) | rfl
def Q_tob (Z : State) (a1 : Addr) (kc : ClassId) (x0 : Int32) (x1 : Int32) (x2 : Int32) (x3 : Int32) (x4 : Int32) (cs : Int32) (fm : Value) (h0 : Heap) (n0 : Nat) (vr : Option Value) (h : Heap) (L : List Loc) : Prop := ∃ w : Addr, ∃ kw : ClassId, (vr = some (.ref w)) ∧ (Fr n0 L) ∧ (Keep h0 h []) ∧ (h0.size ≤ w) ∧ (n0 ≤ w) ∧ (Arv Z h w kw .byte (10 : Int32) (own_vl (own_u [x0, x1, x2, x3, x4])) (.int (0 : Int32)))
set_option maxRecDepth 65536 in
set_option maxHeartbeats 40000000 in
theorem rmtob (l : Launch) (Z : State) (a0 : Array Value) (hw : ∀ d ∈ tables_1, d.before a0 Z = true) (ws : List Jvm.Cond) (a1 : Addr) (kc : ClassId) (x0 : Int32) (x1 : Int32) (x2 : Int32) (x3 : Int32) (x4 : Int32) (cs : Int32) (fm : Value) (h0 : Heap) (n0 : Nat) (Z0 : n0 ≤ h0.size) (hF : FX Z h0 cs fm) (V_c : Arv Z h0 a1 kc .char (5 : Int32) [(.int x0), (.int x1), (.int x2), (.int x3), (.int x4)] (.int (0 : Int32))) :
    MetFree l (⟨"java/lang/StringUTF16", "toBytes", "([CII)[B"⟩ : MethodName) (head1 (Jvm.Cond.code (⟨"java/lang/StringUTF16", "toBytes", "([CII)[B"⟩ : MethodName) jdk_52_method_14_code 5 (some (.array .byte)) :: ws) ({ frames := 2, cells := 1, slots := 10, locals := 24 } : Room)) (fun a U => a = #[(.ref a1), (.int (0 : Int32)), (.int (5 : Int32))] ∧ Z.Warmed39 U.vm ∧ U.heap = h0) (fun _ _ _ _ _ => True) (fun _ U o U' => ∃ v L, o = .returned v ∧ Q_tob Z a1 kc x0 x1 x2 x3 x4 cs fm h0 n0 v U'.heap L ∧ FrameEnd U o U' L ({ frames := 2, cells := 1, slots := 10, locals := 24 } : Room).cells ({ frames := 2, cells := 1, slots := 10, locals := 24 } : Room).slots) := by
  refine met_of (Ls := #[.val (.ref a1), .val (.int (0 : Int32)), .val (.int (5 : Int32)), .unset, .unset]) (plainFor_of_name (by first | (simp [plainName, overriddenIn]; done) | decide +kernel)) (fun m => ef_tob m a1) ?_
  intro p e s m below meth c T0 C X0 e0
  obtain ⟨S_cs, hcs, S_fm, hfm, S_ad, S_hi, S_lo⟩ := id hF
  have N0 := Fr.nil n0
  have K0 : Keep h0 h0 [] := Keep.refl h0 _
  refine g_iloadN (pc' := 1) C X0 d35_0 rfl rfl ?_
  refine g_callS (y := (⟨"java/lang/StringUTF16", "newBytesFor", "(I)[B"⟩ : MethodName)) (argsL := [(.int (5 : Int32))]) (st := []) (pc' := 4) C X0 d35_1 (wq hw 177 rfl) (wq hw 178 rfl) (wq hw 23 rfl) (wq hw 179 rfl) (by decide) (rmnbf l Z a0 hw [] cs fm h0 n0 Z0 hF) (W := 0) (by decide) (by decide) (ce := 1) (sl := 10) rfl rfl (by decide) (by decide) rfl e0 rfl pd_14 rfl (Nat.le_refl _) rfl (fun rv1 T1 L1 X1 Q1 => ?_)
  obtain ⟨w1, kw1, q1, Nq1, Kq1, sz1_w, gn_w1, P1_0, P1_1⟩ := Q1
  have N1 := Fr.app N0 Nq1
  have ne1_2 : ¬ (a1 = w1) := Nat.ne_of_lt (Nat.lt_of_lt_of_le V_c.lt sz1_w)
  have FX_1 := FX_keep hF Kq1 (fun _ q => nomatch q)
  have V_c_1 := V_c.keep Kq1 nin0
  have Z1 := Nat.le_trans Z0 Kq1.1
  have sz_w1 := Nat.le_trans K0.1 sz1_w
  have K1 := K0.trans Kq1 all0
  subst q1
  show Go p.tables e below _ (T1.setTop (mkF m 4 #[.val (.ref a1), .val (.int (0 : Int32)), .val (.int (5 : Int32)), .unset, .unset] [(.ref w1)]))
  refine g_astoreN (pc' := 5) (Ls' := #[.val (.ref a1), .val (.int (0 : Int32)), .val (.int (5 : Int32)), .val (.ref w1), .unset]) C X1 d35_4 rfl rfl rfl ?_
  refine g_iconst (pc' := 6) (v := (0 : Int32)) C X1 d35_5 rfl rfl ?_
  refine g_istore (pc' := 8) (Ls' := #[.val (.ref a1), .val (.int (0 : Int32)), .val (.int (5 : Int32)), .val (.ref w1), .val (.int (0 : Int32))]) C X1 d35_6 rfl rfl ?_
  refine g_iload (pc' := 10) C X1 d35_8 rfl rfl ?_
  refine g_iloadN (pc' := 11) C X1 d35_10 rfl rfl ?_
  refine g_icmpN (pc' := 14) C X1 d35_11 (tlt (show (0 : Int32) < (5 : Int32) from (by decide))).2.1 rfl ?_
  refine g_aloadN (pc' := 15) C X1 d35_14 rfl rfl rfl ?_
  refine g_iload (pc' := 17) C X1 d35_15 rfl rfl ?_
  refine g_aloadN (pc' := 18) C X1 d35_17 rfl rfl rfl ?_
  refine g_iloadN (pc' := 19) C X1 d35_18 rfl rfl ?_
  refine g_ldC (pc' := 20) (v := (.int x0)) C X1 d35_19 rfl V_c_1 ⟨by decide, by decide⟩ rfl rfl ?_
  refine g_callS (y := (⟨"java/lang/StringUTF16", "putChar", "([BII)V"⟩ : MethodName)) (argsL := [(.ref w1), (.int (0 : Int32)), (.int x0)]) (st := []) (pc' := 23) C X1 d35_20 (wq hw 184 rfl) (wq hw 185 rfl) (wq hw 23 rfl) (wq hw 186 rfl) (by decide) (rmupc l Z a0 hw [] w1 (0 : Int32) x0 kw1 (10 : Int32) ([]) cs fm T1.heap n0 Z1 FX_1 P1_0 (by decide) (by decide) (by decide) (by decide) gn_w1) (W := 0) (by decide) (by decide) (ce := 1) (sl := 10) rfl rfl (by decide) (by decide) rfl rfl rfl pd_13 rfl (Nat.le_refl _) rfl (fun rv3 T3 L3 X3 Q3 => ?_)
  obtain ⟨q3, Nq3, Kq3, P3_0⟩ := Q3
  have N3 := Fr.app N1 Nq3
  have FX_3 := FX_keep FX_1 Kq3 ((allS (by obtain ⟨c_, A_, _⟩ := P1_0; exact ⟨c_, A_.1, A_.plain⟩) all0))
  have V_c_3 := V_c_1.keep Kq3 (ninS ne1_2 nin0)
  have P1_1_3 := P1_1.keep Kq3
  have Z3 := Nat.le_trans Z1 Kq3.1
  have K3 := K1.trans Kq3 (allS (Or.inr sz_w1) all0)
  subst q3
  show Go p.tables e below _ (T3.setTop (mkF m 23 #[.val (.ref a1), .val (.int (0 : Int32)), .val (.int (5 : Int32)), .val (.ref w1), .val (.int (0 : Int32))] []))
  refine g_iinc (pc' := 26) (Ls' := #[.val (.ref a1), .val (.int ((0 : Int32) + (1 : Int32))), .val (.int (5 : Int32)), .val (.ref w1), .val (.int (0 : Int32))]) C X3 d35_23 rfl rfl rfl ?_
  refine own_cast (show T3.setTop (mkF m 26 #[.val (.ref a1), .val (.int ((0 : Int32) + (1 : Int32))), .val (.int (5 : Int32)), .val (.ref w1), .val (.int (0 : Int32))] []) = T3.setTop (mkF m 26 #[.val (.ref a1), .val (.int (1 : Int32)), .val (.int (5 : Int32)), .val (.ref w1), .val (.int (0 : Int32))] []) from by rw [(show ((0 : Int32) + (1 : Int32)) = (1 : Int32) from by decide)]) ?_
  refine g_iinc (pc' := 29) (Ls' := #[.val (.ref a1), .val (.int (1 : Int32)), .val (.int (5 : Int32)), .val (.ref w1), .val (.int ((0 : Int32) + (1 : Int32)))]) C X3 d35_26 rfl rfl rfl ?_
  refine own_cast (show T3.setTop (mkF m 29 #[.val (.ref a1), .val (.int (1 : Int32)), .val (.int (5 : Int32)), .val (.ref w1), .val (.int ((0 : Int32) + (1 : Int32)))] []) = T3.setTop (mkF m 29 #[.val (.ref a1), .val (.int (1 : Int32)), .val (.int (5 : Int32)), .val (.ref w1), .val (.int (1 : Int32))] []) from by rw [(show ((0 : Int32) + (1 : Int32)) = (1 : Int32) from by decide)]) ?_
  refine g_goto (pc' := 8) C X3 d35_29 (by decide) (by decide) ?_
  refine g_iload (pc' := 10) C X3 d35_8 rfl rfl ?_
  refine g_iloadN (pc' := 11) C X3 d35_10 rfl rfl ?_
  refine g_icmpN (pc' := 14) C X3 d35_11 (tlt (show (1 : Int32) < (5 : Int32) from (by decide))).2.1 rfl ?_
  refine g_aloadN (pc' := 15) C X3 d35_14 rfl rfl rfl ?_
  refine g_iload (pc' := 17) C X3 d35_15 rfl rfl ?_
  refine g_aloadN (pc' := 18) C X3 d35_17 rfl rfl rfl ?_
  refine g_iloadN (pc' := 19) C X3 d35_18 rfl rfl ?_
  refine g_ldC (pc' := 20) (v := (.int x1)) C X3 d35_19 rfl V_c_3 ⟨by decide, by decide⟩ rfl rfl ?_
  refine g_callS (y := (⟨"java/lang/StringUTF16", "putChar", "([BII)V"⟩ : MethodName)) (argsL := [(.ref w1), (.int (1 : Int32)), (.int x1)]) (st := []) (pc' := 23) C X3 d35_20 (wq hw 184 rfl) (wq hw 185 rfl) (wq hw 23 rfl) (wq hw 186 rfl) (by decide) (rmupc l Z a0 hw [] w1 (1 : Int32) x1 kw1 (10 : Int32) (own_put [] (0 : Int32) x0) cs fm T3.heap n0 Z3 FX_3 P3_0 (by decide) (by decide) (by decide) (by decide) gn_w1) (W := 0) (by decide) (by decide) (ce := 1) (sl := 10) rfl rfl (by decide) (by decide) rfl rfl rfl pd_13 rfl (Nat.le_refl _) rfl (fun rv4 T4 L4 X4 Q4 => ?_)
  obtain ⟨q4, Nq4, Kq4, P4_0⟩ := Q4
  have N4 := Fr.app N3 Nq4
  have FX_4 := FX_keep FX_3 Kq4 ((allS (by obtain ⟨c_, A_, _⟩ := P3_0; exact ⟨c_, A_.1, A_.plain⟩) all0))
  have V_c_4 := V_c_3.keep Kq4 (ninS ne1_2 nin0)
  have P1_1_4 := P1_1_3.keep Kq4
  have Z4 := Nat.le_trans Z3 Kq4.1
  have K4 := K3.trans Kq4 (allS (Or.inr sz_w1) all0)
  subst q4
  show Go p.tables e below _ (T4.setTop (mkF m 23 #[.val (.ref a1), .val (.int (1 : Int32)), .val (.int (5 : Int32)), .val (.ref w1), .val (.int (1 : Int32))] []))
  refine g_iinc (pc' := 26) (Ls' := #[.val (.ref a1), .val (.int ((1 : Int32) + (1 : Int32))), .val (.int (5 : Int32)), .val (.ref w1), .val (.int (1 : Int32))]) C X4 d35_23 rfl rfl rfl ?_
  refine own_cast (show T4.setTop (mkF m 26 #[.val (.ref a1), .val (.int ((1 : Int32) + (1 : Int32))), .val (.int (5 : Int32)), .val (.ref w1), .val (.int (1 : Int32))] []) = T4.setTop (mkF m 26 #[.val (.ref a1), .val (.int (2 : Int32)), .val (.int (5 : Int32)), .val (.ref w1), .val (.int (1 : Int32))] []) from by rw [(show ((1 : Int32) + (1 : Int32)) = (2 : Int32) from by decide)]) ?_
  refine g_iinc (pc' := 29) (Ls' := #[.val (.ref a1), .val (.int (2 : Int32)), .val (.int (5 : Int32)), .val (.ref w1), .val (.int ((1 : Int32) + (1 : Int32)))]) C X4 d35_26 rfl rfl rfl ?_
  refine own_cast (show T4.setTop (mkF m 29 #[.val (.ref a1), .val (.int (2 : Int32)), .val (.int (5 : Int32)), .val (.ref w1), .val (.int ((1 : Int32) + (1 : Int32)))] []) = T4.setTop (mkF m 29 #[.val (.ref a1), .val (.int (2 : Int32)), .val (.int (5 : Int32)), .val (.ref w1), .val (.int (2 : Int32))] []) from by rw [(show ((1 : Int32) + (1 : Int32)) = (2 : Int32) from by decide)]) ?_
  refine g_goto (pc' := 8) C X4 d35_29 (by decide) (by decide) ?_
  refine g_iload (pc' := 10) C X4 d35_8 rfl rfl ?_
  refine g_iloadN (pc' := 11) C X4 d35_10 rfl rfl ?_
  refine g_icmpN (pc' := 14) C X4 d35_11 (tlt (show (2 : Int32) < (5 : Int32) from (by decide))).2.1 rfl ?_
  refine g_aloadN (pc' := 15) C X4 d35_14 rfl rfl rfl ?_
  refine g_iload (pc' := 17) C X4 d35_15 rfl rfl ?_
  refine g_aloadN (pc' := 18) C X4 d35_17 rfl rfl rfl ?_
  refine g_iloadN (pc' := 19) C X4 d35_18 rfl rfl ?_
  refine g_ldC (pc' := 20) (v := (.int x2)) C X4 d35_19 rfl V_c_4 ⟨by decide, by decide⟩ rfl rfl ?_
  refine g_callS (y := (⟨"java/lang/StringUTF16", "putChar", "([BII)V"⟩ : MethodName)) (argsL := [(.ref w1), (.int (2 : Int32)), (.int x2)]) (st := []) (pc' := 23) C X4 d35_20 (wq hw 184 rfl) (wq hw 185 rfl) (wq hw 23 rfl) (wq hw 186 rfl) (by decide) (rmupc l Z a0 hw [] w1 (2 : Int32) x2 kw1 (10 : Int32) (own_put (own_put [] (0 : Int32) x0) (1 : Int32) x1) cs fm T4.heap n0 Z4 FX_4 P4_0 (by decide) (by decide) (by decide) (by decide) gn_w1) (W := 0) (by decide) (by decide) (ce := 1) (sl := 10) rfl rfl (by decide) (by decide) rfl rfl rfl pd_13 rfl (Nat.le_refl _) rfl (fun rv5 T5 L5 X5 Q5 => ?_)
  obtain ⟨q5, Nq5, Kq5, P5_0⟩ := Q5
  have N5 := Fr.app N4 Nq5
  have FX_5 := FX_keep FX_4 Kq5 ((allS (by obtain ⟨c_, A_, _⟩ := P4_0; exact ⟨c_, A_.1, A_.plain⟩) all0))
  have V_c_5 := V_c_4.keep Kq5 (ninS ne1_2 nin0)
  have P1_1_5 := P1_1_4.keep Kq5
  have Z5 := Nat.le_trans Z4 Kq5.1
  have K5 := K4.trans Kq5 (allS (Or.inr sz_w1) all0)
  subst q5
  show Go p.tables e below _ (T5.setTop (mkF m 23 #[.val (.ref a1), .val (.int (2 : Int32)), .val (.int (5 : Int32)), .val (.ref w1), .val (.int (2 : Int32))] []))
  refine g_iinc (pc' := 26) (Ls' := #[.val (.ref a1), .val (.int ((2 : Int32) + (1 : Int32))), .val (.int (5 : Int32)), .val (.ref w1), .val (.int (2 : Int32))]) C X5 d35_23 rfl rfl rfl ?_
  refine own_cast (show T5.setTop (mkF m 26 #[.val (.ref a1), .val (.int ((2 : Int32) + (1 : Int32))), .val (.int (5 : Int32)), .val (.ref w1), .val (.int (2 : Int32))] []) = T5.setTop (mkF m 26 #[.val (.ref a1), .val (.int (3 : Int32)), .val (.int (5 : Int32)), .val (.ref w1), .val (.int (2 : Int32))] []) from by rw [(show ((2 : Int32) + (1 : Int32)) = (3 : Int32) from by decide)]) ?_
  refine g_iinc (pc' := 29) (Ls' := #[.val (.ref a1), .val (.int (3 : Int32)), .val (.int (5 : Int32)), .val (.ref w1), .val (.int ((2 : Int32) + (1 : Int32)))]) C X5 d35_26 rfl rfl rfl ?_
  refine own_cast (show T5.setTop (mkF m 29 #[.val (.ref a1), .val (.int (3 : Int32)), .val (.int (5 : Int32)), .val (.ref w1), .val (.int ((2 : Int32) + (1 : Int32)))] []) = T5.setTop (mkF m 29 #[.val (.ref a1), .val (.int (3 : Int32)), .val (.int (5 : Int32)), .val (.ref w1), .val (.int (3 : Int32))] []) from by rw [(show ((2 : Int32) + (1 : Int32)) = (3 : Int32) from by decide)]) ?_
  refine g_goto (pc' := 8) C X5 d35_29 (by decide) (by decide) ?_
  refine g_iload (pc' := 10) C X5 d35_8 rfl rfl ?_
  refine g_iloadN (pc' := 11) C X5 d35_10 rfl rfl ?_
  refine g_icmpN (pc' := 14) C X5 d35_11 (tlt (show (3 : Int32) < (5 : Int32) from (by decide))).2.1 rfl ?_
  refine g_aloadN (pc' := 15) C X5 d35_14 rfl rfl rfl ?_
  refine g_iload (pc' := 17) C X5 d35_15 rfl rfl ?_
  refine g_aloadN (pc' := 18) C X5 d35_17 rfl rfl rfl ?_
  refine g_iloadN (pc' := 19) C X5 d35_18 rfl rfl ?_
  refine g_ldC (pc' := 20) (v := (.int x3)) C X5 d35_19 rfl V_c_5 ⟨by decide, by decide⟩ rfl rfl ?_
  refine g_callS (y := (⟨"java/lang/StringUTF16", "putChar", "([BII)V"⟩ : MethodName)) (argsL := [(.ref w1), (.int (3 : Int32)), (.int x3)]) (st := []) (pc' := 23) C X5 d35_20 (wq hw 184 rfl) (wq hw 185 rfl) (wq hw 23 rfl) (wq hw 186 rfl) (by decide) (rmupc l Z a0 hw [] w1 (3 : Int32) x3 kw1 (10 : Int32) (own_put (own_put (own_put [] (0 : Int32) x0) (1 : Int32) x1) (2 : Int32) x2) cs fm T5.heap n0 Z5 FX_5 P5_0 (by decide) (by decide) (by decide) (by decide) gn_w1) (W := 0) (by decide) (by decide) (ce := 1) (sl := 10) rfl rfl (by decide) (by decide) rfl rfl rfl pd_13 rfl (Nat.le_refl _) rfl (fun rv6 T6 L6 X6 Q6 => ?_)
  obtain ⟨q6, Nq6, Kq6, P6_0⟩ := Q6
  have N6 := Fr.app N5 Nq6
  have FX_6 := FX_keep FX_5 Kq6 ((allS (by obtain ⟨c_, A_, _⟩ := P5_0; exact ⟨c_, A_.1, A_.plain⟩) all0))
  have V_c_6 := V_c_5.keep Kq6 (ninS ne1_2 nin0)
  have P1_1_6 := P1_1_5.keep Kq6
  have Z6 := Nat.le_trans Z5 Kq6.1
  have K6 := K5.trans Kq6 (allS (Or.inr sz_w1) all0)
  subst q6
  show Go p.tables e below _ (T6.setTop (mkF m 23 #[.val (.ref a1), .val (.int (3 : Int32)), .val (.int (5 : Int32)), .val (.ref w1), .val (.int (3 : Int32))] []))
  refine g_iinc (pc' := 26) (Ls' := #[.val (.ref a1), .val (.int ((3 : Int32) + (1 : Int32))), .val (.int (5 : Int32)), .val (.ref w1), .val (.int (3 : Int32))]) C X6 d35_23 rfl rfl rfl ?_
  refine own_cast (show T6.setTop (mkF m 26 #[.val (.ref a1), .val (.int ((3 : Int32) + (1 : Int32))), .val (.int (5 : Int32)), .val (.ref w1), .val (.int (3 : Int32))] []) = T6.setTop (mkF m 26 #[.val (.ref a1), .val (.int (4 : Int32)), .val (.int (5 : Int32)), .val (.ref w1), .val (.int (3 : Int32))] []) from by rw [(show ((3 : Int32) + (1 : Int32)) = (4 : Int32) from by decide)]) ?_
  refine g_iinc (pc' := 29) (Ls' := #[.val (.ref a1), .val (.int (4 : Int32)), .val (.int (5 : Int32)), .val (.ref w1), .val (.int ((3 : Int32) + (1 : Int32)))]) C X6 d35_26 rfl rfl rfl ?_
  refine own_cast (show T6.setTop (mkF m 29 #[.val (.ref a1), .val (.int (4 : Int32)), .val (.int (5 : Int32)), .val (.ref w1), .val (.int ((3 : Int32) + (1 : Int32)))] []) = T6.setTop (mkF m 29 #[.val (.ref a1), .val (.int (4 : Int32)), .val (.int (5 : Int32)), .val (.ref w1), .val (.int (4 : Int32))] []) from by rw [(show ((3 : Int32) + (1 : Int32)) = (4 : Int32) from by decide)]) ?_
  refine g_goto (pc' := 8) C X6 d35_29 (by decide) (by decide) ?_
  refine g_iload (pc' := 10) C X6 d35_8 rfl rfl ?_
  refine g_iloadN (pc' := 11) C X6 d35_10 rfl rfl ?_
  refine g_icmpN (pc' := 14) C X6 d35_11 (tlt (show (4 : Int32) < (5 : Int32) from (by decide))).2.1 rfl ?_
  refine g_aloadN (pc' := 15) C X6 d35_14 rfl rfl rfl ?_
  refine g_iload (pc' := 17) C X6 d35_15 rfl rfl ?_
  refine g_aloadN (pc' := 18) C X6 d35_17 rfl rfl rfl ?_
  refine g_iloadN (pc' := 19) C X6 d35_18 rfl rfl ?_
  refine g_ldC (pc' := 20) (v := (.int x4)) C X6 d35_19 rfl V_c_6 ⟨by decide, by decide⟩ rfl rfl ?_
  refine g_callS (y := (⟨"java/lang/StringUTF16", "putChar", "([BII)V"⟩ : MethodName)) (argsL := [(.ref w1), (.int (4 : Int32)), (.int x4)]) (st := []) (pc' := 23) C X6 d35_20 (wq hw 184 rfl) (wq hw 185 rfl) (wq hw 23 rfl) (wq hw 186 rfl) (by decide) (rmupc l Z a0 hw [] w1 (4 : Int32) x4 kw1 (10 : Int32) (own_put (own_put (own_put (own_put [] (0 : Int32) x0) (1 : Int32) x1) (2 : Int32) x2) (3 : Int32) x3) cs fm T6.heap n0 Z6 FX_6 P6_0 (by decide) (by decide) (by decide) (by decide) gn_w1) (W := 0) (by decide) (by decide) (ce := 1) (sl := 10) rfl rfl (by decide) (by decide) rfl rfl rfl pd_13 rfl (Nat.le_refl _) rfl (fun rv7 T7 L7 X7 Q7 => ?_)
  obtain ⟨q7, Nq7, Kq7, P7_0⟩ := Q7
  have N7 := Fr.app N6 Nq7
  have FX_7 := FX_keep FX_6 Kq7 ((allS (by obtain ⟨c_, A_, _⟩ := P6_0; exact ⟨c_, A_.1, A_.plain⟩) all0))
  have V_c_7 := V_c_6.keep Kq7 (ninS ne1_2 nin0)
  have P1_1_7 := P1_1_6.keep Kq7
  have Z7 := Nat.le_trans Z6 Kq7.1
  have K7 := K6.trans Kq7 (allS (Or.inr sz_w1) all0)
  subst q7
  show Go p.tables e below _ (T7.setTop (mkF m 23 #[.val (.ref a1), .val (.int (4 : Int32)), .val (.int (5 : Int32)), .val (.ref w1), .val (.int (4 : Int32))] []))
  refine g_iinc (pc' := 26) (Ls' := #[.val (.ref a1), .val (.int ((4 : Int32) + (1 : Int32))), .val (.int (5 : Int32)), .val (.ref w1), .val (.int (4 : Int32))]) C X7 d35_23 rfl rfl rfl ?_
  refine own_cast (show T7.setTop (mkF m 26 #[.val (.ref a1), .val (.int ((4 : Int32) + (1 : Int32))), .val (.int (5 : Int32)), .val (.ref w1), .val (.int (4 : Int32))] []) = T7.setTop (mkF m 26 #[.val (.ref a1), .val (.int (5 : Int32)), .val (.int (5 : Int32)), .val (.ref w1), .val (.int (4 : Int32))] []) from by rw [(show ((4 : Int32) + (1 : Int32)) = (5 : Int32) from by decide)]) ?_
  refine g_iinc (pc' := 29) (Ls' := #[.val (.ref a1), .val (.int (5 : Int32)), .val (.int (5 : Int32)), .val (.ref w1), .val (.int ((4 : Int32) + (1 : Int32)))]) C X7 d35_26 rfl rfl rfl ?_
  refine own_cast (show T7.setTop (mkF m 29 #[.val (.ref a1), .val (.int (5 : Int32)), .val (.int (5 : Int32)), .val (.ref w1), .val (.int ((4 : Int32) + (1 : Int32)))] []) = T7.setTop (mkF m 29 #[.val (.ref a1), .val (.int (5 : Int32)), .val (.int (5 : Int32)), .val (.ref w1), .val (.int (5 : Int32))] []) from by rw [(show ((4 : Int32) + (1 : Int32)) = (5 : Int32) from by decide)]) ?_
  refine g_goto (pc' := 8) C X7 d35_29 (by decide) (by decide) ?_
  refine g_iload (pc' := 10) C X7 d35_8 rfl rfl ?_
  refine g_iloadN (pc' := 11) C X7 d35_10 rfl rfl ?_
  refine g_icmpY (pc' := 32) C X7 d35_11 (flt (show ¬ ((5 : Int32) < (5 : Int32)) from (by decide))).2.1 (by decide) (by decide) ?_
  refine g_aloadN (pc' := 33) C X7 d35_32 rfl rfl rfl ?_
  exact g_retA C X7 rfl rfl rfl d35_33 (by decide) (by decide) ⟨w1, kw1, rfl, N7, K7, sz_w1, gn_w1, (own_pw P7_0 (own_put5 x0 x1 x2 x3 x4))⟩
theorem d5_0 : decode jdk_52_method_16_code 0 = .ok (.iload_n 2, 1) := by decide +kernel
theorem d5_1 : decode jdk_52_method_16_code 1 = .ok (.newarray .byte, 2) := by decide +kernel
theorem d5_3 : decode jdk_52_method_16_code 3 = .ok (.astore_n 3, 1) := by decide +kernel
theorem d5_4 : decode jdk_52_method_16_code 4 = .ok (.aload_n 0, 1) := by decide +kernel
theorem d5_5 : decode jdk_52_method_16_code 5 = .ok (.iload_n 1, 1) := by decide +kernel
theorem d5_6 : decode jdk_52_method_16_code 6 = .ok (.aload_n 3, 1) := by decide +kernel
theorem d5_7 : decode jdk_52_method_16_code 7 = .ok (.iconst 0, 1) := by decide +kernel
theorem d5_8 : decode jdk_52_method_16_code 8 = .ok (.iload_n 2, 1) := by decide +kernel
theorem d5_9 : decode jdk_52_method_16_code 9 = .ok (.invokestatic 115, 3) := by decide +kernel
theorem pd_24 : parseMethodDescriptor "([CI[BII)I" = some ⟨[(.array .char), .int, (.array .byte), .int, .int], some .int⟩ := by decide +kernel
theorem d5_12 : decode jdk_52_method_16_code 12 = .ok (.istore 4, 2) := by decide +kernel
theorem d5_14 : decode jdk_52_method_16_code 14 = .ok (.iload 4, 2) := by decide +kernel
theorem d5_16 : decode jdk_52_method_16_code 16 = .ok (.iload_n 2, 1) := by decide +kernel
theorem d5_17 : decode jdk_52_method_16_code 17 = .ok (.if_icmp .eq 40, 3) := by decide +kernel
theorem d5_57 : decode jdk_52_method_16_code 57 = .ok (.aload_n 3, 1) := by decide +kernel
theorem d5_58 : decode jdk_52_method_16_code 58 = .ok (.areturn, 1) := by decide +kernel
theorem ef_cpN (m : MethodId) (a1 : Addr) : entryFrame m #[(.ref a1), (.int (0 : Int32)), (.int (5 : Int32))] 6 = mkF m 0 #[.val (.ref a1), .val (.int (0 : Int32)), .val (.int (5 : Int32)), .unset, .unset, .unset] [] := by first | (simp [entryFrame, mkF, argsToLocals, Value.category]; done) | rfl
def Q_cpN (Z : State) (a1 : Addr) (kc : ClassId) (x0 : Int32) (x1 : Int32) (x2 : Int32) (x3 : Int32) (x4 : Int32) (cs : Int32) (fm : Value) (h0 : Heap) (n0 : Nat) (vr : Option Value) (h : Heap) (L : List Loc) : Prop := ∃ w : Addr, ∃ kw : ClassId, (vr = some (.ref w)) ∧ (Fr n0 L) ∧ (Keep h0 h []) ∧ (h0.size ≤ w) ∧ (n0 ≤ w) ∧ (Arv Z h w kw .byte (5 : Int32) (own_vl (own_lat [x0, x1, x2, x3, x4])) (.int (0 : Int32)))
set_option maxRecDepth 65536 in
set_option maxHeartbeats 40000000 in
theorem rmcpN (l : Launch) (Z : State) (a0 : Array Value) (hw : ∀ d ∈ tables_1, d.before a0 Z = true) (ws : List Jvm.Cond) (a1 : Addr) (kc : ClassId) (x0 : Int32) (x1 : Int32) (x2 : Int32) (x3 : Int32) (x4 : Int32) (cs : Int32) (fm : Value) (h0 : Heap) (n0 : Nat) (Z0 : n0 ≤ h0.size) (hF : FX Z h0 cs fm) (V_c : Arv Z h0 a1 kc .char (5 : Int32) [(.int x0), (.int x1), (.int x2), (.int x3), (.int x4)] (.int (0 : Int32))) (hw0 : ¬ ((255 : Int32) < x0)) (hw1 : ¬ ((255 : Int32) < x1)) (hw2 : ¬ ((255 : Int32) < x2)) (hw3 : ¬ ((255 : Int32) < x3)) (hw4 : ¬ ((255 : Int32) < x4)) :
    MetFree l (⟨"java/lang/StringUTF16", "compress", "([CII)[B"⟩ : MethodName) (head1 (Jvm.Cond.code (⟨"java/lang/StringUTF16", "compress", "([CII)[B"⟩ : MethodName) jdk_52_method_16_code 6 (some (.array .byte)) :: ws) ({ frames := 1, cells := 1, slots := 5, locals := 18 } : Room)) (fun a U => a = #[(.ref a1), (.int (0 : Int32)), (.int (5 : Int32))] ∧ Z.Warmed39 U.vm ∧ U.heap = h0) (fun _ _ _ _ _ => True) (fun _ U o U' => ∃ v L, o = .returned v ∧ Q_cpN Z a1 kc x0 x1 x2 x3 x4 cs fm h0 n0 v U'.heap L ∧ FrameEnd U o U' L ({ frames := 1, cells := 1, slots := 5, locals := 18 } : Room).cells ({ frames := 1, cells := 1, slots := 5, locals := 18 } : Room).slots) := by
  refine met_of (Ls := #[.val (.ref a1), .val (.int (0 : Int32)), .val (.int (5 : Int32)), .unset, .unset, .unset]) (plainFor_of_name (by first | (simp [plainName, overriddenIn]; done) | decide +kernel)) (fun m => ef_cpN m a1) ?_
  intro p e s m below meth c T0 C X0 e0
  obtain ⟨S_cs, hcs, S_fm, hfm, S_ad, S_hi, S_lo⟩ := id hF
  have N0 := Fr.nil n0
  have K0 : Keep h0 h0 [] := Keep.refl h0 _
  refine g_iloadN (pc' := 1) C X0 d5_0 rfl rfl ?_
  refine g_newPE (pc' := 3) (cap := 5) (ad := "[B") C X0 (by decide) d5_1 (wq hw 25 rfl) e0 (by decide) (by decide) (by decide) (ce := 1) (sl := 5) rfl rfl (by decide) (by decide) rfl (fun T1 h1 b1 ck1 g1 X1 e1 E1 V1 A1 => ?_)
  have ne1_2 : ¬ (a1 = b1) := Nat.ne_of_lt (Nat.lt_of_lt_of_le V_c.lt (Nat.le_of_eq g1.symm))
  have FX_1 := FX_ext hF E1
  have V_c_1 := V_c.ext E1
  have gn_b1 : n0 ≤ b1 := Nat.le_trans Z0 (Nat.le_of_eq g1.symm)
  have Z1 := Nat.le_trans Z0 E1.1
  have sz_b1 : h0.size ≤ b1 := Nat.le_trans K0.1 (Nat.le_of_eq g1.symm)
  have K1 := K0.ext E1
  refine g_astoreN (pc' := 4) (Ls' := #[.val (.ref a1), .val (.int (0 : Int32)), .val (.int (5 : Int32)), .val (.ref b1), .unset, .unset]) C X1 d5_3 rfl rfl rfl ?_
  refine g_aloadN (pc' := 5) C X1 d5_4 rfl rfl rfl ?_
  refine g_iloadN (pc' := 6) C X1 d5_5 rfl rfl ?_
  refine g_aloadN (pc' := 7) C X1 d5_6 rfl rfl rfl ?_
  refine g_iconst (pc' := 8) (v := (0 : Int32)) C X1 d5_7 rfl rfl ?_
  refine g_iloadN (pc' := 9) C X1 d5_8 rfl rfl ?_
  refine g_callS (y := (⟨"java/lang/StringUTF16", "compress", "([CI[BII)I"⟩ : MethodName)) (argsL := [(.ref a1), (.int (0 : Int32)), (.ref b1), (.int (0 : Int32)), (.int (5 : Int32))]) (st := []) (pc' := 12) C X1 d5_9 (wq hw 26 rfl) (wq hw 27 rfl) (wq hw 23 rfl) (wq hw 28 rfl) (by decide) (rmcmN l Z a0 hw [] a1 b1 kc ck1 x0 x1 x2 x3 x4 cs fm h1 n0 Z1 FX_1 V_c_1 V1 gn_b1 ne1_2 hw0 hw1 hw2 hw3 hw4) (W := 0) (by decide) (by decide) (ce := 1) (sl := 5) rfl rfl (by decide) (by decide) rfl e1 rfl pd_24 rfl (Nat.le_refl _) rfl (fun rv3 T3 L3 X3 Q3 => ?_)
  obtain ⟨q3, Nq3, Kq3, P3_0⟩ := Q3
  have N3 := Fr.app N0 Nq3
  have FX_3 := FX_keep FX_1 Kq3 ((allS (by obtain ⟨c_, A_, _⟩ := V1; exact ⟨c_, A_.1, A_.plain⟩) all0))
  have V_c_3 := V_c_1.keep Kq3 (ninS ne1_2 nin0)
  have A1_3 := A1.keep Kq3
  have Z3 := Nat.le_trans Z1 Kq3.1
  have K3 := K1.trans Kq3 (allS (Or.inr sz_b1) all0)
  rw [FcmN_l0 ] at q3
  subst q3
  show Go p.tables e below _ (T3.setTop (mkF m 12 #[.val (.ref a1), .val (.int (0 : Int32)), .val (.int (5 : Int32)), .val (.ref b1), .unset, .unset] [(.int (5 : Int32))]))
  refine g_istore (pc' := 14) (Ls' := #[.val (.ref a1), .val (.int (0 : Int32)), .val (.int (5 : Int32)), .val (.ref b1), .val (.int (5 : Int32)), .unset]) C X3 d5_12 rfl rfl ?_
  refine g_iload (pc' := 16) C X3 d5_14 rfl rfl ?_
  refine g_iloadN (pc' := 17) C X3 d5_16 rfl rfl ?_
  refine g_icmpY (pc' := 57) C X3 d5_17 (teq (show (5 : Int32) = (5 : Int32) from (by decide))).1 (by decide) (by decide) ?_
  refine g_aloadN (pc' := 58) C X3 d5_57 rfl rfl rfl ?_
  exact g_retA C X3 rfl rfl rfl d5_58 (by decide) (by decide) ⟨b1, ck1, rfl, N3, K3, sz_b1, gn_b1, (own_pw P3_0 (own_lat5 x0 x1 x2 x3 x4))⟩
theorem d5_20 : decode jdk_52_method_16_code 20 = .ok (.aload_n 0, 1) := by decide +kernel
theorem d5_21 : decode jdk_52_method_16_code 21 = .ok (.iload_n 1, 1) := by decide +kernel
theorem d5_22 : decode jdk_52_method_16_code 22 = .ok (.iload_n 2, 1) := by decide +kernel
theorem d5_23 : decode jdk_52_method_16_code 23 = .ok (.invokestatic 119, 3) := by decide +kernel
theorem pd_25 : parseMethodDescriptor "([CII)[B" = some ⟨[(.array .char), .int, .int], some (.array .byte)⟩ := by decide +kernel
theorem d5_26 : decode jdk_52_method_16_code 26 = .ok (.astore 5, 2) := by decide +kernel
theorem d5_28 : decode jdk_52_method_16_code 28 = .ok (.aload 5, 2) := by decide +kernel
theorem d5_30 : decode jdk_52_method_16_code 30 = .ok (.iload 4, 2) := by decide +kernel
theorem d5_32 : decode jdk_52_method_16_code 32 = .ok (.invokestatic 71, 3) := by decide +kernel
theorem d5_35 : decode jdk_52_method_16_code 35 = .ok (.sipush 255, 3) := by decide +kernel
theorem d5_38 : decode jdk_52_method_16_code 38 = .ok (.if_icmp .gt 16, 3) := by decide +kernel
theorem d5_54 : decode jdk_52_method_16_code 54 = .ok (.aload 5, 2) := by decide +kernel
theorem d5_56 : decode jdk_52_method_16_code 56 = .ok (.areturn, 1) := by decide +kernel
theorem ef_cpW (m : MethodId) (a1 : Addr) : entryFrame m #[(.ref a1), (.int (0 : Int32)), (.int (5 : Int32))] 6 = mkF m 0 #[.val (.ref a1), .val (.int (0 : Int32)), .val (.int (5 : Int32)), .unset, .unset, .unset] [] := by first | (simp [entryFrame, mkF, argsToLocals, Value.category]; done) | rfl
def Q_cpW (Z : State) (a1 : Addr) (kc : ClassId) (x0 : Int32) (x1 : Int32) (x2 : Int32) (x3 : Int32) (x4 : Int32) (cs : Int32) (fm : Value) (h0 : Heap) (n0 : Nat) (vr : Option Value) (h : Heap) (L : List Loc) : Prop := ∃ w : Addr, ∃ kw : ClassId, (vr = some (.ref w)) ∧ (Fr n0 L) ∧ (Keep h0 h []) ∧ (h0.size ≤ w) ∧ (n0 ≤ w) ∧ (Arv Z h w kw .byte (10 : Int32) (own_vl (own_u [x0, x1, x2, x3, x4])) (.int (0 : Int32)))
set_option maxRecDepth 65536 in
set_option maxHeartbeats 40000000 in
theorem rmcpW (l : Launch) (Z : State) (a0 : Array Value) (hw : ∀ d ∈ tables_1, d.before a0 Z = true) (ws : List Jvm.Cond) (a1 : Addr) (kc : ClassId) (x0 : Int32) (x1 : Int32) (x2 : Int32) (x3 : Int32) (x4 : Int32) (cs : Int32) (fm : Value) (h0 : Heap) (n0 : Nat) (Z0 : n0 ≤ h0.size) (hF : FX Z h0 cs fm) (V_c : Arv Z h0 a1 kc .char (5 : Int32) [(.int x0), (.int x1), (.int x2), (.int x3), (.int x4)] (.int (0 : Int32))) (hwd : own_wd x0 x1 x2 x3 x4) (hc0 : own_ch x0) (hc1 : own_ch x1) (hc2 : own_ch x2) (hc3 : own_ch x3) (hc4 : own_ch x4) :
    MetFree l (⟨"java/lang/StringUTF16", "compress", "([CII)[B"⟩ : MethodName) (head1 (Jvm.Cond.code (⟨"java/lang/StringUTF16", "compress", "([CII)[B"⟩ : MethodName) jdk_52_method_16_code 6 (some (.array .byte)) :: ws) ({ frames := 3, cells := 2, slots := 15, locals := 40 } : Room)) (fun a U => a = #[(.ref a1), (.int (0 : Int32)), (.int (5 : Int32))] ∧ Z.Warmed39 U.vm ∧ U.heap = h0) (fun _ _ _ _ _ => True) (fun _ U o U' => ∃ v L, o = .returned v ∧ Q_cpW Z a1 kc x0 x1 x2 x3 x4 cs fm h0 n0 v U'.heap L ∧ FrameEnd U o U' L ({ frames := 3, cells := 2, slots := 15, locals := 40 } : Room).cells ({ frames := 3, cells := 2, slots := 15, locals := 40 } : Room).slots) := by
  refine met_of (Ls := #[.val (.ref a1), .val (.int (0 : Int32)), .val (.int (5 : Int32)), .unset, .unset, .unset]) (plainFor_of_name (by first | (simp [plainName, overriddenIn]; done) | decide +kernel)) (fun m => ef_cpW m a1) ?_
  intro p e s m below meth c T0 C X0 e0
  obtain ⟨S_cs, hcs, S_fm, hfm, S_ad, S_hi, S_lo⟩ := id hF
  have N0 := Fr.nil n0
  have K0 : Keep h0 h0 [] := Keep.refl h0 _
  rcases id hwd with hw0 | ⟨hw0, hw1⟩ | ⟨hw0, hw1, hw2⟩ | ⟨hw0, hw1, hw2, hw3⟩ | ⟨hw0, hw1, hw2, hw3, hw4⟩
  · have _q := trivial
    refine g_iloadN (pc' := 1) C X0 d5_0 rfl rfl ?_
    refine g_newPE (pc' := 3) (cap := 5) (ad := "[B") C X0 (by decide) d5_1 (wq hw 25 rfl) e0 (by decide) (by decide) (by decide) (ce := 1) (sl := 5) rfl rfl (by decide) (by decide) rfl (fun T1 h1 b1 ck1 g1 X1 e1 E1 V1 A1 => ?_)
    have ne1_2 : ¬ (a1 = b1) := Nat.ne_of_lt (Nat.lt_of_lt_of_le V_c.lt (Nat.le_of_eq g1.symm))
    have FX_1 := FX_ext hF E1
    have V_c_1 := V_c.ext E1
    have gn_b1 : n0 ≤ b1 := Nat.le_trans Z0 (Nat.le_of_eq g1.symm)
    have Z1 := Nat.le_trans Z0 E1.1
    have sz_b1 : h0.size ≤ b1 := Nat.le_trans K0.1 (Nat.le_of_eq g1.symm)
    have K1 := K0.ext E1
    refine g_astoreN (pc' := 4) (Ls' := #[.val (.ref a1), .val (.int (0 : Int32)), .val (.int (5 : Int32)), .val (.ref b1), .unset, .unset]) C X1 d5_3 rfl rfl rfl ?_
    refine g_aloadN (pc' := 5) C X1 d5_4 rfl rfl rfl ?_
    refine g_iloadN (pc' := 6) C X1 d5_5 rfl rfl ?_
    refine g_aloadN (pc' := 7) C X1 d5_6 rfl rfl rfl ?_
    refine g_iconst (pc' := 8) (v := (0 : Int32)) C X1 d5_7 rfl rfl ?_
    refine g_iloadN (pc' := 9) C X1 d5_8 rfl rfl ?_
    refine g_callS (y := (⟨"java/lang/StringUTF16", "compress", "([CI[BII)I"⟩ : MethodName)) (argsL := [(.ref a1), (.int (0 : Int32)), (.ref b1), (.int (0 : Int32)), (.int (5 : Int32))]) (st := []) (pc' := 12) C X1 d5_9 (wq hw 26 rfl) (wq hw 27 rfl) (wq hw 23 rfl) (wq hw 28 rfl) (by decide) (rmcmW0 l Z a0 hw [] a1 b1 kc ck1 x0 x1 x2 x3 x4 cs fm h1 n0 Z1 FX_1 V_c_1 V1 gn_b1 ne1_2 hw0) (W := 0) (by decide) (by decide) (ce := 1) (sl := 5) rfl rfl (by decide) (by decide) rfl e1 rfl pd_24 rfl (Nat.le_refl _) rfl (fun rv3 T3 L3 X3 Q3 => ?_)
    obtain ⟨q3, Nq3, Kq3⟩ := Q3
    have N3 := Fr.app N0 Nq3
    have FX_3 := FX_keep FX_1 Kq3 ((allS (by obtain ⟨c_, A_, _⟩ := V1; exact ⟨c_, A_.1, A_.plain⟩) all0))
    have V_c_3 := V_c_1.keep Kq3 (ninS ne1_2 nin0)
    have A1_3 := A1.keep Kq3
    have Z3 := Nat.le_trans Z1 Kq3.1
    have K3 := K1.trans Kq3 (allS (Or.inr sz_b1) all0)
    rw [FcmW0_l0 ] at q3
    subst q3
    show Go p.tables e below _ (T3.setTop (mkF m 12 #[.val (.ref a1), .val (.int (0 : Int32)), .val (.int (5 : Int32)), .val (.ref b1), .unset, .unset] [(.int (0 : Int32))]))
    refine g_istore (pc' := 14) (Ls' := #[.val (.ref a1), .val (.int (0 : Int32)), .val (.int (5 : Int32)), .val (.ref b1), .val (.int (0 : Int32)), .unset]) C X3 d5_12 rfl rfl ?_
    refine g_iload (pc' := 16) C X3 d5_14 rfl rfl ?_
    refine g_iloadN (pc' := 17) C X3 d5_16 rfl rfl ?_
    refine g_icmpN (pc' := 20) C X3 d5_17 (feq (show ¬ ((0 : Int32) = (5 : Int32)) from (by decide))).1 rfl ?_
    refine g_aloadN (pc' := 21) C X3 d5_20 rfl rfl rfl ?_
    refine g_iloadN (pc' := 22) C X3 d5_21 rfl rfl ?_
    refine g_iloadN (pc' := 23) C X3 d5_22 rfl rfl ?_
    refine g_callS (y := (⟨"java/lang/StringUTF16", "toBytes", "([CII)[B"⟩ : MethodName)) (argsL := [(.ref a1), (.int (0 : Int32)), (.int (5 : Int32))]) (st := []) (pc' := 26) C X3 d5_23 (wq hw 174 rfl) (wq hw 175 rfl) (wq hw 23 rfl) (wq hw 176 rfl) (by decide) (rmtob l Z a0 hw [] a1 kc x0 x1 x2 x3 x4 cs fm T3.heap n0 Z3 FX_3 V_c_3) (W := 0) (by decide) (by decide) (ce := 2) (sl := 15) rfl rfl (by decide) (by decide) rfl rfl rfl pd_25 rfl (Nat.le_refl _) rfl (fun rv4 T4 L4 X4 Q4 => ?_)
    obtain ⟨w4, kw4, q4, Nq4, Kq4, sz4_w, gn_w4, P4_0⟩ := Q4
    have N4 := Fr.app N3 Nq4
    have ne4_5 : ¬ (a1 = w4) := Nat.ne_of_lt (Nat.lt_of_lt_of_le V_c_3.lt sz4_w)
    have ne4_6 : ¬ (b1 = w4) := Nat.ne_of_lt (Nat.lt_of_lt_of_le A1_3.lt sz4_w)
    have FX_4 := FX_keep FX_3 Kq4 (fun _ q => nomatch q)
    have V_c_4 := V_c_3.keep Kq4 nin0
    have A1_4 := A1_3.keep Kq4
    have Z4 := Nat.le_trans Z3 Kq4.1
    have sz_w4 := Nat.le_trans K3.1 sz4_w
    have K4 := K3.trans Kq4 all0
    subst q4
    show Go p.tables e below _ (T4.setTop (mkF m 26 #[.val (.ref a1), .val (.int (0 : Int32)), .val (.int (5 : Int32)), .val (.ref b1), .val (.int (0 : Int32)), .unset] [(.ref w4)]))
    refine g_astore (pc' := 28) (Ls' := #[.val (.ref a1), .val (.int (0 : Int32)), .val (.int (5 : Int32)), .val (.ref b1), .val (.int (0 : Int32)), .val (.ref w4)]) C X4 d5_26 rfl rfl rfl ?_
    refine g_aload (pc' := 30) C X4 d5_28 rfl rfl rfl ?_
    refine g_iload (pc' := 32) C X4 d5_30 rfl rfl ?_
    refine g_callS (y := (⟨"java/lang/StringUTF16", "getChar", "([BI)C"⟩ : MethodName)) (argsL := [(.ref w4), (.int (0 : Int32))]) (st := []) (pc' := 35) C X4 d5_32 (wq hw 190 rfl) (wq hw 191 rfl) (wq hw 23 rfl) (wq hw 192 rfl) (by decide) (rmugc l Z a0 hw [] w4 (0 : Int32) kw4 (10 : Int32) (own_u [x0, x1, x2, x3, x4]) cs fm T4.heap n0 FX_4 P4_0 (by decide) (by decide) (by decide) (by decide)) (W := 0) (by decide) (by decide) (ce := 2) (sl := 15) rfl rfl (by decide) (by decide) rfl rfl rfl pd_4 rfl (Nat.le_refl _) rfl (fun rv7 T7 L7 X7 Q7 => ?_)
    obtain ⟨q7, Nq7, e7⟩ := Q7
    have N7 := Fr.app N4 Nq7
    rw [Fugc_l0 (0 : Int32) (own_u [x0, x1, x2, x3, x4])] at q7
    subst q7
    show Go p.tables e below _ (T7.setTop (mkF m 35 #[.val (.ref a1), .val (.int (0 : Int32)), .val (.int (5 : Int32)), .val (.ref b1), .val (.int (0 : Int32)), .val (.ref w4)] [(.int (nar .char ((((own_g (own_u [x0, x1, x2, x3, x4]) ((0 : Int32) <<< ((1 : Int32) &&& 31))) &&& (255 : Int32)) <<< ((0 : Int32) &&& 31)) ||| (((own_g (own_u [x0, x1, x2, x3, x4]) (((0 : Int32) <<< ((1 : Int32) &&& 31)) + (1 : Int32))) &&& (255 : Int32)) <<< ((8 : Int32) &&& 31))).toUInt32.toUInt16.toUInt32.toInt32))]))
    refine g_sipush (pc' := 38) (v := (255 : Int32)) C X7 d5_35 rfl rfl ?_
    refine g_icmpY (pc' := 54) C X7 d5_38 (tlt (show (255 : Int32) < (nar .char ((((own_g (own_u [x0, x1, x2, x3, x4]) ((0 : Int32) <<< ((1 : Int32) &&& 31))) &&& (255 : Int32)) <<< ((0 : Int32) &&& 31)) ||| (((own_g (own_u [x0, x1, x2, x3, x4]) (((0 : Int32) <<< ((1 : Int32) &&& 31)) + (1 : Int32))) &&& (255 : Int32)) <<< ((8 : Int32) &&& 31))).toUInt32.toUInt16.toUInt32.toInt32) from (own_gc (xs := [x0, x1, x2, x3, x4]) (p := (0 : Int32)) (own_all5 (P := own_ch) hc0 hc1 hc2 hc3 hc4) (by show 5 ≤ 5; decide) (by decide) (show (0 : Int32) < (5 : Int32) from by decide) (show (255 : Int32) < x0 from hw0)))).2.2.1 (by decide) (by decide) ?_
    refine g_aload (pc' := 56) C X7 d5_54 rfl rfl rfl ?_
    exact g_retA C X7 rfl rfl rfl d5_56 (by decide) (by decide) ⟨w4, kw4, rfl, N7, (by rw [e7]; exact K4), sz_w4, gn_w4, (by rw [e7]; exact P4_0)⟩
  · have _q := trivial
    refine g_iloadN (pc' := 1) C X0 d5_0 rfl rfl ?_
    refine g_newPE (pc' := 3) (cap := 5) (ad := "[B") C X0 (by decide) d5_1 (wq hw 25 rfl) e0 (by decide) (by decide) (by decide) (ce := 1) (sl := 5) rfl rfl (by decide) (by decide) rfl (fun T8 h8 b8 ck8 g8 X8 e8 E8 V8 A8 => ?_)
    have ne8_9 : ¬ (a1 = b8) := Nat.ne_of_lt (Nat.lt_of_lt_of_le V_c.lt (Nat.le_of_eq g8.symm))
    have FX_8 := FX_ext hF E8
    have V_c_8 := V_c.ext E8
    have gn_b8 : n0 ≤ b8 := Nat.le_trans Z0 (Nat.le_of_eq g8.symm)
    have Z8 := Nat.le_trans Z0 E8.1
    have sz_b8 : h0.size ≤ b8 := Nat.le_trans K0.1 (Nat.le_of_eq g8.symm)
    have K8 := K0.ext E8
    refine g_astoreN (pc' := 4) (Ls' := #[.val (.ref a1), .val (.int (0 : Int32)), .val (.int (5 : Int32)), .val (.ref b8), .unset, .unset]) C X8 d5_3 rfl rfl rfl ?_
    refine g_aloadN (pc' := 5) C X8 d5_4 rfl rfl rfl ?_
    refine g_iloadN (pc' := 6) C X8 d5_5 rfl rfl ?_
    refine g_aloadN (pc' := 7) C X8 d5_6 rfl rfl rfl ?_
    refine g_iconst (pc' := 8) (v := (0 : Int32)) C X8 d5_7 rfl rfl ?_
    refine g_iloadN (pc' := 9) C X8 d5_8 rfl rfl ?_
    refine g_callS (y := (⟨"java/lang/StringUTF16", "compress", "([CI[BII)I"⟩ : MethodName)) (argsL := [(.ref a1), (.int (0 : Int32)), (.ref b8), (.int (0 : Int32)), (.int (5 : Int32))]) (st := []) (pc' := 12) C X8 d5_9 (wq hw 26 rfl) (wq hw 27 rfl) (wq hw 23 rfl) (wq hw 28 rfl) (by decide) (rmcmW1 l Z a0 hw [] a1 b8 kc ck8 x0 x1 x2 x3 x4 cs fm h8 n0 Z8 FX_8 V_c_8 V8 gn_b8 ne8_9 hw0 hw1) (W := 0) (by decide) (by decide) (ce := 1) (sl := 5) rfl rfl (by decide) (by decide) rfl e8 rfl pd_24 rfl (Nat.le_refl _) rfl (fun rv10 T10 L10 X10 Q10 => ?_)
    obtain ⟨q10, Nq10, Kq10⟩ := Q10
    have N10 := Fr.app N0 Nq10
    have FX_10 := FX_keep FX_8 Kq10 ((allS (by obtain ⟨c_, A_, _⟩ := V8; exact ⟨c_, A_.1, A_.plain⟩) all0))
    have V_c_10 := V_c_8.keep Kq10 (ninS ne8_9 nin0)
    have A8_10 := A8.keep Kq10
    have Z10 := Nat.le_trans Z8 Kq10.1
    have K10 := K8.trans Kq10 (allS (Or.inr sz_b8) all0)
    rw [FcmW1_l0 ] at q10
    subst q10
    show Go p.tables e below _ (T10.setTop (mkF m 12 #[.val (.ref a1), .val (.int (0 : Int32)), .val (.int (5 : Int32)), .val (.ref b8), .unset, .unset] [(.int (1 : Int32))]))
    refine g_istore (pc' := 14) (Ls' := #[.val (.ref a1), .val (.int (0 : Int32)), .val (.int (5 : Int32)), .val (.ref b8), .val (.int (1 : Int32)), .unset]) C X10 d5_12 rfl rfl ?_
    refine g_iload (pc' := 16) C X10 d5_14 rfl rfl ?_
    refine g_iloadN (pc' := 17) C X10 d5_16 rfl rfl ?_
    refine g_icmpN (pc' := 20) C X10 d5_17 (feq (show ¬ ((1 : Int32) = (5 : Int32)) from (by decide))).1 rfl ?_
    refine g_aloadN (pc' := 21) C X10 d5_20 rfl rfl rfl ?_
    refine g_iloadN (pc' := 22) C X10 d5_21 rfl rfl ?_
    refine g_iloadN (pc' := 23) C X10 d5_22 rfl rfl ?_
    refine g_callS (y := (⟨"java/lang/StringUTF16", "toBytes", "([CII)[B"⟩ : MethodName)) (argsL := [(.ref a1), (.int (0 : Int32)), (.int (5 : Int32))]) (st := []) (pc' := 26) C X10 d5_23 (wq hw 174 rfl) (wq hw 175 rfl) (wq hw 23 rfl) (wq hw 176 rfl) (by decide) (rmtob l Z a0 hw [] a1 kc x0 x1 x2 x3 x4 cs fm T10.heap n0 Z10 FX_10 V_c_10) (W := 0) (by decide) (by decide) (ce := 2) (sl := 15) rfl rfl (by decide) (by decide) rfl rfl rfl pd_25 rfl (Nat.le_refl _) rfl (fun rv11 T11 L11 X11 Q11 => ?_)
    obtain ⟨w11, kw11, q11, Nq11, Kq11, sz11_w, gn_w11, P11_0⟩ := Q11
    have N11 := Fr.app N10 Nq11
    have ne11_12 : ¬ (a1 = w11) := Nat.ne_of_lt (Nat.lt_of_lt_of_le V_c_10.lt sz11_w)
    have ne11_13 : ¬ (b8 = w11) := Nat.ne_of_lt (Nat.lt_of_lt_of_le A8_10.lt sz11_w)
    have FX_11 := FX_keep FX_10 Kq11 (fun _ q => nomatch q)
    have V_c_11 := V_c_10.keep Kq11 nin0
    have A8_11 := A8_10.keep Kq11
    have Z11 := Nat.le_trans Z10 Kq11.1
    have sz_w11 := Nat.le_trans K10.1 sz11_w
    have K11 := K10.trans Kq11 all0
    subst q11
    show Go p.tables e below _ (T11.setTop (mkF m 26 #[.val (.ref a1), .val (.int (0 : Int32)), .val (.int (5 : Int32)), .val (.ref b8), .val (.int (1 : Int32)), .unset] [(.ref w11)]))
    refine g_astore (pc' := 28) (Ls' := #[.val (.ref a1), .val (.int (0 : Int32)), .val (.int (5 : Int32)), .val (.ref b8), .val (.int (1 : Int32)), .val (.ref w11)]) C X11 d5_26 rfl rfl rfl ?_
    refine g_aload (pc' := 30) C X11 d5_28 rfl rfl rfl ?_
    refine g_iload (pc' := 32) C X11 d5_30 rfl rfl ?_
    refine g_callS (y := (⟨"java/lang/StringUTF16", "getChar", "([BI)C"⟩ : MethodName)) (argsL := [(.ref w11), (.int (1 : Int32))]) (st := []) (pc' := 35) C X11 d5_32 (wq hw 190 rfl) (wq hw 191 rfl) (wq hw 23 rfl) (wq hw 192 rfl) (by decide) (rmugc l Z a0 hw [] w11 (1 : Int32) kw11 (10 : Int32) (own_u [x0, x1, x2, x3, x4]) cs fm T11.heap n0 FX_11 P11_0 (by decide) (by decide) (by decide) (by decide)) (W := 0) (by decide) (by decide) (ce := 2) (sl := 15) rfl rfl (by decide) (by decide) rfl rfl rfl pd_4 rfl (Nat.le_refl _) rfl (fun rv14 T14 L14 X14 Q14 => ?_)
    obtain ⟨q14, Nq14, e14⟩ := Q14
    have N14 := Fr.app N11 Nq14
    rw [Fugc_l0 (1 : Int32) (own_u [x0, x1, x2, x3, x4])] at q14
    subst q14
    show Go p.tables e below _ (T14.setTop (mkF m 35 #[.val (.ref a1), .val (.int (0 : Int32)), .val (.int (5 : Int32)), .val (.ref b8), .val (.int (1 : Int32)), .val (.ref w11)] [(.int (nar .char ((((own_g (own_u [x0, x1, x2, x3, x4]) ((1 : Int32) <<< ((1 : Int32) &&& 31))) &&& (255 : Int32)) <<< ((0 : Int32) &&& 31)) ||| (((own_g (own_u [x0, x1, x2, x3, x4]) (((1 : Int32) <<< ((1 : Int32) &&& 31)) + (1 : Int32))) &&& (255 : Int32)) <<< ((8 : Int32) &&& 31))).toUInt32.toUInt16.toUInt32.toInt32))]))
    refine g_sipush (pc' := 38) (v := (255 : Int32)) C X14 d5_35 rfl rfl ?_
    refine g_icmpY (pc' := 54) C X14 d5_38 (tlt (show (255 : Int32) < (nar .char ((((own_g (own_u [x0, x1, x2, x3, x4]) ((1 : Int32) <<< ((1 : Int32) &&& 31))) &&& (255 : Int32)) <<< ((0 : Int32) &&& 31)) ||| (((own_g (own_u [x0, x1, x2, x3, x4]) (((1 : Int32) <<< ((1 : Int32) &&& 31)) + (1 : Int32))) &&& (255 : Int32)) <<< ((8 : Int32) &&& 31))).toUInt32.toUInt16.toUInt32.toInt32) from (own_gc (xs := [x0, x1, x2, x3, x4]) (p := (1 : Int32)) (own_all5 (P := own_ch) hc0 hc1 hc2 hc3 hc4) (by show 5 ≤ 5; decide) (by decide) (show (1 : Int32) < (5 : Int32) from by decide) (show (255 : Int32) < x1 from hw1)))).2.2.1 (by decide) (by decide) ?_
    refine g_aload (pc' := 56) C X14 d5_54 rfl rfl rfl ?_
    exact g_retA C X14 rfl rfl rfl d5_56 (by decide) (by decide) ⟨w11, kw11, rfl, N14, (by rw [e14]; exact K11), sz_w11, gn_w11, (by rw [e14]; exact P11_0)⟩
  · have _q := trivial
    refine g_iloadN (pc' := 1) C X0 d5_0 rfl rfl ?_
    refine g_newPE (pc' := 3) (cap := 5) (ad := "[B") C X0 (by decide) d5_1 (wq hw 25 rfl) e0 (by decide) (by decide) (by decide) (ce := 1) (sl := 5) rfl rfl (by decide) (by decide) rfl (fun T15 h15 b15 ck15 g15 X15 e15 E15 V15 A15 => ?_)
    have ne15_16 : ¬ (a1 = b15) := Nat.ne_of_lt (Nat.lt_of_lt_of_le V_c.lt (Nat.le_of_eq g15.symm))
    have FX_15 := FX_ext hF E15
    have V_c_15 := V_c.ext E15
    have gn_b15 : n0 ≤ b15 := Nat.le_trans Z0 (Nat.le_of_eq g15.symm)
    have Z15 := Nat.le_trans Z0 E15.1
    have sz_b15 : h0.size ≤ b15 := Nat.le_trans K0.1 (Nat.le_of_eq g15.symm)
    have K15 := K0.ext E15
    refine g_astoreN (pc' := 4) (Ls' := #[.val (.ref a1), .val (.int (0 : Int32)), .val (.int (5 : Int32)), .val (.ref b15), .unset, .unset]) C X15 d5_3 rfl rfl rfl ?_
    refine g_aloadN (pc' := 5) C X15 d5_4 rfl rfl rfl ?_
    refine g_iloadN (pc' := 6) C X15 d5_5 rfl rfl ?_
    refine g_aloadN (pc' := 7) C X15 d5_6 rfl rfl rfl ?_
    refine g_iconst (pc' := 8) (v := (0 : Int32)) C X15 d5_7 rfl rfl ?_
    refine g_iloadN (pc' := 9) C X15 d5_8 rfl rfl ?_
    refine g_callS (y := (⟨"java/lang/StringUTF16", "compress", "([CI[BII)I"⟩ : MethodName)) (argsL := [(.ref a1), (.int (0 : Int32)), (.ref b15), (.int (0 : Int32)), (.int (5 : Int32))]) (st := []) (pc' := 12) C X15 d5_9 (wq hw 26 rfl) (wq hw 27 rfl) (wq hw 23 rfl) (wq hw 28 rfl) (by decide) (rmcmW2 l Z a0 hw [] a1 b15 kc ck15 x0 x1 x2 x3 x4 cs fm h15 n0 Z15 FX_15 V_c_15 V15 gn_b15 ne15_16 hw0 hw1 hw2) (W := 0) (by decide) (by decide) (ce := 1) (sl := 5) rfl rfl (by decide) (by decide) rfl e15 rfl pd_24 rfl (Nat.le_refl _) rfl (fun rv17 T17 L17 X17 Q17 => ?_)
    obtain ⟨q17, Nq17, Kq17⟩ := Q17
    have N17 := Fr.app N0 Nq17
    have FX_17 := FX_keep FX_15 Kq17 ((allS (by obtain ⟨c_, A_, _⟩ := V15; exact ⟨c_, A_.1, A_.plain⟩) all0))
    have V_c_17 := V_c_15.keep Kq17 (ninS ne15_16 nin0)
    have A15_17 := A15.keep Kq17
    have Z17 := Nat.le_trans Z15 Kq17.1
    have K17 := K15.trans Kq17 (allS (Or.inr sz_b15) all0)
    rw [FcmW2_l0 ] at q17
    subst q17
    show Go p.tables e below _ (T17.setTop (mkF m 12 #[.val (.ref a1), .val (.int (0 : Int32)), .val (.int (5 : Int32)), .val (.ref b15), .unset, .unset] [(.int (2 : Int32))]))
    refine g_istore (pc' := 14) (Ls' := #[.val (.ref a1), .val (.int (0 : Int32)), .val (.int (5 : Int32)), .val (.ref b15), .val (.int (2 : Int32)), .unset]) C X17 d5_12 rfl rfl ?_
    refine g_iload (pc' := 16) C X17 d5_14 rfl rfl ?_
    refine g_iloadN (pc' := 17) C X17 d5_16 rfl rfl ?_
    refine g_icmpN (pc' := 20) C X17 d5_17 (feq (show ¬ ((2 : Int32) = (5 : Int32)) from (by decide))).1 rfl ?_
    refine g_aloadN (pc' := 21) C X17 d5_20 rfl rfl rfl ?_
    refine g_iloadN (pc' := 22) C X17 d5_21 rfl rfl ?_
    refine g_iloadN (pc' := 23) C X17 d5_22 rfl rfl ?_
    refine g_callS (y := (⟨"java/lang/StringUTF16", "toBytes", "([CII)[B"⟩ : MethodName)) (argsL := [(.ref a1), (.int (0 : Int32)), (.int (5 : Int32))]) (st := []) (pc' := 26) C X17 d5_23 (wq hw 174 rfl) (wq hw 175 rfl) (wq hw 23 rfl) (wq hw 176 rfl) (by decide) (rmtob l Z a0 hw [] a1 kc x0 x1 x2 x3 x4 cs fm T17.heap n0 Z17 FX_17 V_c_17) (W := 0) (by decide) (by decide) (ce := 2) (sl := 15) rfl rfl (by decide) (by decide) rfl rfl rfl pd_25 rfl (Nat.le_refl _) rfl (fun rv18 T18 L18 X18 Q18 => ?_)
    obtain ⟨w18, kw18, q18, Nq18, Kq18, sz18_w, gn_w18, P18_0⟩ := Q18
    have N18 := Fr.app N17 Nq18
    have ne18_19 : ¬ (a1 = w18) := Nat.ne_of_lt (Nat.lt_of_lt_of_le V_c_17.lt sz18_w)
    have ne18_20 : ¬ (b15 = w18) := Nat.ne_of_lt (Nat.lt_of_lt_of_le A15_17.lt sz18_w)
    have FX_18 := FX_keep FX_17 Kq18 (fun _ q => nomatch q)
    have V_c_18 := V_c_17.keep Kq18 nin0
    have A15_18 := A15_17.keep Kq18
    have Z18 := Nat.le_trans Z17 Kq18.1
    have sz_w18 := Nat.le_trans K17.1 sz18_w
    have K18 := K17.trans Kq18 all0
    subst q18
    show Go p.tables e below _ (T18.setTop (mkF m 26 #[.val (.ref a1), .val (.int (0 : Int32)), .val (.int (5 : Int32)), .val (.ref b15), .val (.int (2 : Int32)), .unset] [(.ref w18)]))
    refine g_astore (pc' := 28) (Ls' := #[.val (.ref a1), .val (.int (0 : Int32)), .val (.int (5 : Int32)), .val (.ref b15), .val (.int (2 : Int32)), .val (.ref w18)]) C X18 d5_26 rfl rfl rfl ?_
    refine g_aload (pc' := 30) C X18 d5_28 rfl rfl rfl ?_
    refine g_iload (pc' := 32) C X18 d5_30 rfl rfl ?_
    refine g_callS (y := (⟨"java/lang/StringUTF16", "getChar", "([BI)C"⟩ : MethodName)) (argsL := [(.ref w18), (.int (2 : Int32))]) (st := []) (pc' := 35) C X18 d5_32 (wq hw 190 rfl) (wq hw 191 rfl) (wq hw 23 rfl) (wq hw 192 rfl) (by decide) (rmugc l Z a0 hw [] w18 (2 : Int32) kw18 (10 : Int32) (own_u [x0, x1, x2, x3, x4]) cs fm T18.heap n0 FX_18 P18_0 (by decide) (by decide) (by decide) (by decide)) (W := 0) (by decide) (by decide) (ce := 2) (sl := 15) rfl rfl (by decide) (by decide) rfl rfl rfl pd_4 rfl (Nat.le_refl _) rfl (fun rv21 T21 L21 X21 Q21 => ?_)
    obtain ⟨q21, Nq21, e21⟩ := Q21
    have N21 := Fr.app N18 Nq21
    rw [Fugc_l0 (2 : Int32) (own_u [x0, x1, x2, x3, x4])] at q21
    subst q21
    show Go p.tables e below _ (T21.setTop (mkF m 35 #[.val (.ref a1), .val (.int (0 : Int32)), .val (.int (5 : Int32)), .val (.ref b15), .val (.int (2 : Int32)), .val (.ref w18)] [(.int (nar .char ((((own_g (own_u [x0, x1, x2, x3, x4]) ((2 : Int32) <<< ((1 : Int32) &&& 31))) &&& (255 : Int32)) <<< ((0 : Int32) &&& 31)) ||| (((own_g (own_u [x0, x1, x2, x3, x4]) (((2 : Int32) <<< ((1 : Int32) &&& 31)) + (1 : Int32))) &&& (255 : Int32)) <<< ((8 : Int32) &&& 31))).toUInt32.toUInt16.toUInt32.toInt32))]))
    refine g_sipush (pc' := 38) (v := (255 : Int32)) C X21 d5_35 rfl rfl ?_
    refine g_icmpY (pc' := 54) C X21 d5_38 (tlt (show (255 : Int32) < (nar .char ((((own_g (own_u [x0, x1, x2, x3, x4]) ((2 : Int32) <<< ((1 : Int32) &&& 31))) &&& (255 : Int32)) <<< ((0 : Int32) &&& 31)) ||| (((own_g (own_u [x0, x1, x2, x3, x4]) (((2 : Int32) <<< ((1 : Int32) &&& 31)) + (1 : Int32))) &&& (255 : Int32)) <<< ((8 : Int32) &&& 31))).toUInt32.toUInt16.toUInt32.toInt32) from (own_gc (xs := [x0, x1, x2, x3, x4]) (p := (2 : Int32)) (own_all5 (P := own_ch) hc0 hc1 hc2 hc3 hc4) (by show 5 ≤ 5; decide) (by decide) (show (2 : Int32) < (5 : Int32) from by decide) (show (255 : Int32) < x2 from hw2)))).2.2.1 (by decide) (by decide) ?_
    refine g_aload (pc' := 56) C X21 d5_54 rfl rfl rfl ?_
    exact g_retA C X21 rfl rfl rfl d5_56 (by decide) (by decide) ⟨w18, kw18, rfl, N21, (by rw [e21]; exact K18), sz_w18, gn_w18, (by rw [e21]; exact P18_0)⟩
  · have _q := trivial
    refine g_iloadN (pc' := 1) C X0 d5_0 rfl rfl ?_
    refine g_newPE (pc' := 3) (cap := 5) (ad := "[B") C X0 (by decide) d5_1 (wq hw 25 rfl) e0 (by decide) (by decide) (by decide) (ce := 1) (sl := 5) rfl rfl (by decide) (by decide) rfl (fun T22 h22 b22 ck22 g22 X22 e22 E22 V22 A22 => ?_)
    have ne22_23 : ¬ (a1 = b22) := Nat.ne_of_lt (Nat.lt_of_lt_of_le V_c.lt (Nat.le_of_eq g22.symm))
    have FX_22 := FX_ext hF E22
    have V_c_22 := V_c.ext E22
    have gn_b22 : n0 ≤ b22 := Nat.le_trans Z0 (Nat.le_of_eq g22.symm)
    have Z22 := Nat.le_trans Z0 E22.1
    have sz_b22 : h0.size ≤ b22 := Nat.le_trans K0.1 (Nat.le_of_eq g22.symm)
    have K22 := K0.ext E22
    refine g_astoreN (pc' := 4) (Ls' := #[.val (.ref a1), .val (.int (0 : Int32)), .val (.int (5 : Int32)), .val (.ref b22), .unset, .unset]) C X22 d5_3 rfl rfl rfl ?_
    refine g_aloadN (pc' := 5) C X22 d5_4 rfl rfl rfl ?_
    refine g_iloadN (pc' := 6) C X22 d5_5 rfl rfl ?_
    refine g_aloadN (pc' := 7) C X22 d5_6 rfl rfl rfl ?_
    refine g_iconst (pc' := 8) (v := (0 : Int32)) C X22 d5_7 rfl rfl ?_
    refine g_iloadN (pc' := 9) C X22 d5_8 rfl rfl ?_
    refine g_callS (y := (⟨"java/lang/StringUTF16", "compress", "([CI[BII)I"⟩ : MethodName)) (argsL := [(.ref a1), (.int (0 : Int32)), (.ref b22), (.int (0 : Int32)), (.int (5 : Int32))]) (st := []) (pc' := 12) C X22 d5_9 (wq hw 26 rfl) (wq hw 27 rfl) (wq hw 23 rfl) (wq hw 28 rfl) (by decide) (rmcmW3 l Z a0 hw [] a1 b22 kc ck22 x0 x1 x2 x3 x4 cs fm h22 n0 Z22 FX_22 V_c_22 V22 gn_b22 ne22_23 hw0 hw1 hw2 hw3) (W := 0) (by decide) (by decide) (ce := 1) (sl := 5) rfl rfl (by decide) (by decide) rfl e22 rfl pd_24 rfl (Nat.le_refl _) rfl (fun rv24 T24 L24 X24 Q24 => ?_)
    obtain ⟨q24, Nq24, Kq24⟩ := Q24
    have N24 := Fr.app N0 Nq24
    have FX_24 := FX_keep FX_22 Kq24 ((allS (by obtain ⟨c_, A_, _⟩ := V22; exact ⟨c_, A_.1, A_.plain⟩) all0))
    have V_c_24 := V_c_22.keep Kq24 (ninS ne22_23 nin0)
    have A22_24 := A22.keep Kq24
    have Z24 := Nat.le_trans Z22 Kq24.1
    have K24 := K22.trans Kq24 (allS (Or.inr sz_b22) all0)
    rw [FcmW3_l0 ] at q24
    subst q24
    show Go p.tables e below _ (T24.setTop (mkF m 12 #[.val (.ref a1), .val (.int (0 : Int32)), .val (.int (5 : Int32)), .val (.ref b22), .unset, .unset] [(.int (3 : Int32))]))
    refine g_istore (pc' := 14) (Ls' := #[.val (.ref a1), .val (.int (0 : Int32)), .val (.int (5 : Int32)), .val (.ref b22), .val (.int (3 : Int32)), .unset]) C X24 d5_12 rfl rfl ?_
    refine g_iload (pc' := 16) C X24 d5_14 rfl rfl ?_
    refine g_iloadN (pc' := 17) C X24 d5_16 rfl rfl ?_
    refine g_icmpN (pc' := 20) C X24 d5_17 (feq (show ¬ ((3 : Int32) = (5 : Int32)) from (by decide))).1 rfl ?_
    refine g_aloadN (pc' := 21) C X24 d5_20 rfl rfl rfl ?_
    refine g_iloadN (pc' := 22) C X24 d5_21 rfl rfl ?_
    refine g_iloadN (pc' := 23) C X24 d5_22 rfl rfl ?_
    refine g_callS (y := (⟨"java/lang/StringUTF16", "toBytes", "([CII)[B"⟩ : MethodName)) (argsL := [(.ref a1), (.int (0 : Int32)), (.int (5 : Int32))]) (st := []) (pc' := 26) C X24 d5_23 (wq hw 174 rfl) (wq hw 175 rfl) (wq hw 23 rfl) (wq hw 176 rfl) (by decide) (rmtob l Z a0 hw [] a1 kc x0 x1 x2 x3 x4 cs fm T24.heap n0 Z24 FX_24 V_c_24) (W := 0) (by decide) (by decide) (ce := 2) (sl := 15) rfl rfl (by decide) (by decide) rfl rfl rfl pd_25 rfl (Nat.le_refl _) rfl (fun rv25 T25 L25 X25 Q25 => ?_)
    obtain ⟨w25, kw25, q25, Nq25, Kq25, sz25_w, gn_w25, P25_0⟩ := Q25
    have N25 := Fr.app N24 Nq25
    have ne25_26 : ¬ (a1 = w25) := Nat.ne_of_lt (Nat.lt_of_lt_of_le V_c_24.lt sz25_w)
    have ne25_27 : ¬ (b22 = w25) := Nat.ne_of_lt (Nat.lt_of_lt_of_le A22_24.lt sz25_w)
    have FX_25 := FX_keep FX_24 Kq25 (fun _ q => nomatch q)
    have V_c_25 := V_c_24.keep Kq25 nin0
    have A22_25 := A22_24.keep Kq25
    have Z25 := Nat.le_trans Z24 Kq25.1
    have sz_w25 := Nat.le_trans K24.1 sz25_w
    have K25 := K24.trans Kq25 all0
    subst q25
    show Go p.tables e below _ (T25.setTop (mkF m 26 #[.val (.ref a1), .val (.int (0 : Int32)), .val (.int (5 : Int32)), .val (.ref b22), .val (.int (3 : Int32)), .unset] [(.ref w25)]))
    refine g_astore (pc' := 28) (Ls' := #[.val (.ref a1), .val (.int (0 : Int32)), .val (.int (5 : Int32)), .val (.ref b22), .val (.int (3 : Int32)), .val (.ref w25)]) C X25 d5_26 rfl rfl rfl ?_
    refine g_aload (pc' := 30) C X25 d5_28 rfl rfl rfl ?_
    refine g_iload (pc' := 32) C X25 d5_30 rfl rfl ?_
    refine g_callS (y := (⟨"java/lang/StringUTF16", "getChar", "([BI)C"⟩ : MethodName)) (argsL := [(.ref w25), (.int (3 : Int32))]) (st := []) (pc' := 35) C X25 d5_32 (wq hw 190 rfl) (wq hw 191 rfl) (wq hw 23 rfl) (wq hw 192 rfl) (by decide) (rmugc l Z a0 hw [] w25 (3 : Int32) kw25 (10 : Int32) (own_u [x0, x1, x2, x3, x4]) cs fm T25.heap n0 FX_25 P25_0 (by decide) (by decide) (by decide) (by decide)) (W := 0) (by decide) (by decide) (ce := 2) (sl := 15) rfl rfl (by decide) (by decide) rfl rfl rfl pd_4 rfl (Nat.le_refl _) rfl (fun rv28 T28 L28 X28 Q28 => ?_)
    obtain ⟨q28, Nq28, e28⟩ := Q28
    have N28 := Fr.app N25 Nq28
    rw [Fugc_l0 (3 : Int32) (own_u [x0, x1, x2, x3, x4])] at q28
    subst q28
    show Go p.tables e below _ (T28.setTop (mkF m 35 #[.val (.ref a1), .val (.int (0 : Int32)), .val (.int (5 : Int32)), .val (.ref b22), .val (.int (3 : Int32)), .val (.ref w25)] [(.int (nar .char ((((own_g (own_u [x0, x1, x2, x3, x4]) ((3 : Int32) <<< ((1 : Int32) &&& 31))) &&& (255 : Int32)) <<< ((0 : Int32) &&& 31)) ||| (((own_g (own_u [x0, x1, x2, x3, x4]) (((3 : Int32) <<< ((1 : Int32) &&& 31)) + (1 : Int32))) &&& (255 : Int32)) <<< ((8 : Int32) &&& 31))).toUInt32.toUInt16.toUInt32.toInt32))]))
    refine g_sipush (pc' := 38) (v := (255 : Int32)) C X28 d5_35 rfl rfl ?_
    refine g_icmpY (pc' := 54) C X28 d5_38 (tlt (show (255 : Int32) < (nar .char ((((own_g (own_u [x0, x1, x2, x3, x4]) ((3 : Int32) <<< ((1 : Int32) &&& 31))) &&& (255 : Int32)) <<< ((0 : Int32) &&& 31)) ||| (((own_g (own_u [x0, x1, x2, x3, x4]) (((3 : Int32) <<< ((1 : Int32) &&& 31)) + (1 : Int32))) &&& (255 : Int32)) <<< ((8 : Int32) &&& 31))).toUInt32.toUInt16.toUInt32.toInt32) from (own_gc (xs := [x0, x1, x2, x3, x4]) (p := (3 : Int32)) (own_all5 (P := own_ch) hc0 hc1 hc2 hc3 hc4) (by show 5 ≤ 5; decide) (by decide) (show (3 : Int32) < (5 : Int32) from by decide) (show (255 : Int32) < x3 from hw3)))).2.2.1 (by decide) (by decide) ?_
    refine g_aload (pc' := 56) C X28 d5_54 rfl rfl rfl ?_
    exact g_retA C X28 rfl rfl rfl d5_56 (by decide) (by decide) ⟨w25, kw25, rfl, N28, (by rw [e28]; exact K25), sz_w25, gn_w25, (by rw [e28]; exact P25_0)⟩
  · have _q := trivial
    refine g_iloadN (pc' := 1) C X0 d5_0 rfl rfl ?_
    refine g_newPE (pc' := 3) (cap := 5) (ad := "[B") C X0 (by decide) d5_1 (wq hw 25 rfl) e0 (by decide) (by decide) (by decide) (ce := 1) (sl := 5) rfl rfl (by decide) (by decide) rfl (fun T29 h29 b29 ck29 g29 X29 e29 E29 V29 A29 => ?_)
    have ne29_30 : ¬ (a1 = b29) := Nat.ne_of_lt (Nat.lt_of_lt_of_le V_c.lt (Nat.le_of_eq g29.symm))
    have FX_29 := FX_ext hF E29
    have V_c_29 := V_c.ext E29
    have gn_b29 : n0 ≤ b29 := Nat.le_trans Z0 (Nat.le_of_eq g29.symm)
    have Z29 := Nat.le_trans Z0 E29.1
    have sz_b29 : h0.size ≤ b29 := Nat.le_trans K0.1 (Nat.le_of_eq g29.symm)
    have K29 := K0.ext E29
    refine g_astoreN (pc' := 4) (Ls' := #[.val (.ref a1), .val (.int (0 : Int32)), .val (.int (5 : Int32)), .val (.ref b29), .unset, .unset]) C X29 d5_3 rfl rfl rfl ?_
    refine g_aloadN (pc' := 5) C X29 d5_4 rfl rfl rfl ?_
    refine g_iloadN (pc' := 6) C X29 d5_5 rfl rfl ?_
    refine g_aloadN (pc' := 7) C X29 d5_6 rfl rfl rfl ?_
    refine g_iconst (pc' := 8) (v := (0 : Int32)) C X29 d5_7 rfl rfl ?_
    refine g_iloadN (pc' := 9) C X29 d5_8 rfl rfl ?_
    refine g_callS (y := (⟨"java/lang/StringUTF16", "compress", "([CI[BII)I"⟩ : MethodName)) (argsL := [(.ref a1), (.int (0 : Int32)), (.ref b29), (.int (0 : Int32)), (.int (5 : Int32))]) (st := []) (pc' := 12) C X29 d5_9 (wq hw 26 rfl) (wq hw 27 rfl) (wq hw 23 rfl) (wq hw 28 rfl) (by decide) (rmcmW4 l Z a0 hw [] a1 b29 kc ck29 x0 x1 x2 x3 x4 cs fm h29 n0 Z29 FX_29 V_c_29 V29 gn_b29 ne29_30 hw0 hw1 hw2 hw3 hw4) (W := 0) (by decide) (by decide) (ce := 1) (sl := 5) rfl rfl (by decide) (by decide) rfl e29 rfl pd_24 rfl (Nat.le_refl _) rfl (fun rv31 T31 L31 X31 Q31 => ?_)
    obtain ⟨q31, Nq31, Kq31⟩ := Q31
    have N31 := Fr.app N0 Nq31
    have FX_31 := FX_keep FX_29 Kq31 ((allS (by obtain ⟨c_, A_, _⟩ := V29; exact ⟨c_, A_.1, A_.plain⟩) all0))
    have V_c_31 := V_c_29.keep Kq31 (ninS ne29_30 nin0)
    have A29_31 := A29.keep Kq31
    have Z31 := Nat.le_trans Z29 Kq31.1
    have K31 := K29.trans Kq31 (allS (Or.inr sz_b29) all0)
    rw [FcmW4_l0 ] at q31
    subst q31
    show Go p.tables e below _ (T31.setTop (mkF m 12 #[.val (.ref a1), .val (.int (0 : Int32)), .val (.int (5 : Int32)), .val (.ref b29), .unset, .unset] [(.int (4 : Int32))]))
    refine g_istore (pc' := 14) (Ls' := #[.val (.ref a1), .val (.int (0 : Int32)), .val (.int (5 : Int32)), .val (.ref b29), .val (.int (4 : Int32)), .unset]) C X31 d5_12 rfl rfl ?_
    refine g_iload (pc' := 16) C X31 d5_14 rfl rfl ?_
    refine g_iloadN (pc' := 17) C X31 d5_16 rfl rfl ?_
    refine g_icmpN (pc' := 20) C X31 d5_17 (feq (show ¬ ((4 : Int32) = (5 : Int32)) from (by decide))).1 rfl ?_
    refine g_aloadN (pc' := 21) C X31 d5_20 rfl rfl rfl ?_
    refine g_iloadN (pc' := 22) C X31 d5_21 rfl rfl ?_
    refine g_iloadN (pc' := 23) C X31 d5_22 rfl rfl ?_
    refine g_callS (y := (⟨"java/lang/StringUTF16", "toBytes", "([CII)[B"⟩ : MethodName)) (argsL := [(.ref a1), (.int (0 : Int32)), (.int (5 : Int32))]) (st := []) (pc' := 26) C X31 d5_23 (wq hw 174 rfl) (wq hw 175 rfl) (wq hw 23 rfl) (wq hw 176 rfl) (by decide) (rmtob l Z a0 hw [] a1 kc x0 x1 x2 x3 x4 cs fm T31.heap n0 Z31 FX_31 V_c_31) (W := 0) (by decide) (by decide) (ce := 2) (sl := 15) rfl rfl (by decide) (by decide) rfl rfl rfl pd_25 rfl (Nat.le_refl _) rfl (fun rv32 T32 L32 X32 Q32 => ?_)
    obtain ⟨w32, kw32, q32, Nq32, Kq32, sz32_w, gn_w32, P32_0⟩ := Q32
    have N32 := Fr.app N31 Nq32
    have ne32_33 : ¬ (a1 = w32) := Nat.ne_of_lt (Nat.lt_of_lt_of_le V_c_31.lt sz32_w)
    have ne32_34 : ¬ (b29 = w32) := Nat.ne_of_lt (Nat.lt_of_lt_of_le A29_31.lt sz32_w)
    have FX_32 := FX_keep FX_31 Kq32 (fun _ q => nomatch q)
    have V_c_32 := V_c_31.keep Kq32 nin0
    have A29_32 := A29_31.keep Kq32
    have Z32 := Nat.le_trans Z31 Kq32.1
    have sz_w32 := Nat.le_trans K31.1 sz32_w
    have K32 := K31.trans Kq32 all0
    subst q32
    show Go p.tables e below _ (T32.setTop (mkF m 26 #[.val (.ref a1), .val (.int (0 : Int32)), .val (.int (5 : Int32)), .val (.ref b29), .val (.int (4 : Int32)), .unset] [(.ref w32)]))
    refine g_astore (pc' := 28) (Ls' := #[.val (.ref a1), .val (.int (0 : Int32)), .val (.int (5 : Int32)), .val (.ref b29), .val (.int (4 : Int32)), .val (.ref w32)]) C X32 d5_26 rfl rfl rfl ?_
    refine g_aload (pc' := 30) C X32 d5_28 rfl rfl rfl ?_
    refine g_iload (pc' := 32) C X32 d5_30 rfl rfl ?_
    refine g_callS (y := (⟨"java/lang/StringUTF16", "getChar", "([BI)C"⟩ : MethodName)) (argsL := [(.ref w32), (.int (4 : Int32))]) (st := []) (pc' := 35) C X32 d5_32 (wq hw 190 rfl) (wq hw 191 rfl) (wq hw 23 rfl) (wq hw 192 rfl) (by decide) (rmugc l Z a0 hw [] w32 (4 : Int32) kw32 (10 : Int32) (own_u [x0, x1, x2, x3, x4]) cs fm T32.heap n0 FX_32 P32_0 (by decide) (by decide) (by decide) (by decide)) (W := 0) (by decide) (by decide) (ce := 2) (sl := 15) rfl rfl (by decide) (by decide) rfl rfl rfl pd_4 rfl (Nat.le_refl _) rfl (fun rv35 T35 L35 X35 Q35 => ?_)
    obtain ⟨q35, Nq35, e35⟩ := Q35
    have N35 := Fr.app N32 Nq35
    rw [Fugc_l0 (4 : Int32) (own_u [x0, x1, x2, x3, x4])] at q35
    subst q35
    show Go p.tables e below _ (T35.setTop (mkF m 35 #[.val (.ref a1), .val (.int (0 : Int32)), .val (.int (5 : Int32)), .val (.ref b29), .val (.int (4 : Int32)), .val (.ref w32)] [(.int (nar .char ((((own_g (own_u [x0, x1, x2, x3, x4]) ((4 : Int32) <<< ((1 : Int32) &&& 31))) &&& (255 : Int32)) <<< ((0 : Int32) &&& 31)) ||| (((own_g (own_u [x0, x1, x2, x3, x4]) (((4 : Int32) <<< ((1 : Int32) &&& 31)) + (1 : Int32))) &&& (255 : Int32)) <<< ((8 : Int32) &&& 31))).toUInt32.toUInt16.toUInt32.toInt32))]))
    refine g_sipush (pc' := 38) (v := (255 : Int32)) C X35 d5_35 rfl rfl ?_
    refine g_icmpY (pc' := 54) C X35 d5_38 (tlt (show (255 : Int32) < (nar .char ((((own_g (own_u [x0, x1, x2, x3, x4]) ((4 : Int32) <<< ((1 : Int32) &&& 31))) &&& (255 : Int32)) <<< ((0 : Int32) &&& 31)) ||| (((own_g (own_u [x0, x1, x2, x3, x4]) (((4 : Int32) <<< ((1 : Int32) &&& 31)) + (1 : Int32))) &&& (255 : Int32)) <<< ((8 : Int32) &&& 31))).toUInt32.toUInt16.toUInt32.toInt32) from (own_gc (xs := [x0, x1, x2, x3, x4]) (p := (4 : Int32)) (own_all5 (P := own_ch) hc0 hc1 hc2 hc3 hc4) (by show 5 ≤ 5; decide) (by decide) (show (4 : Int32) < (5 : Int32) from by decide) (show (255 : Int32) < x4 from hw4)))).2.2.1 (by decide) (by decide) ?_
    refine g_aload (pc' := 56) C X35 d5_54 rfl rfl rfl ?_
    exact g_retA C X35 rfl rfl rfl d5_56 (by decide) (by decide) ⟨w32, kw32, rfl, N35, (by rw [e35]; exact K32), sz_w32, gn_w32, (by rw [e35]; exact P32_0)⟩
theorem d7_0 : decode jdk_52_method_15_code 0 = .ok (.iload_n 1, 1) := by decide +kernel
theorem d7_1 : decode jdk_52_method_15_code 1 = .ok (.aload_n 0, 1) := by decide +kernel
theorem d7_2 : decode jdk_52_method_15_code 2 = .ok (.arraylength, 1) := by decide +kernel
theorem d7_3 : decode jdk_52_method_15_code 3 = .ok (.isub, 1) := by decide +kernel
theorem d7_4 : decode jdk_52_method_15_code 4 = .ok (.bipush 31, 2) := by decide +kernel
theorem d7_6 : decode jdk_52_method_15_code 6 = .ok (.iushr, 1) := by decide +kernel
theorem d7_7 : decode jdk_52_method_15_code 7 = .ok (.i2b, 1) := by decide +kernel
theorem d7_8 : decode jdk_52_method_15_code 8 = .ok (.ireturn, 1) := by decide +kernel
def Fcfl5  : Int32 := (0 : Int32)
theorem Fcfl5_l0   : Fcfl5  = (0 : Int32) := rfl
theorem ef_cfl5 (m : MethodId) (a1 : Addr) : entryFrame m #[(.ref a1), (.int (5 : Int32))] 2 = mkF m 0 #[.val (.ref a1), .val (.int (5 : Int32))] [] := by first | (simp [entryFrame, mkF, argsToLocals, Value.category]; done) | rfl
def Q_cfl5 (Z : State) (a1 : Addr) (k1 : ClassId) (lx : List Int32) (cs : Int32) (fm : Value) (h0 : Heap) (n0 : Nat) (v : Option Value) (h : Heap) (L : List Loc) : Prop := v = some (.int (Fcfl5 )) ∧ Fr n0 L ∧ h = h0
set_option maxRecDepth 65536 in
set_option maxHeartbeats 40000000 in
theorem rmcfl5 (l : Launch) (Z : State) (a0 : Array Value) (hw : ∀ d ∈ tables_1, d.before a0 Z = true) (ws : List Jvm.Cond) (a1 : Addr) (k1 : ClassId) (lx : List Int32) (cs : Int32) (fm : Value) (h0 : Heap) (n0 : Nat) (hF : FX Z h0 cs fm) (V_b : Arv Z h0 a1 k1 .byte (5 : Int32) (own_vl lx) (.int (0 : Int32))) :
    MetFree l (⟨"java/lang/StringUTF16", "coderFromArrayLen", "([BI)B"⟩ : MethodName) (head1 (Jvm.Cond.code (⟨"java/lang/StringUTF16", "coderFromArrayLen", "([BI)B"⟩ : MethodName) jdk_52_method_15_code 2 (some .byte) :: ws) ({ frames := 0, cells := 0, slots := 0, locals := 0 } : Room)) (fun a U => a = #[(.ref a1), (.int (5 : Int32))] ∧ Z.Warmed39 U.vm ∧ U.heap = h0) (fun _ _ _ _ _ => True) (fun _ U o U' => ∃ v L, o = .returned v ∧ Q_cfl5 Z a1 k1 lx cs fm h0 n0 v U'.heap L ∧ FrameEnd U o U' L ({ frames := 0, cells := 0, slots := 0, locals := 0 } : Room).cells ({ frames := 0, cells := 0, slots := 0, locals := 0 } : Room).slots) := by
  refine met_of (Ls := #[.val (.ref a1), .val (.int (5 : Int32))]) (plainFor_of_name (by first | (simp [plainName, overriddenIn]; done) | decide +kernel)) (fun m => ef_cfl5 m a1) ?_
  intro p e s m below meth c T0 C X0 e0
  obtain ⟨S_cs, hcs, S_fm, hfm, S_ad, S_hi, S_lo⟩ := id hF
  have N0 := Fr.nil n0
  refine g_iloadN (pc' := 1) C X0 d7_0 rfl rfl ?_
  refine g_aloadN (pc' := 2) C X0 d7_1 rfl rfl rfl ?_
  refine g_len (pc' := 3) C X0 d7_2 e0 V_b rfl ?_
  refine g_isub (pc' := 4) C X0 d7_3 rfl ?_
  refine own_cast (congrArg (fun z_c => T0.setTop (mkF m 4 #[.val (.ref a1), .val (.int (5 : Int32))] (.int z_c :: []))) (show ((5 : Int32) - (5 : Int32)) = (0 : Int32) from by decide)) ?_
  refine g_bipush (pc' := 6) (v := (31 : Int32)) C X0 d7_4 rfl rfl ?_
  refine g_iushr (pc' := 7) C X0 d7_6 rfl ?_
  refine own_cast (congrArg (fun z_c => T0.setTop (mkF m 7 #[.val (.ref a1), .val (.int (5 : Int32))] (.int z_c :: []))) (show (((0 : Int32).toUInt32 >>> ((31 : Int32) &&& 31).toUInt32).toInt32) = (0 : Int32) from by decide)) ?_
  refine g_i2b (pc' := 8) C X0 d7_7 rfl ?_
  refine own_cast (congrArg (fun z_c => T0.setTop (mkF m 8 #[.val (.ref a1), .val (.int (5 : Int32))] (.int z_c :: []))) (show (0 : Int32).toInt8.toInt32 = (0 : Int32) from by decide)) ?_
  exact g_retN C X0 (by simp) d7_8 (by decide) (by decide) ⟨congrArg (fun z => some (Value.int z)) (Fcfl5_l0  ).symm, N0, e0⟩
def Fcfl10  : Int32 := (1 : Int32)
theorem Fcfl10_l0   : Fcfl10  = (1 : Int32) := rfl
theorem ef_cfl10 (m : MethodId) (a1 : Addr) : entryFrame m #[(.ref a1), (.int (5 : Int32))] 2 = mkF m 0 #[.val (.ref a1), .val (.int (5 : Int32))] [] := by first | (simp [entryFrame, mkF, argsToLocals, Value.category]; done) | rfl
def Q_cfl10 (Z : State) (a1 : Addr) (k1 : ClassId) (lx : List Int32) (cs : Int32) (fm : Value) (h0 : Heap) (n0 : Nat) (v : Option Value) (h : Heap) (L : List Loc) : Prop := v = some (.int (Fcfl10 )) ∧ Fr n0 L ∧ h = h0
set_option maxRecDepth 65536 in
set_option maxHeartbeats 40000000 in
theorem rmcfl10 (l : Launch) (Z : State) (a0 : Array Value) (hw : ∀ d ∈ tables_1, d.before a0 Z = true) (ws : List Jvm.Cond) (a1 : Addr) (k1 : ClassId) (lx : List Int32) (cs : Int32) (fm : Value) (h0 : Heap) (n0 : Nat) (hF : FX Z h0 cs fm) (V_b : Arv Z h0 a1 k1 .byte (10 : Int32) (own_vl lx) (.int (0 : Int32))) :
    MetFree l (⟨"java/lang/StringUTF16", "coderFromArrayLen", "([BI)B"⟩ : MethodName) (head1 (Jvm.Cond.code (⟨"java/lang/StringUTF16", "coderFromArrayLen", "([BI)B"⟩ : MethodName) jdk_52_method_15_code 2 (some .byte) :: ws) ({ frames := 0, cells := 0, slots := 0, locals := 0 } : Room)) (fun a U => a = #[(.ref a1), (.int (5 : Int32))] ∧ Z.Warmed39 U.vm ∧ U.heap = h0) (fun _ _ _ _ _ => True) (fun _ U o U' => ∃ v L, o = .returned v ∧ Q_cfl10 Z a1 k1 lx cs fm h0 n0 v U'.heap L ∧ FrameEnd U o U' L ({ frames := 0, cells := 0, slots := 0, locals := 0 } : Room).cells ({ frames := 0, cells := 0, slots := 0, locals := 0 } : Room).slots) := by
  refine met_of (Ls := #[.val (.ref a1), .val (.int (5 : Int32))]) (plainFor_of_name (by first | (simp [plainName, overriddenIn]; done) | decide +kernel)) (fun m => ef_cfl10 m a1) ?_
  intro p e s m below meth c T0 C X0 e0
  obtain ⟨S_cs, hcs, S_fm, hfm, S_ad, S_hi, S_lo⟩ := id hF
  have N0 := Fr.nil n0
  refine g_iloadN (pc' := 1) C X0 d7_0 rfl rfl ?_
  refine g_aloadN (pc' := 2) C X0 d7_1 rfl rfl rfl ?_
  refine g_len (pc' := 3) C X0 d7_2 e0 V_b rfl ?_
  refine g_isub (pc' := 4) C X0 d7_3 rfl ?_
  refine own_cast (congrArg (fun z_c => T0.setTop (mkF m 4 #[.val (.ref a1), .val (.int (5 : Int32))] (.int z_c :: []))) (show ((5 : Int32) - (10 : Int32)) = (-5 : Int32) from by decide)) ?_
  refine g_bipush (pc' := 6) (v := (31 : Int32)) C X0 d7_4 rfl rfl ?_
  refine g_iushr (pc' := 7) C X0 d7_6 rfl ?_
  refine own_cast (congrArg (fun z_c => T0.setTop (mkF m 7 #[.val (.ref a1), .val (.int (5 : Int32))] (.int z_c :: []))) (show (((-5 : Int32).toUInt32 >>> ((31 : Int32) &&& 31).toUInt32).toInt32) = (1 : Int32) from by decide)) ?_
  refine g_i2b (pc' := 8) C X0 d7_7 rfl ?_
  refine own_cast (congrArg (fun z_c => T0.setTop (mkF m 8 #[.val (.ref a1), .val (.int (5 : Int32))] (.int z_c :: []))) (show (1 : Int32).toInt8.toInt32 = (1 : Int32) from by decide)) ?_
  exact g_retN C X0 (by simp) d7_8 (by decide) (by decide) ⟨congrArg (fun z => some (Value.int z)) (Fcfl10_l0  ).symm, N0, e0⟩
theorem d3_0 : decode jdk_42_method_149_code 0 = .ok (.aload_n 0, 1) := by decide +kernel
theorem d3_1 : decode jdk_42_method_149_code 1 = .ok (.invokespecial 1, 3) := by decide +kernel
theorem d3_4 : decode jdk_42_method_149_code 4 = .ok (.iload_n 3, 1) := by decide +kernel
theorem d3_5 : decode jdk_42_method_149_code 5 = .ok (.ifCond .ne 22, 3) := by decide +kernel
theorem d3_27 : decode jdk_42_method_149_code 27 = .ok (.getstatic 38, 3) := by decide +kernel
theorem d3_30 : decode jdk_42_method_149_code 30 = .ok (.ifCond .eq 28, 3) := by decide +kernel
theorem d3_33 : decode jdk_42_method_149_code 33 = .ok (.aload_n 1, 1) := by decide +kernel
theorem d3_34 : decode jdk_42_method_149_code 34 = .ok (.iload_n 2, 1) := by decide +kernel
theorem d3_35 : decode jdk_42_method_149_code 35 = .ok (.iload_n 3, 1) := by decide +kernel
theorem d3_36 : decode jdk_42_method_149_code 36 = .ok (.invokestatic 177, 3) := by decide +kernel
theorem d3_39 : decode jdk_42_method_149_code 39 = .ok (.astore 5, 2) := by decide +kernel
theorem d3_41 : decode jdk_42_method_149_code 41 = .ok (.aload_n 0, 1) := by decide +kernel
theorem d3_42 : decode jdk_42_method_149_code 42 = .ok (.aload 5, 2) := by decide +kernel
theorem d3_44 : decode jdk_42_method_149_code 44 = .ok (.iload_n 3, 1) := by decide +kernel
theorem d3_45 : decode jdk_42_method_149_code 45 = .ok (.invokestatic 47, 3) := by decide +kernel
theorem pd_26 : parseMethodDescriptor "([BI)B" = some ⟨[(.array .byte), .int], some .byte⟩ := by decide +kernel
theorem d3_48 : decode jdk_42_method_149_code 48 = .ok (.putfield 15, 3) := by decide +kernel
theorem d3_51 : decode jdk_42_method_149_code 51 = .ok (.aload_n 0, 1) := by decide +kernel
theorem d3_52 : decode jdk_42_method_149_code 52 = .ok (.aload 5, 2) := by decide +kernel
theorem d3_54 : decode jdk_42_method_149_code 54 = .ok (.putfield 9, 3) := by decide +kernel
theorem d3_57 : decode jdk_42_method_149_code 57 = .ok (.return_, 1) := by decide +kernel
theorem ef_sic (m : MethodId) (a1 : Addr) (a2 : Addr) : entryFrame m #[(.ref a1), (.ref a2), (.int (0 : Int32)), (.int (5 : Int32)), .null] 6 = mkF m 0 #[.val (.ref a1), .val (.ref a2), .val (.int (0 : Int32)), .val (.int (5 : Int32)), .val .null, .unset] [] := by first | (simp [entryFrame, mkF, argsToLocals, Value.category]; done) | rfl
def Q_sic (Z : State) (a1 : Addr) (a2 : Addr) (kc : ClassId) (x0 : Int32) (x1 : Int32) (x2 : Int32) (x3 : Int32) (x4 : Int32) (cs : Int32) (fm : Value) (h0 : Heap) (n0 : Nat) (vr : Option Value) (h : Heap) (L : List Loc) : Prop := ∃ w : Addr, (vr = none) ∧ (Fr n0 L) ∧ (Keep h0 h [a1]) ∧ (h0.size ≤ w) ∧ (n0 ≤ w) ∧ (Str Z h a1 w [x0, x1, x2, x3, x4])
set_option maxRecDepth 65536 in
set_option maxHeartbeats 40000000 in
theorem rmsic (l : Launch) (Z : State) (a0 : Array Value) (hw : ∀ d ∈ tables_1, d.before a0 Z = true) (ws : List Jvm.Cond) (a1 : Addr) (a2 : Addr) (kc : ClassId) (x0 : Int32) (x1 : Int32) (x2 : Int32) (x3 : Int32) (x4 : Int32) (cs : Int32) (fm : Value) (h0 : Heap) (n0 : Nat) (Z0 : n0 ≤ h0.size) (hF : FX Z h0 cs fm) (E_a1 : Exa Z h0 a1 "java/lang/String") (Fv_a1 : Fld Z h0 a1 "java/lang/String" "value" "[B" .null) (Fc_a1 : Fld Z h0 a1 "java/lang/String" "coder" "B" (.int (0 : Int32))) (V_c : Arv Z h0 a2 kc .char (5 : Int32) [(.int x0), (.int x1), (.int x2), (.int x3), (.int x4)] (.int (0 : Int32))) (gn_a1 : n0 ≤ a1) (ne21 : ¬ (a2 = a1)) (hc0 : own_ch x0) (hc1 : own_ch x1) (hc2 : own_ch x2) (hc3 : own_ch x3) (hc4 : own_ch x4) :
    MetFree l (⟨"java/lang/String", "<init>", "([CIILjava/lang/Void;)V"⟩ : MethodName) (head1 (Jvm.Cond.code (⟨"java/lang/String", "<init>", "([CIILjava/lang/Void;)V"⟩ : MethodName) jdk_42_method_149_code 6 none :: ws) ({ frames := 4, cells := 2, slots := 15, locals := 57 } : Room)) (fun a U => a = #[(.ref a1), (.ref a2), (.int (0 : Int32)), (.int (5 : Int32)), .null] ∧ Z.Warmed39 U.vm ∧ U.heap = h0) (fun _ _ _ _ _ => True) (fun _ U o U' => ∃ v L, o = .returned v ∧ Q_sic Z a1 a2 kc x0 x1 x2 x3 x4 cs fm h0 n0 v U'.heap L ∧ FrameEnd U o U' L ({ frames := 4, cells := 2, slots := 15, locals := 57 } : Room).cells ({ frames := 4, cells := 2, slots := 15, locals := 57 } : Room).slots) := by
  refine met_of (Ls := #[.val (.ref a1), .val (.ref a2), .val (.int (0 : Int32)), .val (.int (5 : Int32)), .val .null, .unset]) (plainFor_of_name (by first | (simp [plainName, overriddenIn]; done) | decide +kernel)) (fun m => ef_sic m a1 a2) ?_
  intro p e s m below meth c T0 C X0 e0
  obtain ⟨S_cs, hcs, S_fm, hfm, S_ad, S_hi, S_lo⟩ := id hF
  have N0 := Fr.nil n0
  have K0 : Keep h0 h0 [a1] := Keep.refl h0 _
  rcases own_nw x0 x1 x2 x3 x4 with ⟨hw0, hw1, hw2, hw3, hw4⟩ | hwd
  · have _q := trivial
    refine g_aloadN (pc' := 1) C X0 d3_0 rfl rfl rfl ?_
    refine g_initO (W := 0) (pc' := 4) C X0 d3_1 (wq hw 17 rfl) (wq hw 18 rfl) (wq hw 19 rfl) e0 rfl (by decide) (Nat.le_refl _) (by decide) rfl (fun T1 X1 e1 => ?_)
    refine g_iloadN (pc' := 5) C X1 d3_4 rfl rfl ?_
    refine g_ifY (pc' := 27) C X1 d3_5 (feq (show ¬ ((5 : Int32) = (0 : Int32)) from (by decide))).2 (by decide) (by decide) ?_
    refine g_getS (pc' := 30) C X1 d3_27 (host := "") (Or.inl (wq hw 20 rfl)) Via.refl e1 S_cs rfl (fun T2 X2 e2 => ?_)
    refine g_ifN (pc' := 33) C X2 d3_30 (feq hcs).1 rfl ?_
    refine g_aloadN (pc' := 34) C X2 d3_33 rfl rfl rfl ?_
    refine g_iloadN (pc' := 35) C X2 d3_34 rfl rfl ?_
    refine g_iloadN (pc' := 36) C X2 d3_35 rfl rfl ?_
    refine g_callS (y := (⟨"java/lang/StringUTF16", "compress", "([CII)[B"⟩ : MethodName)) (argsL := [(.ref a2), (.int (0 : Int32)), (.int (5 : Int32))]) (st := []) (pc' := 39) C X2 d3_36 (wq hw 21 rfl) (wq hw 22 rfl) (wq hw 23 rfl) (wq hw 24 rfl) (by decide) (rmcpN l Z a0 hw [] a2 kc x0 x1 x2 x3 x4 cs fm h0 n0 Z0 hF V_c hw0 hw1 hw2 hw3 hw4) (W := 0) (by decide) (by decide) (ce := 1) (sl := 5) rfl rfl (by decide) (by decide) rfl e2 rfl pd_25 rfl (Nat.le_refl _) rfl (fun rv3 T3 L3 X3 Q3 => ?_)
    obtain ⟨w3, kw3, q3, Nq3, Kq3, sz3_w, gn_w3, P3_0⟩ := Q3
    have N3 := Fr.app N0 Nq3
    have ne3_4 : ¬ (a1 = w3) := Nat.ne_of_lt (Nat.lt_of_lt_of_le E_a1.lt sz3_w)
    have ne3_5 : ¬ (a2 = w3) := Nat.ne_of_lt (Nat.lt_of_lt_of_le V_c.lt sz3_w)
    have FX_3 := FX_keep hF Kq3 (fun _ q => nomatch q)
    have E_a1_3 := E_a1.keep Kq3
    have Fv_a1_3 := Fv_a1.keep Kq3 nin0
    have Fc_a1_3 := Fc_a1.keep Kq3 nin0
    have V_c_3 := V_c.keep Kq3 nin0
    have Z3 := Nat.le_trans Z0 Kq3.1
    have sz_w3 := Nat.le_trans K0.1 sz3_w
    have K3 := K0.trans Kq3 all0
    subst q3
    show Go p.tables e below _ (T3.setTop (mkF m 39 #[.val (.ref a1), .val (.ref a2), .val (.int (0 : Int32)), .val (.int (5 : Int32)), .val .null, .unset] [(.ref w3)]))
    refine g_astore (pc' := 41) (Ls' := #[.val (.ref a1), .val (.ref a2), .val (.int (0 : Int32)), .val (.int (5 : Int32)), .val .null, .val (.ref w3)]) C X3 d3_39 rfl rfl rfl ?_
    refine g_aloadN (pc' := 42) C X3 d3_41 rfl rfl rfl ?_
    refine g_aload (pc' := 44) C X3 d3_42 rfl rfl rfl ?_
    refine g_iloadN (pc' := 45) C X3 d3_44 rfl rfl ?_
    refine g_callS (y := (⟨"java/lang/StringUTF16", "coderFromArrayLen", "([BI)B"⟩ : MethodName)) (argsL := [(.ref w3), (.int (5 : Int32))]) (st := [(.ref a1)]) (pc' := 48) C X3 d3_45 (wq hw 29 rfl) (wq hw 30 rfl) (wq hw 23 rfl) (wq hw 31 rfl) (by decide) (rmcfl5 l Z a0 hw [] w3 kw3 (own_lat [x0, x1, x2, x3, x4]) cs fm T3.heap n0 FX_3 P3_0) (W := 1) (by decide) (by decide) (ce := 1) (sl := 5) rfl rfl (by decide) (by decide) rfl rfl rfl pd_26 rfl (Nat.le_refl _) rfl (fun rv6 T6 L6 X6 Q6 => ?_)
    obtain ⟨q6, Nq6, e6⟩ := Q6
    have N6 := Fr.app N3 Nq6
    rw [Fcfl5_l0 ] at q6
    subst q6
    show Go p.tables e below _ (T6.setTop (mkF m 48 #[.val (.ref a1), .val (.ref a2), .val (.int (0 : Int32)), .val (.int (5 : Int32)), .val .null, .val (.ref w3)] [(.int (0 : Int32)), (.ref a1)]))
    refine g_putFN (pc' := 51) (v' := (.int (0 : Int32))) C X6 d3_48 (wq hw 32 rfl) Via.refl e6 Fc_a1_3 E_a1_3 (Or.inr ⟨(wq hw 33 rfl), rfl, rfl⟩) (wq hw 8 rfl) (ty := .byte) (by decide) rfl (by decide) rfl (fun T7 h7 X7 e7 W7 => ?_)
    have F7 := Fc_a1_3.same W7
    have FX_7 := FX_wr FX_3 W7
    have E_a1_7 := E_a1_3.wr W7
    have Fv_a1_7 := Fv_a1_3.other W7 (Or.inr (slot_ne (Or.inr (wq hw 35 rfl)) (Or.inr (wq hw 33 rfl)) (by decide) (t := (.array .byte)) (t' := .byte) (by decide) (by decide)))
    have V_c_7 := V_c_3.other W7 ne21
    have P3_0_7 := P3_0.other W7 (Ne.symm ne3_4)
    have Z7 := Nat.le_trans Z3 (Nat.le_of_eq W7.size.symm)
    have N7 := Fr.snoc X7 N6 gn_a1
    have K7 := K3.wr W7 (Or.inl (List.mem_of_getElem? (i := 0) rfl))
    refine g_aloadN (pc' := 52) C X7 d3_51 rfl rfl rfl ?_
    refine g_aload (pc' := 54) C X7 d3_52 rfl rfl rfl ?_
    refine g_putF (pc' := 57) C X7 d3_54 (host := "") (Or.inl (wq hw 34 rfl)) Via.refl e7 Fv_a1_7 E_a1_7 (Or.inr ⟨(wq hw 35 rfl), rfl, rfl⟩) (wq hw 8 rfl) (ty := (.array .byte)) (by decide) rfl rfl rfl (fun T8 h8 X8 e8 W8 => ?_)
    have F8 := Fv_a1_7.same W8
    have FX_8 := FX_wr FX_7 W8
    have E_a1_8 := E_a1_7.wr W8
    have V_c_8 := V_c_7.other W8 ne21
    have P3_0_8 := P3_0_7.other W8 (Ne.symm ne3_4)
    have F7_8 := F7.other W8 (Or.inr (slot_ne (Or.inr (wq hw 33 rfl)) (Or.inr (wq hw 35 rfl)) (by decide) (t := .byte) (t' := (.array .byte)) (by decide) (by decide)))
    have Z8 := Nat.le_trans Z7 (Nat.le_of_eq W8.size.symm)
    have N8 := Fr.snoc X8 N7 gn_a1
    have K8 := K7.wr W8 (Or.inl (List.mem_of_getElem? (i := 0) rfl))
    exact g_retV C X8 d3_57 (by decide) (by decide) ⟨w3, rfl, N8, (by rw [e8]; exact K8), sz_w3, gn_w3, (by rw [e8]; exact ⟨by show 5 ≤ 5; decide, (own_all5 (P := own_ch) hc0 hc1 hc2 hc3 hc4), E_a1_8, F8, _, (5 : Int32), rfl, Or.inl ⟨F7_8, own_all5 (P := fun x => ¬ ((255 : Int32) < x)) hw0 hw1 hw2 hw3 hw4, P3_0_8⟩⟩)⟩
  · have _q := trivial
    refine g_aloadN (pc' := 1) C X0 d3_0 rfl rfl rfl ?_
    refine g_initO (W := 0) (pc' := 4) C X0 d3_1 (wq hw 17 rfl) (wq hw 18 rfl) (wq hw 19 rfl) e0 rfl (by decide) (Nat.le_refl _) (by decide) rfl (fun T9 X9 e9 => ?_)
    refine g_iloadN (pc' := 5) C X9 d3_4 rfl rfl ?_
    refine g_ifY (pc' := 27) C X9 d3_5 (feq (show ¬ ((5 : Int32) = (0 : Int32)) from (by decide))).2 (by decide) (by decide) ?_
    refine g_getS (pc' := 30) C X9 d3_27 (host := "") (Or.inl (wq hw 20 rfl)) Via.refl e9 S_cs rfl (fun T10 X10 e10 => ?_)
    refine g_ifN (pc' := 33) C X10 d3_30 (feq hcs).1 rfl ?_
    refine g_aloadN (pc' := 34) C X10 d3_33 rfl rfl rfl ?_
    refine g_iloadN (pc' := 35) C X10 d3_34 rfl rfl ?_
    refine g_iloadN (pc' := 36) C X10 d3_35 rfl rfl ?_
    refine g_callS (y := (⟨"java/lang/StringUTF16", "compress", "([CII)[B"⟩ : MethodName)) (argsL := [(.ref a2), (.int (0 : Int32)), (.int (5 : Int32))]) (st := []) (pc' := 39) C X10 d3_36 (wq hw 21 rfl) (wq hw 22 rfl) (wq hw 23 rfl) (wq hw 24 rfl) (by decide) (rmcpW l Z a0 hw [] a2 kc x0 x1 x2 x3 x4 cs fm h0 n0 Z0 hF V_c hwd hc0 hc1 hc2 hc3 hc4) (W := 0) (by decide) (by decide) (ce := 2) (sl := 15) rfl rfl (by decide) (by decide) rfl e10 rfl pd_25 rfl (Nat.le_refl _) rfl (fun rv11 T11 L11 X11 Q11 => ?_)
    obtain ⟨w11, kw11, q11, Nq11, Kq11, sz11_w, gn_w11, P11_0⟩ := Q11
    have N11 := Fr.app N0 Nq11
    have ne11_12 : ¬ (a1 = w11) := Nat.ne_of_lt (Nat.lt_of_lt_of_le E_a1.lt sz11_w)
    have ne11_13 : ¬ (a2 = w11) := Nat.ne_of_lt (Nat.lt_of_lt_of_le V_c.lt sz11_w)
    have FX_11 := FX_keep hF Kq11 (fun _ q => nomatch q)
    have E_a1_11 := E_a1.keep Kq11
    have Fv_a1_11 := Fv_a1.keep Kq11 nin0
    have Fc_a1_11 := Fc_a1.keep Kq11 nin0
    have V_c_11 := V_c.keep Kq11 nin0
    have Z11 := Nat.le_trans Z0 Kq11.1
    have sz_w11 := Nat.le_trans K0.1 sz11_w
    have K11 := K0.trans Kq11 all0
    subst q11
    show Go p.tables e below _ (T11.setTop (mkF m 39 #[.val (.ref a1), .val (.ref a2), .val (.int (0 : Int32)), .val (.int (5 : Int32)), .val .null, .unset] [(.ref w11)]))
    refine g_astore (pc' := 41) (Ls' := #[.val (.ref a1), .val (.ref a2), .val (.int (0 : Int32)), .val (.int (5 : Int32)), .val .null, .val (.ref w11)]) C X11 d3_39 rfl rfl rfl ?_
    refine g_aloadN (pc' := 42) C X11 d3_41 rfl rfl rfl ?_
    refine g_aload (pc' := 44) C X11 d3_42 rfl rfl rfl ?_
    refine g_iloadN (pc' := 45) C X11 d3_44 rfl rfl ?_
    refine g_callS (y := (⟨"java/lang/StringUTF16", "coderFromArrayLen", "([BI)B"⟩ : MethodName)) (argsL := [(.ref w11), (.int (5 : Int32))]) (st := [(.ref a1)]) (pc' := 48) C X11 d3_45 (wq hw 29 rfl) (wq hw 30 rfl) (wq hw 23 rfl) (wq hw 31 rfl) (by decide) (rmcfl10 l Z a0 hw [] w11 kw11 (own_u [x0, x1, x2, x3, x4]) cs fm T11.heap n0 FX_11 P11_0) (W := 1) (by decide) (by decide) (ce := 2) (sl := 15) rfl rfl (by decide) (by decide) rfl rfl rfl pd_26 rfl (Nat.le_refl _) rfl (fun rv14 T14 L14 X14 Q14 => ?_)
    obtain ⟨q14, Nq14, e14⟩ := Q14
    have N14 := Fr.app N11 Nq14
    rw [Fcfl10_l0 ] at q14
    subst q14
    show Go p.tables e below _ (T14.setTop (mkF m 48 #[.val (.ref a1), .val (.ref a2), .val (.int (0 : Int32)), .val (.int (5 : Int32)), .val .null, .val (.ref w11)] [(.int (1 : Int32)), (.ref a1)]))
    refine g_putFN (pc' := 51) (v' := (.int (1 : Int32))) C X14 d3_48 (wq hw 32 rfl) Via.refl e14 Fc_a1_11 E_a1_11 (Or.inr ⟨(wq hw 33 rfl), rfl, rfl⟩) (wq hw 8 rfl) (ty := .byte) (by decide) rfl (by decide) rfl (fun T15 h15 X15 e15 W15 => ?_)
    have F15 := Fc_a1_11.same W15
    have FX_15 := FX_wr FX_11 W15
    have E_a1_15 := E_a1_11.wr W15
    have Fv_a1_15 := Fv_a1_11.other W15 (Or.inr (slot_ne (Or.inr (wq hw 35 rfl)) (Or.inr (wq hw 33 rfl)) (by decide) (t := (.array .byte)) (t' := .byte) (by decide) (by decide)))
    have V_c_15 := V_c_11.other W15 ne21
    have P11_0_15 := P11_0.other W15 (Ne.symm ne11_12)
    have Z15 := Nat.le_trans Z11 (Nat.le_of_eq W15.size.symm)
    have N15 := Fr.snoc X15 N14 gn_a1
    have K15 := K11.wr W15 (Or.inl (List.mem_of_getElem? (i := 0) rfl))
    refine g_aloadN (pc' := 52) C X15 d3_51 rfl rfl rfl ?_
    refine g_aload (pc' := 54) C X15 d3_52 rfl rfl rfl ?_
    refine g_putF (pc' := 57) C X15 d3_54 (host := "") (Or.inl (wq hw 34 rfl)) Via.refl e15 Fv_a1_15 E_a1_15 (Or.inr ⟨(wq hw 35 rfl), rfl, rfl⟩) (wq hw 8 rfl) (ty := (.array .byte)) (by decide) rfl rfl rfl (fun T16 h16 X16 e16 W16 => ?_)
    have F16 := Fv_a1_15.same W16
    have FX_16 := FX_wr FX_15 W16
    have E_a1_16 := E_a1_15.wr W16
    have V_c_16 := V_c_15.other W16 ne21
    have P11_0_16 := P11_0_15.other W16 (Ne.symm ne11_12)
    have F15_16 := F15.other W16 (Or.inr (slot_ne (Or.inr (wq hw 33 rfl)) (Or.inr (wq hw 35 rfl)) (by decide) (t := .byte) (t' := (.array .byte)) (by decide) (by decide)))
    have Z16 := Nat.le_trans Z15 (Nat.le_of_eq W16.size.symm)
    have N16 := Fr.snoc X16 N15 gn_a1
    have K16 := K15.wr W16 (Or.inl (List.mem_of_getElem? (i := 0) rfl))
    exact g_retV C X16 d3_57 (by decide) (by decide) ⟨w11, rfl, N16, (by rw [e16]; exact K16), sz_w11, gn_w11, (by rw [e16]; exact ⟨by show 5 ≤ 5; decide, (own_all5 (P := own_ch) hc0 hc1 hc2 hc3 hc4), E_a1_16, F16, _, (5 : Int32), rfl, Or.inr ⟨F15_16, (by rw [show (5 : Int32) + 5 = 10 from by decide]; exact P11_0_16)⟩⟩)⟩
theorem d2_0 : decode jdk_42_method_3_code 0 = .ok (.aload_n 0, 1) := by decide +kernel
theorem d2_1 : decode jdk_42_method_3_code 1 = .ok (.aload_n 1, 1) := by decide +kernel
theorem d2_2 : decode jdk_42_method_3_code 2 = .ok (.iconst 0, 1) := by decide +kernel
theorem d2_3 : decode jdk_42_method_3_code 3 = .ok (.aload_n 1, 1) := by decide +kernel
theorem d2_4 : decode jdk_42_method_3_code 4 = .ok (.arraylength, 1) := by decide +kernel
theorem d2_5 : decode jdk_42_method_3_code 5 = .ok (.aconst_null, 1) := by decide +kernel
theorem d2_6 : decode jdk_42_method_3_code 6 = .ok (.invokespecial 27, 3) := by decide +kernel
theorem pd_27 : parseMethodDescriptor "([CIILjava/lang/Void;)V" = some ⟨[(.array .char), .int, .int, (.object "java/lang/Void")], none⟩ := by decide +kernel
theorem d2_9 : decode jdk_42_method_3_code 9 = .ok (.return_, 1) := by decide +kernel
theorem ef_sid (m : MethodId) (a1 : Addr) (a2 : Addr) : entryFrame m #[(.ref a1), (.ref a2)] 2 = mkF m 0 #[.val (.ref a1), .val (.ref a2)] [] := by first | (simp [entryFrame, mkF, argsToLocals, Value.category]; done) | rfl
def Q_sid (Z : State) (a1 : Addr) (a2 : Addr) (kc : ClassId) (x0 : Int32) (x1 : Int32) (x2 : Int32) (x3 : Int32) (x4 : Int32) (cs : Int32) (fm : Value) (h0 : Heap) (n0 : Nat) (vr : Option Value) (h : Heap) (L : List Loc) : Prop := ∃ w : Addr, (vr = none) ∧ (Fr n0 L) ∧ (Keep h0 h [a1]) ∧ (h0.size ≤ w) ∧ (n0 ≤ w) ∧ (Str Z h a1 w [x0, x1, x2, x3, x4])
set_option maxRecDepth 65536 in
set_option maxHeartbeats 40000000 in
theorem rmsid (l : Launch) (Z : State) (a0 : Array Value) (hw : ∀ d ∈ tables_1, d.before a0 Z = true) (ws : List Jvm.Cond) (a1 : Addr) (a2 : Addr) (kc : ClassId) (x0 : Int32) (x1 : Int32) (x2 : Int32) (x3 : Int32) (x4 : Int32) (cs : Int32) (fm : Value) (h0 : Heap) (n0 : Nat) (Z0 : n0 ≤ h0.size) (hF : FX Z h0 cs fm) (E_a1 : Exa Z h0 a1 "java/lang/String") (Fv_a1 : Fld Z h0 a1 "java/lang/String" "value" "[B" .null) (Fc_a1 : Fld Z h0 a1 "java/lang/String" "coder" "B" (.int (0 : Int32))) (V_c : Arv Z h0 a2 kc .char (5 : Int32) [(.int x0), (.int x1), (.int x2), (.int x3), (.int x4)] (.int (0 : Int32))) (gn_a1 : n0 ≤ a1) (ne21 : ¬ (a2 = a1)) (hc0 : own_ch x0) (hc1 : own_ch x1) (hc2 : own_ch x2) (hc3 : own_ch x3) (hc4 : own_ch x4) :
    MetFree l (⟨"java/lang/String", "<init>", "([C)V"⟩ : MethodName) (head1 (Jvm.Cond.code (⟨"java/lang/String", "<init>", "([C)V"⟩ : MethodName) jdk_42_method_3_code 2 none :: ws) ({ frames := 5, cells := 2, slots := 15, locals := 74 } : Room)) (fun a U => a = #[(.ref a1), (.ref a2)] ∧ Z.Warmed39 U.vm ∧ U.heap = h0) (fun _ _ _ _ _ => True) (fun _ U o U' => ∃ v L, o = .returned v ∧ Q_sid Z a1 a2 kc x0 x1 x2 x3 x4 cs fm h0 n0 v U'.heap L ∧ FrameEnd U o U' L ({ frames := 5, cells := 2, slots := 15, locals := 74 } : Room).cells ({ frames := 5, cells := 2, slots := 15, locals := 74 } : Room).slots) := by
  refine met_of (Ls := #[.val (.ref a1), .val (.ref a2)]) (plainFor_of_name (by first | (simp [plainName, overriddenIn]; done) | decide +kernel)) (fun m => ef_sid m a1 a2) ?_
  intro p e s m below meth c T0 C X0 e0
  obtain ⟨S_cs, hcs, S_fm, hfm, S_ad, S_hi, S_lo⟩ := id hF
  have N0 := Fr.nil n0
  have K0 : Keep h0 h0 [a1] := Keep.refl h0 _
  refine g_aloadN (pc' := 1) C X0 d2_0 rfl rfl rfl ?_
  refine g_aloadN (pc' := 2) C X0 d2_1 rfl rfl rfl ?_
  refine g_iconst (pc' := 3) (v := (0 : Int32)) C X0 d2_2 rfl rfl ?_
  refine g_aloadN (pc' := 4) C X0 d2_3 rfl rfl rfl ?_
  refine g_len (pc' := 5) C X0 d2_4 e0 V_c rfl ?_
  refine g_null (pc' := 6) C X0 d2_5 rfl ?_
  refine g_callI (b := a1) (y := (⟨"java/lang/String", "<init>", "([CIILjava/lang/Void;)V"⟩ : MethodName)) (argsL := [(.ref a2), (.int (0 : Int32)), (.int (5 : Int32)), .null]) (st := []) (pc' := 9) C X0 rfl d2_6 (wq hw 13 rfl) (wq hw 14 rfl) (wq hw 9 rfl) (wq hw 16 rfl) (by decide) (rmsic l Z a0 hw [] a1 a2 kc x0 x1 x2 x3 x4 cs fm h0 n0 Z0 hF E_a1 Fv_a1 Fc_a1 V_c gn_a1 ne21 hc0 hc1 hc2 hc3 hc4) (W := 0) (by decide) (by decide) (ce := 2) (sl := 15) rfl rfl (by decide) (by decide) rfl e0 rfl pd_27 rfl (Nat.le_refl _) rfl (fun rv1 T1 L1 X1 Q1 => ?_)
  obtain ⟨w1, q1, Nq1, Kq1, sz1_w, gn_w1, P1_0⟩ := Q1
  have N1 := Fr.app N0 Nq1
  have ne1_2 : ¬ (a1 = w1) := Nat.ne_of_lt (Nat.lt_of_lt_of_le E_a1.lt sz1_w)
  have ne1_3 : ¬ (a2 = w1) := Nat.ne_of_lt (Nat.lt_of_lt_of_le V_c.lt sz1_w)
  have FX_1 := FX_keep hF Kq1 ((allS (by obtain ⟨c_, _, h1_, _, _, h2_, _⟩ := E_a1; exact ⟨c_, h1_, h2_⟩) all0))
  have E_a1_1 := E_a1.keep Kq1
  have V_c_1 := V_c.keep Kq1 (ninS ne21 nin0)
  have Z1 := Nat.le_trans Z0 Kq1.1
  have sz_w1 := Nat.le_trans K0.1 sz1_w
  have K1 := K0.trans Kq1 (allS (Or.inl (List.mem_of_getElem? (i := 0) rfl)) all0)
  subst q1
  show Go p.tables e below _ (T1.setTop (mkF m 9 #[.val (.ref a1), .val (.ref a2)] []))
  exact g_retV C X1 d2_9 (by decide) (by decide) ⟨w1, rfl, N1, K1, sz_w1, gn_w1, P1_0⟩
theorem d32_0 : decode method_3_code 0 = .ok (.iload_n 0, 1) := by decide +kernel
theorem d32_1 : decode method_3_code 1 = .ok (.bipush 32, 2) := by decide +kernel
theorem d32_3 : decode method_3_code 3 = .ok (.if_icmp .eq 21, 3) := by decide +kernel
theorem d32_24 : decode method_3_code 24 = .ok (.iconst 1, 1) := by decide +kernel
theorem d32_25 : decode method_3_code 25 = .ok (.goto 4, 3) := by decide +kernel
theorem d32_29 : decode method_3_code 29 = .ok (.ireturn, 1) := by decide +kernel
theorem d32_6 : decode method_3_code 6 = .ok (.iload_n 0, 1) := by decide +kernel
theorem d32_7 : decode method_3_code 7 = .ok (.bipush 9, 2) := by decide +kernel
theorem d32_9 : decode method_3_code 9 = .ok (.if_icmp .eq 15, 3) := by decide +kernel
theorem d32_12 : decode method_3_code 12 = .ok (.iload_n 0, 1) := by decide +kernel
theorem d32_13 : decode method_3_code 13 = .ok (.bipush 10, 2) := by decide +kernel
theorem d32_15 : decode method_3_code 15 = .ok (.if_icmp .eq 9, 3) := by decide +kernel
theorem d32_18 : decode method_3_code 18 = .ok (.iload_n 0, 1) := by decide +kernel
theorem d32_19 : decode method_3_code 19 = .ok (.bipush 13, 2) := by decide +kernel
theorem d32_21 : decode method_3_code 21 = .ok (.if_icmp .ne 7, 3) := by decide +kernel
theorem d32_28 : decode method_3_code 28 = .ok (.iconst 0, 1) := by decide +kernel
def Fws (p1 : Int32) : Int32 := (if p1 = (32 : Int32) then (1 : Int32) else (if p1 = (9 : Int32) then (1 : Int32) else (if p1 = (10 : Int32) then (1 : Int32) else (if p1 = (13 : Int32) then (1 : Int32) else (0 : Int32)))))
theorem Fws_l0 (p1 : Int32) (h0 : p1 = (32 : Int32)) : Fws p1 = (1 : Int32) := by
  unfold Fws; rw [if_pos h0]
theorem Fws_l1 (p1 : Int32) (h0 : ¬ (p1 = (32 : Int32))) (h1 : p1 = (9 : Int32)) : Fws p1 = (1 : Int32) := by
  unfold Fws; rw [if_neg h0, if_pos h1]
theorem Fws_l2 (p1 : Int32) (h0 : ¬ (p1 = (32 : Int32))) (h1 : ¬ (p1 = (9 : Int32))) (h2 : p1 = (10 : Int32)) : Fws p1 = (1 : Int32) := by
  unfold Fws; rw [if_neg h0, if_neg h1, if_pos h2]
theorem Fws_l3 (p1 : Int32) (h0 : ¬ (p1 = (32 : Int32))) (h1 : ¬ (p1 = (9 : Int32))) (h2 : ¬ (p1 = (10 : Int32))) (h3 : p1 = (13 : Int32)) : Fws p1 = (1 : Int32) := by
  unfold Fws; rw [if_neg h0, if_neg h1, if_neg h2, if_pos h3]
theorem Fws_l4 (p1 : Int32) (h0 : ¬ (p1 = (32 : Int32))) (h1 : ¬ (p1 = (9 : Int32))) (h2 : ¬ (p1 = (10 : Int32))) (h3 : ¬ (p1 = (13 : Int32))) : Fws p1 = (0 : Int32) := by
  unfold Fws; rw [if_neg h0, if_neg h1, if_neg h2, if_neg h3]
theorem ef_ws (m : MethodId) (p1 : Int32) : entryFrame m #[(.int p1)] 1 = mkF m 0 #[.val (.int p1)] [] := by first | (simp [entryFrame, mkF, argsToLocals, Value.category]; done) | rfl
def Q_ws (Z : State) (p1 : Int32) (cs : Int32) (fm : Value) (h0 : Heap) (n0 : Nat) (v : Option Value) (h : Heap) (L : List Loc) : Prop := v = some (.int (Fws p1)) ∧ Fr n0 L ∧ h = h0
set_option maxRecDepth 65536 in
set_option maxHeartbeats 40000000 in
theorem rmws (l : Launch) (Z : State) (a0 : Array Value) (hw : ∀ d ∈ tables_1, d.before a0 Z = true) (ws : List Jvm.Cond) (p1 : Int32) (cs : Int32) (fm : Value) (h0 : Heap) (n0 : Nat) (hF : FX Z h0 cs fm) :
    MetFree l (⟨"org/vouchsafe/XsdWhitespaceCollapsePinLaw", "ws", "(C)Z"⟩ : MethodName) (head1 (Jvm.Cond.code (⟨"org/vouchsafe/XsdWhitespaceCollapsePinLaw", "ws", "(C)Z"⟩ : MethodName) method_3_code 1 (some .boolean) :: ws) ({ frames := 0, cells := 0, slots := 0, locals := 0 } : Room)) (fun a U => a = #[(.int p1)] ∧ Z.Warmed39 U.vm ∧ U.heap = h0) (fun _ _ _ _ _ => True) (fun _ U o U' => ∃ v L, o = .returned v ∧ Q_ws Z p1 cs fm h0 n0 v U'.heap L ∧ FrameEnd U o U' L ({ frames := 0, cells := 0, slots := 0, locals := 0 } : Room).cells ({ frames := 0, cells := 0, slots := 0, locals := 0 } : Room).slots) := by
  refine met_of (Ls := #[.val (.int p1)]) (plainFor_of_name (by first | (simp [plainName, overriddenIn]; done) | decide +kernel)) (fun m => ef_ws m p1) ?_
  intro p e s m below meth c T0 C X0 e0
  obtain ⟨S_cs, hcs, S_fm, hfm, S_ad, S_hi, S_lo⟩ := id hF
  have N0 := Fr.nil n0
  refine g_iloadN (pc' := 1) C X0 d32_0 rfl rfl ?_
  refine g_bipush (pc' := 3) (v := (32 : Int32)) C X0 d32_1 rfl rfl ?_
  by_cases c1 : p1 = (32 : Int32)
  · refine g_icmpY (pc' := 24) C X0 d32_3 (teq c1).1 (by decide) (by decide) ?_
    refine g_iconst (pc' := 25) (v := (1 : Int32)) C X0 d32_24 rfl rfl ?_
    refine g_goto (pc' := 29) C X0 d32_25 (by decide) (by decide) ?_
    exact g_retN C X0 (by simp) d32_29 (by decide) (by decide) ⟨congrArg (fun z => some (Value.int z)) (Fws_l0 p1 c1).symm, N0, e0⟩
  · refine g_icmpN (pc' := 6) C X0 d32_3 (feq c1).1 rfl ?_
    refine g_iloadN (pc' := 7) C X0 d32_6 rfl rfl ?_
    refine g_bipush (pc' := 9) (v := (9 : Int32)) C X0 d32_7 rfl rfl ?_
    by_cases c2 : p1 = (9 : Int32)
    · refine g_icmpY (pc' := 24) C X0 d32_9 (teq c2).1 (by decide) (by decide) ?_
      refine g_iconst (pc' := 25) (v := (1 : Int32)) C X0 d32_24 rfl rfl ?_
      refine g_goto (pc' := 29) C X0 d32_25 (by decide) (by decide) ?_
      exact g_retN C X0 (by simp) d32_29 (by decide) (by decide) ⟨congrArg (fun z => some (Value.int z)) (Fws_l1 p1 c1 c2).symm, N0, e0⟩
    · refine g_icmpN (pc' := 12) C X0 d32_9 (feq c2).1 rfl ?_
      refine g_iloadN (pc' := 13) C X0 d32_12 rfl rfl ?_
      refine g_bipush (pc' := 15) (v := (10 : Int32)) C X0 d32_13 rfl rfl ?_
      by_cases c3 : p1 = (10 : Int32)
      · refine g_icmpY (pc' := 24) C X0 d32_15 (teq c3).1 (by decide) (by decide) ?_
        refine g_iconst (pc' := 25) (v := (1 : Int32)) C X0 d32_24 rfl rfl ?_
        refine g_goto (pc' := 29) C X0 d32_25 (by decide) (by decide) ?_
        exact g_retN C X0 (by simp) d32_29 (by decide) (by decide) ⟨congrArg (fun z => some (Value.int z)) (Fws_l2 p1 c1 c2 c3).symm, N0, e0⟩
      · refine g_icmpN (pc' := 18) C X0 d32_15 (feq c3).1 rfl ?_
        refine g_iloadN (pc' := 19) C X0 d32_18 rfl rfl ?_
        refine g_bipush (pc' := 21) (v := (13 : Int32)) C X0 d32_19 rfl rfl ?_
        by_cases c4 : p1 = (13 : Int32)
        · refine g_icmpN (pc' := 24) C X0 d32_21 (teq c4).2 rfl ?_
          refine g_iconst (pc' := 25) (v := (1 : Int32)) C X0 d32_24 rfl rfl ?_
          refine g_goto (pc' := 29) C X0 d32_25 (by decide) (by decide) ?_
          exact g_retN C X0 (by simp) d32_29 (by decide) (by decide) ⟨congrArg (fun z => some (Value.int z)) (Fws_l3 p1 c1 c2 c3 c4).symm, N0, e0⟩
        · refine g_icmpY (pc' := 28) C X0 d32_21 (feq c4).2 (by decide) (by decide) ?_
          refine g_iconst (pc' := 29) (v := (0 : Int32)) C X0 d32_28 rfl rfl ?_
          exact g_retN C X0 (by simp) d32_29 (by decide) (by decide) ⟨congrArg (fun z => some (Value.int z)) (Fws_l4 p1 c1 c2 c3 c4).symm, N0, e0⟩
theorem d18_0 : decode prog_50_method_3_code 0 = .ok (.iload_n 0, 1) := by decide +kernel
theorem d18_1 : decode prog_50_method_3_code 1 = .ok (.bipush 32, 2) := by decide +kernel
theorem d18_3 : decode prog_50_method_3_code 3 = .ok (.if_icmp .eq 21, 3) := by decide +kernel
theorem d18_24 : decode prog_50_method_3_code 24 = .ok (.iconst 1, 1) := by decide +kernel
theorem d18_25 : decode prog_50_method_3_code 25 = .ok (.goto 4, 3) := by decide +kernel
theorem d18_29 : decode prog_50_method_3_code 29 = .ok (.ireturn, 1) := by decide +kernel
theorem d18_6 : decode prog_50_method_3_code 6 = .ok (.iload_n 0, 1) := by decide +kernel
theorem d18_7 : decode prog_50_method_3_code 7 = .ok (.bipush 9, 2) := by decide +kernel
theorem d18_9 : decode prog_50_method_3_code 9 = .ok (.if_icmp .eq 15, 3) := by decide +kernel
theorem d18_12 : decode prog_50_method_3_code 12 = .ok (.iload_n 0, 1) := by decide +kernel
theorem d18_13 : decode prog_50_method_3_code 13 = .ok (.bipush 10, 2) := by decide +kernel
theorem d18_15 : decode prog_50_method_3_code 15 = .ok (.if_icmp .eq 9, 3) := by decide +kernel
theorem d18_18 : decode prog_50_method_3_code 18 = .ok (.iload_n 0, 1) := by decide +kernel
theorem d18_19 : decode prog_50_method_3_code 19 = .ok (.bipush 13, 2) := by decide +kernel
theorem d18_21 : decode prog_50_method_3_code 21 = .ok (.if_icmp .ne 7, 3) := by decide +kernel
theorem d18_28 : decode prog_50_method_3_code 28 = .ok (.iconst 0, 1) := by decide +kernel
def Fiw (p1 : Int32) : Int32 := (if p1 = (32 : Int32) then (1 : Int32) else (if p1 = (9 : Int32) then (1 : Int32) else (if p1 = (10 : Int32) then (1 : Int32) else (if p1 = (13 : Int32) then (1 : Int32) else (0 : Int32)))))
theorem Fiw_l0 (p1 : Int32) (h0 : p1 = (32 : Int32)) : Fiw p1 = (1 : Int32) := by
  unfold Fiw; rw [if_pos h0]
theorem Fiw_l1 (p1 : Int32) (h0 : ¬ (p1 = (32 : Int32))) (h1 : p1 = (9 : Int32)) : Fiw p1 = (1 : Int32) := by
  unfold Fiw; rw [if_neg h0, if_pos h1]
theorem Fiw_l2 (p1 : Int32) (h0 : ¬ (p1 = (32 : Int32))) (h1 : ¬ (p1 = (9 : Int32))) (h2 : p1 = (10 : Int32)) : Fiw p1 = (1 : Int32) := by
  unfold Fiw; rw [if_neg h0, if_neg h1, if_pos h2]
theorem Fiw_l3 (p1 : Int32) (h0 : ¬ (p1 = (32 : Int32))) (h1 : ¬ (p1 = (9 : Int32))) (h2 : ¬ (p1 = (10 : Int32))) (h3 : p1 = (13 : Int32)) : Fiw p1 = (1 : Int32) := by
  unfold Fiw; rw [if_neg h0, if_neg h1, if_neg h2, if_pos h3]
theorem Fiw_l4 (p1 : Int32) (h0 : ¬ (p1 = (32 : Int32))) (h1 : ¬ (p1 = (9 : Int32))) (h2 : ¬ (p1 = (10 : Int32))) (h3 : ¬ (p1 = (13 : Int32))) : Fiw p1 = (0 : Int32) := by
  unfold Fiw; rw [if_neg h0, if_neg h1, if_neg h2, if_neg h3]
theorem ef_iw (m : MethodId) (p1 : Int32) : entryFrame m #[(.int p1)] 1 = mkF m 0 #[.val (.int p1)] [] := by first | (simp [entryFrame, mkF, argsToLocals, Value.category]; done) | rfl
def Q_iw (Z : State) (p1 : Int32) (cs : Int32) (fm : Value) (h0 : Heap) (n0 : Nat) (v : Option Value) (h : Heap) (L : List Loc) : Prop := v = some (.int (Fiw p1)) ∧ Fr n0 L ∧ h = h0
set_option maxRecDepth 65536 in
set_option maxHeartbeats 40000000 in
theorem rmiw (l : Launch) (Z : State) (a0 : Array Value) (hw : ∀ d ∈ tables_1, d.before a0 Z = true) (ws : List Jvm.Cond) (p1 : Int32) (cs : Int32) (fm : Value) (h0 : Heap) (n0 : Nat) (hF : FX Z h0 cs fm) :
    MetFree l (⟨"org/vouchsafe/XsdWhitespace", "isWhitespace", "(C)Z"⟩ : MethodName) (head1 (Jvm.Cond.code (⟨"org/vouchsafe/XsdWhitespace", "isWhitespace", "(C)Z"⟩ : MethodName) prog_50_method_3_code 1 (some .boolean) :: ws) ({ frames := 0, cells := 0, slots := 0, locals := 0 } : Room)) (fun a U => a = #[(.int p1)] ∧ Z.Warmed39 U.vm ∧ U.heap = h0) (fun _ _ _ _ _ => True) (fun _ U o U' => ∃ v L, o = .returned v ∧ Q_iw Z p1 cs fm h0 n0 v U'.heap L ∧ FrameEnd U o U' L ({ frames := 0, cells := 0, slots := 0, locals := 0 } : Room).cells ({ frames := 0, cells := 0, slots := 0, locals := 0 } : Room).slots) := by
  refine met_of (Ls := #[.val (.int p1)]) (plainFor_of_name (by first | (simp [plainName, overriddenIn]; done) | decide +kernel)) (fun m => ef_iw m p1) ?_
  intro p e s m below meth c T0 C X0 e0
  obtain ⟨S_cs, hcs, S_fm, hfm, S_ad, S_hi, S_lo⟩ := id hF
  have N0 := Fr.nil n0
  refine g_iloadN (pc' := 1) C X0 d18_0 rfl rfl ?_
  refine g_bipush (pc' := 3) (v := (32 : Int32)) C X0 d18_1 rfl rfl ?_
  by_cases c1 : p1 = (32 : Int32)
  · refine g_icmpY (pc' := 24) C X0 d18_3 (teq c1).1 (by decide) (by decide) ?_
    refine g_iconst (pc' := 25) (v := (1 : Int32)) C X0 d18_24 rfl rfl ?_
    refine g_goto (pc' := 29) C X0 d18_25 (by decide) (by decide) ?_
    exact g_retN C X0 (by simp) d18_29 (by decide) (by decide) ⟨congrArg (fun z => some (Value.int z)) (Fiw_l0 p1 c1).symm, N0, e0⟩
  · refine g_icmpN (pc' := 6) C X0 d18_3 (feq c1).1 rfl ?_
    refine g_iloadN (pc' := 7) C X0 d18_6 rfl rfl ?_
    refine g_bipush (pc' := 9) (v := (9 : Int32)) C X0 d18_7 rfl rfl ?_
    by_cases c2 : p1 = (9 : Int32)
    · refine g_icmpY (pc' := 24) C X0 d18_9 (teq c2).1 (by decide) (by decide) ?_
      refine g_iconst (pc' := 25) (v := (1 : Int32)) C X0 d18_24 rfl rfl ?_
      refine g_goto (pc' := 29) C X0 d18_25 (by decide) (by decide) ?_
      exact g_retN C X0 (by simp) d18_29 (by decide) (by decide) ⟨congrArg (fun z => some (Value.int z)) (Fiw_l1 p1 c1 c2).symm, N0, e0⟩
    · refine g_icmpN (pc' := 12) C X0 d18_9 (feq c2).1 rfl ?_
      refine g_iloadN (pc' := 13) C X0 d18_12 rfl rfl ?_
      refine g_bipush (pc' := 15) (v := (10 : Int32)) C X0 d18_13 rfl rfl ?_
      by_cases c3 : p1 = (10 : Int32)
      · refine g_icmpY (pc' := 24) C X0 d18_15 (teq c3).1 (by decide) (by decide) ?_
        refine g_iconst (pc' := 25) (v := (1 : Int32)) C X0 d18_24 rfl rfl ?_
        refine g_goto (pc' := 29) C X0 d18_25 (by decide) (by decide) ?_
        exact g_retN C X0 (by simp) d18_29 (by decide) (by decide) ⟨congrArg (fun z => some (Value.int z)) (Fiw_l2 p1 c1 c2 c3).symm, N0, e0⟩
      · refine g_icmpN (pc' := 18) C X0 d18_15 (feq c3).1 rfl ?_
        refine g_iloadN (pc' := 19) C X0 d18_18 rfl rfl ?_
        refine g_bipush (pc' := 21) (v := (13 : Int32)) C X0 d18_19 rfl rfl ?_
        by_cases c4 : p1 = (13 : Int32)
        · refine g_icmpN (pc' := 24) C X0 d18_21 (teq c4).2 rfl ?_
          refine g_iconst (pc' := 25) (v := (1 : Int32)) C X0 d18_24 rfl rfl ?_
          refine g_goto (pc' := 29) C X0 d18_25 (by decide) (by decide) ?_
          exact g_retN C X0 (by simp) d18_29 (by decide) (by decide) ⟨congrArg (fun z => some (Value.int z)) (Fiw_l3 p1 c1 c2 c3 c4).symm, N0, e0⟩
        · refine g_icmpY (pc' := 28) C X0 d18_21 (feq c4).2 (by decide) (by decide) ?_
          refine g_iconst (pc' := 29) (v := (0 : Int32)) C X0 d18_28 rfl rfl ?_
          exact g_retN C X0 (by simp) d18_29 (by decide) (by decide) ⟨congrArg (fun z => some (Value.int z)) (Fiw_l4 p1 c1 c2 c3 c4).symm, N0, e0⟩
def own_emL (lx : List Int32) (p2 p3 p4 p5 : Int32) : List Int32 := (if (Fws p4) = (0 : Int32) then (if p3 < (0 : Int32) then own_s lx p2 p4 else (if p3 < (p5 - (1 : Int32)) then own_s (own_s lx p2 (32 : Int32)) (p2 + (1 : Int32)) p4 else own_s lx p2 p4)) else lx)
def own_st (p : Int32 × List Int32) (x : Int32) : Int32 × List Int32 := if (Fws x) = (0 : Int32) then (0, if p.1 = (0 : Int32) then p.2 ++ [x] else if (0 : Int32) < own_n p.2 then p.2 ++ [(32 : Int32)] ++ [x] else p.2 ++ [x]) else (1, p.2)
def own_coll (x0 x1 x2 x3 x4 : Int32) : List Int32 := ([x0, x1, x2, x3, x4].foldl own_st ((0 : Int32), [])).2
theorem own_st1 {pd : Int32} {cs : List Int32} {x : Int32} (h : ¬ (Fws x) = (0 : Int32)) : own_st (pd, cs) x = (1, cs) := by unfold own_st; rw [if_neg h]
theorem own_st2 {pd : Int32} {cs : List Int32} {x : Int32} (h : (Fws x) = (0 : Int32)) (q : pd = (0 : Int32)) : own_st (pd, cs) x = (0, cs ++ [x]) := by unfold own_st; rw [if_pos h, if_pos q]
theorem own_st3 {pd : Int32} {cs : List Int32} {x : Int32} (h : (Fws x) = (0 : Int32)) (q : ¬ pd = (0 : Int32)) (r : (0 : Int32) < own_n cs) : own_st (pd, cs) x = (0, cs ++ [(32 : Int32)] ++ [x]) := by unfold own_st; rw [if_pos h, if_neg q, if_pos r]
theorem own_st4 {pd : Int32} {cs : List Int32} {x : Int32} (h : (Fws x) = (0 : Int32)) (q : ¬ pd = (0 : Int32)) (r : ¬ (0 : Int32) < own_n cs) : own_st (pd, cs) x = (0, cs ++ [x]) := by unfold own_st; rw [if_pos h, if_neg q, if_neg r]
theorem own_fs {p q : Int32 × List Int32} {x : Int32} {t R : List Int32} (e : own_st p x = q) (h : ((x :: t).foldl own_st p).2 = R) : (t.foldl own_st q).2 = R := by subst e; exact h

theorem ef_sbB (m : MethodId) (a1 : Addr) : entryFrame m #[(.ref a1)] 1 = mkF m 0 #[.val (.ref a1)] [] := by first | (simp [entryFrame, mkF, argsToLocals, Value.category]; done) | rfl
def Q_sbB (Z : State) (a1 : Addr) (v1_ : Addr) (xs : List Int32) (cs : Int32) (fm : Value) (h0 : Heap) (n0 : Nat) (v : Option Value) (h : Heap) (L : List Loc) : Prop := v = some (.int (own_n xs)) ∧ Fr n0 L ∧ h = h0
set_option maxRecDepth 65536 in
set_option maxHeartbeats 40000000 in
theorem rmsbB (l : Launch) (Z : State) (a0 : Array Value) (hw : ∀ d ∈ tables_1, d.before a0 Z = true) (ws : List Jvm.Cond) (a1 : Addr) (v1_ : Addr) (xs : List Int32) (cs : Int32) (fm : Value) (h0 : Heap) (n0 : Nat) (hF : FX Z h0 cs fm) (hB : Bld Z h0 a1 v1_ xs) :
    MetFree l (⟨"java/lang/StringBuilder", "length", "()I"⟩ : MethodName) (head1 (Jvm.Cond.code (⟨"java/lang/StringBuilder", "length", "()I"⟩ : MethodName) jdk_67_method_93_code 1 (some .int) :: ws) ({ frames := 1, cells := 0, slots := 0, locals := 12 } : Room)) (fun a U => a = #[(.ref a1)] ∧ Z.Warmed39 U.vm ∧ U.heap = h0) (fun _ _ _ _ _ => True) (fun _ U o U' => ∃ v L, o = .returned v ∧ Q_sbB Z a1 v1_ xs cs fm h0 n0 v U'.heap L ∧ FrameEnd U o U' L ({ frames := 1, cells := 0, slots := 0, locals := 12 } : Room).cells ({ frames := 1, cells := 0, slots := 0, locals := 12 } : Room).slots) := by
  refine met_of (Ls := #[.val (.ref a1)]) (plainFor_of_name (by first | (simp [plainName, overriddenIn]; done) | decide +kernel)) (fun m => ef_sbB m a1) ?_
  intro p e s m below meth c T0 C X0 e0
  obtain ⟨S_cs, hcs, S_fm, hfm, S_ad, S_hi, S_lo⟩ := id hF
  have N0 := Fr.nil n0
  rcases hB with ⟨hl_a1, hx_a1, E_a1, Fv_a1, Fm_a1, E_v1_, k_a1, n, hne, Fn_a1, ⟨Fc_a1, hy_a1, V_v1_⟩ | ⟨Fc_a1, V_v1_⟩⟩
  · have _q := trivial
    refine g_aloadN (pc' := 1) C X0 d28_0 rfl rfl rfl ?_
    refine g_callU (b := a1) (y := (⟨"java/lang/AbstractStringBuilder", "length", "()I"⟩ : MethodName)) (argsL := []) (st := []) (pc' := 4) C X0 d28_1 (wq hw 141 rfl) (wq hw 137 rfl) (own_nface (wq hw 108 rfl) rfl rfl (State.Warmed39.refl _)) (wq hw 100 rfl) (by decide) (wq hw 60 rfl) (wq hw 142 rfl) (by decide) (rmabl l Z a0 hw [] a1 n cs fm h0 n0 hF Fn_a1) (W := 0) (by decide) (by decide) (ce := 0) (sl := 0) rfl rfl (by decide) (by decide) rfl E_a1 e0 rfl pd_18 rfl (Nat.le_refl _) rfl (fun rv1 T1 L1 X1 Q1 => ?_)
    obtain ⟨q1, Nq1, e1⟩ := Q1
    have N1 := Fr.app N0 Nq1
    subst q1
    show Go p.tables e below _ (T1.setTop (mkF m 4 #[.val (.ref a1)] [(.int n)]))
    exact g_retI C X1 d28_4 (by decide) (by decide) ⟨(congrArg (fun z => some (Value.int z)) hne), N1, e1⟩
  · have _q := trivial
    refine g_aloadN (pc' := 1) C X0 d28_0 rfl rfl rfl ?_
    refine g_callU (b := a1) (y := (⟨"java/lang/AbstractStringBuilder", "length", "()I"⟩ : MethodName)) (argsL := []) (st := []) (pc' := 4) C X0 d28_1 (wq hw 141 rfl) (wq hw 137 rfl) (own_nface (wq hw 108 rfl) rfl rfl (State.Warmed39.refl _)) (wq hw 100 rfl) (by decide) (wq hw 60 rfl) (wq hw 142 rfl) (by decide) (rmabl l Z a0 hw [] a1 n cs fm h0 n0 hF Fn_a1) (W := 0) (by decide) (by decide) (ce := 0) (sl := 0) rfl rfl (by decide) (by decide) rfl E_a1 e0 rfl pd_18 rfl (Nat.le_refl _) rfl (fun rv2 T2 L2 X2 Q2 => ?_)
    obtain ⟨q2, Nq2, e2⟩ := Q2
    have N2 := Fr.app N0 Nq2
    subst q2
    show Go p.tables e below _ (T2.setTop (mkF m 4 #[.val (.ref a1)] [(.int n)]))
    exact g_retI C X2 d28_4 (by decide) (by decide) ⟨(congrArg (fun z => some (Value.int z)) hne), N2, e2⟩
theorem d8_0 : decode prog_50_method_2_code 0 = .ok (.new 7, 3) := by decide +kernel
theorem d8_3 : decode prog_50_method_2_code 3 = .ok (.dup, 1) := by decide +kernel
theorem d8_4 : decode prog_50_method_2_code 4 = .ok (.aload_n 0, 1) := by decide +kernel
theorem d8_5 : decode prog_50_method_2_code 5 = .ok (.invokevirtual 9, 3) := by decide +kernel
theorem d8_8 : decode prog_50_method_2_code 8 = .ok (.invokespecial 15, 3) := by decide +kernel
theorem d8_11 : decode prog_50_method_2_code 11 = .ok (.astore_n 1, 1) := by decide +kernel
theorem d8_12 : decode prog_50_method_2_code 12 = .ok (.iconst 0, 1) := by decide +kernel
theorem d8_13 : decode prog_50_method_2_code 13 = .ok (.istore_n 2, 1) := by decide +kernel
theorem d8_14 : decode prog_50_method_2_code 14 = .ok (.iconst 0, 1) := by decide +kernel
theorem d8_15 : decode prog_50_method_2_code 15 = .ok (.istore_n 3, 1) := by decide +kernel
theorem d8_16 : decode prog_50_method_2_code 16 = .ok (.iload_n 3, 1) := by decide +kernel
theorem d8_17 : decode prog_50_method_2_code 17 = .ok (.aload_n 0, 1) := by decide +kernel
theorem d8_18 : decode prog_50_method_2_code 18 = .ok (.invokevirtual 9, 3) := by decide +kernel
theorem d8_21 : decode prog_50_method_2_code 21 = .ok (.if_icmp .ge 56, 3) := by decide +kernel
theorem d8_77 : decode prog_50_method_2_code 77 = .ok (.aload_n 1, 1) := by decide +kernel
theorem d8_78 : decode prog_50_method_2_code 78 = .ok (.invokevirtual 33, 3) := by decide +kernel
theorem pd_28 : parseMethodDescriptor "()Ljava/lang/String;" = some ⟨[], some (.object "java/lang/String")⟩ := by decide +kernel
theorem d8_81 : decode prog_50_method_2_code 81 = .ok (.areturn, 1) := by decide +kernel
theorem d8_62 : decode prog_50_method_2_code 62 = .ok (.aload_n 1, 1) := by decide +kernel
theorem d8_63 : decode prog_50_method_2_code 63 = .ok (.iload 4, 2) := by decide +kernel
theorem d8_65 : decode prog_50_method_2_code 65 = .ok (.invokevirtual 29, 3) := by decide +kernel
theorem pd_29 : parseMethodDescriptor "(C)Ljava/lang/StringBuilder;" = some ⟨[.char], some (.object "java/lang/StringBuilder")⟩ := by decide +kernel
theorem d8_68 : decode prog_50_method_2_code 68 = .ok (.pop, 1) := by decide +kernel
theorem d8_69 : decode prog_50_method_2_code 69 = .ok (.iconst 0, 1) := by decide +kernel
theorem d8_70 : decode prog_50_method_2_code 70 = .ok (.istore_n 2, 1) := by decide +kernel
theorem d8_71 : decode prog_50_method_2_code 71 = .ok (.iinc 3 1, 3) := by decide +kernel
theorem d8_74 : decode prog_50_method_2_code 74 = .ok (.goto (-58), 3) := by decide +kernel
theorem d8_24 : decode prog_50_method_2_code 24 = .ok (.aload_n 0, 1) := by decide +kernel
theorem d8_25 : decode prog_50_method_2_code 25 = .ok (.iload_n 3, 1) := by decide +kernel
theorem d8_26 : decode prog_50_method_2_code 26 = .ok (.invokevirtual 18, 3) := by decide +kernel
theorem pd_30 : parseMethodDescriptor "(I)C" = some ⟨[.int], some .char⟩ := by decide +kernel
theorem d8_29 : decode prog_50_method_2_code 29 = .ok (.istore 4, 2) := by decide +kernel
theorem d8_31 : decode prog_50_method_2_code 31 = .ok (.iload 4, 2) := by decide +kernel
theorem d8_33 : decode prog_50_method_2_code 33 = .ok (.invokestatic 22, 3) := by decide +kernel
theorem d8_36 : decode prog_50_method_2_code 36 = .ok (.ifCond .eq 8, 3) := by decide +kernel
theorem d8_44 : decode prog_50_method_2_code 44 = .ok (.iload_n 2, 1) := by decide +kernel
theorem d8_45 : decode prog_50_method_2_code 45 = .ok (.ifCond .eq 17, 3) := by decide +kernel
theorem d8_48 : decode prog_50_method_2_code 48 = .ok (.aload_n 1, 1) := by decide +kernel
theorem d8_49 : decode prog_50_method_2_code 49 = .ok (.invokevirtual 28, 3) := by decide +kernel
theorem d8_52 : decode prog_50_method_2_code 52 = .ok (.ifCond .le 10, 3) := by decide +kernel
theorem d8_55 : decode prog_50_method_2_code 55 = .ok (.aload_n 1, 1) := by decide +kernel
theorem d8_56 : decode prog_50_method_2_code 56 = .ok (.bipush 32, 2) := by decide +kernel
theorem d8_58 : decode prog_50_method_2_code 58 = .ok (.invokevirtual 29, 3) := by decide +kernel
theorem d8_61 : decode prog_50_method_2_code 61 = .ok (.pop, 1) := by decide +kernel
theorem d8_39 : decode prog_50_method_2_code 39 = .ok (.iconst 1, 1) := by decide +kernel
theorem d8_40 : decode prog_50_method_2_code 40 = .ok (.istore_n 2, 1) := by decide +kernel
theorem d8_41 : decode prog_50_method_2_code 41 = .ok (.goto 30, 3) := by decide +kernel
theorem ef_col (m : MethodId) (a1 : Addr) : entryFrame m #[(.ref a1)] 5 = mkF m 0 #[.val (.ref a1), .unset, .unset, .unset, .unset] [] := by first | (simp [entryFrame, mkF, argsToLocals, Value.category]; done) | rfl
def Q_col (Z : State) (a1 : Addr) (v1_ : Addr) (x0 : Int32) (x1 : Int32) (x2 : Int32) (x3 : Int32) (x4 : Int32) (cs : Int32) (fm : Value) (h0 : Heap) (n0 : Nat) (vr : Option Value) (h : Heap) (L : List Loc) : Prop := ∃ r : Addr, ∃ w : Addr, (vr = some (.ref r)) ∧ (Fr n0 L) ∧ (Keep h0 h []) ∧ (h0.size ≤ r) ∧ (h0.size ≤ w) ∧ (n0 ≤ r) ∧ (n0 ≤ w) ∧ (Str Z h r w (own_coll x0 x1 x2 x3 x4))
set_option maxRecDepth 65536 in
set_option maxHeartbeats 40000000 in
theorem rmcol (l : Launch) (Z : State) (a0 : Array Value) (hw : ∀ d ∈ tables_1, d.before a0 Z = true) (ws : List Jvm.Cond) (a1 : Addr) (v1_ : Addr) (x0 : Int32) (x1 : Int32) (x2 : Int32) (x3 : Int32) (x4 : Int32) (cs : Int32) (fm : Value) (h0 : Heap) (n0 : Nat) (Z0 : n0 ≤ h0.size) (hF : FX Z h0 cs fm) (hS : Str Z h0 a1 v1_ [x0, x1, x2, x3, x4]) (hc0 : own_ch x0) (hc1 : own_ch x1) (hc2 : own_ch x2) (hc3 : own_ch x3) (hc4 : own_ch x4) :
    MetFree l (⟨"org/vouchsafe/XsdWhitespace", "collapse", "(Ljava/lang/String;)Ljava/lang/String;"⟩ : MethodName) (head1 (Jvm.Cond.code (⟨"org/vouchsafe/XsdWhitespace", "collapse", "(Ljava/lang/String;)Ljava/lang/String;"⟩ : MethodName) prog_50_method_2_code 5 (some (.object "java/lang/String")) :: ws) ({ frames := 8, cells := 14, slots := 123, locals := 115 } : Room)) (fun a U => a = #[(.ref a1)] ∧ Z.Warmed39 U.vm ∧ U.heap = h0) (fun _ _ _ _ _ => True) (fun _ U o U' => ∃ v L, o = .returned v ∧ Q_col Z a1 v1_ x0 x1 x2 x3 x4 cs fm h0 n0 v U'.heap L ∧ FrameEnd U o U' L ({ frames := 8, cells := 14, slots := 123, locals := 115 } : Room).cells ({ frames := 8, cells := 14, slots := 123, locals := 115 } : Room).slots) := by
  refine met_of (Ls := #[.val (.ref a1), .unset, .unset, .unset, .unset]) (plainFor_of_name (by first | (simp [plainName, overriddenIn]; done) | decide +kernel)) (fun m => ef_col m a1) ?_
  intro p e s m below meth c T0 C X0 e0
  obtain ⟨S_cs, hcs, S_fm, hfm, S_ad, S_hi, S_lo⟩ := id hF
  have N0 := Fr.nil n0
  have K0 : Keep h0 h0 [] := Keep.refl h0 _
  refine g_new (pc' := 3) C X0 d8_0 (wq hw 40 rfl) (wq hw 41 rfl) (wq hw 42 rfl) e0 (ce := 1) (sl := 4) rfl rfl (by decide) (by decide) rfl (fun T1 h1 b1 g1 X1 e1 E1 A1 D1 => ?_)
  have ne1_2 : ¬ (a1 = b1) := Nat.ne_of_lt (Nat.lt_of_lt_of_le (Str_lt0 hS) (Nat.le_of_eq g1.symm))
  have ne1_3 : ¬ (v1_ = b1) := Nat.ne_of_lt (Nat.lt_of_lt_of_le (Str_lt1 hS) (Nat.le_of_eq g1.symm))
  have FX_1 := FX_ext hF E1
  have hS_1 := Str_ext hS E1
  have gn_b1 : n0 ≤ b1 := Nat.le_trans Z0 (Nat.le_of_eq g1.symm)
  have Z1 := Nat.le_trans Z0 E1.1
  have sz_b1 : h0.size ≤ b1 := Nat.le_trans K0.1 (Nat.le_of_eq g1.symm)
  have K1 := K0.ext E1
  have F1_value : Fld Z h1 b1 "java/lang/AbstractStringBuilder" "value" "[B" .null := D1 (Or.inl (wq hw 65 rfl)) (ty := (.array .byte)) (by decide)
  have F1_coder : Fld Z h1 b1 "java/lang/AbstractStringBuilder" "coder" "B" (.int (0 : Int32)) := D1 (Or.inl (wq hw 67 rfl)) (ty := .byte) (by decide)
  have F1_count : Fld Z h1 b1 "java/lang/AbstractStringBuilder" "count" "I" (.int (0 : Int32)) := D1 (Or.inl (wq hw 104 rfl)) (ty := .int) (by decide)
  have F1_maybeLatin1 : Fld Z h1 b1 "java/lang/AbstractStringBuilder" "maybeLatin1" "Z" (.int (0 : Int32)) := D1 (Or.inl (wq hw 228 rfl)) (ty := .boolean) (by decide)
  refine g_dup (pc' := 4) C X1 d8_3 rfl rfl ?_
  refine g_aloadN (pc' := 5) C X1 d8_4 rfl rfl rfl ?_
  refine g_callV (b := a1) (z := (⟨"java/lang/String", "length", "()I"⟩ : MethodName)) (y := (⟨"java/lang/String", "length", "()I"⟩ : MethodName)) (argsL := []) (st := [(.ref b1), (.ref b1)]) (pc' := 8) C X1 d8_5 (wq hw 43 rfl) (wq hw 44 rfl) (notFace_of_selects (args := #[]) (mvT C.hZ (wq hw 46 rfl))) (wq hw 46 rfl) (wq hw 45 rfl) (wq hw 9 rfl) (wq hw 47 rfl) (by decide) (rmsl l Z a0 hw [] a1 v1_ ([x0, x1, x2, x3, x4]) cs fm h1 n0 FX_1 hS_1) (W := 2) (by decide) (by decide) (ce := 1) (sl := 4) rfl rfl (by decide) (by decide) rfl (Str_exa hS_1) e1 rfl pd_18 rfl (Nat.le_refl _) rfl (fun rv4 T4 L4 X4 Q4 => ?_)
  obtain ⟨q4, Nq4, e4⟩ := Q4
  have N4 := Fr.app N0 Nq4
  subst q4
  show Go p.tables e below _ (T4.setTop (mkF m 8 #[.val (.ref a1), .unset, .unset, .unset, .unset] [(.int (own_n [x0, x1, x2, x3, x4])), (.ref b1), (.ref b1)]))
  refine own_cast (show T4.setTop (mkF m 8 #[.val (.ref a1), .unset, .unset, .unset, .unset] [(.int (own_n [x0, x1, x2, x3, x4])), (.ref b1), (.ref b1)]) = T4.setTop (mkF m 8 #[.val (.ref a1), .unset, .unset, .unset, .unset] [(.int (5 : Int32)), (.ref b1), (.ref b1)]) from by rw [(show own_n [x0, x1, x2, x3, x4] = (5 : Int32) from rfl)]) ?_
  refine g_callI (b := b1) (y := (⟨"java/lang/StringBuilder", "<init>", "(I)V"⟩ : MethodName)) (argsL := [(.int (5 : Int32))]) (st := [(.ref b1)]) (pc' := 11) C X4 rfl d8_8 (wq hw 53 rfl) (wq hw 54 rfl) (wq hw 42 rfl) (wq hw 55 rfl) (by decide) (rmsbi l Z a0 hw [] b1 cs fm h1 n0 Z1 FX_1 A1 F1_value F1_maybeLatin1 F1_count F1_coder gn_b1) (W := 1) (by decide) (by decide) (ce := 2) (sl := 9) rfl rfl (by decide) (by decide) rfl e4 rfl pd_7 rfl (Nat.le_refl _) rfl (fun rv5 T5 L5 X5 Q5 => ?_)
  obtain ⟨w5, q5, Nq5, Kq5, sz5_w, gn_w5, P5_0⟩ := Q5
  have N5 := Fr.app N4 Nq5
  have ne5_6 : ¬ (b1 = w5) := Nat.ne_of_lt (Nat.lt_of_lt_of_le A1.lt sz5_w)
  have ne5_7 : ¬ (a1 = w5) := Nat.ne_of_lt (Nat.lt_of_lt_of_le (Str_lt0 hS_1) sz5_w)
  have ne5_8 : ¬ (v1_ = w5) := Nat.ne_of_lt (Nat.lt_of_lt_of_le (Str_lt1 hS_1) sz5_w)
  have FX_5 := FX_keep FX_1 Kq5 ((allS (by obtain ⟨c_, _, h1_, _, _, h2_, _⟩ := A1; exact ⟨c_, h1_, h2_⟩) all0))
  have hS_5 := Str_keep hS_1 Kq5 (ninS ne1_2 nin0) (ninS ne1_3 nin0)
  have A1_5 := A1.keep Kq5
  have Z5 := Nat.le_trans Z1 Kq5.1
  have sz_w5 := Nat.le_trans K1.1 sz5_w
  have K5 := K1.trans Kq5 (allS (Or.inr sz_b1) all0)
  subst q5
  show Go p.tables e below _ (T5.setTop (mkF m 11 #[.val (.ref a1), .unset, .unset, .unset, .unset] [(.ref b1)]))
  refine g_astoreN (pc' := 12) (Ls' := #[.val (.ref a1), .val (.ref b1), .unset, .unset, .unset]) C X5 d8_11 rfl rfl rfl ?_
  refine g_iconst (pc' := 13) (v := (0 : Int32)) C X5 d8_12 rfl rfl ?_
  refine g_istoreN (pc' := 14) (Ls' := #[.val (.ref a1), .val (.ref b1), .val (.int (0 : Int32)), .unset, .unset]) C X5 d8_13 rfl rfl ?_
  refine g_iconst (pc' := 15) (v := (0 : Int32)) C X5 d8_14 rfl rfl ?_
  refine g_istoreN (pc' := 16) (Ls' := #[.val (.ref a1), .val (.ref b1), .val (.int (0 : Int32)), .val (.int (0 : Int32)), .unset]) C X5 d8_15 rfl rfl ?_
  have J5 : ∀ (TJ5 : State) (HJ5 : Heap) (LJ5 : List Loc) (vJ5 : Addr) (cJ5 : List Int32) (dJ5 : Int32), Stand p l e ({ frames := 8, cells := 14, slots := 123, locals := 115 } : Room) s m #[.ref a1] below meth c TJ5 LJ5 12 109 → TJ5.heap = HJ5 → Fr n0 LJ5 → n0 ≤ HJ5.size → Keep h0 HJ5 [] → FX Z HJ5 cs fm → Str Z HJ5 a1 v1_ [x0, x1, x2, x3, x4] → Bld Z HJ5 b1 vJ5 cJ5 → h0.size ≤ vJ5 → n0 ≤ vJ5 → ¬ (b1 = vJ5) → ¬ (a1 = vJ5) → ¬ (v1_ = vJ5) → (List.foldl own_st (dJ5, cJ5) []).2 = (own_coll x0 x1 x2 x3 x4) → cJ5.length ≤ 5 → (¬ (dJ5 = (0 : Int32)) → cJ5.length + 1 ≤ 5) → Go p.tables e below (End s (Q_col Z a1 v1_ x0 x1 x2 x3 x4 cs fm h0 n0) ({ frames := 8, cells := 14, slots := 123, locals := 115 } : Room).cells ({ frames := 8, cells := 14, slots := 123, locals := 115 } : Room).slots) (TJ5.setTop (mkF m 16 #[.val (.ref a1), .val (.ref b1), .val (.int dJ5), .val (.int (5 : Int32)), .val (.int x4)] [])) := by
    intro TJ5 HJ5 LJ5 vJ5 cJ5 dJ5 XJ5 eJ5 NJ5 ZJ5 KJ5 FXJ5 hSJ5 hBJ5 sz_vJ5 gn_vJ5 nbJ5 naJ5 nvJ5 hfJ5 hkJ5 hmJ5
    refine g_iloadN (pc' := 17) C XJ5 d8_16 rfl rfl ?_
    refine g_aloadN (pc' := 18) C XJ5 d8_17 rfl rfl rfl ?_
    refine g_callV (b := a1) (z := (⟨"java/lang/String", "length", "()I"⟩ : MethodName)) (y := (⟨"java/lang/String", "length", "()I"⟩ : MethodName)) (argsL := []) (st := [(.int (5 : Int32))]) (pc' := 21) C XJ5 d8_18 (wq hw 43 rfl) (wq hw 44 rfl) (notFace_of_selects (args := #[]) (mvT C.hZ (wq hw 46 rfl))) (wq hw 46 rfl) (wq hw 45 rfl) (wq hw 9 rfl) (wq hw 47 rfl) (by decide) (rmsl l Z a0 hw [] a1 v1_ ([x0, x1, x2, x3, x4]) cs fm HJ5 n0 FXJ5 hSJ5) (W := 1) (by decide) (by decide) (ce := 12) (sl := 109) rfl rfl (by decide) (by decide) rfl (Str_exa hSJ5) eJ5 rfl pd_18 rfl (Nat.le_refl _) rfl (fun rv9 T9 L9 X9 Q9 => ?_)
    obtain ⟨q9, Nq9, e9⟩ := Q9
    have N9 := Fr.app NJ5 Nq9
    subst q9
    show Go p.tables e below _ (T9.setTop (mkF m 21 #[.val (.ref a1), .val (.ref b1), .val (.int dJ5), .val (.int (5 : Int32)), .val (.int x4)] [(.int (own_n [x0, x1, x2, x3, x4])), (.int (5 : Int32))]))
    refine own_cast (show T9.setTop (mkF m 21 #[.val (.ref a1), .val (.ref b1), .val (.int dJ5), .val (.int (5 : Int32)), .val (.int x4)] [(.int (own_n [x0, x1, x2, x3, x4])), (.int (5 : Int32))]) = T9.setTop (mkF m 21 #[.val (.ref a1), .val (.ref b1), .val (.int dJ5), .val (.int (5 : Int32)), .val (.int x4)] [(.int (5 : Int32)), (.int (5 : Int32))]) from by rw [(show own_n [x0, x1, x2, x3, x4] = (5 : Int32) from rfl)]) ?_
    refine g_icmpY (pc' := 77) C X9 d8_21 (flt (show ¬ ((5 : Int32) < (5 : Int32)) from (by decide))).2.1 (by decide) (by decide) ?_
    refine g_aloadN (pc' := 78) C X9 d8_77 rfl rfl rfl ?_
    refine g_callV (b := b1) (z := (⟨"java/lang/StringBuilder", "toString", "()Ljava/lang/String;"⟩ : MethodName)) (y := (⟨"java/lang/StringBuilder", "toString", "()Ljava/lang/String;"⟩ : MethodName)) (argsL := []) (st := []) (pc' := 81) C X9 d8_78 (wq hw 118 rfl) (wq hw 119 rfl) (notFace_of_selects (args := #[]) (mvT C.hZ (wq hw 121 rfl))) (wq hw 121 rfl) (wq hw 120 rfl) (wq hw 42 rfl) (wq hw 122 rfl) (by decide) (rmtos l Z a0 hw [] b1 vJ5 cJ5 cs fm HJ5 n0 ZJ5 FXJ5 hBJ5) (W := 0) (by decide) (by decide) (ce := 14) (sl := 123) rfl rfl (by decide) (by decide) rfl (Bld_exa hBJ5) e9 rfl pd_28 rfl (Nat.le_refl _) rfl (fun rv10 T10 L10 X10 Q10 => ?_)
    obtain ⟨r10, w10, q10, Nq10, Kq10, sz10_r, sz10_w, gn_r10, gn_w10, P10_0⟩ := Q10
    have N10 := Fr.app N9 Nq10
    have ne10_11 : ¬ (a1 = r10) := Nat.ne_of_lt (Nat.lt_of_lt_of_le (Str_lt0 hSJ5) sz10_r)
    have ne10_12 : ¬ (v1_ = r10) := Nat.ne_of_lt (Nat.lt_of_lt_of_le (Str_lt1 hSJ5) sz10_r)
    have ne10_13 : ¬ (b1 = r10) := Nat.ne_of_lt (Nat.lt_of_lt_of_le (Bld_lt0 hBJ5) sz10_r)
    have ne10_14 : ¬ (vJ5 = r10) := Nat.ne_of_lt (Nat.lt_of_lt_of_le (Bld_lt1 hBJ5) sz10_r)
    have ne10_15 : ¬ (a1 = w10) := Nat.ne_of_lt (Nat.lt_of_lt_of_le (Str_lt0 hSJ5) sz10_w)
    have ne10_16 : ¬ (v1_ = w10) := Nat.ne_of_lt (Nat.lt_of_lt_of_le (Str_lt1 hSJ5) sz10_w)
    have ne10_17 : ¬ (b1 = w10) := Nat.ne_of_lt (Nat.lt_of_lt_of_le (Bld_lt0 hBJ5) sz10_w)
    have ne10_18 : ¬ (vJ5 = w10) := Nat.ne_of_lt (Nat.lt_of_lt_of_le (Bld_lt1 hBJ5) sz10_w)
    have FX_10 := FX_keep FXJ5 Kq10 (fun _ q => nomatch q)
    have hSJ5_10 := Str_keep hSJ5 Kq10 nin0 nin0
    have hBJ5_10 := Bld_keep hBJ5 Kq10 nin0 nin0
    have Z10 := Nat.le_trans ZJ5 Kq10.1
    have sz_r10 := Nat.le_trans KJ5.1 sz10_r
    have sz_w10 := Nat.le_trans KJ5.1 sz10_w
    have K10 := KJ5.trans Kq10 all0
    subst q10
    show Go p.tables e below _ (T10.setTop (mkF m 81 #[.val (.ref a1), .val (.ref b1), .val (.int dJ5), .val (.int (5 : Int32)), .val (.int x4)] [(.ref r10)]))
    exact g_retA C X10 rfl rfl rfl d8_81 (by decide) (by decide) ⟨r10, w10, rfl, N10, K10, sz_r10, sz_w10, gn_r10, gn_w10, ((show cJ5 = (own_coll x0 x1 x2 x3 x4) from hfJ5) ▸ P10_0)⟩
  have J4 : ∀ (TJ4 : State) (HJ4 : Heap) (LJ4 : List Loc) (vJ4 : Addr) (cJ4 : List Int32) (dJ4 : Int32), Stand p l e ({ frames := 8, cells := 14, slots := 123, locals := 115 } : Room) s m #[.ref a1] below meth c TJ4 LJ4 10 89 → TJ4.heap = HJ4 → Fr n0 LJ4 → n0 ≤ HJ4.size → Keep h0 HJ4 [] → FX Z HJ4 cs fm → Str Z HJ4 a1 v1_ [x0, x1, x2, x3, x4] → Bld Z HJ4 b1 vJ4 cJ4 → h0.size ≤ vJ4 → n0 ≤ vJ4 → ¬ (b1 = vJ4) → ¬ (a1 = vJ4) → ¬ (v1_ = vJ4) → (List.foldl own_st (dJ4, cJ4) [x4]).2 = (own_coll x0 x1 x2 x3 x4) → cJ4.length ≤ 4 → (¬ (dJ4 = (0 : Int32)) → cJ4.length + 1 ≤ 4) → Go p.tables e below (End s (Q_col Z a1 v1_ x0 x1 x2 x3 x4 cs fm h0 n0) ({ frames := 8, cells := 14, slots := 123, locals := 115 } : Room).cells ({ frames := 8, cells := 14, slots := 123, locals := 115 } : Room).slots) (TJ4.setTop (mkF m 16 #[.val (.ref a1), .val (.ref b1), .val (.int dJ4), .val (.int (4 : Int32)), .val (.int x3)] [])) := by
    intro TJ4 HJ4 LJ4 vJ4 cJ4 dJ4 XJ4 eJ4 NJ4 ZJ4 KJ4 FXJ4 hSJ4 hBJ4 sz_vJ4 gn_vJ4 nbJ4 naJ4 nvJ4 hfJ4 hkJ4 hmJ4
    have M4 : ∀ (TM4 : State) (HM4 : Heap) (LM4 : List Loc) (vM4 : Addr) (cM4 : List Int32) (dM4 : Int32), Stand p l e ({ frames := 8, cells := 14, slots := 123, locals := 115 } : Room) s m #[.ref a1] below meth c TM4 LM4 11 99 → TM4.heap = HM4 → Fr n0 LM4 → n0 ≤ HM4.size → Keep h0 HM4 [] → FX Z HM4 cs fm → Str Z HM4 a1 v1_ [x0, x1, x2, x3, x4] → Bld Z HM4 b1 vM4 cM4 → h0.size ≤ vM4 → n0 ≤ vM4 → ¬ (b1 = vM4) → ¬ (a1 = vM4) → ¬ (v1_ = vM4) → (List.foldl own_st ((0 : Int32), cM4 ++ [x4]) []).2 = (own_coll x0 x1 x2 x3 x4) → cM4.length ≤ 4 → Go p.tables e below (End s (Q_col Z a1 v1_ x0 x1 x2 x3 x4 cs fm h0 n0) ({ frames := 8, cells := 14, slots := 123, locals := 115 } : Room).cells ({ frames := 8, cells := 14, slots := 123, locals := 115 } : Room).slots) (TM4.setTop (mkF m 62 #[.val (.ref a1), .val (.ref b1), .val (.int dM4), .val (.int (4 : Int32)), .val (.int x4)] [])) := by
      intro TM4 HM4 LM4 vM4 cM4 dM4 XM4 eM4 NM4 ZM4 KM4 FXM4 hSM4 hBM4 sz_vM4 gn_vM4 nbM4 naM4 nvM4 hfM4 hkM4
      refine g_aloadN (pc' := 63) C XM4 d8_62 rfl rfl rfl ?_
      refine g_iload (pc' := 65) C XM4 d8_63 rfl rfl ?_
      refine g_callV (b := b1) (z := (⟨"java/lang/StringBuilder", "append", "(C)Ljava/lang/StringBuilder;"⟩ : MethodName)) (y := (⟨"java/lang/StringBuilder", "append", "(C)Ljava/lang/StringBuilder;"⟩ : MethodName)) (argsL := [(.int x4)]) (st := []) (pc' := 68) C XM4 d8_65 (wq hw 93 rfl) (wq hw 94 rfl) (notFace_of_selects (args := #[]) (mvT C.hZ (wq hw 96 rfl))) (wq hw 96 rfl) (wq hw 95 rfl) (wq hw 42 rfl) (wq hw 97 rfl) (by decide) (rmaps l Z a0 hw [] b1 x4 vM4 cM4 cs fm HM4 n0 ZM4 FXM4 hBM4 (by have := hkM4; omega) hc4 gn_b1 gn_vM4 nbM4) (W := 0) (by decide) (by decide) (ce := 12) (sl := 109) rfl rfl (by decide) (by decide) rfl (Bld_exa hBM4) eM4 rfl pd_29 rfl (Nat.le_refl _) rfl (fun rv19 T19 L19 X19 Q19 => ?_)
      obtain ⟨w19, q19, Nq19, Kq19, P19_0, xp19_0, xp19_1, xp19_2⟩ := Q19
      have N19 := Fr.app NM4 Nq19
      have ne19_20 : ¬ (a1 = w19) := xp19_0 a1 (Str_lt0 hSM4) naM4
      have ne19_21 : ¬ (v1_ = w19) := xp19_0 v1_ (Str_lt1 hSM4) nvM4
      have sz_w19 := own_msz xp19_0 sz_vM4 KM4.1
      have gn_w19 := xp19_1
      have FX_19 := FX_keep FXM4 Kq19 ((allS (Bld_pl0 hBM4) (allS (Bld_pl1 hBM4) all0)))
      have hSM4_19 := Str_keep hSM4 Kq19 (ninS ne1_2 (ninS naM4 nin0)) (ninS ne1_3 (ninS nvM4 nin0))
      have Z19 := Nat.le_trans ZM4 Kq19.1
      have K19 := KM4.trans Kq19 (allS (Or.inr sz_b1) (allS (Or.inr sz_vM4) all0))
      subst q19
      show Go p.tables e below _ (T19.setTop (mkF m 68 #[.val (.ref a1), .val (.ref b1), .val (.int dM4), .val (.int (4 : Int32)), .val (.int x4)] [(.ref b1)]))
      refine g_pop (pc' := 69) C X19 d8_68 rfl rfl ?_
      refine g_iconst (pc' := 70) (v := (0 : Int32)) C X19 d8_69 rfl rfl ?_
      refine g_istoreN (pc' := 71) (Ls' := #[.val (.ref a1), .val (.ref b1), .val (.int (0 : Int32)), .val (.int (4 : Int32)), .val (.int x4)]) C X19 d8_70 rfl rfl ?_
      refine g_iinc (pc' := 74) (Ls' := #[.val (.ref a1), .val (.ref b1), .val (.int (0 : Int32)), .val (.int ((4 : Int32) + (1 : Int32))), .val (.int x4)]) C X19 d8_71 rfl rfl rfl ?_
      refine own_cast (show T19.setTop (mkF m 74 #[.val (.ref a1), .val (.ref b1), .val (.int (0 : Int32)), .val (.int ((4 : Int32) + (1 : Int32))), .val (.int x4)] []) = T19.setTop (mkF m 74 #[.val (.ref a1), .val (.ref b1), .val (.int (0 : Int32)), .val (.int (5 : Int32)), .val (.int x4)] []) from by rw [(show ((4 : Int32) + (1 : Int32)) = (5 : Int32) from by decide)]) ?_
      refine g_goto (pc' := 16) C X19 d8_74 (by decide) (by decide) ?_
      exact J5 _ _ _ w19 (cM4 ++ [x4]) (0 : Int32) (X19.mono (by decide) (by decide)) rfl N19 Z19 K19 FX_19 hSM4_19 P19_0 sz_w19 gn_w19 xp19_2 ne19_20 ne19_21 hfM4 (by have := hkM4; simp only [List.length_append, List.length_singleton]; omega) (fun q => absurd rfl q)
    refine g_iloadN (pc' := 17) C XJ4 d8_16 rfl rfl ?_
    refine g_aloadN (pc' := 18) C XJ4 d8_17 rfl rfl rfl ?_
    refine g_callV (b := a1) (z := (⟨"java/lang/String", "length", "()I"⟩ : MethodName)) (y := (⟨"java/lang/String", "length", "()I"⟩ : MethodName)) (argsL := []) (st := [(.int (4 : Int32))]) (pc' := 21) C XJ4 d8_18 (wq hw 43 rfl) (wq hw 44 rfl) (notFace_of_selects (args := #[]) (mvT C.hZ (wq hw 46 rfl))) (wq hw 46 rfl) (wq hw 45 rfl) (wq hw 9 rfl) (wq hw 47 rfl) (by decide) (rmsl l Z a0 hw [] a1 v1_ ([x0, x1, x2, x3, x4]) cs fm HJ4 n0 FXJ4 hSJ4) (W := 1) (by decide) (by decide) (ce := 10) (sl := 89) rfl rfl (by decide) (by decide) rfl (Str_exa hSJ4) eJ4 rfl pd_18 rfl (Nat.le_refl _) rfl (fun rv22 T22 L22 X22 Q22 => ?_)
    obtain ⟨q22, Nq22, e22⟩ := Q22
    have N22 := Fr.app NJ4 Nq22
    subst q22
    show Go p.tables e below _ (T22.setTop (mkF m 21 #[.val (.ref a1), .val (.ref b1), .val (.int dJ4), .val (.int (4 : Int32)), .val (.int x3)] [(.int (own_n [x0, x1, x2, x3, x4])), (.int (4 : Int32))]))
    refine own_cast (show T22.setTop (mkF m 21 #[.val (.ref a1), .val (.ref b1), .val (.int dJ4), .val (.int (4 : Int32)), .val (.int x3)] [(.int (own_n [x0, x1, x2, x3, x4])), (.int (4 : Int32))]) = T22.setTop (mkF m 21 #[.val (.ref a1), .val (.ref b1), .val (.int dJ4), .val (.int (4 : Int32)), .val (.int x3)] [(.int (5 : Int32)), (.int (4 : Int32))]) from by rw [(show own_n [x0, x1, x2, x3, x4] = (5 : Int32) from rfl)]) ?_
    refine g_icmpN (pc' := 24) C X22 d8_21 (tlt (show (4 : Int32) < (5 : Int32) from (by decide))).2.1 rfl ?_
    refine g_aloadN (pc' := 25) C X22 d8_24 rfl rfl rfl ?_
    refine g_iloadN (pc' := 26) C X22 d8_25 rfl rfl ?_
    refine g_callV (b := a1) (z := (⟨"java/lang/String", "charAt", "(I)C"⟩ : MethodName)) (y := (⟨"java/lang/String", "charAt", "(I)C"⟩ : MethodName)) (argsL := [(.int (4 : Int32))]) (st := []) (pc' := 29) C X22 d8_26 (wq hw 68 rfl) (wq hw 69 rfl) (notFace_of_selects (args := #[]) (mvT C.hZ (wq hw 71 rfl))) (wq hw 71 rfl) (wq hw 70 rfl) (wq hw 9 rfl) (wq hw 72 rfl) (by decide) (rmsca l Z a0 hw [] a1 (4 : Int32) v1_ ([x0, x1, x2, x3, x4]) cs fm HJ4 n0 FXJ4 hSJ4 (by decide) (show (4 : Int32) < (5 : Int32) from by decide)) (W := 0) (by decide) (by decide) (ce := 10) (sl := 89) rfl rfl (by decide) (by decide) rfl (Str_exa hSJ4) e22 rfl pd_30 rfl (Nat.le_refl _) rfl (fun rv23 T23 L23 X23 Q23 => ?_)
    obtain ⟨q23, Nq23, e23⟩ := Q23
    have N23 := Fr.app N22 Nq23
    subst q23
    show Go p.tables e below _ (T23.setTop (mkF m 29 #[.val (.ref a1), .val (.ref b1), .val (.int dJ4), .val (.int (4 : Int32)), .val (.int x3)] [(.int (own_g [x0, x1, x2, x3, x4] (4 : Int32)))]))
    refine own_cast (show T23.setTop (mkF m 29 #[.val (.ref a1), .val (.ref b1), .val (.int dJ4), .val (.int (4 : Int32)), .val (.int x3)] [(.int (own_g [x0, x1, x2, x3, x4] (4 : Int32)))]) = T23.setTop (mkF m 29 #[.val (.ref a1), .val (.ref b1), .val (.int dJ4), .val (.int (4 : Int32)), .val (.int x3)] [(.int x4)]) from by rw [(show own_g [x0, x1, x2, x3, x4] (4 : Int32) = x4 from rfl)]) ?_
    refine g_istore (pc' := 31) (Ls' := #[.val (.ref a1), .val (.ref b1), .val (.int dJ4), .val (.int (4 : Int32)), .val (.int x4)]) C X23 d8_29 rfl rfl ?_
    refine g_iload (pc' := 33) C X23 d8_31 rfl rfl ?_
    refine g_callS (y := (⟨"org/vouchsafe/XsdWhitespace", "isWhitespace", "(C)Z"⟩ : MethodName)) (argsL := [(.int x4)]) (st := []) (pc' := 36) C X23 d8_33 (wq hw 90 rfl) (wq hw 91 rfl) (wq hw 38 rfl) (wq hw 92 rfl) (by decide) (rmiw l Z a0 hw [] x4 cs fm HJ4 n0 FXJ4) (W := 0) (by decide) (by decide) (ce := 10) (sl := 89) rfl rfl (by decide) (by decide) rfl e23 rfl pd_15 rfl (Nat.le_refl _) rfl (fun rv24 T24 L24 X24 Q24 => ?_)
    obtain ⟨q24, Nq24, e24⟩ := Q24
    have N24 := Fr.app N23 Nq24
    subst q24
    show Go p.tables e below _ (T24.setTop (mkF m 36 #[.val (.ref a1), .val (.ref b1), .val (.int dJ4), .val (.int (4 : Int32)), .val (.int x4)] [(.int (Fiw x4))]))
    by_cases c25 : (Fiw x4) = (0 : Int32)
    · refine g_ifY (pc' := 44) C X24 d8_36 (teq c25).1 (by decide) (by decide) ?_
      refine g_iloadN (pc' := 45) C X24 d8_44 rfl rfl ?_
      by_cases c26 : dJ4 = (0 : Int32)
      · refine g_ifY (pc' := 62) C X24 d8_45 (teq c26).1 (by decide) (by decide) ?_
        exact M4 _ _ _ vJ4 cJ4 dJ4 (X24.mono (by decide) (by decide)) e24 N24 ZJ4 KJ4 FXJ4 hSJ4 hBJ4 sz_vJ4 gn_vJ4 nbJ4 naJ4 nvJ4 (own_fs (own_st2 (show (Fws x4) = (0 : Int32) from c25) c26) hfJ4) hkJ4
      · refine g_ifN (pc' := 48) C X24 d8_45 (feq c26).1 rfl ?_
        refine g_aloadN (pc' := 49) C X24 d8_48 rfl rfl rfl ?_
        refine g_callV (b := b1) (z := (⟨"java/lang/StringBuilder", "length", "()I"⟩ : MethodName)) (y := (⟨"java/lang/StringBuilder", "length", "()I"⟩ : MethodName)) (argsL := []) (st := []) (pc' := 52) C X24 d8_49 (wq hw 171 rfl) (wq hw 172 rfl) (notFace_of_selects (args := #[]) (mvT C.hZ (wq hw 173 rfl))) (wq hw 173 rfl) (wq hw 139 rfl) (wq hw 42 rfl) (wq hw 140 rfl) (by decide) (rmsbB l Z a0 hw [] b1 vJ4 cJ4 cs fm HJ4 n0 FXJ4 hBJ4) (W := 0) (by decide) (by decide) (ce := 10) (sl := 89) rfl rfl (by decide) (by decide) rfl (Bld_exa hBJ4) e24 rfl pd_18 rfl (Nat.le_refl _) rfl (fun rv27 T27 L27 X27 Q27 => ?_)
        obtain ⟨q27, Nq27, e27⟩ := Q27
        have N27 := Fr.app N24 Nq27
        subst q27
        show Go p.tables e below _ (T27.setTop (mkF m 52 #[.val (.ref a1), .val (.ref b1), .val (.int dJ4), .val (.int (4 : Int32)), .val (.int x4)] [(.int (own_n cJ4))]))
        by_cases c28 : (0 : Int32) < (own_n cJ4)
        · refine g_ifN (pc' := 55) C X27 d8_52 (tlt c28).2.2.2 rfl ?_
          refine g_aloadN (pc' := 56) C X27 d8_55 rfl rfl rfl ?_
          refine g_bipush (pc' := 58) (v := (32 : Int32)) C X27 d8_56 rfl rfl ?_
          refine g_callV (b := b1) (z := (⟨"java/lang/StringBuilder", "append", "(C)Ljava/lang/StringBuilder;"⟩ : MethodName)) (y := (⟨"java/lang/StringBuilder", "append", "(C)Ljava/lang/StringBuilder;"⟩ : MethodName)) (argsL := [(.int (32 : Int32))]) (st := []) (pc' := 61) C X27 d8_58 (wq hw 93 rfl) (wq hw 94 rfl) (notFace_of_selects (args := #[]) (mvT C.hZ (wq hw 96 rfl))) (wq hw 96 rfl) (wq hw 95 rfl) (wq hw 42 rfl) (wq hw 97 rfl) (by decide) (rmaps l Z a0 hw [] b1 (32 : Int32) vJ4 cJ4 cs fm HJ4 n0 ZJ4 FXJ4 hBJ4 (by have := hkJ4; omega) ⟨by decide, by decide⟩ gn_b1 gn_vJ4 nbJ4) (W := 0) (by decide) (by decide) (ce := 11) (sl := 99) rfl rfl (by decide) (by decide) rfl (Bld_exa hBJ4) e27 rfl pd_29 rfl (Nat.le_refl _) rfl (fun rv29 T29 L29 X29 Q29 => ?_)
          obtain ⟨w29, q29, Nq29, Kq29, P29_0, xp29_0, xp29_1, xp29_2⟩ := Q29
          have N29 := Fr.app N27 Nq29
          have ne29_30 : ¬ (a1 = w29) := xp29_0 a1 (Str_lt0 hSJ4) naJ4
          have ne29_31 : ¬ (v1_ = w29) := xp29_0 v1_ (Str_lt1 hSJ4) nvJ4
          have sz_w29 := own_msz xp29_0 sz_vJ4 KJ4.1
          have gn_w29 := xp29_1
          have FX_29 := FX_keep FXJ4 Kq29 ((allS (Bld_pl0 hBJ4) (allS (Bld_pl1 hBJ4) all0)))
          have hSJ4_29 := Str_keep hSJ4 Kq29 (ninS ne1_2 (ninS naJ4 nin0)) (ninS ne1_3 (ninS nvJ4 nin0))
          have Z29 := Nat.le_trans ZJ4 Kq29.1
          have K29 := KJ4.trans Kq29 (allS (Or.inr sz_b1) (allS (Or.inr sz_vJ4) all0))
          subst q29
          show Go p.tables e below _ (T29.setTop (mkF m 61 #[.val (.ref a1), .val (.ref b1), .val (.int dJ4), .val (.int (4 : Int32)), .val (.int x4)] [(.ref b1)]))
          refine g_pop (pc' := 62) C X29 d8_61 rfl rfl ?_
          exact M4 _ _ _ w29 (cJ4 ++ [(32 : Int32)]) dJ4 (X29.mono (by decide) (by decide)) rfl N29 Z29 K29 FX_29 hSJ4_29 P29_0 sz_w29 gn_w29 xp29_2 ne29_30 ne29_31 (own_fs (own_st3 (show (Fws x4) = (0 : Int32) from c25) c26 c28) hfJ4) (by have := hmJ4 c26; simp only [List.length_append, List.length_singleton]; omega)
        · refine g_ifY (pc' := 62) C X27 d8_52 (flt c28).2.2.2 (by decide) (by decide) ?_
          exact M4 _ _ _ vJ4 cJ4 dJ4 (X27.mono (by decide) (by decide)) e27 N27 ZJ4 KJ4 FXJ4 hSJ4 hBJ4 sz_vJ4 gn_vJ4 nbJ4 naJ4 nvJ4 (own_fs (own_st4 (show (Fws x4) = (0 : Int32) from c25) c26 c28) hfJ4) hkJ4
    · refine g_ifN (pc' := 39) C X24 d8_36 (feq c25).1 rfl ?_
      refine g_iconst (pc' := 40) (v := (1 : Int32)) C X24 d8_39 rfl rfl ?_
      refine g_istoreN (pc' := 41) (Ls' := #[.val (.ref a1), .val (.ref b1), .val (.int (1 : Int32)), .val (.int (4 : Int32)), .val (.int x4)]) C X24 d8_40 rfl rfl ?_
      refine g_goto (pc' := 71) C X24 d8_41 (by decide) (by decide) ?_
      refine g_iinc (pc' := 74) (Ls' := #[.val (.ref a1), .val (.ref b1), .val (.int (1 : Int32)), .val (.int ((4 : Int32) + (1 : Int32))), .val (.int x4)]) C X24 d8_71 rfl rfl rfl ?_
      refine own_cast (show T24.setTop (mkF m 74 #[.val (.ref a1), .val (.ref b1), .val (.int (1 : Int32)), .val (.int ((4 : Int32) + (1 : Int32))), .val (.int x4)] []) = T24.setTop (mkF m 74 #[.val (.ref a1), .val (.ref b1), .val (.int (1 : Int32)), .val (.int (5 : Int32)), .val (.int x4)] []) from by rw [(show ((4 : Int32) + (1 : Int32)) = (5 : Int32) from by decide)]) ?_
      refine g_goto (pc' := 16) C X24 d8_74 (by decide) (by decide) ?_
      exact J5 _ _ _ vJ4 cJ4 (1 : Int32) (X24.mono (by decide) (by decide)) e24 N24 ZJ4 KJ4 FXJ4 hSJ4 hBJ4 sz_vJ4 gn_vJ4 nbJ4 naJ4 nvJ4 (own_fs (own_st1 (show ¬ (Fws x4) = (0 : Int32) from c25)) hfJ4) (by have := hkJ4; omega) (fun _ => by have := hkJ4; omega)
  have J3 : ∀ (TJ3 : State) (HJ3 : Heap) (LJ3 : List Loc) (vJ3 : Addr) (cJ3 : List Int32) (dJ3 : Int32), Stand p l e ({ frames := 8, cells := 14, slots := 123, locals := 115 } : Room) s m #[.ref a1] below meth c TJ3 LJ3 8 69 → TJ3.heap = HJ3 → Fr n0 LJ3 → n0 ≤ HJ3.size → Keep h0 HJ3 [] → FX Z HJ3 cs fm → Str Z HJ3 a1 v1_ [x0, x1, x2, x3, x4] → Bld Z HJ3 b1 vJ3 cJ3 → h0.size ≤ vJ3 → n0 ≤ vJ3 → ¬ (b1 = vJ3) → ¬ (a1 = vJ3) → ¬ (v1_ = vJ3) → (List.foldl own_st (dJ3, cJ3) [x3, x4]).2 = (own_coll x0 x1 x2 x3 x4) → cJ3.length ≤ 3 → (¬ (dJ3 = (0 : Int32)) → cJ3.length + 1 ≤ 3) → Go p.tables e below (End s (Q_col Z a1 v1_ x0 x1 x2 x3 x4 cs fm h0 n0) ({ frames := 8, cells := 14, slots := 123, locals := 115 } : Room).cells ({ frames := 8, cells := 14, slots := 123, locals := 115 } : Room).slots) (TJ3.setTop (mkF m 16 #[.val (.ref a1), .val (.ref b1), .val (.int dJ3), .val (.int (3 : Int32)), .val (.int x2)] [])) := by
    intro TJ3 HJ3 LJ3 vJ3 cJ3 dJ3 XJ3 eJ3 NJ3 ZJ3 KJ3 FXJ3 hSJ3 hBJ3 sz_vJ3 gn_vJ3 nbJ3 naJ3 nvJ3 hfJ3 hkJ3 hmJ3
    have M3 : ∀ (TM3 : State) (HM3 : Heap) (LM3 : List Loc) (vM3 : Addr) (cM3 : List Int32) (dM3 : Int32), Stand p l e ({ frames := 8, cells := 14, slots := 123, locals := 115 } : Room) s m #[.ref a1] below meth c TM3 LM3 9 79 → TM3.heap = HM3 → Fr n0 LM3 → n0 ≤ HM3.size → Keep h0 HM3 [] → FX Z HM3 cs fm → Str Z HM3 a1 v1_ [x0, x1, x2, x3, x4] → Bld Z HM3 b1 vM3 cM3 → h0.size ≤ vM3 → n0 ≤ vM3 → ¬ (b1 = vM3) → ¬ (a1 = vM3) → ¬ (v1_ = vM3) → (List.foldl own_st ((0 : Int32), cM3 ++ [x3]) [x4]).2 = (own_coll x0 x1 x2 x3 x4) → cM3.length ≤ 3 → Go p.tables e below (End s (Q_col Z a1 v1_ x0 x1 x2 x3 x4 cs fm h0 n0) ({ frames := 8, cells := 14, slots := 123, locals := 115 } : Room).cells ({ frames := 8, cells := 14, slots := 123, locals := 115 } : Room).slots) (TM3.setTop (mkF m 62 #[.val (.ref a1), .val (.ref b1), .val (.int dM3), .val (.int (3 : Int32)), .val (.int x3)] [])) := by
      intro TM3 HM3 LM3 vM3 cM3 dM3 XM3 eM3 NM3 ZM3 KM3 FXM3 hSM3 hBM3 sz_vM3 gn_vM3 nbM3 naM3 nvM3 hfM3 hkM3
      refine g_aloadN (pc' := 63) C XM3 d8_62 rfl rfl rfl ?_
      refine g_iload (pc' := 65) C XM3 d8_63 rfl rfl ?_
      refine g_callV (b := b1) (z := (⟨"java/lang/StringBuilder", "append", "(C)Ljava/lang/StringBuilder;"⟩ : MethodName)) (y := (⟨"java/lang/StringBuilder", "append", "(C)Ljava/lang/StringBuilder;"⟩ : MethodName)) (argsL := [(.int x3)]) (st := []) (pc' := 68) C XM3 d8_65 (wq hw 93 rfl) (wq hw 94 rfl) (notFace_of_selects (args := #[]) (mvT C.hZ (wq hw 96 rfl))) (wq hw 96 rfl) (wq hw 95 rfl) (wq hw 42 rfl) (wq hw 97 rfl) (by decide) (rmaps l Z a0 hw [] b1 x3 vM3 cM3 cs fm HM3 n0 ZM3 FXM3 hBM3 (by have := hkM3; omega) hc3 gn_b1 gn_vM3 nbM3) (W := 0) (by decide) (by decide) (ce := 10) (sl := 89) rfl rfl (by decide) (by decide) rfl (Bld_exa hBM3) eM3 rfl pd_29 rfl (Nat.le_refl _) rfl (fun rv32 T32 L32 X32 Q32 => ?_)
      obtain ⟨w32, q32, Nq32, Kq32, P32_0, xp32_0, xp32_1, xp32_2⟩ := Q32
      have N32 := Fr.app NM3 Nq32
      have ne32_33 : ¬ (a1 = w32) := xp32_0 a1 (Str_lt0 hSM3) naM3
      have ne32_34 : ¬ (v1_ = w32) := xp32_0 v1_ (Str_lt1 hSM3) nvM3
      have sz_w32 := own_msz xp32_0 sz_vM3 KM3.1
      have gn_w32 := xp32_1
      have FX_32 := FX_keep FXM3 Kq32 ((allS (Bld_pl0 hBM3) (allS (Bld_pl1 hBM3) all0)))
      have hSM3_32 := Str_keep hSM3 Kq32 (ninS ne1_2 (ninS naM3 nin0)) (ninS ne1_3 (ninS nvM3 nin0))
      have Z32 := Nat.le_trans ZM3 Kq32.1
      have K32 := KM3.trans Kq32 (allS (Or.inr sz_b1) (allS (Or.inr sz_vM3) all0))
      subst q32
      show Go p.tables e below _ (T32.setTop (mkF m 68 #[.val (.ref a1), .val (.ref b1), .val (.int dM3), .val (.int (3 : Int32)), .val (.int x3)] [(.ref b1)]))
      refine g_pop (pc' := 69) C X32 d8_68 rfl rfl ?_
      refine g_iconst (pc' := 70) (v := (0 : Int32)) C X32 d8_69 rfl rfl ?_
      refine g_istoreN (pc' := 71) (Ls' := #[.val (.ref a1), .val (.ref b1), .val (.int (0 : Int32)), .val (.int (3 : Int32)), .val (.int x3)]) C X32 d8_70 rfl rfl ?_
      refine g_iinc (pc' := 74) (Ls' := #[.val (.ref a1), .val (.ref b1), .val (.int (0 : Int32)), .val (.int ((3 : Int32) + (1 : Int32))), .val (.int x3)]) C X32 d8_71 rfl rfl rfl ?_
      refine own_cast (show T32.setTop (mkF m 74 #[.val (.ref a1), .val (.ref b1), .val (.int (0 : Int32)), .val (.int ((3 : Int32) + (1 : Int32))), .val (.int x3)] []) = T32.setTop (mkF m 74 #[.val (.ref a1), .val (.ref b1), .val (.int (0 : Int32)), .val (.int (4 : Int32)), .val (.int x3)] []) from by rw [(show ((3 : Int32) + (1 : Int32)) = (4 : Int32) from by decide)]) ?_
      refine g_goto (pc' := 16) C X32 d8_74 (by decide) (by decide) ?_
      exact J4 _ _ _ w32 (cM3 ++ [x3]) (0 : Int32) (X32.mono (by decide) (by decide)) rfl N32 Z32 K32 FX_32 hSM3_32 P32_0 sz_w32 gn_w32 xp32_2 ne32_33 ne32_34 hfM3 (by have := hkM3; simp only [List.length_append, List.length_singleton]; omega) (fun q => absurd rfl q)
    refine g_iloadN (pc' := 17) C XJ3 d8_16 rfl rfl ?_
    refine g_aloadN (pc' := 18) C XJ3 d8_17 rfl rfl rfl ?_
    refine g_callV (b := a1) (z := (⟨"java/lang/String", "length", "()I"⟩ : MethodName)) (y := (⟨"java/lang/String", "length", "()I"⟩ : MethodName)) (argsL := []) (st := [(.int (3 : Int32))]) (pc' := 21) C XJ3 d8_18 (wq hw 43 rfl) (wq hw 44 rfl) (notFace_of_selects (args := #[]) (mvT C.hZ (wq hw 46 rfl))) (wq hw 46 rfl) (wq hw 45 rfl) (wq hw 9 rfl) (wq hw 47 rfl) (by decide) (rmsl l Z a0 hw [] a1 v1_ ([x0, x1, x2, x3, x4]) cs fm HJ3 n0 FXJ3 hSJ3) (W := 1) (by decide) (by decide) (ce := 8) (sl := 69) rfl rfl (by decide) (by decide) rfl (Str_exa hSJ3) eJ3 rfl pd_18 rfl (Nat.le_refl _) rfl (fun rv35 T35 L35 X35 Q35 => ?_)
    obtain ⟨q35, Nq35, e35⟩ := Q35
    have N35 := Fr.app NJ3 Nq35
    subst q35
    show Go p.tables e below _ (T35.setTop (mkF m 21 #[.val (.ref a1), .val (.ref b1), .val (.int dJ3), .val (.int (3 : Int32)), .val (.int x2)] [(.int (own_n [x0, x1, x2, x3, x4])), (.int (3 : Int32))]))
    refine own_cast (show T35.setTop (mkF m 21 #[.val (.ref a1), .val (.ref b1), .val (.int dJ3), .val (.int (3 : Int32)), .val (.int x2)] [(.int (own_n [x0, x1, x2, x3, x4])), (.int (3 : Int32))]) = T35.setTop (mkF m 21 #[.val (.ref a1), .val (.ref b1), .val (.int dJ3), .val (.int (3 : Int32)), .val (.int x2)] [(.int (5 : Int32)), (.int (3 : Int32))]) from by rw [(show own_n [x0, x1, x2, x3, x4] = (5 : Int32) from rfl)]) ?_
    refine g_icmpN (pc' := 24) C X35 d8_21 (tlt (show (3 : Int32) < (5 : Int32) from (by decide))).2.1 rfl ?_
    refine g_aloadN (pc' := 25) C X35 d8_24 rfl rfl rfl ?_
    refine g_iloadN (pc' := 26) C X35 d8_25 rfl rfl ?_
    refine g_callV (b := a1) (z := (⟨"java/lang/String", "charAt", "(I)C"⟩ : MethodName)) (y := (⟨"java/lang/String", "charAt", "(I)C"⟩ : MethodName)) (argsL := [(.int (3 : Int32))]) (st := []) (pc' := 29) C X35 d8_26 (wq hw 68 rfl) (wq hw 69 rfl) (notFace_of_selects (args := #[]) (mvT C.hZ (wq hw 71 rfl))) (wq hw 71 rfl) (wq hw 70 rfl) (wq hw 9 rfl) (wq hw 72 rfl) (by decide) (rmsca l Z a0 hw [] a1 (3 : Int32) v1_ ([x0, x1, x2, x3, x4]) cs fm HJ3 n0 FXJ3 hSJ3 (by decide) (show (3 : Int32) < (5 : Int32) from by decide)) (W := 0) (by decide) (by decide) (ce := 8) (sl := 69) rfl rfl (by decide) (by decide) rfl (Str_exa hSJ3) e35 rfl pd_30 rfl (Nat.le_refl _) rfl (fun rv36 T36 L36 X36 Q36 => ?_)
    obtain ⟨q36, Nq36, e36⟩ := Q36
    have N36 := Fr.app N35 Nq36
    subst q36
    show Go p.tables e below _ (T36.setTop (mkF m 29 #[.val (.ref a1), .val (.ref b1), .val (.int dJ3), .val (.int (3 : Int32)), .val (.int x2)] [(.int (own_g [x0, x1, x2, x3, x4] (3 : Int32)))]))
    refine own_cast (show T36.setTop (mkF m 29 #[.val (.ref a1), .val (.ref b1), .val (.int dJ3), .val (.int (3 : Int32)), .val (.int x2)] [(.int (own_g [x0, x1, x2, x3, x4] (3 : Int32)))]) = T36.setTop (mkF m 29 #[.val (.ref a1), .val (.ref b1), .val (.int dJ3), .val (.int (3 : Int32)), .val (.int x2)] [(.int x3)]) from by rw [(show own_g [x0, x1, x2, x3, x4] (3 : Int32) = x3 from rfl)]) ?_
    refine g_istore (pc' := 31) (Ls' := #[.val (.ref a1), .val (.ref b1), .val (.int dJ3), .val (.int (3 : Int32)), .val (.int x3)]) C X36 d8_29 rfl rfl ?_
    refine g_iload (pc' := 33) C X36 d8_31 rfl rfl ?_
    refine g_callS (y := (⟨"org/vouchsafe/XsdWhitespace", "isWhitespace", "(C)Z"⟩ : MethodName)) (argsL := [(.int x3)]) (st := []) (pc' := 36) C X36 d8_33 (wq hw 90 rfl) (wq hw 91 rfl) (wq hw 38 rfl) (wq hw 92 rfl) (by decide) (rmiw l Z a0 hw [] x3 cs fm HJ3 n0 FXJ3) (W := 0) (by decide) (by decide) (ce := 8) (sl := 69) rfl rfl (by decide) (by decide) rfl e36 rfl pd_15 rfl (Nat.le_refl _) rfl (fun rv37 T37 L37 X37 Q37 => ?_)
    obtain ⟨q37, Nq37, e37⟩ := Q37
    have N37 := Fr.app N36 Nq37
    subst q37
    show Go p.tables e below _ (T37.setTop (mkF m 36 #[.val (.ref a1), .val (.ref b1), .val (.int dJ3), .val (.int (3 : Int32)), .val (.int x3)] [(.int (Fiw x3))]))
    by_cases c38 : (Fiw x3) = (0 : Int32)
    · refine g_ifY (pc' := 44) C X37 d8_36 (teq c38).1 (by decide) (by decide) ?_
      refine g_iloadN (pc' := 45) C X37 d8_44 rfl rfl ?_
      by_cases c39 : dJ3 = (0 : Int32)
      · refine g_ifY (pc' := 62) C X37 d8_45 (teq c39).1 (by decide) (by decide) ?_
        exact M3 _ _ _ vJ3 cJ3 dJ3 (X37.mono (by decide) (by decide)) e37 N37 ZJ3 KJ3 FXJ3 hSJ3 hBJ3 sz_vJ3 gn_vJ3 nbJ3 naJ3 nvJ3 (own_fs (own_st2 (show (Fws x3) = (0 : Int32) from c38) c39) hfJ3) hkJ3
      · refine g_ifN (pc' := 48) C X37 d8_45 (feq c39).1 rfl ?_
        refine g_aloadN (pc' := 49) C X37 d8_48 rfl rfl rfl ?_
        refine g_callV (b := b1) (z := (⟨"java/lang/StringBuilder", "length", "()I"⟩ : MethodName)) (y := (⟨"java/lang/StringBuilder", "length", "()I"⟩ : MethodName)) (argsL := []) (st := []) (pc' := 52) C X37 d8_49 (wq hw 171 rfl) (wq hw 172 rfl) (notFace_of_selects (args := #[]) (mvT C.hZ (wq hw 173 rfl))) (wq hw 173 rfl) (wq hw 139 rfl) (wq hw 42 rfl) (wq hw 140 rfl) (by decide) (rmsbB l Z a0 hw [] b1 vJ3 cJ3 cs fm HJ3 n0 FXJ3 hBJ3) (W := 0) (by decide) (by decide) (ce := 8) (sl := 69) rfl rfl (by decide) (by decide) rfl (Bld_exa hBJ3) e37 rfl pd_18 rfl (Nat.le_refl _) rfl (fun rv40 T40 L40 X40 Q40 => ?_)
        obtain ⟨q40, Nq40, e40⟩ := Q40
        have N40 := Fr.app N37 Nq40
        subst q40
        show Go p.tables e below _ (T40.setTop (mkF m 52 #[.val (.ref a1), .val (.ref b1), .val (.int dJ3), .val (.int (3 : Int32)), .val (.int x3)] [(.int (own_n cJ3))]))
        by_cases c41 : (0 : Int32) < (own_n cJ3)
        · refine g_ifN (pc' := 55) C X40 d8_52 (tlt c41).2.2.2 rfl ?_
          refine g_aloadN (pc' := 56) C X40 d8_55 rfl rfl rfl ?_
          refine g_bipush (pc' := 58) (v := (32 : Int32)) C X40 d8_56 rfl rfl ?_
          refine g_callV (b := b1) (z := (⟨"java/lang/StringBuilder", "append", "(C)Ljava/lang/StringBuilder;"⟩ : MethodName)) (y := (⟨"java/lang/StringBuilder", "append", "(C)Ljava/lang/StringBuilder;"⟩ : MethodName)) (argsL := [(.int (32 : Int32))]) (st := []) (pc' := 61) C X40 d8_58 (wq hw 93 rfl) (wq hw 94 rfl) (notFace_of_selects (args := #[]) (mvT C.hZ (wq hw 96 rfl))) (wq hw 96 rfl) (wq hw 95 rfl) (wq hw 42 rfl) (wq hw 97 rfl) (by decide) (rmaps l Z a0 hw [] b1 (32 : Int32) vJ3 cJ3 cs fm HJ3 n0 ZJ3 FXJ3 hBJ3 (by have := hkJ3; omega) ⟨by decide, by decide⟩ gn_b1 gn_vJ3 nbJ3) (W := 0) (by decide) (by decide) (ce := 9) (sl := 79) rfl rfl (by decide) (by decide) rfl (Bld_exa hBJ3) e40 rfl pd_29 rfl (Nat.le_refl _) rfl (fun rv42 T42 L42 X42 Q42 => ?_)
          obtain ⟨w42, q42, Nq42, Kq42, P42_0, xp42_0, xp42_1, xp42_2⟩ := Q42
          have N42 := Fr.app N40 Nq42
          have ne42_43 : ¬ (a1 = w42) := xp42_0 a1 (Str_lt0 hSJ3) naJ3
          have ne42_44 : ¬ (v1_ = w42) := xp42_0 v1_ (Str_lt1 hSJ3) nvJ3
          have sz_w42 := own_msz xp42_0 sz_vJ3 KJ3.1
          have gn_w42 := xp42_1
          have FX_42 := FX_keep FXJ3 Kq42 ((allS (Bld_pl0 hBJ3) (allS (Bld_pl1 hBJ3) all0)))
          have hSJ3_42 := Str_keep hSJ3 Kq42 (ninS ne1_2 (ninS naJ3 nin0)) (ninS ne1_3 (ninS nvJ3 nin0))
          have Z42 := Nat.le_trans ZJ3 Kq42.1
          have K42 := KJ3.trans Kq42 (allS (Or.inr sz_b1) (allS (Or.inr sz_vJ3) all0))
          subst q42
          show Go p.tables e below _ (T42.setTop (mkF m 61 #[.val (.ref a1), .val (.ref b1), .val (.int dJ3), .val (.int (3 : Int32)), .val (.int x3)] [(.ref b1)]))
          refine g_pop (pc' := 62) C X42 d8_61 rfl rfl ?_
          exact M3 _ _ _ w42 (cJ3 ++ [(32 : Int32)]) dJ3 (X42.mono (by decide) (by decide)) rfl N42 Z42 K42 FX_42 hSJ3_42 P42_0 sz_w42 gn_w42 xp42_2 ne42_43 ne42_44 (own_fs (own_st3 (show (Fws x3) = (0 : Int32) from c38) c39 c41) hfJ3) (by have := hmJ3 c39; simp only [List.length_append, List.length_singleton]; omega)
        · refine g_ifY (pc' := 62) C X40 d8_52 (flt c41).2.2.2 (by decide) (by decide) ?_
          exact M3 _ _ _ vJ3 cJ3 dJ3 (X40.mono (by decide) (by decide)) e40 N40 ZJ3 KJ3 FXJ3 hSJ3 hBJ3 sz_vJ3 gn_vJ3 nbJ3 naJ3 nvJ3 (own_fs (own_st4 (show (Fws x3) = (0 : Int32) from c38) c39 c41) hfJ3) hkJ3
    · refine g_ifN (pc' := 39) C X37 d8_36 (feq c38).1 rfl ?_
      refine g_iconst (pc' := 40) (v := (1 : Int32)) C X37 d8_39 rfl rfl ?_
      refine g_istoreN (pc' := 41) (Ls' := #[.val (.ref a1), .val (.ref b1), .val (.int (1 : Int32)), .val (.int (3 : Int32)), .val (.int x3)]) C X37 d8_40 rfl rfl ?_
      refine g_goto (pc' := 71) C X37 d8_41 (by decide) (by decide) ?_
      refine g_iinc (pc' := 74) (Ls' := #[.val (.ref a1), .val (.ref b1), .val (.int (1 : Int32)), .val (.int ((3 : Int32) + (1 : Int32))), .val (.int x3)]) C X37 d8_71 rfl rfl rfl ?_
      refine own_cast (show T37.setTop (mkF m 74 #[.val (.ref a1), .val (.ref b1), .val (.int (1 : Int32)), .val (.int ((3 : Int32) + (1 : Int32))), .val (.int x3)] []) = T37.setTop (mkF m 74 #[.val (.ref a1), .val (.ref b1), .val (.int (1 : Int32)), .val (.int (4 : Int32)), .val (.int x3)] []) from by rw [(show ((3 : Int32) + (1 : Int32)) = (4 : Int32) from by decide)]) ?_
      refine g_goto (pc' := 16) C X37 d8_74 (by decide) (by decide) ?_
      exact J4 _ _ _ vJ3 cJ3 (1 : Int32) (X37.mono (by decide) (by decide)) e37 N37 ZJ3 KJ3 FXJ3 hSJ3 hBJ3 sz_vJ3 gn_vJ3 nbJ3 naJ3 nvJ3 (own_fs (own_st1 (show ¬ (Fws x3) = (0 : Int32) from c38)) hfJ3) (by have := hkJ3; omega) (fun _ => by have := hkJ3; omega)
  have J2 : ∀ (TJ2 : State) (HJ2 : Heap) (LJ2 : List Loc) (vJ2 : Addr) (cJ2 : List Int32) (dJ2 : Int32), Stand p l e ({ frames := 8, cells := 14, slots := 123, locals := 115 } : Room) s m #[.ref a1] below meth c TJ2 LJ2 6 49 → TJ2.heap = HJ2 → Fr n0 LJ2 → n0 ≤ HJ2.size → Keep h0 HJ2 [] → FX Z HJ2 cs fm → Str Z HJ2 a1 v1_ [x0, x1, x2, x3, x4] → Bld Z HJ2 b1 vJ2 cJ2 → h0.size ≤ vJ2 → n0 ≤ vJ2 → ¬ (b1 = vJ2) → ¬ (a1 = vJ2) → ¬ (v1_ = vJ2) → (List.foldl own_st (dJ2, cJ2) [x2, x3, x4]).2 = (own_coll x0 x1 x2 x3 x4) → cJ2.length ≤ 2 → (¬ (dJ2 = (0 : Int32)) → cJ2.length + 1 ≤ 2) → Go p.tables e below (End s (Q_col Z a1 v1_ x0 x1 x2 x3 x4 cs fm h0 n0) ({ frames := 8, cells := 14, slots := 123, locals := 115 } : Room).cells ({ frames := 8, cells := 14, slots := 123, locals := 115 } : Room).slots) (TJ2.setTop (mkF m 16 #[.val (.ref a1), .val (.ref b1), .val (.int dJ2), .val (.int (2 : Int32)), .val (.int x1)] [])) := by
    intro TJ2 HJ2 LJ2 vJ2 cJ2 dJ2 XJ2 eJ2 NJ2 ZJ2 KJ2 FXJ2 hSJ2 hBJ2 sz_vJ2 gn_vJ2 nbJ2 naJ2 nvJ2 hfJ2 hkJ2 hmJ2
    have M2 : ∀ (TM2 : State) (HM2 : Heap) (LM2 : List Loc) (vM2 : Addr) (cM2 : List Int32) (dM2 : Int32), Stand p l e ({ frames := 8, cells := 14, slots := 123, locals := 115 } : Room) s m #[.ref a1] below meth c TM2 LM2 7 59 → TM2.heap = HM2 → Fr n0 LM2 → n0 ≤ HM2.size → Keep h0 HM2 [] → FX Z HM2 cs fm → Str Z HM2 a1 v1_ [x0, x1, x2, x3, x4] → Bld Z HM2 b1 vM2 cM2 → h0.size ≤ vM2 → n0 ≤ vM2 → ¬ (b1 = vM2) → ¬ (a1 = vM2) → ¬ (v1_ = vM2) → (List.foldl own_st ((0 : Int32), cM2 ++ [x2]) [x3, x4]).2 = (own_coll x0 x1 x2 x3 x4) → cM2.length ≤ 2 → Go p.tables e below (End s (Q_col Z a1 v1_ x0 x1 x2 x3 x4 cs fm h0 n0) ({ frames := 8, cells := 14, slots := 123, locals := 115 } : Room).cells ({ frames := 8, cells := 14, slots := 123, locals := 115 } : Room).slots) (TM2.setTop (mkF m 62 #[.val (.ref a1), .val (.ref b1), .val (.int dM2), .val (.int (2 : Int32)), .val (.int x2)] [])) := by
      intro TM2 HM2 LM2 vM2 cM2 dM2 XM2 eM2 NM2 ZM2 KM2 FXM2 hSM2 hBM2 sz_vM2 gn_vM2 nbM2 naM2 nvM2 hfM2 hkM2
      refine g_aloadN (pc' := 63) C XM2 d8_62 rfl rfl rfl ?_
      refine g_iload (pc' := 65) C XM2 d8_63 rfl rfl ?_
      refine g_callV (b := b1) (z := (⟨"java/lang/StringBuilder", "append", "(C)Ljava/lang/StringBuilder;"⟩ : MethodName)) (y := (⟨"java/lang/StringBuilder", "append", "(C)Ljava/lang/StringBuilder;"⟩ : MethodName)) (argsL := [(.int x2)]) (st := []) (pc' := 68) C XM2 d8_65 (wq hw 93 rfl) (wq hw 94 rfl) (notFace_of_selects (args := #[]) (mvT C.hZ (wq hw 96 rfl))) (wq hw 96 rfl) (wq hw 95 rfl) (wq hw 42 rfl) (wq hw 97 rfl) (by decide) (rmaps l Z a0 hw [] b1 x2 vM2 cM2 cs fm HM2 n0 ZM2 FXM2 hBM2 (by have := hkM2; omega) hc2 gn_b1 gn_vM2 nbM2) (W := 0) (by decide) (by decide) (ce := 8) (sl := 69) rfl rfl (by decide) (by decide) rfl (Bld_exa hBM2) eM2 rfl pd_29 rfl (Nat.le_refl _) rfl (fun rv45 T45 L45 X45 Q45 => ?_)
      obtain ⟨w45, q45, Nq45, Kq45, P45_0, xp45_0, xp45_1, xp45_2⟩ := Q45
      have N45 := Fr.app NM2 Nq45
      have ne45_46 : ¬ (a1 = w45) := xp45_0 a1 (Str_lt0 hSM2) naM2
      have ne45_47 : ¬ (v1_ = w45) := xp45_0 v1_ (Str_lt1 hSM2) nvM2
      have sz_w45 := own_msz xp45_0 sz_vM2 KM2.1
      have gn_w45 := xp45_1
      have FX_45 := FX_keep FXM2 Kq45 ((allS (Bld_pl0 hBM2) (allS (Bld_pl1 hBM2) all0)))
      have hSM2_45 := Str_keep hSM2 Kq45 (ninS ne1_2 (ninS naM2 nin0)) (ninS ne1_3 (ninS nvM2 nin0))
      have Z45 := Nat.le_trans ZM2 Kq45.1
      have K45 := KM2.trans Kq45 (allS (Or.inr sz_b1) (allS (Or.inr sz_vM2) all0))
      subst q45
      show Go p.tables e below _ (T45.setTop (mkF m 68 #[.val (.ref a1), .val (.ref b1), .val (.int dM2), .val (.int (2 : Int32)), .val (.int x2)] [(.ref b1)]))
      refine g_pop (pc' := 69) C X45 d8_68 rfl rfl ?_
      refine g_iconst (pc' := 70) (v := (0 : Int32)) C X45 d8_69 rfl rfl ?_
      refine g_istoreN (pc' := 71) (Ls' := #[.val (.ref a1), .val (.ref b1), .val (.int (0 : Int32)), .val (.int (2 : Int32)), .val (.int x2)]) C X45 d8_70 rfl rfl ?_
      refine g_iinc (pc' := 74) (Ls' := #[.val (.ref a1), .val (.ref b1), .val (.int (0 : Int32)), .val (.int ((2 : Int32) + (1 : Int32))), .val (.int x2)]) C X45 d8_71 rfl rfl rfl ?_
      refine own_cast (show T45.setTop (mkF m 74 #[.val (.ref a1), .val (.ref b1), .val (.int (0 : Int32)), .val (.int ((2 : Int32) + (1 : Int32))), .val (.int x2)] []) = T45.setTop (mkF m 74 #[.val (.ref a1), .val (.ref b1), .val (.int (0 : Int32)), .val (.int (3 : Int32)), .val (.int x2)] []) from by rw [(show ((2 : Int32) + (1 : Int32)) = (3 : Int32) from by decide)]) ?_
      refine g_goto (pc' := 16) C X45 d8_74 (by decide) (by decide) ?_
      exact J3 _ _ _ w45 (cM2 ++ [x2]) (0 : Int32) (X45.mono (by decide) (by decide)) rfl N45 Z45 K45 FX_45 hSM2_45 P45_0 sz_w45 gn_w45 xp45_2 ne45_46 ne45_47 hfM2 (by have := hkM2; simp only [List.length_append, List.length_singleton]; omega) (fun q => absurd rfl q)
    refine g_iloadN (pc' := 17) C XJ2 d8_16 rfl rfl ?_
    refine g_aloadN (pc' := 18) C XJ2 d8_17 rfl rfl rfl ?_
    refine g_callV (b := a1) (z := (⟨"java/lang/String", "length", "()I"⟩ : MethodName)) (y := (⟨"java/lang/String", "length", "()I"⟩ : MethodName)) (argsL := []) (st := [(.int (2 : Int32))]) (pc' := 21) C XJ2 d8_18 (wq hw 43 rfl) (wq hw 44 rfl) (notFace_of_selects (args := #[]) (mvT C.hZ (wq hw 46 rfl))) (wq hw 46 rfl) (wq hw 45 rfl) (wq hw 9 rfl) (wq hw 47 rfl) (by decide) (rmsl l Z a0 hw [] a1 v1_ ([x0, x1, x2, x3, x4]) cs fm HJ2 n0 FXJ2 hSJ2) (W := 1) (by decide) (by decide) (ce := 6) (sl := 49) rfl rfl (by decide) (by decide) rfl (Str_exa hSJ2) eJ2 rfl pd_18 rfl (Nat.le_refl _) rfl (fun rv48 T48 L48 X48 Q48 => ?_)
    obtain ⟨q48, Nq48, e48⟩ := Q48
    have N48 := Fr.app NJ2 Nq48
    subst q48
    show Go p.tables e below _ (T48.setTop (mkF m 21 #[.val (.ref a1), .val (.ref b1), .val (.int dJ2), .val (.int (2 : Int32)), .val (.int x1)] [(.int (own_n [x0, x1, x2, x3, x4])), (.int (2 : Int32))]))
    refine own_cast (show T48.setTop (mkF m 21 #[.val (.ref a1), .val (.ref b1), .val (.int dJ2), .val (.int (2 : Int32)), .val (.int x1)] [(.int (own_n [x0, x1, x2, x3, x4])), (.int (2 : Int32))]) = T48.setTop (mkF m 21 #[.val (.ref a1), .val (.ref b1), .val (.int dJ2), .val (.int (2 : Int32)), .val (.int x1)] [(.int (5 : Int32)), (.int (2 : Int32))]) from by rw [(show own_n [x0, x1, x2, x3, x4] = (5 : Int32) from rfl)]) ?_
    refine g_icmpN (pc' := 24) C X48 d8_21 (tlt (show (2 : Int32) < (5 : Int32) from (by decide))).2.1 rfl ?_
    refine g_aloadN (pc' := 25) C X48 d8_24 rfl rfl rfl ?_
    refine g_iloadN (pc' := 26) C X48 d8_25 rfl rfl ?_
    refine g_callV (b := a1) (z := (⟨"java/lang/String", "charAt", "(I)C"⟩ : MethodName)) (y := (⟨"java/lang/String", "charAt", "(I)C"⟩ : MethodName)) (argsL := [(.int (2 : Int32))]) (st := []) (pc' := 29) C X48 d8_26 (wq hw 68 rfl) (wq hw 69 rfl) (notFace_of_selects (args := #[]) (mvT C.hZ (wq hw 71 rfl))) (wq hw 71 rfl) (wq hw 70 rfl) (wq hw 9 rfl) (wq hw 72 rfl) (by decide) (rmsca l Z a0 hw [] a1 (2 : Int32) v1_ ([x0, x1, x2, x3, x4]) cs fm HJ2 n0 FXJ2 hSJ2 (by decide) (show (2 : Int32) < (5 : Int32) from by decide)) (W := 0) (by decide) (by decide) (ce := 6) (sl := 49) rfl rfl (by decide) (by decide) rfl (Str_exa hSJ2) e48 rfl pd_30 rfl (Nat.le_refl _) rfl (fun rv49 T49 L49 X49 Q49 => ?_)
    obtain ⟨q49, Nq49, e49⟩ := Q49
    have N49 := Fr.app N48 Nq49
    subst q49
    show Go p.tables e below _ (T49.setTop (mkF m 29 #[.val (.ref a1), .val (.ref b1), .val (.int dJ2), .val (.int (2 : Int32)), .val (.int x1)] [(.int (own_g [x0, x1, x2, x3, x4] (2 : Int32)))]))
    refine own_cast (show T49.setTop (mkF m 29 #[.val (.ref a1), .val (.ref b1), .val (.int dJ2), .val (.int (2 : Int32)), .val (.int x1)] [(.int (own_g [x0, x1, x2, x3, x4] (2 : Int32)))]) = T49.setTop (mkF m 29 #[.val (.ref a1), .val (.ref b1), .val (.int dJ2), .val (.int (2 : Int32)), .val (.int x1)] [(.int x2)]) from by rw [(show own_g [x0, x1, x2, x3, x4] (2 : Int32) = x2 from rfl)]) ?_
    refine g_istore (pc' := 31) (Ls' := #[.val (.ref a1), .val (.ref b1), .val (.int dJ2), .val (.int (2 : Int32)), .val (.int x2)]) C X49 d8_29 rfl rfl ?_
    refine g_iload (pc' := 33) C X49 d8_31 rfl rfl ?_
    refine g_callS (y := (⟨"org/vouchsafe/XsdWhitespace", "isWhitespace", "(C)Z"⟩ : MethodName)) (argsL := [(.int x2)]) (st := []) (pc' := 36) C X49 d8_33 (wq hw 90 rfl) (wq hw 91 rfl) (wq hw 38 rfl) (wq hw 92 rfl) (by decide) (rmiw l Z a0 hw [] x2 cs fm HJ2 n0 FXJ2) (W := 0) (by decide) (by decide) (ce := 6) (sl := 49) rfl rfl (by decide) (by decide) rfl e49 rfl pd_15 rfl (Nat.le_refl _) rfl (fun rv50 T50 L50 X50 Q50 => ?_)
    obtain ⟨q50, Nq50, e50⟩ := Q50
    have N50 := Fr.app N49 Nq50
    subst q50
    show Go p.tables e below _ (T50.setTop (mkF m 36 #[.val (.ref a1), .val (.ref b1), .val (.int dJ2), .val (.int (2 : Int32)), .val (.int x2)] [(.int (Fiw x2))]))
    by_cases c51 : (Fiw x2) = (0 : Int32)
    · refine g_ifY (pc' := 44) C X50 d8_36 (teq c51).1 (by decide) (by decide) ?_
      refine g_iloadN (pc' := 45) C X50 d8_44 rfl rfl ?_
      by_cases c52 : dJ2 = (0 : Int32)
      · refine g_ifY (pc' := 62) C X50 d8_45 (teq c52).1 (by decide) (by decide) ?_
        exact M2 _ _ _ vJ2 cJ2 dJ2 (X50.mono (by decide) (by decide)) e50 N50 ZJ2 KJ2 FXJ2 hSJ2 hBJ2 sz_vJ2 gn_vJ2 nbJ2 naJ2 nvJ2 (own_fs (own_st2 (show (Fws x2) = (0 : Int32) from c51) c52) hfJ2) hkJ2
      · refine g_ifN (pc' := 48) C X50 d8_45 (feq c52).1 rfl ?_
        refine g_aloadN (pc' := 49) C X50 d8_48 rfl rfl rfl ?_
        refine g_callV (b := b1) (z := (⟨"java/lang/StringBuilder", "length", "()I"⟩ : MethodName)) (y := (⟨"java/lang/StringBuilder", "length", "()I"⟩ : MethodName)) (argsL := []) (st := []) (pc' := 52) C X50 d8_49 (wq hw 171 rfl) (wq hw 172 rfl) (notFace_of_selects (args := #[]) (mvT C.hZ (wq hw 173 rfl))) (wq hw 173 rfl) (wq hw 139 rfl) (wq hw 42 rfl) (wq hw 140 rfl) (by decide) (rmsbB l Z a0 hw [] b1 vJ2 cJ2 cs fm HJ2 n0 FXJ2 hBJ2) (W := 0) (by decide) (by decide) (ce := 6) (sl := 49) rfl rfl (by decide) (by decide) rfl (Bld_exa hBJ2) e50 rfl pd_18 rfl (Nat.le_refl _) rfl (fun rv53 T53 L53 X53 Q53 => ?_)
        obtain ⟨q53, Nq53, e53⟩ := Q53
        have N53 := Fr.app N50 Nq53
        subst q53
        show Go p.tables e below _ (T53.setTop (mkF m 52 #[.val (.ref a1), .val (.ref b1), .val (.int dJ2), .val (.int (2 : Int32)), .val (.int x2)] [(.int (own_n cJ2))]))
        by_cases c54 : (0 : Int32) < (own_n cJ2)
        · refine g_ifN (pc' := 55) C X53 d8_52 (tlt c54).2.2.2 rfl ?_
          refine g_aloadN (pc' := 56) C X53 d8_55 rfl rfl rfl ?_
          refine g_bipush (pc' := 58) (v := (32 : Int32)) C X53 d8_56 rfl rfl ?_
          refine g_callV (b := b1) (z := (⟨"java/lang/StringBuilder", "append", "(C)Ljava/lang/StringBuilder;"⟩ : MethodName)) (y := (⟨"java/lang/StringBuilder", "append", "(C)Ljava/lang/StringBuilder;"⟩ : MethodName)) (argsL := [(.int (32 : Int32))]) (st := []) (pc' := 61) C X53 d8_58 (wq hw 93 rfl) (wq hw 94 rfl) (notFace_of_selects (args := #[]) (mvT C.hZ (wq hw 96 rfl))) (wq hw 96 rfl) (wq hw 95 rfl) (wq hw 42 rfl) (wq hw 97 rfl) (by decide) (rmaps l Z a0 hw [] b1 (32 : Int32) vJ2 cJ2 cs fm HJ2 n0 ZJ2 FXJ2 hBJ2 (by have := hkJ2; omega) ⟨by decide, by decide⟩ gn_b1 gn_vJ2 nbJ2) (W := 0) (by decide) (by decide) (ce := 7) (sl := 59) rfl rfl (by decide) (by decide) rfl (Bld_exa hBJ2) e53 rfl pd_29 rfl (Nat.le_refl _) rfl (fun rv55 T55 L55 X55 Q55 => ?_)
          obtain ⟨w55, q55, Nq55, Kq55, P55_0, xp55_0, xp55_1, xp55_2⟩ := Q55
          have N55 := Fr.app N53 Nq55
          have ne55_56 : ¬ (a1 = w55) := xp55_0 a1 (Str_lt0 hSJ2) naJ2
          have ne55_57 : ¬ (v1_ = w55) := xp55_0 v1_ (Str_lt1 hSJ2) nvJ2
          have sz_w55 := own_msz xp55_0 sz_vJ2 KJ2.1
          have gn_w55 := xp55_1
          have FX_55 := FX_keep FXJ2 Kq55 ((allS (Bld_pl0 hBJ2) (allS (Bld_pl1 hBJ2) all0)))
          have hSJ2_55 := Str_keep hSJ2 Kq55 (ninS ne1_2 (ninS naJ2 nin0)) (ninS ne1_3 (ninS nvJ2 nin0))
          have Z55 := Nat.le_trans ZJ2 Kq55.1
          have K55 := KJ2.trans Kq55 (allS (Or.inr sz_b1) (allS (Or.inr sz_vJ2) all0))
          subst q55
          show Go p.tables e below _ (T55.setTop (mkF m 61 #[.val (.ref a1), .val (.ref b1), .val (.int dJ2), .val (.int (2 : Int32)), .val (.int x2)] [(.ref b1)]))
          refine g_pop (pc' := 62) C X55 d8_61 rfl rfl ?_
          exact M2 _ _ _ w55 (cJ2 ++ [(32 : Int32)]) dJ2 (X55.mono (by decide) (by decide)) rfl N55 Z55 K55 FX_55 hSJ2_55 P55_0 sz_w55 gn_w55 xp55_2 ne55_56 ne55_57 (own_fs (own_st3 (show (Fws x2) = (0 : Int32) from c51) c52 c54) hfJ2) (by have := hmJ2 c52; simp only [List.length_append, List.length_singleton]; omega)
        · refine g_ifY (pc' := 62) C X53 d8_52 (flt c54).2.2.2 (by decide) (by decide) ?_
          exact M2 _ _ _ vJ2 cJ2 dJ2 (X53.mono (by decide) (by decide)) e53 N53 ZJ2 KJ2 FXJ2 hSJ2 hBJ2 sz_vJ2 gn_vJ2 nbJ2 naJ2 nvJ2 (own_fs (own_st4 (show (Fws x2) = (0 : Int32) from c51) c52 c54) hfJ2) hkJ2
    · refine g_ifN (pc' := 39) C X50 d8_36 (feq c51).1 rfl ?_
      refine g_iconst (pc' := 40) (v := (1 : Int32)) C X50 d8_39 rfl rfl ?_
      refine g_istoreN (pc' := 41) (Ls' := #[.val (.ref a1), .val (.ref b1), .val (.int (1 : Int32)), .val (.int (2 : Int32)), .val (.int x2)]) C X50 d8_40 rfl rfl ?_
      refine g_goto (pc' := 71) C X50 d8_41 (by decide) (by decide) ?_
      refine g_iinc (pc' := 74) (Ls' := #[.val (.ref a1), .val (.ref b1), .val (.int (1 : Int32)), .val (.int ((2 : Int32) + (1 : Int32))), .val (.int x2)]) C X50 d8_71 rfl rfl rfl ?_
      refine own_cast (show T50.setTop (mkF m 74 #[.val (.ref a1), .val (.ref b1), .val (.int (1 : Int32)), .val (.int ((2 : Int32) + (1 : Int32))), .val (.int x2)] []) = T50.setTop (mkF m 74 #[.val (.ref a1), .val (.ref b1), .val (.int (1 : Int32)), .val (.int (3 : Int32)), .val (.int x2)] []) from by rw [(show ((2 : Int32) + (1 : Int32)) = (3 : Int32) from by decide)]) ?_
      refine g_goto (pc' := 16) C X50 d8_74 (by decide) (by decide) ?_
      exact J3 _ _ _ vJ2 cJ2 (1 : Int32) (X50.mono (by decide) (by decide)) e50 N50 ZJ2 KJ2 FXJ2 hSJ2 hBJ2 sz_vJ2 gn_vJ2 nbJ2 naJ2 nvJ2 (own_fs (own_st1 (show ¬ (Fws x2) = (0 : Int32) from c51)) hfJ2) (by have := hkJ2; omega) (fun _ => by have := hkJ2; omega)
  have J1 : ∀ (TJ1 : State) (HJ1 : Heap) (LJ1 : List Loc) (vJ1 : Addr) (cJ1 : List Int32) (dJ1 : Int32), Stand p l e ({ frames := 8, cells := 14, slots := 123, locals := 115 } : Room) s m #[.ref a1] below meth c TJ1 LJ1 4 29 → TJ1.heap = HJ1 → Fr n0 LJ1 → n0 ≤ HJ1.size → Keep h0 HJ1 [] → FX Z HJ1 cs fm → Str Z HJ1 a1 v1_ [x0, x1, x2, x3, x4] → Bld Z HJ1 b1 vJ1 cJ1 → h0.size ≤ vJ1 → n0 ≤ vJ1 → ¬ (b1 = vJ1) → ¬ (a1 = vJ1) → ¬ (v1_ = vJ1) → (List.foldl own_st (dJ1, cJ1) [x1, x2, x3, x4]).2 = (own_coll x0 x1 x2 x3 x4) → cJ1.length ≤ 1 → (¬ (dJ1 = (0 : Int32)) → cJ1.length + 1 ≤ 1) → Go p.tables e below (End s (Q_col Z a1 v1_ x0 x1 x2 x3 x4 cs fm h0 n0) ({ frames := 8, cells := 14, slots := 123, locals := 115 } : Room).cells ({ frames := 8, cells := 14, slots := 123, locals := 115 } : Room).slots) (TJ1.setTop (mkF m 16 #[.val (.ref a1), .val (.ref b1), .val (.int dJ1), .val (.int (1 : Int32)), .val (.int x0)] [])) := by
    intro TJ1 HJ1 LJ1 vJ1 cJ1 dJ1 XJ1 eJ1 NJ1 ZJ1 KJ1 FXJ1 hSJ1 hBJ1 sz_vJ1 gn_vJ1 nbJ1 naJ1 nvJ1 hfJ1 hkJ1 hmJ1
    have M1 : ∀ (TM1 : State) (HM1 : Heap) (LM1 : List Loc) (vM1 : Addr) (cM1 : List Int32) (dM1 : Int32), Stand p l e ({ frames := 8, cells := 14, slots := 123, locals := 115 } : Room) s m #[.ref a1] below meth c TM1 LM1 5 39 → TM1.heap = HM1 → Fr n0 LM1 → n0 ≤ HM1.size → Keep h0 HM1 [] → FX Z HM1 cs fm → Str Z HM1 a1 v1_ [x0, x1, x2, x3, x4] → Bld Z HM1 b1 vM1 cM1 → h0.size ≤ vM1 → n0 ≤ vM1 → ¬ (b1 = vM1) → ¬ (a1 = vM1) → ¬ (v1_ = vM1) → (List.foldl own_st ((0 : Int32), cM1 ++ [x1]) [x2, x3, x4]).2 = (own_coll x0 x1 x2 x3 x4) → cM1.length ≤ 1 → Go p.tables e below (End s (Q_col Z a1 v1_ x0 x1 x2 x3 x4 cs fm h0 n0) ({ frames := 8, cells := 14, slots := 123, locals := 115 } : Room).cells ({ frames := 8, cells := 14, slots := 123, locals := 115 } : Room).slots) (TM1.setTop (mkF m 62 #[.val (.ref a1), .val (.ref b1), .val (.int dM1), .val (.int (1 : Int32)), .val (.int x1)] [])) := by
      intro TM1 HM1 LM1 vM1 cM1 dM1 XM1 eM1 NM1 ZM1 KM1 FXM1 hSM1 hBM1 sz_vM1 gn_vM1 nbM1 naM1 nvM1 hfM1 hkM1
      refine g_aloadN (pc' := 63) C XM1 d8_62 rfl rfl rfl ?_
      refine g_iload (pc' := 65) C XM1 d8_63 rfl rfl ?_
      refine g_callV (b := b1) (z := (⟨"java/lang/StringBuilder", "append", "(C)Ljava/lang/StringBuilder;"⟩ : MethodName)) (y := (⟨"java/lang/StringBuilder", "append", "(C)Ljava/lang/StringBuilder;"⟩ : MethodName)) (argsL := [(.int x1)]) (st := []) (pc' := 68) C XM1 d8_65 (wq hw 93 rfl) (wq hw 94 rfl) (notFace_of_selects (args := #[]) (mvT C.hZ (wq hw 96 rfl))) (wq hw 96 rfl) (wq hw 95 rfl) (wq hw 42 rfl) (wq hw 97 rfl) (by decide) (rmaps l Z a0 hw [] b1 x1 vM1 cM1 cs fm HM1 n0 ZM1 FXM1 hBM1 (by have := hkM1; omega) hc1 gn_b1 gn_vM1 nbM1) (W := 0) (by decide) (by decide) (ce := 6) (sl := 49) rfl rfl (by decide) (by decide) rfl (Bld_exa hBM1) eM1 rfl pd_29 rfl (Nat.le_refl _) rfl (fun rv58 T58 L58 X58 Q58 => ?_)
      obtain ⟨w58, q58, Nq58, Kq58, P58_0, xp58_0, xp58_1, xp58_2⟩ := Q58
      have N58 := Fr.app NM1 Nq58
      have ne58_59 : ¬ (a1 = w58) := xp58_0 a1 (Str_lt0 hSM1) naM1
      have ne58_60 : ¬ (v1_ = w58) := xp58_0 v1_ (Str_lt1 hSM1) nvM1
      have sz_w58 := own_msz xp58_0 sz_vM1 KM1.1
      have gn_w58 := xp58_1
      have FX_58 := FX_keep FXM1 Kq58 ((allS (Bld_pl0 hBM1) (allS (Bld_pl1 hBM1) all0)))
      have hSM1_58 := Str_keep hSM1 Kq58 (ninS ne1_2 (ninS naM1 nin0)) (ninS ne1_3 (ninS nvM1 nin0))
      have Z58 := Nat.le_trans ZM1 Kq58.1
      have K58 := KM1.trans Kq58 (allS (Or.inr sz_b1) (allS (Or.inr sz_vM1) all0))
      subst q58
      show Go p.tables e below _ (T58.setTop (mkF m 68 #[.val (.ref a1), .val (.ref b1), .val (.int dM1), .val (.int (1 : Int32)), .val (.int x1)] [(.ref b1)]))
      refine g_pop (pc' := 69) C X58 d8_68 rfl rfl ?_
      refine g_iconst (pc' := 70) (v := (0 : Int32)) C X58 d8_69 rfl rfl ?_
      refine g_istoreN (pc' := 71) (Ls' := #[.val (.ref a1), .val (.ref b1), .val (.int (0 : Int32)), .val (.int (1 : Int32)), .val (.int x1)]) C X58 d8_70 rfl rfl ?_
      refine g_iinc (pc' := 74) (Ls' := #[.val (.ref a1), .val (.ref b1), .val (.int (0 : Int32)), .val (.int ((1 : Int32) + (1 : Int32))), .val (.int x1)]) C X58 d8_71 rfl rfl rfl ?_
      refine own_cast (show T58.setTop (mkF m 74 #[.val (.ref a1), .val (.ref b1), .val (.int (0 : Int32)), .val (.int ((1 : Int32) + (1 : Int32))), .val (.int x1)] []) = T58.setTop (mkF m 74 #[.val (.ref a1), .val (.ref b1), .val (.int (0 : Int32)), .val (.int (2 : Int32)), .val (.int x1)] []) from by rw [(show ((1 : Int32) + (1 : Int32)) = (2 : Int32) from by decide)]) ?_
      refine g_goto (pc' := 16) C X58 d8_74 (by decide) (by decide) ?_
      exact J2 _ _ _ w58 (cM1 ++ [x1]) (0 : Int32) (X58.mono (by decide) (by decide)) rfl N58 Z58 K58 FX_58 hSM1_58 P58_0 sz_w58 gn_w58 xp58_2 ne58_59 ne58_60 hfM1 (by have := hkM1; simp only [List.length_append, List.length_singleton]; omega) (fun q => absurd rfl q)
    refine g_iloadN (pc' := 17) C XJ1 d8_16 rfl rfl ?_
    refine g_aloadN (pc' := 18) C XJ1 d8_17 rfl rfl rfl ?_
    refine g_callV (b := a1) (z := (⟨"java/lang/String", "length", "()I"⟩ : MethodName)) (y := (⟨"java/lang/String", "length", "()I"⟩ : MethodName)) (argsL := []) (st := [(.int (1 : Int32))]) (pc' := 21) C XJ1 d8_18 (wq hw 43 rfl) (wq hw 44 rfl) (notFace_of_selects (args := #[]) (mvT C.hZ (wq hw 46 rfl))) (wq hw 46 rfl) (wq hw 45 rfl) (wq hw 9 rfl) (wq hw 47 rfl) (by decide) (rmsl l Z a0 hw [] a1 v1_ ([x0, x1, x2, x3, x4]) cs fm HJ1 n0 FXJ1 hSJ1) (W := 1) (by decide) (by decide) (ce := 4) (sl := 29) rfl rfl (by decide) (by decide) rfl (Str_exa hSJ1) eJ1 rfl pd_18 rfl (Nat.le_refl _) rfl (fun rv61 T61 L61 X61 Q61 => ?_)
    obtain ⟨q61, Nq61, e61⟩ := Q61
    have N61 := Fr.app NJ1 Nq61
    subst q61
    show Go p.tables e below _ (T61.setTop (mkF m 21 #[.val (.ref a1), .val (.ref b1), .val (.int dJ1), .val (.int (1 : Int32)), .val (.int x0)] [(.int (own_n [x0, x1, x2, x3, x4])), (.int (1 : Int32))]))
    refine own_cast (show T61.setTop (mkF m 21 #[.val (.ref a1), .val (.ref b1), .val (.int dJ1), .val (.int (1 : Int32)), .val (.int x0)] [(.int (own_n [x0, x1, x2, x3, x4])), (.int (1 : Int32))]) = T61.setTop (mkF m 21 #[.val (.ref a1), .val (.ref b1), .val (.int dJ1), .val (.int (1 : Int32)), .val (.int x0)] [(.int (5 : Int32)), (.int (1 : Int32))]) from by rw [(show own_n [x0, x1, x2, x3, x4] = (5 : Int32) from rfl)]) ?_
    refine g_icmpN (pc' := 24) C X61 d8_21 (tlt (show (1 : Int32) < (5 : Int32) from (by decide))).2.1 rfl ?_
    refine g_aloadN (pc' := 25) C X61 d8_24 rfl rfl rfl ?_
    refine g_iloadN (pc' := 26) C X61 d8_25 rfl rfl ?_
    refine g_callV (b := a1) (z := (⟨"java/lang/String", "charAt", "(I)C"⟩ : MethodName)) (y := (⟨"java/lang/String", "charAt", "(I)C"⟩ : MethodName)) (argsL := [(.int (1 : Int32))]) (st := []) (pc' := 29) C X61 d8_26 (wq hw 68 rfl) (wq hw 69 rfl) (notFace_of_selects (args := #[]) (mvT C.hZ (wq hw 71 rfl))) (wq hw 71 rfl) (wq hw 70 rfl) (wq hw 9 rfl) (wq hw 72 rfl) (by decide) (rmsca l Z a0 hw [] a1 (1 : Int32) v1_ ([x0, x1, x2, x3, x4]) cs fm HJ1 n0 FXJ1 hSJ1 (by decide) (show (1 : Int32) < (5 : Int32) from by decide)) (W := 0) (by decide) (by decide) (ce := 4) (sl := 29) rfl rfl (by decide) (by decide) rfl (Str_exa hSJ1) e61 rfl pd_30 rfl (Nat.le_refl _) rfl (fun rv62 T62 L62 X62 Q62 => ?_)
    obtain ⟨q62, Nq62, e62⟩ := Q62
    have N62 := Fr.app N61 Nq62
    subst q62
    show Go p.tables e below _ (T62.setTop (mkF m 29 #[.val (.ref a1), .val (.ref b1), .val (.int dJ1), .val (.int (1 : Int32)), .val (.int x0)] [(.int (own_g [x0, x1, x2, x3, x4] (1 : Int32)))]))
    refine own_cast (show T62.setTop (mkF m 29 #[.val (.ref a1), .val (.ref b1), .val (.int dJ1), .val (.int (1 : Int32)), .val (.int x0)] [(.int (own_g [x0, x1, x2, x3, x4] (1 : Int32)))]) = T62.setTop (mkF m 29 #[.val (.ref a1), .val (.ref b1), .val (.int dJ1), .val (.int (1 : Int32)), .val (.int x0)] [(.int x1)]) from by rw [(show own_g [x0, x1, x2, x3, x4] (1 : Int32) = x1 from rfl)]) ?_
    refine g_istore (pc' := 31) (Ls' := #[.val (.ref a1), .val (.ref b1), .val (.int dJ1), .val (.int (1 : Int32)), .val (.int x1)]) C X62 d8_29 rfl rfl ?_
    refine g_iload (pc' := 33) C X62 d8_31 rfl rfl ?_
    refine g_callS (y := (⟨"org/vouchsafe/XsdWhitespace", "isWhitespace", "(C)Z"⟩ : MethodName)) (argsL := [(.int x1)]) (st := []) (pc' := 36) C X62 d8_33 (wq hw 90 rfl) (wq hw 91 rfl) (wq hw 38 rfl) (wq hw 92 rfl) (by decide) (rmiw l Z a0 hw [] x1 cs fm HJ1 n0 FXJ1) (W := 0) (by decide) (by decide) (ce := 4) (sl := 29) rfl rfl (by decide) (by decide) rfl e62 rfl pd_15 rfl (Nat.le_refl _) rfl (fun rv63 T63 L63 X63 Q63 => ?_)
    obtain ⟨q63, Nq63, e63⟩ := Q63
    have N63 := Fr.app N62 Nq63
    subst q63
    show Go p.tables e below _ (T63.setTop (mkF m 36 #[.val (.ref a1), .val (.ref b1), .val (.int dJ1), .val (.int (1 : Int32)), .val (.int x1)] [(.int (Fiw x1))]))
    by_cases c64 : (Fiw x1) = (0 : Int32)
    · refine g_ifY (pc' := 44) C X63 d8_36 (teq c64).1 (by decide) (by decide) ?_
      refine g_iloadN (pc' := 45) C X63 d8_44 rfl rfl ?_
      by_cases c65 : dJ1 = (0 : Int32)
      · refine g_ifY (pc' := 62) C X63 d8_45 (teq c65).1 (by decide) (by decide) ?_
        exact M1 _ _ _ vJ1 cJ1 dJ1 (X63.mono (by decide) (by decide)) e63 N63 ZJ1 KJ1 FXJ1 hSJ1 hBJ1 sz_vJ1 gn_vJ1 nbJ1 naJ1 nvJ1 (own_fs (own_st2 (show (Fws x1) = (0 : Int32) from c64) c65) hfJ1) hkJ1
      · refine g_ifN (pc' := 48) C X63 d8_45 (feq c65).1 rfl ?_
        refine g_aloadN (pc' := 49) C X63 d8_48 rfl rfl rfl ?_
        refine g_callV (b := b1) (z := (⟨"java/lang/StringBuilder", "length", "()I"⟩ : MethodName)) (y := (⟨"java/lang/StringBuilder", "length", "()I"⟩ : MethodName)) (argsL := []) (st := []) (pc' := 52) C X63 d8_49 (wq hw 171 rfl) (wq hw 172 rfl) (notFace_of_selects (args := #[]) (mvT C.hZ (wq hw 173 rfl))) (wq hw 173 rfl) (wq hw 139 rfl) (wq hw 42 rfl) (wq hw 140 rfl) (by decide) (rmsbB l Z a0 hw [] b1 vJ1 cJ1 cs fm HJ1 n0 FXJ1 hBJ1) (W := 0) (by decide) (by decide) (ce := 4) (sl := 29) rfl rfl (by decide) (by decide) rfl (Bld_exa hBJ1) e63 rfl pd_18 rfl (Nat.le_refl _) rfl (fun rv66 T66 L66 X66 Q66 => ?_)
        obtain ⟨q66, Nq66, e66⟩ := Q66
        have N66 := Fr.app N63 Nq66
        subst q66
        show Go p.tables e below _ (T66.setTop (mkF m 52 #[.val (.ref a1), .val (.ref b1), .val (.int dJ1), .val (.int (1 : Int32)), .val (.int x1)] [(.int (own_n cJ1))]))
        by_cases c67 : (0 : Int32) < (own_n cJ1)
        · refine g_ifN (pc' := 55) C X66 d8_52 (tlt c67).2.2.2 rfl ?_
          refine g_aloadN (pc' := 56) C X66 d8_55 rfl rfl rfl ?_
          refine g_bipush (pc' := 58) (v := (32 : Int32)) C X66 d8_56 rfl rfl ?_
          refine g_callV (b := b1) (z := (⟨"java/lang/StringBuilder", "append", "(C)Ljava/lang/StringBuilder;"⟩ : MethodName)) (y := (⟨"java/lang/StringBuilder", "append", "(C)Ljava/lang/StringBuilder;"⟩ : MethodName)) (argsL := [(.int (32 : Int32))]) (st := []) (pc' := 61) C X66 d8_58 (wq hw 93 rfl) (wq hw 94 rfl) (notFace_of_selects (args := #[]) (mvT C.hZ (wq hw 96 rfl))) (wq hw 96 rfl) (wq hw 95 rfl) (wq hw 42 rfl) (wq hw 97 rfl) (by decide) (rmaps l Z a0 hw [] b1 (32 : Int32) vJ1 cJ1 cs fm HJ1 n0 ZJ1 FXJ1 hBJ1 (by have := hkJ1; omega) ⟨by decide, by decide⟩ gn_b1 gn_vJ1 nbJ1) (W := 0) (by decide) (by decide) (ce := 5) (sl := 39) rfl rfl (by decide) (by decide) rfl (Bld_exa hBJ1) e66 rfl pd_29 rfl (Nat.le_refl _) rfl (fun rv68 T68 L68 X68 Q68 => ?_)
          obtain ⟨w68, q68, Nq68, Kq68, P68_0, xp68_0, xp68_1, xp68_2⟩ := Q68
          have N68 := Fr.app N66 Nq68
          have ne68_69 : ¬ (a1 = w68) := xp68_0 a1 (Str_lt0 hSJ1) naJ1
          have ne68_70 : ¬ (v1_ = w68) := xp68_0 v1_ (Str_lt1 hSJ1) nvJ1
          have sz_w68 := own_msz xp68_0 sz_vJ1 KJ1.1
          have gn_w68 := xp68_1
          have FX_68 := FX_keep FXJ1 Kq68 ((allS (Bld_pl0 hBJ1) (allS (Bld_pl1 hBJ1) all0)))
          have hSJ1_68 := Str_keep hSJ1 Kq68 (ninS ne1_2 (ninS naJ1 nin0)) (ninS ne1_3 (ninS nvJ1 nin0))
          have Z68 := Nat.le_trans ZJ1 Kq68.1
          have K68 := KJ1.trans Kq68 (allS (Or.inr sz_b1) (allS (Or.inr sz_vJ1) all0))
          subst q68
          show Go p.tables e below _ (T68.setTop (mkF m 61 #[.val (.ref a1), .val (.ref b1), .val (.int dJ1), .val (.int (1 : Int32)), .val (.int x1)] [(.ref b1)]))
          refine g_pop (pc' := 62) C X68 d8_61 rfl rfl ?_
          exact M1 _ _ _ w68 (cJ1 ++ [(32 : Int32)]) dJ1 (X68.mono (by decide) (by decide)) rfl N68 Z68 K68 FX_68 hSJ1_68 P68_0 sz_w68 gn_w68 xp68_2 ne68_69 ne68_70 (own_fs (own_st3 (show (Fws x1) = (0 : Int32) from c64) c65 c67) hfJ1) (by have := hmJ1 c65; simp only [List.length_append, List.length_singleton]; omega)
        · refine g_ifY (pc' := 62) C X66 d8_52 (flt c67).2.2.2 (by decide) (by decide) ?_
          exact M1 _ _ _ vJ1 cJ1 dJ1 (X66.mono (by decide) (by decide)) e66 N66 ZJ1 KJ1 FXJ1 hSJ1 hBJ1 sz_vJ1 gn_vJ1 nbJ1 naJ1 nvJ1 (own_fs (own_st4 (show (Fws x1) = (0 : Int32) from c64) c65 c67) hfJ1) hkJ1
    · refine g_ifN (pc' := 39) C X63 d8_36 (feq c64).1 rfl ?_
      refine g_iconst (pc' := 40) (v := (1 : Int32)) C X63 d8_39 rfl rfl ?_
      refine g_istoreN (pc' := 41) (Ls' := #[.val (.ref a1), .val (.ref b1), .val (.int (1 : Int32)), .val (.int (1 : Int32)), .val (.int x1)]) C X63 d8_40 rfl rfl ?_
      refine g_goto (pc' := 71) C X63 d8_41 (by decide) (by decide) ?_
      refine g_iinc (pc' := 74) (Ls' := #[.val (.ref a1), .val (.ref b1), .val (.int (1 : Int32)), .val (.int ((1 : Int32) + (1 : Int32))), .val (.int x1)]) C X63 d8_71 rfl rfl rfl ?_
      refine own_cast (show T63.setTop (mkF m 74 #[.val (.ref a1), .val (.ref b1), .val (.int (1 : Int32)), .val (.int ((1 : Int32) + (1 : Int32))), .val (.int x1)] []) = T63.setTop (mkF m 74 #[.val (.ref a1), .val (.ref b1), .val (.int (1 : Int32)), .val (.int (2 : Int32)), .val (.int x1)] []) from by rw [(show ((1 : Int32) + (1 : Int32)) = (2 : Int32) from by decide)]) ?_
      refine g_goto (pc' := 16) C X63 d8_74 (by decide) (by decide) ?_
      exact J2 _ _ _ vJ1 cJ1 (1 : Int32) (X63.mono (by decide) (by decide)) e63 N63 ZJ1 KJ1 FXJ1 hSJ1 hBJ1 sz_vJ1 gn_vJ1 nbJ1 naJ1 nvJ1 (own_fs (own_st1 (show ¬ (Fws x1) = (0 : Int32) from c64)) hfJ1) (by have := hkJ1; omega) (fun _ => by have := hkJ1; omega)
  have J0 : ∀ (TJ0 : State) (HJ0 : Heap) (LJ0 : List Loc) (vJ0 : Addr) (cJ0 : List Int32) (dJ0 : Int32), Stand p l e ({ frames := 8, cells := 14, slots := 123, locals := 115 } : Room) s m #[.ref a1] below meth c TJ0 LJ0 2 9 → TJ0.heap = HJ0 → Fr n0 LJ0 → n0 ≤ HJ0.size → Keep h0 HJ0 [] → FX Z HJ0 cs fm → Str Z HJ0 a1 v1_ [x0, x1, x2, x3, x4] → Bld Z HJ0 b1 vJ0 cJ0 → h0.size ≤ vJ0 → n0 ≤ vJ0 → ¬ (b1 = vJ0) → ¬ (a1 = vJ0) → ¬ (v1_ = vJ0) → (List.foldl own_st (dJ0, cJ0) [x0, x1, x2, x3, x4]).2 = (own_coll x0 x1 x2 x3 x4) → cJ0.length ≤ 0 → (¬ (dJ0 = (0 : Int32)) → cJ0.length + 1 ≤ 0) → Go p.tables e below (End s (Q_col Z a1 v1_ x0 x1 x2 x3 x4 cs fm h0 n0) ({ frames := 8, cells := 14, slots := 123, locals := 115 } : Room).cells ({ frames := 8, cells := 14, slots := 123, locals := 115 } : Room).slots) (TJ0.setTop (mkF m 16 #[.val (.ref a1), .val (.ref b1), .val (.int dJ0), .val (.int (0 : Int32)), .unset] [])) := by
    intro TJ0 HJ0 LJ0 vJ0 cJ0 dJ0 XJ0 eJ0 NJ0 ZJ0 KJ0 FXJ0 hSJ0 hBJ0 sz_vJ0 gn_vJ0 nbJ0 naJ0 nvJ0 hfJ0 hkJ0 hmJ0
    have M0 : ∀ (TM0 : State) (HM0 : Heap) (LM0 : List Loc) (vM0 : Addr) (cM0 : List Int32) (dM0 : Int32), Stand p l e ({ frames := 8, cells := 14, slots := 123, locals := 115 } : Room) s m #[.ref a1] below meth c TM0 LM0 3 19 → TM0.heap = HM0 → Fr n0 LM0 → n0 ≤ HM0.size → Keep h0 HM0 [] → FX Z HM0 cs fm → Str Z HM0 a1 v1_ [x0, x1, x2, x3, x4] → Bld Z HM0 b1 vM0 cM0 → h0.size ≤ vM0 → n0 ≤ vM0 → ¬ (b1 = vM0) → ¬ (a1 = vM0) → ¬ (v1_ = vM0) → (List.foldl own_st ((0 : Int32), cM0 ++ [x0]) [x1, x2, x3, x4]).2 = (own_coll x0 x1 x2 x3 x4) → cM0.length ≤ 0 → Go p.tables e below (End s (Q_col Z a1 v1_ x0 x1 x2 x3 x4 cs fm h0 n0) ({ frames := 8, cells := 14, slots := 123, locals := 115 } : Room).cells ({ frames := 8, cells := 14, slots := 123, locals := 115 } : Room).slots) (TM0.setTop (mkF m 62 #[.val (.ref a1), .val (.ref b1), .val (.int dM0), .val (.int (0 : Int32)), .val (.int x0)] [])) := by
      intro TM0 HM0 LM0 vM0 cM0 dM0 XM0 eM0 NM0 ZM0 KM0 FXM0 hSM0 hBM0 sz_vM0 gn_vM0 nbM0 naM0 nvM0 hfM0 hkM0
      refine g_aloadN (pc' := 63) C XM0 d8_62 rfl rfl rfl ?_
      refine g_iload (pc' := 65) C XM0 d8_63 rfl rfl ?_
      refine g_callV (b := b1) (z := (⟨"java/lang/StringBuilder", "append", "(C)Ljava/lang/StringBuilder;"⟩ : MethodName)) (y := (⟨"java/lang/StringBuilder", "append", "(C)Ljava/lang/StringBuilder;"⟩ : MethodName)) (argsL := [(.int x0)]) (st := []) (pc' := 68) C XM0 d8_65 (wq hw 93 rfl) (wq hw 94 rfl) (notFace_of_selects (args := #[]) (mvT C.hZ (wq hw 96 rfl))) (wq hw 96 rfl) (wq hw 95 rfl) (wq hw 42 rfl) (wq hw 97 rfl) (by decide) (rmaps l Z a0 hw [] b1 x0 vM0 cM0 cs fm HM0 n0 ZM0 FXM0 hBM0 (by have := hkM0; omega) hc0 gn_b1 gn_vM0 nbM0) (W := 0) (by decide) (by decide) (ce := 4) (sl := 29) rfl rfl (by decide) (by decide) rfl (Bld_exa hBM0) eM0 rfl pd_29 rfl (Nat.le_refl _) rfl (fun rv71 T71 L71 X71 Q71 => ?_)
      obtain ⟨w71, q71, Nq71, Kq71, P71_0, xp71_0, xp71_1, xp71_2⟩ := Q71
      have N71 := Fr.app NM0 Nq71
      have ne71_72 : ¬ (a1 = w71) := xp71_0 a1 (Str_lt0 hSM0) naM0
      have ne71_73 : ¬ (v1_ = w71) := xp71_0 v1_ (Str_lt1 hSM0) nvM0
      have sz_w71 := own_msz xp71_0 sz_vM0 KM0.1
      have gn_w71 := xp71_1
      have FX_71 := FX_keep FXM0 Kq71 ((allS (Bld_pl0 hBM0) (allS (Bld_pl1 hBM0) all0)))
      have hSM0_71 := Str_keep hSM0 Kq71 (ninS ne1_2 (ninS naM0 nin0)) (ninS ne1_3 (ninS nvM0 nin0))
      have Z71 := Nat.le_trans ZM0 Kq71.1
      have K71 := KM0.trans Kq71 (allS (Or.inr sz_b1) (allS (Or.inr sz_vM0) all0))
      subst q71
      show Go p.tables e below _ (T71.setTop (mkF m 68 #[.val (.ref a1), .val (.ref b1), .val (.int dM0), .val (.int (0 : Int32)), .val (.int x0)] [(.ref b1)]))
      refine g_pop (pc' := 69) C X71 d8_68 rfl rfl ?_
      refine g_iconst (pc' := 70) (v := (0 : Int32)) C X71 d8_69 rfl rfl ?_
      refine g_istoreN (pc' := 71) (Ls' := #[.val (.ref a1), .val (.ref b1), .val (.int (0 : Int32)), .val (.int (0 : Int32)), .val (.int x0)]) C X71 d8_70 rfl rfl ?_
      refine g_iinc (pc' := 74) (Ls' := #[.val (.ref a1), .val (.ref b1), .val (.int (0 : Int32)), .val (.int ((0 : Int32) + (1 : Int32))), .val (.int x0)]) C X71 d8_71 rfl rfl rfl ?_
      refine own_cast (show T71.setTop (mkF m 74 #[.val (.ref a1), .val (.ref b1), .val (.int (0 : Int32)), .val (.int ((0 : Int32) + (1 : Int32))), .val (.int x0)] []) = T71.setTop (mkF m 74 #[.val (.ref a1), .val (.ref b1), .val (.int (0 : Int32)), .val (.int (1 : Int32)), .val (.int x0)] []) from by rw [(show ((0 : Int32) + (1 : Int32)) = (1 : Int32) from by decide)]) ?_
      refine g_goto (pc' := 16) C X71 d8_74 (by decide) (by decide) ?_
      exact J1 _ _ _ w71 (cM0 ++ [x0]) (0 : Int32) (X71.mono (by decide) (by decide)) rfl N71 Z71 K71 FX_71 hSM0_71 P71_0 sz_w71 gn_w71 xp71_2 ne71_72 ne71_73 hfM0 (by have := hkM0; simp only [List.length_append, List.length_singleton]; omega) (fun q => absurd rfl q)
    refine g_iloadN (pc' := 17) C XJ0 d8_16 rfl rfl ?_
    refine g_aloadN (pc' := 18) C XJ0 d8_17 rfl rfl rfl ?_
    refine g_callV (b := a1) (z := (⟨"java/lang/String", "length", "()I"⟩ : MethodName)) (y := (⟨"java/lang/String", "length", "()I"⟩ : MethodName)) (argsL := []) (st := [(.int (0 : Int32))]) (pc' := 21) C XJ0 d8_18 (wq hw 43 rfl) (wq hw 44 rfl) (notFace_of_selects (args := #[]) (mvT C.hZ (wq hw 46 rfl))) (wq hw 46 rfl) (wq hw 45 rfl) (wq hw 9 rfl) (wq hw 47 rfl) (by decide) (rmsl l Z a0 hw [] a1 v1_ ([x0, x1, x2, x3, x4]) cs fm HJ0 n0 FXJ0 hSJ0) (W := 1) (by decide) (by decide) (ce := 2) (sl := 9) rfl rfl (by decide) (by decide) rfl (Str_exa hSJ0) eJ0 rfl pd_18 rfl (Nat.le_refl _) rfl (fun rv74 T74 L74 X74 Q74 => ?_)
    obtain ⟨q74, Nq74, e74⟩ := Q74
    have N74 := Fr.app NJ0 Nq74
    subst q74
    show Go p.tables e below _ (T74.setTop (mkF m 21 #[.val (.ref a1), .val (.ref b1), .val (.int dJ0), .val (.int (0 : Int32)), .unset] [(.int (own_n [x0, x1, x2, x3, x4])), (.int (0 : Int32))]))
    refine own_cast (show T74.setTop (mkF m 21 #[.val (.ref a1), .val (.ref b1), .val (.int dJ0), .val (.int (0 : Int32)), .unset] [(.int (own_n [x0, x1, x2, x3, x4])), (.int (0 : Int32))]) = T74.setTop (mkF m 21 #[.val (.ref a1), .val (.ref b1), .val (.int dJ0), .val (.int (0 : Int32)), .unset] [(.int (5 : Int32)), (.int (0 : Int32))]) from by rw [(show own_n [x0, x1, x2, x3, x4] = (5 : Int32) from rfl)]) ?_
    refine g_icmpN (pc' := 24) C X74 d8_21 (tlt (show (0 : Int32) < (5 : Int32) from (by decide))).2.1 rfl ?_
    refine g_aloadN (pc' := 25) C X74 d8_24 rfl rfl rfl ?_
    refine g_iloadN (pc' := 26) C X74 d8_25 rfl rfl ?_
    refine g_callV (b := a1) (z := (⟨"java/lang/String", "charAt", "(I)C"⟩ : MethodName)) (y := (⟨"java/lang/String", "charAt", "(I)C"⟩ : MethodName)) (argsL := [(.int (0 : Int32))]) (st := []) (pc' := 29) C X74 d8_26 (wq hw 68 rfl) (wq hw 69 rfl) (notFace_of_selects (args := #[]) (mvT C.hZ (wq hw 71 rfl))) (wq hw 71 rfl) (wq hw 70 rfl) (wq hw 9 rfl) (wq hw 72 rfl) (by decide) (rmsca l Z a0 hw [] a1 (0 : Int32) v1_ ([x0, x1, x2, x3, x4]) cs fm HJ0 n0 FXJ0 hSJ0 (by decide) (show (0 : Int32) < (5 : Int32) from by decide)) (W := 0) (by decide) (by decide) (ce := 2) (sl := 9) rfl rfl (by decide) (by decide) rfl (Str_exa hSJ0) e74 rfl pd_30 rfl (Nat.le_refl _) rfl (fun rv75 T75 L75 X75 Q75 => ?_)
    obtain ⟨q75, Nq75, e75⟩ := Q75
    have N75 := Fr.app N74 Nq75
    subst q75
    show Go p.tables e below _ (T75.setTop (mkF m 29 #[.val (.ref a1), .val (.ref b1), .val (.int dJ0), .val (.int (0 : Int32)), .unset] [(.int (own_g [x0, x1, x2, x3, x4] (0 : Int32)))]))
    refine own_cast (show T75.setTop (mkF m 29 #[.val (.ref a1), .val (.ref b1), .val (.int dJ0), .val (.int (0 : Int32)), .unset] [(.int (own_g [x0, x1, x2, x3, x4] (0 : Int32)))]) = T75.setTop (mkF m 29 #[.val (.ref a1), .val (.ref b1), .val (.int dJ0), .val (.int (0 : Int32)), .unset] [(.int x0)]) from by rw [(show own_g [x0, x1, x2, x3, x4] (0 : Int32) = x0 from rfl)]) ?_
    refine g_istore (pc' := 31) (Ls' := #[.val (.ref a1), .val (.ref b1), .val (.int dJ0), .val (.int (0 : Int32)), .val (.int x0)]) C X75 d8_29 rfl rfl ?_
    refine g_iload (pc' := 33) C X75 d8_31 rfl rfl ?_
    refine g_callS (y := (⟨"org/vouchsafe/XsdWhitespace", "isWhitespace", "(C)Z"⟩ : MethodName)) (argsL := [(.int x0)]) (st := []) (pc' := 36) C X75 d8_33 (wq hw 90 rfl) (wq hw 91 rfl) (wq hw 38 rfl) (wq hw 92 rfl) (by decide) (rmiw l Z a0 hw [] x0 cs fm HJ0 n0 FXJ0) (W := 0) (by decide) (by decide) (ce := 2) (sl := 9) rfl rfl (by decide) (by decide) rfl e75 rfl pd_15 rfl (Nat.le_refl _) rfl (fun rv76 T76 L76 X76 Q76 => ?_)
    obtain ⟨q76, Nq76, e76⟩ := Q76
    have N76 := Fr.app N75 Nq76
    subst q76
    show Go p.tables e below _ (T76.setTop (mkF m 36 #[.val (.ref a1), .val (.ref b1), .val (.int dJ0), .val (.int (0 : Int32)), .val (.int x0)] [(.int (Fiw x0))]))
    by_cases c77 : (Fiw x0) = (0 : Int32)
    · refine g_ifY (pc' := 44) C X76 d8_36 (teq c77).1 (by decide) (by decide) ?_
      refine g_iloadN (pc' := 45) C X76 d8_44 rfl rfl ?_
      by_cases c78 : dJ0 = (0 : Int32)
      · refine g_ifY (pc' := 62) C X76 d8_45 (teq c78).1 (by decide) (by decide) ?_
        exact M0 _ _ _ vJ0 cJ0 dJ0 (X76.mono (by decide) (by decide)) e76 N76 ZJ0 KJ0 FXJ0 hSJ0 hBJ0 sz_vJ0 gn_vJ0 nbJ0 naJ0 nvJ0 (own_fs (own_st2 (show (Fws x0) = (0 : Int32) from c77) c78) hfJ0) hkJ0
      · refine g_ifN (pc' := 48) C X76 d8_45 (feq c78).1 rfl ?_
        refine g_aloadN (pc' := 49) C X76 d8_48 rfl rfl rfl ?_
        refine g_callV (b := b1) (z := (⟨"java/lang/StringBuilder", "length", "()I"⟩ : MethodName)) (y := (⟨"java/lang/StringBuilder", "length", "()I"⟩ : MethodName)) (argsL := []) (st := []) (pc' := 52) C X76 d8_49 (wq hw 171 rfl) (wq hw 172 rfl) (notFace_of_selects (args := #[]) (mvT C.hZ (wq hw 173 rfl))) (wq hw 173 rfl) (wq hw 139 rfl) (wq hw 42 rfl) (wq hw 140 rfl) (by decide) (rmsbB l Z a0 hw [] b1 vJ0 cJ0 cs fm HJ0 n0 FXJ0 hBJ0) (W := 0) (by decide) (by decide) (ce := 2) (sl := 9) rfl rfl (by decide) (by decide) rfl (Bld_exa hBJ0) e76 rfl pd_18 rfl (Nat.le_refl _) rfl (fun rv79 T79 L79 X79 Q79 => ?_)
        obtain ⟨q79, Nq79, e79⟩ := Q79
        have N79 := Fr.app N76 Nq79
        subst q79
        show Go p.tables e below _ (T79.setTop (mkF m 52 #[.val (.ref a1), .val (.ref b1), .val (.int dJ0), .val (.int (0 : Int32)), .val (.int x0)] [(.int (own_n cJ0))]))
        by_cases c80 : (0 : Int32) < (own_n cJ0)
        · refine g_ifN (pc' := 55) C X79 d8_52 (tlt c80).2.2.2 rfl ?_
          refine g_aloadN (pc' := 56) C X79 d8_55 rfl rfl rfl ?_
          refine g_bipush (pc' := 58) (v := (32 : Int32)) C X79 d8_56 rfl rfl ?_
          refine g_callV (b := b1) (z := (⟨"java/lang/StringBuilder", "append", "(C)Ljava/lang/StringBuilder;"⟩ : MethodName)) (y := (⟨"java/lang/StringBuilder", "append", "(C)Ljava/lang/StringBuilder;"⟩ : MethodName)) (argsL := [(.int (32 : Int32))]) (st := []) (pc' := 61) C X79 d8_58 (wq hw 93 rfl) (wq hw 94 rfl) (notFace_of_selects (args := #[]) (mvT C.hZ (wq hw 96 rfl))) (wq hw 96 rfl) (wq hw 95 rfl) (wq hw 42 rfl) (wq hw 97 rfl) (by decide) (rmaps l Z a0 hw [] b1 (32 : Int32) vJ0 cJ0 cs fm HJ0 n0 ZJ0 FXJ0 hBJ0 (by have := hkJ0; omega) ⟨by decide, by decide⟩ gn_b1 gn_vJ0 nbJ0) (W := 0) (by decide) (by decide) (ce := 3) (sl := 19) rfl rfl (by decide) (by decide) rfl (Bld_exa hBJ0) e79 rfl pd_29 rfl (Nat.le_refl _) rfl (fun rv81 T81 L81 X81 Q81 => ?_)
          obtain ⟨w81, q81, Nq81, Kq81, P81_0, xp81_0, xp81_1, xp81_2⟩ := Q81
          have N81 := Fr.app N79 Nq81
          have ne81_82 : ¬ (a1 = w81) := xp81_0 a1 (Str_lt0 hSJ0) naJ0
          have ne81_83 : ¬ (v1_ = w81) := xp81_0 v1_ (Str_lt1 hSJ0) nvJ0
          have sz_w81 := own_msz xp81_0 sz_vJ0 KJ0.1
          have gn_w81 := xp81_1
          have FX_81 := FX_keep FXJ0 Kq81 ((allS (Bld_pl0 hBJ0) (allS (Bld_pl1 hBJ0) all0)))
          have hSJ0_81 := Str_keep hSJ0 Kq81 (ninS ne1_2 (ninS naJ0 nin0)) (ninS ne1_3 (ninS nvJ0 nin0))
          have Z81 := Nat.le_trans ZJ0 Kq81.1
          have K81 := KJ0.trans Kq81 (allS (Or.inr sz_b1) (allS (Or.inr sz_vJ0) all0))
          subst q81
          show Go p.tables e below _ (T81.setTop (mkF m 61 #[.val (.ref a1), .val (.ref b1), .val (.int dJ0), .val (.int (0 : Int32)), .val (.int x0)] [(.ref b1)]))
          refine g_pop (pc' := 62) C X81 d8_61 rfl rfl ?_
          exact M0 _ _ _ w81 (cJ0 ++ [(32 : Int32)]) dJ0 (X81.mono (by decide) (by decide)) rfl N81 Z81 K81 FX_81 hSJ0_81 P81_0 sz_w81 gn_w81 xp81_2 ne81_82 ne81_83 (own_fs (own_st3 (show (Fws x0) = (0 : Int32) from c77) c78 c80) hfJ0) (by have := hmJ0 c78; simp only [List.length_append, List.length_singleton]; omega)
        · refine g_ifY (pc' := 62) C X79 d8_52 (flt c80).2.2.2 (by decide) (by decide) ?_
          exact M0 _ _ _ vJ0 cJ0 dJ0 (X79.mono (by decide) (by decide)) e79 N79 ZJ0 KJ0 FXJ0 hSJ0 hBJ0 sz_vJ0 gn_vJ0 nbJ0 naJ0 nvJ0 (own_fs (own_st4 (show (Fws x0) = (0 : Int32) from c77) c78 c80) hfJ0) hkJ0
    · refine g_ifN (pc' := 39) C X76 d8_36 (feq c77).1 rfl ?_
      refine g_iconst (pc' := 40) (v := (1 : Int32)) C X76 d8_39 rfl rfl ?_
      refine g_istoreN (pc' := 41) (Ls' := #[.val (.ref a1), .val (.ref b1), .val (.int (1 : Int32)), .val (.int (0 : Int32)), .val (.int x0)]) C X76 d8_40 rfl rfl ?_
      refine g_goto (pc' := 71) C X76 d8_41 (by decide) (by decide) ?_
      refine g_iinc (pc' := 74) (Ls' := #[.val (.ref a1), .val (.ref b1), .val (.int (1 : Int32)), .val (.int ((0 : Int32) + (1 : Int32))), .val (.int x0)]) C X76 d8_71 rfl rfl rfl ?_
      refine own_cast (show T76.setTop (mkF m 74 #[.val (.ref a1), .val (.ref b1), .val (.int (1 : Int32)), .val (.int ((0 : Int32) + (1 : Int32))), .val (.int x0)] []) = T76.setTop (mkF m 74 #[.val (.ref a1), .val (.ref b1), .val (.int (1 : Int32)), .val (.int (1 : Int32)), .val (.int x0)] []) from by rw [(show ((0 : Int32) + (1 : Int32)) = (1 : Int32) from by decide)]) ?_
      refine g_goto (pc' := 16) C X76 d8_74 (by decide) (by decide) ?_
      exact J1 _ _ _ vJ0 cJ0 (1 : Int32) (X76.mono (by decide) (by decide)) e76 N76 ZJ0 KJ0 FXJ0 hSJ0 hBJ0 sz_vJ0 gn_vJ0 nbJ0 naJ0 nvJ0 (own_fs (own_st1 (show ¬ (Fws x0) = (0 : Int32) from c77)) hfJ0) (by have := hkJ0; omega) (fun _ => by have := hkJ0; omega)
  exact J0 _ _ _ w5 [] (0 : Int32) (X5.mono (by decide) (by decide)) rfl N5 Z5 K5 FX_5 hS_5 P5_0 sz_w5 gn_w5 ne5_6 ne5_7 ne5_8 rfl (Nat.le_refl _) (fun q => absurd rfl q)
theorem d1_0 : decode method_2_code 0 = .ok (.iload_n 0, 1) := by decide +kernel
theorem d1_1 : decode method_2_code 1 = .ok (.ldc 7, 2) := by decide +kernel
theorem d1_3 : decode method_2_code 3 = .ok (.iand, 1) := by decide +kernel
theorem d1_4 : decode method_2_code 4 = .ok (.ifCond .eq 36, 3) := by decide +kernel
theorem d1_40 : decode method_2_code 40 = .ok (.iload_n 0, 1) := by decide +kernel
theorem d1_41 : decode method_2_code 41 = .ok (.ldc 8, 2) := by decide +kernel
theorem d1_43 : decode method_2_code 43 = .ok (.iand, 1) := by decide +kernel
theorem d1_44 : decode method_2_code 44 = .ok (.i2c, 1) := by decide +kernel
theorem d1_45 : decode method_2_code 45 = .ok (.ireturn, 1) := by decide +kernel
theorem d1_7 : decode method_2_code 7 = .ok (.iload_n 0, 1) := by decide +kernel
theorem d1_8 : decode method_2_code 8 = .ok (.bipush 17, 2) := by decide +kernel
theorem d1_10 : decode method_2_code 10 = .ok (.iushr, 1) := by decide +kernel
theorem d1_11 : decode method_2_code 11 = .ok (.iconst 3, 1) := by decide +kernel
theorem d1_12 : decode method_2_code 12 = .ok (.iand, 1) := by decide +kernel
theorem d1_13 : decode method_2_code 13 = .ok (.istore_n 1, 1) := by decide +kernel
theorem d1_14 : decode method_2_code 14 = .ok (.iload_n 1, 1) := by decide +kernel
theorem d1_15 : decode method_2_code 15 = .ok (.ifCond .ne 6, 3) := by decide +kernel
theorem d1_18 : decode method_2_code 18 = .ok (.bipush 32, 2) := by decide +kernel
theorem d1_20 : decode method_2_code 20 = .ok (.ireturn, 1) := by decide +kernel
theorem d1_21 : decode method_2_code 21 = .ok (.iload_n 1, 1) := by decide +kernel
theorem d1_22 : decode method_2_code 22 = .ok (.iconst 1, 1) := by decide +kernel
theorem d1_23 : decode method_2_code 23 = .ok (.if_icmp .ne 6, 3) := by decide +kernel
theorem d1_26 : decode method_2_code 26 = .ok (.bipush 9, 2) := by decide +kernel
theorem d1_28 : decode method_2_code 28 = .ok (.ireturn, 1) := by decide +kernel
theorem d1_29 : decode method_2_code 29 = .ok (.iload_n 1, 1) := by decide +kernel
theorem d1_30 : decode method_2_code 30 = .ok (.iconst 2, 1) := by decide +kernel
theorem d1_31 : decode method_2_code 31 = .ok (.if_icmp .ne 6, 3) := by decide +kernel
theorem d1_34 : decode method_2_code 34 = .ok (.bipush 10, 2) := by decide +kernel
theorem d1_36 : decode method_2_code 36 = .ok (.ireturn, 1) := by decide +kernel
theorem d1_37 : decode method_2_code 37 = .ok (.bipush 13, 2) := by decide +kernel
theorem d1_39 : decode method_2_code 39 = .ok (.ireturn, 1) := by decide +kernel
def Fdr (p1 : Int32) : Int32 := (if (p1 &&& (65536 : Int32)) = (0 : Int32) then (nar .char (p1 &&& (65535 : Int32)).toUInt32.toUInt16.toUInt32.toInt32) else (if (((p1.toUInt32 >>> ((17 : Int32) &&& 31).toUInt32).toInt32) &&& (3 : Int32)) = (0 : Int32) then (32 : Int32) else (if (((p1.toUInt32 >>> ((17 : Int32) &&& 31).toUInt32).toInt32) &&& (3 : Int32)) = (1 : Int32) then (9 : Int32) else (if (((p1.toUInt32 >>> ((17 : Int32) &&& 31).toUInt32).toInt32) &&& (3 : Int32)) = (2 : Int32) then (10 : Int32) else (13 : Int32)))))
theorem Fdr_l0 (p1 : Int32) (h0 : (p1 &&& (65536 : Int32)) = (0 : Int32)) : Fdr p1 = (nar .char (p1 &&& (65535 : Int32)).toUInt32.toUInt16.toUInt32.toInt32) := by
  unfold Fdr; rw [if_pos h0]
theorem Fdr_l1 (p1 : Int32) (h0 : ¬ ((p1 &&& (65536 : Int32)) = (0 : Int32))) (h1 : (((p1.toUInt32 >>> ((17 : Int32) &&& 31).toUInt32).toInt32) &&& (3 : Int32)) = (0 : Int32)) : Fdr p1 = (32 : Int32) := by
  unfold Fdr; rw [if_neg h0, if_pos h1]
theorem Fdr_l2 (p1 : Int32) (h0 : ¬ ((p1 &&& (65536 : Int32)) = (0 : Int32))) (h1 : ¬ ((((p1.toUInt32 >>> ((17 : Int32) &&& 31).toUInt32).toInt32) &&& (3 : Int32)) = (0 : Int32))) (h2 : (((p1.toUInt32 >>> ((17 : Int32) &&& 31).toUInt32).toInt32) &&& (3 : Int32)) = (1 : Int32)) : Fdr p1 = (9 : Int32) := by
  unfold Fdr; rw [if_neg h0, if_neg h1, if_pos h2]
theorem Fdr_l3 (p1 : Int32) (h0 : ¬ ((p1 &&& (65536 : Int32)) = (0 : Int32))) (h1 : ¬ ((((p1.toUInt32 >>> ((17 : Int32) &&& 31).toUInt32).toInt32) &&& (3 : Int32)) = (0 : Int32))) (h2 : ¬ ((((p1.toUInt32 >>> ((17 : Int32) &&& 31).toUInt32).toInt32) &&& (3 : Int32)) = (1 : Int32))) (h3 : (((p1.toUInt32 >>> ((17 : Int32) &&& 31).toUInt32).toInt32) &&& (3 : Int32)) = (2 : Int32)) : Fdr p1 = (10 : Int32) := by
  unfold Fdr; rw [if_neg h0, if_neg h1, if_neg h2, if_pos h3]
theorem Fdr_l4 (p1 : Int32) (h0 : ¬ ((p1 &&& (65536 : Int32)) = (0 : Int32))) (h1 : ¬ ((((p1.toUInt32 >>> ((17 : Int32) &&& 31).toUInt32).toInt32) &&& (3 : Int32)) = (0 : Int32))) (h2 : ¬ ((((p1.toUInt32 >>> ((17 : Int32) &&& 31).toUInt32).toInt32) &&& (3 : Int32)) = (1 : Int32))) (h3 : ¬ ((((p1.toUInt32 >>> ((17 : Int32) &&& 31).toUInt32).toInt32) &&& (3 : Int32)) = (2 : Int32))) : Fdr p1 = (13 : Int32) := by
  unfold Fdr; rw [if_neg h0, if_neg h1, if_neg h2, if_neg h3]
theorem ef_dr (m : MethodId) (p1 : Int32) : entryFrame m #[(.int p1)] 2 = mkF m 0 #[.val (.int p1), .unset] [] := by first | (simp [entryFrame, mkF, argsToLocals, Value.category]; done) | rfl
def Q_dr (Z : State) (p1 : Int32) (cs : Int32) (fm : Value) (h0 : Heap) (n0 : Nat) (v : Option Value) (h : Heap) (L : List Loc) : Prop := v = some (.int (Fdr p1)) ∧ Fr n0 L ∧ h = h0
set_option maxRecDepth 65536 in
set_option maxHeartbeats 40000000 in
theorem rmdr (l : Launch) (Z : State) (a0 : Array Value) (hw : ∀ d ∈ tables_1, d.before a0 Z = true) (ws : List Jvm.Cond) (p1 : Int32) (cs : Int32) (fm : Value) (h0 : Heap) (n0 : Nat) (hF : FX Z h0 cs fm) :
    MetFree l (⟨"org/vouchsafe/XsdWhitespaceCollapsePinLaw", "draw", "(I)C"⟩ : MethodName) (head1 (Jvm.Cond.code (⟨"org/vouchsafe/XsdWhitespaceCollapsePinLaw", "draw", "(I)C"⟩ : MethodName) method_2_code 2 (some .char) :: ws) ({ frames := 0, cells := 0, slots := 0, locals := 0 } : Room)) (fun a U => a = #[(.int p1)] ∧ Z.Warmed39 U.vm ∧ U.heap = h0) (fun _ _ _ _ _ => True) (fun _ U o U' => ∃ v L, o = .returned v ∧ Q_dr Z p1 cs fm h0 n0 v U'.heap L ∧ FrameEnd U o U' L ({ frames := 0, cells := 0, slots := 0, locals := 0 } : Room).cells ({ frames := 0, cells := 0, slots := 0, locals := 0 } : Room).slots) := by
  refine met_of (Ls := #[.val (.int p1), .unset]) (plainFor_of_name (by first | (simp [plainName, overriddenIn]; done) | decide +kernel)) (fun m => ef_dr m p1) ?_
  intro p e s m below meth c T0 C X0 e0
  obtain ⟨S_cs, hcs, S_fm, hfm, S_ad, S_hi, S_lo⟩ := id hF
  have N0 := Fr.nil n0
  refine g_iloadN (pc' := 1) C X0 d1_0 rfl rfl ?_
  refine g_ldc (pc' := 3) (v := (65536 : Int32)) C X0 d1_1 (wq hw 5 rfl) rfl ?_
  refine g_iand (pc' := 4) C X0 d1_3 rfl ?_
  by_cases c1 : (p1 &&& (65536 : Int32)) = (0 : Int32)
  · refine g_ifY (pc' := 40) C X0 d1_4 (teq c1).1 (by decide) (by decide) ?_
    refine g_iloadN (pc' := 41) C X0 d1_40 rfl rfl ?_
    refine g_ldc (pc' := 43) (v := (65535 : Int32)) C X0 d1_41 (wq hw 6 rfl) rfl ?_
    refine g_iand (pc' := 44) C X0 d1_43 rfl ?_
    refine g_i2c (pc' := 45) C X0 d1_44 rfl ?_
    exact g_retN C X0 (by simp) d1_45 (by decide) (by decide) ⟨congrArg (fun z => some (Value.int z)) (Fdr_l0 p1 c1).symm, N0, e0⟩
  · refine g_ifN (pc' := 7) C X0 d1_4 (feq c1).1 rfl ?_
    refine g_iloadN (pc' := 8) C X0 d1_7 rfl rfl ?_
    refine g_bipush (pc' := 10) (v := (17 : Int32)) C X0 d1_8 rfl rfl ?_
    refine g_iushr (pc' := 11) C X0 d1_10 rfl ?_
    refine g_iconst (pc' := 12) (v := (3 : Int32)) C X0 d1_11 rfl rfl ?_
    refine g_iand (pc' := 13) C X0 d1_12 rfl ?_
    refine g_istoreN (pc' := 14) (Ls' := #[.val (.int p1), .val (.int (((p1.toUInt32 >>> ((17 : Int32) &&& 31).toUInt32).toInt32) &&& (3 : Int32)))]) C X0 d1_13 rfl rfl ?_
    refine g_iloadN (pc' := 15) C X0 d1_14 rfl rfl ?_
    by_cases c2 : (((p1.toUInt32 >>> ((17 : Int32) &&& 31).toUInt32).toInt32) &&& (3 : Int32)) = (0 : Int32)
    · refine g_ifN (pc' := 18) C X0 d1_15 (teq c2).2 rfl ?_
      refine g_bipush (pc' := 20) (v := (32 : Int32)) C X0 d1_18 rfl rfl ?_
      exact g_retN C X0 (by simp) d1_20 (by decide) (by decide) ⟨congrArg (fun z => some (Value.int z)) (Fdr_l1 p1 c1 c2).symm, N0, e0⟩
    · refine g_ifY (pc' := 21) C X0 d1_15 (feq c2).2 (by decide) (by decide) ?_
      refine g_iloadN (pc' := 22) C X0 d1_21 rfl rfl ?_
      refine g_iconst (pc' := 23) (v := (1 : Int32)) C X0 d1_22 rfl rfl ?_
      by_cases c3 : (((p1.toUInt32 >>> ((17 : Int32) &&& 31).toUInt32).toInt32) &&& (3 : Int32)) = (1 : Int32)
      · refine g_icmpN (pc' := 26) C X0 d1_23 (teq c3).2 rfl ?_
        refine g_bipush (pc' := 28) (v := (9 : Int32)) C X0 d1_26 rfl rfl ?_
        exact g_retN C X0 (by simp) d1_28 (by decide) (by decide) ⟨congrArg (fun z => some (Value.int z)) (Fdr_l2 p1 c1 c2 c3).symm, N0, e0⟩
      · refine g_icmpY (pc' := 29) C X0 d1_23 (feq c3).2 (by decide) (by decide) ?_
        refine g_iloadN (pc' := 30) C X0 d1_29 rfl rfl ?_
        refine g_iconst (pc' := 31) (v := (2 : Int32)) C X0 d1_30 rfl rfl ?_
        by_cases c4 : (((p1.toUInt32 >>> ((17 : Int32) &&& 31).toUInt32).toInt32) &&& (3 : Int32)) = (2 : Int32)
        · refine g_icmpN (pc' := 34) C X0 d1_31 (teq c4).2 rfl ?_
          refine g_bipush (pc' := 36) (v := (10 : Int32)) C X0 d1_34 rfl rfl ?_
          exact g_retN C X0 (by simp) d1_36 (by decide) (by decide) ⟨congrArg (fun z => some (Value.int z)) (Fdr_l3 p1 c1 c2 c3 c4).symm, N0, e0⟩
        · refine g_icmpY (pc' := 37) C X0 d1_31 (feq c4).2 (by decide) (by decide) ?_
          refine g_bipush (pc' := 39) (v := (13 : Int32)) C X0 d1_37 rfl rfl ?_
          exact g_retN C X0 (by simp) d1_39 (by decide) (by decide) ⟨congrArg (fun z => some (Value.int z)) (Fdr_l4 p1 c1 c2 c3 c4).symm, N0, e0⟩
theorem d31_0 : decode method_4_code 0 = .ok (.iload_n 3, 1) := by decide +kernel
theorem d31_1 : decode method_4_code 1 = .ok (.invokestatic 9, 3) := by decide +kernel
theorem d31_4 : decode method_4_code 4 = .ok (.ifCond .eq 5, 3) := by decide +kernel
theorem d31_9 : decode method_4_code 9 = .ok (.iload_n 1, 1) := by decide +kernel
theorem d31_10 : decode method_4_code 10 = .ok (.istore 5, 2) := by decide +kernel
theorem d31_12 : decode method_4_code 12 = .ok (.iload_n 2, 1) := by decide +kernel
theorem d31_13 : decode method_4_code 13 = .ok (.ifCond .lt 23, 3) := by decide +kernel
theorem d31_36 : decode method_4_code 36 = .ok (.aload_n 0, 1) := by decide +kernel
theorem d31_37 : decode method_4_code 37 = .ok (.iload 5, 2) := by decide +kernel
theorem d31_39 : decode method_4_code 39 = .ok (.iload_n 3, 1) := by decide +kernel
theorem d31_40 : decode method_4_code 40 = .ok (.castore, 1) := by decide +kernel
theorem d31_41 : decode method_4_code 41 = .ok (.iload 5, 2) := by decide +kernel
theorem d31_43 : decode method_4_code 43 = .ok (.iconst 1, 1) := by decide +kernel
theorem d31_44 : decode method_4_code 44 = .ok (.iadd, 1) := by decide +kernel
theorem d31_45 : decode method_4_code 45 = .ok (.istore 5, 2) := by decide +kernel
theorem d31_47 : decode method_4_code 47 = .ok (.iload 5, 2) := by decide +kernel
theorem d31_49 : decode method_4_code 49 = .ok (.ireturn, 1) := by decide +kernel
theorem d31_16 : decode method_4_code 16 = .ok (.iload_n 2, 1) := by decide +kernel
theorem d31_17 : decode method_4_code 17 = .ok (.iload 4, 2) := by decide +kernel
theorem d31_19 : decode method_4_code 19 = .ok (.iconst 1, 1) := by decide +kernel
theorem d31_20 : decode method_4_code 20 = .ok (.isub, 1) := by decide +kernel
theorem d31_21 : decode method_4_code 21 = .ok (.if_icmp .ge 15, 3) := by decide +kernel
theorem d31_24 : decode method_4_code 24 = .ok (.aload_n 0, 1) := by decide +kernel
theorem d31_25 : decode method_4_code 25 = .ok (.iload 5, 2) := by decide +kernel
theorem d31_27 : decode method_4_code 27 = .ok (.bipush 32, 2) := by decide +kernel
theorem d31_29 : decode method_4_code 29 = .ok (.castore, 1) := by decide +kernel
theorem d31_30 : decode method_4_code 30 = .ok (.iload 5, 2) := by decide +kernel
theorem d31_32 : decode method_4_code 32 = .ok (.iconst 1, 1) := by decide +kernel
theorem d31_33 : decode method_4_code 33 = .ok (.iadd, 1) := by decide +kernel
theorem d31_34 : decode method_4_code 34 = .ok (.istore 5, 2) := by decide +kernel
theorem d31_7 : decode method_4_code 7 = .ok (.iload_n 1, 1) := by decide +kernel
theorem d31_8 : decode method_4_code 8 = .ok (.ireturn, 1) := by decide +kernel
def Fem (p2 : Int32) (p3 : Int32) (p4 : Int32) (p5 : Int32) : Int32 := (if (Fws p4) = (0 : Int32) then (if p3 < (0 : Int32) then (p2 + (1 : Int32)) else (if p3 < (p5 - (1 : Int32)) then ((p2 + (1 : Int32)) + (1 : Int32)) else (p2 + (1 : Int32)))) else p2)
theorem Fem_l0 (p2 : Int32) (p3 : Int32) (p4 : Int32) (p5 : Int32) (h0 : (Fws p4) = (0 : Int32)) (h1 : p3 < (0 : Int32)) : Fem p2 p3 p4 p5 = (p2 + (1 : Int32)) := by
  unfold Fem; rw [if_pos h0, if_pos h1]
theorem Fem_l1 (p2 : Int32) (p3 : Int32) (p4 : Int32) (p5 : Int32) (h0 : (Fws p4) = (0 : Int32)) (h1 : ¬ (p3 < (0 : Int32))) (h2 : p3 < (p5 - (1 : Int32))) : Fem p2 p3 p4 p5 = ((p2 + (1 : Int32)) + (1 : Int32)) := by
  unfold Fem; rw [if_pos h0, if_neg h1, if_pos h2]
theorem Fem_l2 (p2 : Int32) (p3 : Int32) (p4 : Int32) (p5 : Int32) (h0 : (Fws p4) = (0 : Int32)) (h1 : ¬ (p3 < (0 : Int32))) (h2 : ¬ (p3 < (p5 - (1 : Int32)))) : Fem p2 p3 p4 p5 = (p2 + (1 : Int32)) := by
  unfold Fem; rw [if_pos h0, if_neg h1, if_neg h2]
theorem Fem_l3 (p2 : Int32) (p3 : Int32) (p4 : Int32) (p5 : Int32) (h0 : ¬ ((Fws p4) = (0 : Int32))) : Fem p2 p3 p4 p5 = p2 := by
  unfold Fem; rw [if_neg h0]
theorem ef_em (m : MethodId) (a1 : Addr) (p2 : Int32) (p3 : Int32) (p4 : Int32) (p5 : Int32) : entryFrame m #[(.ref a1), (.int p2), (.int p3), (.int p4), (.int p5)] 6 = mkF m 0 #[.val (.ref a1), .val (.int p2), .val (.int p3), .val (.int p4), .val (.int p5), .unset] [] := by first | (simp [entryFrame, mkF, argsToLocals, Value.category]; done) | rfl
def Q_em (Z : State) (a1 : Addr) (p2 : Int32) (p3 : Int32) (p4 : Int32) (p5 : Int32) (k1 : ClassId) (lx : List Int32) (cs : Int32) (fm : Value) (h0 : Heap) (n0 : Nat) (vr : Option Value) (h : Heap) (L : List Loc) : Prop := (vr = some (.int (Fem p2 p3 p4 p5))) ∧ (Fr n0 L) ∧ (Keep h0 h [a1]) ∧ (Arv Z h a1 k1 .char (9 : Int32) (own_vl (own_emL lx p2 p3 p4 p5)) (.int (0 : Int32)))
set_option maxRecDepth 65536 in
set_option maxHeartbeats 40000000 in
theorem rmem (l : Launch) (Z : State) (a0 : Array Value) (hw : ∀ d ∈ tables_1, d.before a0 Z = true) (ws : List Jvm.Cond) (a1 : Addr) (p2 : Int32) (p3 : Int32) (p4 : Int32) (p5 : Int32) (k1 : ClassId) (lx : List Int32) (cs : Int32) (fm : Value) (h0 : Heap) (n0 : Nat) (Z0 : n0 ≤ h0.size) (hF : FX Z h0 cs fm) (V_b : Arv Z h0 a1 k1 .char (9 : Int32) (own_vl lx) (.int (0 : Int32))) (gn_a1 : n0 ≤ a1) (hl0 : ¬ (p2 < (0 : Int32))) (hl1 : p2 < (9 : Int32)) (hl2 : ¬ ((p2 + (1 : Int32)) < (0 : Int32))) (hl3 : (p2 + (1 : Int32)) < (9 : Int32)) (hp4 : own_ch p4) :
    MetFree l (⟨"org/vouchsafe/XsdWhitespaceCollapsePinLaw", "emit", "([CIICI)I"⟩ : MethodName) (head1 (Jvm.Cond.code (⟨"org/vouchsafe/XsdWhitespaceCollapsePinLaw", "emit", "([CIICI)I"⟩ : MethodName) method_4_code 6 (some .int) :: ws) ({ frames := 1, cells := 0, slots := 0, locals := 12 } : Room)) (fun a U => a = #[(.ref a1), (.int p2), (.int p3), (.int p4), (.int p5)] ∧ Z.Warmed39 U.vm ∧ U.heap = h0) (fun _ _ _ _ _ => True) (fun _ U o U' => ∃ v L, o = .returned v ∧ Q_em Z a1 p2 p3 p4 p5 k1 lx cs fm h0 n0 v U'.heap L ∧ FrameEnd U o U' L ({ frames := 1, cells := 0, slots := 0, locals := 12 } : Room).cells ({ frames := 1, cells := 0, slots := 0, locals := 12 } : Room).slots) := by
  refine met_of (Ls := #[.val (.ref a1), .val (.int p2), .val (.int p3), .val (.int p4), .val (.int p5), .unset]) (plainFor_of_name (by first | (simp [plainName, overriddenIn]; done) | decide +kernel)) (fun m => ef_em m a1 p2 p3 p4 p5) ?_
  intro p e s m below meth c T0 C X0 e0
  obtain ⟨S_cs, hcs, S_fm, hfm, S_ad, S_hi, S_lo⟩ := id hF
  have N0 := Fr.nil n0
  have K0 : Keep h0 h0 [a1] := Keep.refl h0 _
  refine g_iloadN (pc' := 1) C X0 d31_0 rfl rfl ?_
  refine g_callS (y := (⟨"org/vouchsafe/XsdWhitespaceCollapsePinLaw", "ws", "(C)Z"⟩ : MethodName)) (argsL := [(.int p4)]) (st := []) (pc' := 4) C X0 d31_1 (wq hw 160 rfl) (wq hw 161 rfl) (wq hw 3 rfl) (wq hw 162 rfl) (by decide) (rmws l Z a0 hw [] p4 cs fm h0 n0 hF) (W := 0) (by decide) (by decide) (ce := 0) (sl := 0) rfl rfl (by decide) (by decide) rfl e0 rfl pd_15 rfl (Nat.le_refl _) rfl (fun rv1 T1 L1 X1 Q1 => ?_)
  obtain ⟨q1, Nq1, e1⟩ := Q1
  have N1 := Fr.app N0 Nq1
  subst q1
  show Go p.tables e below _ (T1.setTop (mkF m 4 #[.val (.ref a1), .val (.int p2), .val (.int p3), .val (.int p4), .val (.int p5), .unset] [(.int (Fws p4))]))
  by_cases c2 : (Fws p4) = (0 : Int32)
  · refine g_ifY (pc' := 9) C X1 d31_4 (teq c2).1 (by decide) (by decide) ?_
    refine g_iloadN (pc' := 10) C X1 d31_9 rfl rfl ?_
    refine g_istore (pc' := 12) (Ls' := #[.val (.ref a1), .val (.int p2), .val (.int p3), .val (.int p4), .val (.int p5), .val (.int p2)]) C X1 d31_10 rfl rfl ?_
    refine g_iloadN (pc' := 13) C X1 d31_12 rfl rfl ?_
    by_cases c3 : p3 < (0 : Int32)
    · refine g_ifY (pc' := 36) C X1 d31_13 (tlt c3).1 (by decide) (by decide) ?_
      refine g_aloadN (pc' := 37) C X1 d31_36 rfl rfl rfl ?_
      refine g_iload (pc' := 39) C X1 d31_37 rfl rfl ?_
      refine g_iloadN (pc' := 40) C X1 d31_39 rfl rfl ?_
      refine g_stC (pc' := 41) (i := p2.toNatClampNeg) C X1 d31_40 e1 (V_b.pad (pad_rep _ _ (p2.toNatClampNeg + 1))) ⟨hl0, hl1⟩ rfl own_lts rfl (fun T4 h4 X4 e4 W4 V4q => ?_)
      have V4 : Arv Z h4 a1 k1 .char (9 : Int32) (own_vl (own_s lx p2 (nar .char p4))) (.int (0 : Int32)) := own_vl_set _ _ _ ▸ V4q
      have FX_4 := FX_wr hF W4
      have Z4 := Nat.le_trans Z0 (Nat.le_of_eq W4.size.symm)
      have N4 := Fr.snoc X4 N1 gn_a1
      have K4 := K0.wr W4 (Or.inl (List.mem_of_getElem? (i := 0) rfl))
      refine g_iload (pc' := 43) C X4 d31_41 rfl rfl ?_
      refine g_iconst (pc' := 44) (v := (1 : Int32)) C X4 d31_43 rfl rfl ?_
      refine g_iadd (pc' := 45) C X4 d31_44 rfl ?_
      refine g_istore (pc' := 47) (Ls' := #[.val (.ref a1), .val (.int p2), .val (.int p3), .val (.int p4), .val (.int p5), .val (.int (p2 + (1 : Int32)))]) C X4 d31_45 rfl rfl ?_
      refine g_iload (pc' := 49) C X4 d31_47 rfl rfl ?_
      exact g_retI C X4 d31_49 (by decide) (by decide) ⟨congrArg (fun z => some (Value.int z)) (Fem_l0 p2 p3 p4 p5 c2 c3).symm, N4, (by rw [e4]; exact K4), (by rw [e4]; have aa := V4; rw [own_narc hp4] at aa; unfold own_emL; rw [if_pos c2, if_pos c3]; exact aa)⟩
    · refine g_ifN (pc' := 16) C X1 d31_13 (flt c3).1 rfl ?_
      refine g_iloadN (pc' := 17) C X1 d31_16 rfl rfl ?_
      refine g_iload (pc' := 19) C X1 d31_17 rfl rfl ?_
      refine g_iconst (pc' := 20) (v := (1 : Int32)) C X1 d31_19 rfl rfl ?_
      refine g_isub (pc' := 21) C X1 d31_20 rfl ?_
      by_cases c5 : p3 < (p5 - (1 : Int32))
      · refine g_icmpN (pc' := 24) C X1 d31_21 (tlt c5).2.1 rfl ?_
        refine g_aloadN (pc' := 25) C X1 d31_24 rfl rfl rfl ?_
        refine g_iload (pc' := 27) C X1 d31_25 rfl rfl ?_
        refine g_bipush (pc' := 29) (v := (32 : Int32)) C X1 d31_27 rfl rfl ?_
        refine g_stC (pc' := 30) (i := p2.toNatClampNeg) C X1 d31_29 e1 (V_b.pad (pad_rep _ _ (p2.toNatClampNeg + 1))) ⟨hl0, hl1⟩ rfl own_lts rfl (fun T6 h6 X6 e6 W6 V6q => ?_)
        have V6 : Arv Z h6 a1 k1 .char (9 : Int32) (own_vl (own_s lx p2 (32 : Int32))) (.int (0 : Int32)) := own_vl_set _ _ _ ▸ V6q
        have FX_6 := FX_wr hF W6
        have Z6 := Nat.le_trans Z0 (Nat.le_of_eq W6.size.symm)
        have N6 := Fr.snoc X6 N1 gn_a1
        have K6 := K0.wr W6 (Or.inl (List.mem_of_getElem? (i := 0) rfl))
        refine g_iload (pc' := 32) C X6 d31_30 rfl rfl ?_
        refine g_iconst (pc' := 33) (v := (1 : Int32)) C X6 d31_32 rfl rfl ?_
        refine g_iadd (pc' := 34) C X6 d31_33 rfl ?_
        refine g_istore (pc' := 36) (Ls' := #[.val (.ref a1), .val (.int p2), .val (.int p3), .val (.int p4), .val (.int p5), .val (.int (p2 + (1 : Int32)))]) C X6 d31_34 rfl rfl ?_
        refine g_aloadN (pc' := 37) C X6 d31_36 rfl rfl rfl ?_
        refine g_iload (pc' := 39) C X6 d31_37 rfl rfl ?_
        refine g_iloadN (pc' := 40) C X6 d31_39 rfl rfl ?_
        refine g_stC (pc' := 41) (i := (p2 + (1 : Int32)).toNatClampNeg) C X6 d31_40 e6 (V6.pad (pad_rep _ _ ((p2 + (1 : Int32)).toNatClampNeg + 1))) ⟨hl2, hl3⟩ rfl own_lts rfl (fun T7 h7 X7 e7 W7 V7q => ?_)
        have V7 : Arv Z h7 a1 k1 .char (9 : Int32) (own_vl (own_s (own_s lx p2 (32 : Int32)) (p2 + (1 : Int32)) (nar .char p4))) (.int (0 : Int32)) := own_vl_set _ _ _ ▸ V7q
        have FX_7 := FX_wr FX_6 W7
        have Z7 := Nat.le_trans Z6 (Nat.le_of_eq W7.size.symm)
        have N7 := Fr.snoc X7 N6 gn_a1
        have K7 := K6.wr W7 (Or.inl (List.mem_of_getElem? (i := 0) rfl))
        refine g_iload (pc' := 43) C X7 d31_41 rfl rfl ?_
        refine g_iconst (pc' := 44) (v := (1 : Int32)) C X7 d31_43 rfl rfl ?_
        refine g_iadd (pc' := 45) C X7 d31_44 rfl ?_
        refine g_istore (pc' := 47) (Ls' := #[.val (.ref a1), .val (.int p2), .val (.int p3), .val (.int p4), .val (.int p5), .val (.int ((p2 + (1 : Int32)) + (1 : Int32)))]) C X7 d31_45 rfl rfl ?_
        refine g_iload (pc' := 49) C X7 d31_47 rfl rfl ?_
        exact g_retI C X7 d31_49 (by decide) (by decide) ⟨congrArg (fun z => some (Value.int z)) (Fem_l1 p2 p3 p4 p5 c2 c3 c5).symm, N7, (by rw [e7]; exact K7), (by rw [e7]; have aa := V7; rw [own_narc hp4] at aa; unfold own_emL; rw [if_pos c2, if_neg c3, if_pos c5]; exact aa)⟩
      · refine g_icmpY (pc' := 36) C X1 d31_21 (flt c5).2.1 (by decide) (by decide) ?_
        refine g_aloadN (pc' := 37) C X1 d31_36 rfl rfl rfl ?_
        refine g_iload (pc' := 39) C X1 d31_37 rfl rfl ?_
        refine g_iloadN (pc' := 40) C X1 d31_39 rfl rfl ?_
        refine g_stC (pc' := 41) (i := p2.toNatClampNeg) C X1 d31_40 e1 (V_b.pad (pad_rep _ _ (p2.toNatClampNeg + 1))) ⟨hl0, hl1⟩ rfl own_lts rfl (fun T8 h8 X8 e8 W8 V8q => ?_)
        have V8 : Arv Z h8 a1 k1 .char (9 : Int32) (own_vl (own_s lx p2 (nar .char p4))) (.int (0 : Int32)) := own_vl_set _ _ _ ▸ V8q
        have FX_8 := FX_wr hF W8
        have Z8 := Nat.le_trans Z0 (Nat.le_of_eq W8.size.symm)
        have N8 := Fr.snoc X8 N1 gn_a1
        have K8 := K0.wr W8 (Or.inl (List.mem_of_getElem? (i := 0) rfl))
        refine g_iload (pc' := 43) C X8 d31_41 rfl rfl ?_
        refine g_iconst (pc' := 44) (v := (1 : Int32)) C X8 d31_43 rfl rfl ?_
        refine g_iadd (pc' := 45) C X8 d31_44 rfl ?_
        refine g_istore (pc' := 47) (Ls' := #[.val (.ref a1), .val (.int p2), .val (.int p3), .val (.int p4), .val (.int p5), .val (.int (p2 + (1 : Int32)))]) C X8 d31_45 rfl rfl ?_
        refine g_iload (pc' := 49) C X8 d31_47 rfl rfl ?_
        exact g_retI C X8 d31_49 (by decide) (by decide) ⟨congrArg (fun z => some (Value.int z)) (Fem_l2 p2 p3 p4 p5 c2 c3 c5).symm, N8, (by rw [e8]; exact K8), (by rw [e8]; have aa := V8; rw [own_narc hp4] at aa; unfold own_emL; rw [if_pos c2, if_neg c3, if_neg c5]; exact aa)⟩
  · refine g_ifN (pc' := 7) C X1 d31_4 (feq c2).1 rfl ?_
    refine g_iloadN (pc' := 8) C X1 d31_7 rfl rfl ?_
    exact g_retI C X1 d31_8 (by decide) (by decide) ⟨congrArg (fun z => some (Value.int z)) (Fem_l3 p2 p3 p4 p5 c2).symm, N1, (by rw [e1]; exact K0), (by rw [e1]; have aa := V_b; unfold own_emL; rw [if_neg c2]; exact aa)⟩
theorem d33_0 : decode method_5_code 0 = .ok (.iload_n 1, 1) := by decide +kernel
theorem d33_1 : decode method_5_code 1 = .ok (.invokestatic 9, 3) := by decide +kernel
theorem d33_4 : decode method_5_code 4 = .ok (.ifCond .eq 7, 3) := by decide +kernel
theorem d33_11 : decode method_5_code 11 = .ok (.iload_n 2, 1) := by decide +kernel
theorem d33_12 : decode method_5_code 12 = .ok (.ireturn, 1) := by decide +kernel
theorem d33_7 : decode method_5_code 7 = .ok (.iload_n 0, 1) := by decide +kernel
theorem d33_8 : decode method_5_code 8 = .ok (.goto 4, 3) := by decide +kernel
def Fla (p1 : Int32) (p2 : Int32) (p3 : Int32) : Int32 := (if (Fws p2) = (0 : Int32) then p3 else p1)
theorem Fla_l0 (p1 : Int32) (p2 : Int32) (p3 : Int32) (h0 : (Fws p2) = (0 : Int32)) : Fla p1 p2 p3 = p3 := by
  unfold Fla; rw [if_pos h0]
theorem Fla_l1 (p1 : Int32) (p2 : Int32) (p3 : Int32) (h0 : ¬ ((Fws p2) = (0 : Int32))) : Fla p1 p2 p3 = p1 := by
  unfold Fla; rw [if_neg h0]
theorem ef_la (m : MethodId) (p1 : Int32) (p2 : Int32) (p3 : Int32) : entryFrame m #[(.int p1), (.int p2), (.int p3)] 3 = mkF m 0 #[.val (.int p1), .val (.int p2), .val (.int p3)] [] := by first | (simp [entryFrame, mkF, argsToLocals, Value.category]; done) | rfl
def Q_la (Z : State) (p1 : Int32) (p2 : Int32) (p3 : Int32) (cs : Int32) (fm : Value) (h0 : Heap) (n0 : Nat) (v : Option Value) (h : Heap) (L : List Loc) : Prop := v = some (.int (Fla p1 p2 p3)) ∧ Fr n0 L ∧ h = h0
set_option maxRecDepth 65536 in
set_option maxHeartbeats 40000000 in
theorem rmla (l : Launch) (Z : State) (a0 : Array Value) (hw : ∀ d ∈ tables_1, d.before a0 Z = true) (ws : List Jvm.Cond) (p1 : Int32) (p2 : Int32) (p3 : Int32) (cs : Int32) (fm : Value) (h0 : Heap) (n0 : Nat) (hF : FX Z h0 cs fm) :
    MetFree l (⟨"org/vouchsafe/XsdWhitespaceCollapsePinLaw", "lastAfter", "(ICI)I"⟩ : MethodName) (head1 (Jvm.Cond.code (⟨"org/vouchsafe/XsdWhitespaceCollapsePinLaw", "lastAfter", "(ICI)I"⟩ : MethodName) method_5_code 3 (some .int) :: ws) ({ frames := 1, cells := 0, slots := 0, locals := 12 } : Room)) (fun a U => a = #[(.int p1), (.int p2), (.int p3)] ∧ Z.Warmed39 U.vm ∧ U.heap = h0) (fun _ _ _ _ _ => True) (fun _ U o U' => ∃ v L, o = .returned v ∧ Q_la Z p1 p2 p3 cs fm h0 n0 v U'.heap L ∧ FrameEnd U o U' L ({ frames := 1, cells := 0, slots := 0, locals := 12 } : Room).cells ({ frames := 1, cells := 0, slots := 0, locals := 12 } : Room).slots) := by
  refine met_of (Ls := #[.val (.int p1), .val (.int p2), .val (.int p3)]) (plainFor_of_name (by first | (simp [plainName, overriddenIn]; done) | decide +kernel)) (fun m => ef_la m p1 p2 p3) ?_
  intro p e s m below meth c T0 C X0 e0
  obtain ⟨S_cs, hcs, S_fm, hfm, S_ad, S_hi, S_lo⟩ := id hF
  have N0 := Fr.nil n0
  refine g_iloadN (pc' := 1) C X0 d33_0 rfl rfl ?_
  refine g_callS (y := (⟨"org/vouchsafe/XsdWhitespaceCollapsePinLaw", "ws", "(C)Z"⟩ : MethodName)) (argsL := [(.int p2)]) (st := []) (pc' := 4) C X0 d33_1 (wq hw 160 rfl) (wq hw 161 rfl) (wq hw 3 rfl) (wq hw 162 rfl) (by decide) (rmws l Z a0 hw [] p2 cs fm h0 n0 hF) (W := 0) (by decide) (by decide) (ce := 0) (sl := 0) rfl rfl (by decide) (by decide) rfl e0 rfl pd_15 rfl (Nat.le_refl _) rfl (fun rv1 T1 L1 X1 Q1 => ?_)
  obtain ⟨q1, Nq1, e1⟩ := Q1
  have N1 := Fr.app N0 Nq1
  subst q1
  show Go p.tables e below _ (T1.setTop (mkF m 4 #[.val (.int p1), .val (.int p2), .val (.int p3)] [(.int (Fws p2))]))
  by_cases c2 : (Fws p2) = (0 : Int32)
  · refine g_ifY (pc' := 11) C X1 d33_4 (teq c2).1 (by decide) (by decide) ?_
    refine g_iloadN (pc' := 12) C X1 d33_11 rfl rfl ?_
    exact g_retI C X1 d33_12 (by decide) (by decide) ⟨congrArg (fun z => some (Value.int z)) (Fla_l0 p1 p2 p3 c2).symm, N1, e1⟩
  · refine g_ifN (pc' := 7) C X1 d33_4 (feq c2).1 rfl ?_
    refine g_iloadN (pc' := 8) C X1 d33_7 rfl rfl ?_
    refine g_goto (pc' := 12) C X1 d33_8 (by decide) (by decide) ?_
    exact g_retI C X1 d33_12 (by decide) (by decide) ⟨congrArg (fun z => some (Value.int z)) (Fla_l1 p1 p2 p3 c2).symm, N1, e1⟩
theorem d34_0 : decode method_6_code 0 = .ok (.iload_n 3, 1) := by decide +kernel
theorem d34_1 : decode method_6_code 1 = .ok (.iload_n 2, 1) := by decide +kernel
theorem d34_2 : decode method_6_code 2 = .ok (.if_icmp .ge 14, 3) := by decide +kernel
theorem d34_5 : decode method_6_code 5 = .ok (.aload_n 0, 1) := by decide +kernel
theorem d34_6 : decode method_6_code 6 = .ok (.iload_n 3, 1) := by decide +kernel
theorem d34_7 : decode method_6_code 7 = .ok (.invokevirtual 15, 3) := by decide +kernel
theorem d34_10 : decode method_6_code 10 = .ok (.aload_n 1, 1) := by decide +kernel
theorem d34_11 : decode method_6_code 11 = .ok (.iload_n 3, 1) := by decide +kernel
theorem d34_12 : decode method_6_code 12 = .ok (.caload, 1) := by decide +kernel
theorem d34_13 : decode method_6_code 13 = .ok (.if_icmp .ne 7, 3) := by decide +kernel
theorem d34_16 : decode method_6_code 16 = .ok (.iconst 1, 1) := by decide +kernel
theorem d34_17 : decode method_6_code 17 = .ok (.goto 4, 3) := by decide +kernel
theorem d34_21 : decode method_6_code 21 = .ok (.ireturn, 1) := by decide +kernel
theorem d34_20 : decode method_6_code 20 = .ok (.iconst 0, 1) := by decide +kernel
def Fat (p3 : Int32) (p4 : Int32) (xs : List Int32) (lx : List Int32) : Int32 := (if p4 < p3 then (if (own_g xs p4) = (own_g lx p4) then (1 : Int32) else (0 : Int32)) else (1 : Int32))
theorem Fat_l0 (p3 : Int32) (p4 : Int32) (xs : List Int32) (lx : List Int32) (h0 : p4 < p3) (h1 : (own_g xs p4) = (own_g lx p4)) : Fat p3 p4 xs lx = (1 : Int32) := by
  unfold Fat; rw [if_pos h0, if_pos h1]
theorem Fat_l1 (p3 : Int32) (p4 : Int32) (xs : List Int32) (lx : List Int32) (h0 : p4 < p3) (h1 : ¬ ((own_g xs p4) = (own_g lx p4))) : Fat p3 p4 xs lx = (0 : Int32) := by
  unfold Fat; rw [if_pos h0, if_neg h1]
theorem Fat_l2 (p3 : Int32) (p4 : Int32) (xs : List Int32) (lx : List Int32) (h0 : ¬ (p4 < p3)) : Fat p3 p4 xs lx = (1 : Int32) := by
  unfold Fat; rw [if_neg h0]
theorem ef_at (m : MethodId) (a1 : Addr) (a2 : Addr) (p3 : Int32) (p4 : Int32) : entryFrame m #[(.ref a1), (.ref a2), (.int p3), (.int p4)] 4 = mkF m 0 #[.val (.ref a1), .val (.ref a2), .val (.int p3), .val (.int p4)] [] := by first | (simp [entryFrame, mkF, argsToLocals, Value.category]; done) | rfl
def Q_at (Z : State) (a1 : Addr) (a2 : Addr) (p3 : Int32) (p4 : Int32) (v1_ : Addr) (xs : List Int32) (k1 : ClassId) (lx : List Int32) (cs : Int32) (fm : Value) (h0 : Heap) (n0 : Nat) (v : Option Value) (h : Heap) (L : List Loc) : Prop := v = some (.int (Fat p3 p4 xs lx)) ∧ Fr n0 L ∧ h = h0
set_option maxRecDepth 65536 in
set_option maxHeartbeats 40000000 in
theorem rmat (l : Launch) (Z : State) (a0 : Array Value) (hw : ∀ d ∈ tables_1, d.before a0 Z = true) (ws : List Jvm.Cond) (a1 : Addr) (a2 : Addr) (p3 : Int32) (p4 : Int32) (v1_ : Addr) (xs : List Int32) (k1 : ClassId) (lx : List Int32) (cs : Int32) (fm : Value) (h0 : Heap) (n0 : Nat) (hF : FX Z h0 cs fm) (hS : Str Z h0 a1 v1_ xs) (V_b : Arv Z h0 a2 k1 .char (9 : Int32) (own_vl lx) (.int (0 : Int32))) (hle : p3 = own_n xs) (hk0 : ¬ (p4 < (0 : Int32))) (hk9 : p4 < (9 : Int32)) :
    MetFree l (⟨"org/vouchsafe/XsdWhitespaceCollapsePinLaw", "at", "(Ljava/lang/String;[CII)Z"⟩ : MethodName) (head1 (Jvm.Cond.code (⟨"org/vouchsafe/XsdWhitespaceCollapsePinLaw", "at", "(Ljava/lang/String;[CII)Z"⟩ : MethodName) method_6_code 4 (some .boolean) :: ws) ({ frames := 5, cells := 0, slots := 0, locals := 66 } : Room)) (fun a U => a = #[(.ref a1), (.ref a2), (.int p3), (.int p4)] ∧ Z.Warmed39 U.vm ∧ U.heap = h0) (fun _ _ _ _ _ => True) (fun _ U o U' => ∃ v L, o = .returned v ∧ Q_at Z a1 a2 p3 p4 v1_ xs k1 lx cs fm h0 n0 v U'.heap L ∧ FrameEnd U o U' L ({ frames := 5, cells := 0, slots := 0, locals := 66 } : Room).cells ({ frames := 5, cells := 0, slots := 0, locals := 66 } : Room).slots) := by
  refine met_of (Ls := #[.val (.ref a1), .val (.ref a2), .val (.int p3), .val (.int p4)]) (plainFor_of_name (by first | (simp [plainName, overriddenIn]; done) | decide +kernel)) (fun m => ef_at m a1 a2 p3 p4) ?_
  intro p e s m below meth c T0 C X0 e0
  obtain ⟨S_cs, hcs, S_fm, hfm, S_ad, S_hi, S_lo⟩ := id hF
  have N0 := Fr.nil n0
  refine g_iloadN (pc' := 1) C X0 d34_0 rfl rfl ?_
  refine g_iloadN (pc' := 2) C X0 d34_1 rfl rfl ?_
  by_cases c1 : p4 < p3
  · refine g_icmpN (pc' := 5) C X0 d34_2 (tlt c1).2.1 rfl ?_
    refine g_aloadN (pc' := 6) C X0 d34_5 rfl rfl rfl ?_
    refine g_iloadN (pc' := 7) C X0 d34_6 rfl rfl ?_
    refine g_callV (b := a1) (z := (⟨"java/lang/String", "charAt", "(I)C"⟩ : MethodName)) (y := (⟨"java/lang/String", "charAt", "(I)C"⟩ : MethodName)) (argsL := [(.int p4)]) (st := []) (pc' := 10) C X0 d34_7 (wq hw 170 rfl) (wq hw 69 rfl) (notFace_of_selects (args := #[]) (mvT C.hZ (wq hw 71 rfl))) (wq hw 71 rfl) (wq hw 70 rfl) (wq hw 9 rfl) (wq hw 72 rfl) (by decide) (rmsca l Z a0 hw [] a1 p4 v1_ xs cs fm h0 n0 hF hS hk0 (hle ▸ c1)) (W := 0) (by decide) (by decide) (ce := 0) (sl := 0) rfl rfl (by decide) (by decide) rfl (Str_exa hS) e0 rfl pd_30 rfl (Nat.le_refl _) rfl (fun rv2 T2 L2 X2 Q2 => ?_)
    obtain ⟨q2, Nq2, e2⟩ := Q2
    have N2 := Fr.app N0 Nq2
    subst q2
    show Go p.tables e below _ (T2.setTop (mkF m 10 #[.val (.ref a1), .val (.ref a2), .val (.int p3), .val (.int p4)] [(.int (own_g xs p4))]))
    refine g_aloadN (pc' := 11) C X2 d34_10 rfl rfl rfl ?_
    refine g_iloadN (pc' := 12) C X2 d34_11 rfl rfl ?_
    refine g_ldC (pc' := 13) (v := (.int (own_g lx p4))) C X2 d34_12 e2 V_b ⟨hk0, hk9⟩ (own_vl_get _ _) rfl ?_
    by_cases c3 : (own_g xs p4) = (own_g lx p4)
    · refine g_icmpN (pc' := 16) C X2 d34_13 (teq c3).2 rfl ?_
      refine g_iconst (pc' := 17) (v := (1 : Int32)) C X2 d34_16 rfl rfl ?_
      refine g_goto (pc' := 21) C X2 d34_17 (by decide) (by decide) ?_
      exact g_retN C X2 (by simp) d34_21 (by decide) (by decide) ⟨congrArg (fun z => some (Value.int z)) (Fat_l0 p3 p4 xs lx c1 c3).symm, N2, e2⟩
    · refine g_icmpY (pc' := 20) C X2 d34_13 (feq c3).2 (by decide) (by decide) ?_
      refine g_iconst (pc' := 21) (v := (0 : Int32)) C X2 d34_20 rfl rfl ?_
      exact g_retN C X2 (by simp) d34_21 (by decide) (by decide) ⟨congrArg (fun z => some (Value.int z)) (Fat_l1 p3 p4 xs lx c1 c3).symm, N2, e2⟩
  · refine g_icmpY (pc' := 16) C X0 d34_2 (flt c1).2.1 (by decide) (by decide) ?_
    refine g_iconst (pc' := 17) (v := (1 : Int32)) C X0 d34_16 rfl rfl ?_
    refine g_goto (pc' := 21) C X0 d34_17 (by decide) (by decide) ?_
    exact g_retN C X0 (by simp) d34_21 (by decide) (by decide) ⟨congrArg (fun z => some (Value.int z)) (Fat_l2 p3 p4 xs lx c1).symm, N0, e0⟩
theorem own_npos {cs : List Int32} (h : cs.length ≤ 5) : (0 : Int32) < own_n cs ↔ 0 < cs.length := by
  unfold own_n
  generalize cs.length = k at h ⊢
  match k, h with
  | 0, _ => decide
  | 1, _ => decide
  | 2, _ => decide
  | 3, _ => decide
  | 4, _ => decide
  | 5, _ => decide
theorem own_s_snoc {cs L : List Int32} {n x : Int32} (hn : n = own_n cs) (hl : cs.length ≤ 5) (h : ∀ i, cs.getD i 0 = L.getD i 0) : ∀ i, (cs ++ [x]).getD i 0 = (own_s L n x).getD i 0 := by
  intro i
  rw [own_getD_snoc, own_s_getD, hn, own_ntn hl, h]
def own_inv (i : Nat) (p : Int32 × List Int32) (len last : Int32) (buf : List Int32) : Prop :=
  len = own_n p.2 ∧ (∀ j, p.2.getD j 0 = buf.getD j 0) ∧ p.2.length ≤ i ∧ (¬ p.1 = 0 → p.2.length + 1 ≤ i) ∧ (p.2.length = 0 → last.toInt = -1) ∧ (0 < p.2.length → (p.1 = 0 → last.toInt = i - 1) ∧ (¬ p.1 = 0 → 0 ≤ last.toInt ∧ last.toInt < i - 1))
theorem own_inv0 : own_inv 0 ((0 : Int32), []) (0 : Int32) (-1 : Int32) [] := ⟨rfl, fun _ => rfl, Nat.le_refl _, fun h => absurd rfl h, fun _ => by decide, fun h => absurd h (by decide)⟩
theorem own_invS {i : Nat} {p : Int32 × List Int32} {len last x ii : Int32} {buf : List Int32} (h : own_inv i p len last buf) (hi : i ≤ 4) (h1 : ii.toInt = i) (h2 : (ii - (1 : Int32)).toInt = (i : Int) - 1) :
    own_inv (i + 1) (own_st p x) (Fem len last x ii) (Fla last x ii) (own_emL buf len last x ii) := by
  obtain ⟨pd, cs⟩ := p
  obtain ⟨a, b, c, d, e, f⟩ := h
  dsimp only at a b c d e f
  have z0 : (0 : Int32).toInt = 0 := by decide
  by_cases w : (Fws x) = (0 : Int32)
  · have eL : Fla last x ii = ii := by unfold Fla; rw [if_pos w]
    by_cases q : pd = 0
    · have nlt : ¬ (¬ last < 0 ∧ last < ii - 1) := by
        rintro ⟨u, v⟩
        rw [Int32.lt_iff_toInt_lt] at u v
        by_cases z : cs.length = 0
        · have := e z; omega
        · have := (f (by omega)).1 q; omega
      have eF : Fem len last x ii = len + 1 := by
        unfold Fem; rw [if_pos w]
        by_cases u : last < 0
        · rw [if_pos u]
        · rw [if_neg u, if_neg (fun v => nlt ⟨u, v⟩)]
      have eM : own_emL buf len last x ii = own_s buf len x := by
        unfold own_emL; rw [if_pos w]
        by_cases u : last < 0
        · rw [if_pos u]
        · rw [if_neg u, if_neg (fun v => nlt ⟨u, v⟩)]
      rw [own_st2 w q, eF, eM, eL]
      refine ⟨own_n_snoc a (by omega), own_s_snoc a (by omega) b, by simp only [List.length_append, List.length_singleton]; omega, fun h => absurd rfl h, fun h => ?_, fun _ => ⟨fun _ => by rw [h1]; omega, fun h => absurd rfl h⟩⟩
      simp only [List.length_append, List.length_singleton] at h; omega
    · by_cases r : (0 : Int32) < own_n cs
      · have hp := (own_npos (by omega)).mp r
        have hd := d q
        have hf := (f hp).2 q
        have u1 : ¬ last < 0 := by rw [Int32.lt_iff_toInt_lt]; omega
        have u2 : last < ii - 1 := by rw [Int32.lt_iff_toInt_lt]; omega
        have eF : Fem len last x ii = len + 1 + 1 := by unfold Fem; rw [if_pos w, if_neg u1, if_pos u2]
        have eM : own_emL buf len last x ii = own_s (own_s buf len 32) (len + 1) x := by unfold own_emL; rw [if_pos w, if_neg u1, if_pos u2]
        have a2 := own_n_snoc (x := 32) a (by omega)
        have l2 : (cs ++ [(32 : Int32)]).length = cs.length + 1 := by rw [List.length_append, List.length_singleton]
        rw [own_st3 w q r, eF, eM, eL]
        refine ⟨own_n_snoc a2 (by omega), own_s_snoc a2 (by omega) (own_s_snoc a (by omega) b), by simp only [List.length_append, List.length_singleton]; omega, fun h => absurd rfl h, fun h => ?_, fun _ => ⟨fun _ => by rw [h1]; omega, fun h => absurd rfl h⟩⟩
        simp only [List.length_append, List.length_singleton] at h; omega
      · have hp : ¬ 0 < cs.length := fun h => r ((own_npos (by omega)).mpr h)
        have he := e (by omega)
        have u1 : last < 0 := by rw [Int32.lt_iff_toInt_lt]; omega
        have eF : Fem len last x ii = len + 1 := by unfold Fem; rw [if_pos w, if_pos u1]
        have eM : own_emL buf len last x ii = own_s buf len x := by unfold own_emL; rw [if_pos w, if_pos u1]
        rw [own_st4 w q r, eF, eM, eL]
        refine ⟨own_n_snoc a (by omega), own_s_snoc a (by omega) b, by simp only [List.length_append, List.length_singleton]; omega, fun h => absurd rfl h, fun h => ?_, fun _ => ⟨fun _ => by rw [h1]; omega, fun h => absurd rfl h⟩⟩
        simp only [List.length_append, List.length_singleton] at h; omega
  · have eF : Fem len last x ii = len := by unfold Fem; rw [if_neg w]
    have eL : Fla last x ii = last := by unfold Fla; rw [if_neg w]
    have eM : own_emL buf len last x ii = buf := by unfold own_emL; rw [if_neg w]
    rw [own_st1 w, eF, eL, eM]
    refine ⟨a, b, by show cs.length ≤ i + 1; omega, fun _ => by show cs.length + 1 ≤ i + 1; omega, e, fun hp => ⟨fun h => absurd h (show ¬ (1 : Int32) = 0 from by decide), fun _ => ?_⟩⟩
    by_cases q : pd = 0
    · have hf := (f hp).1 q
      have : 0 < cs.length := hp
      omega
    · have hf := (f hp).2 q
      omega
theorem own_bd {i : Nat} {p : Int32 × List Int32} {len last : Int32} {buf : List Int32} (h : own_inv i p len last buf) (hi : i ≤ 5) : (¬ len < 0) ∧ len < 9 ∧ (¬ len + 1 < 0) ∧ len + 1 < 9 := by
  rw [h.1]
  exact own_q5 (P := fun n => (¬ n < 0) ∧ n < 9 ∧ (¬ n + 1 < 0) ∧ n + 1 < 9) (own_r5n (Nat.le_trans h.2.2.1 hi)) (by decide)
theorem own_at {i : Nat} {p : Int32 × List Int32} {len last k : Int32} {buf : List Int32} (h : own_inv i p len last buf) : ¬ Fat len k p.2 buf = 0 := by
  unfold Fat
  have q : own_g p.2 k = own_g buf k := h.2.1 _
  rw [if_pos q]
  by_cases z : k < len
  · rw [if_pos z]; decide
  · rw [if_neg z]; decide

theorem own_bd0 (x0 : Int32) (x1 : Int32) (x2 : Int32) (x3 : Int32) (x4 : Int32) : (¬ ((0 : Int32) < (0 : Int32))) ∧ (0 : Int32) < (9 : Int32) ∧ (¬ (((0 : Int32) + (1 : Int32)) < (0 : Int32))) ∧ ((0 : Int32) + (1 : Int32)) < (9 : Int32) := own_bd (i := 0) (p := ((0 : Int32), [])) (last := (-1 : Int32)) (buf := []) own_inv0 (by decide)
theorem own_bd1 (x0 : Int32) (x1 : Int32) (x2 : Int32) (x3 : Int32) (x4 : Int32) : (¬ ((Fem (0 : Int32) (-1 : Int32) x0 (0 : Int32)) < (0 : Int32))) ∧ (Fem (0 : Int32) (-1 : Int32) x0 (0 : Int32)) < (9 : Int32) ∧ (¬ (((Fem (0 : Int32) (-1 : Int32) x0 (0 : Int32)) + (1 : Int32)) < (0 : Int32))) ∧ ((Fem (0 : Int32) (-1 : Int32) x0 (0 : Int32)) + (1 : Int32)) < (9 : Int32) := own_bd (i := 1) (p := (own_st ((0 : Int32), []) x0)) (last := (Fla (-1 : Int32) x0 (0 : Int32))) (buf := (own_emL [] (0 : Int32) (-1 : Int32) x0 (0 : Int32))) (own_invS own_inv0 (by decide) (by decide) (by decide)) (by decide)
theorem own_bd2 (x0 : Int32) (x1 : Int32) (x2 : Int32) (x3 : Int32) (x4 : Int32) : (¬ ((Fem (Fem (0 : Int32) (-1 : Int32) x0 (0 : Int32)) (Fla (-1 : Int32) x0 (0 : Int32)) x1 (1 : Int32)) < (0 : Int32))) ∧ (Fem (Fem (0 : Int32) (-1 : Int32) x0 (0 : Int32)) (Fla (-1 : Int32) x0 (0 : Int32)) x1 (1 : Int32)) < (9 : Int32) ∧ (¬ (((Fem (Fem (0 : Int32) (-1 : Int32) x0 (0 : Int32)) (Fla (-1 : Int32) x0 (0 : Int32)) x1 (1 : Int32)) + (1 : Int32)) < (0 : Int32))) ∧ ((Fem (Fem (0 : Int32) (-1 : Int32) x0 (0 : Int32)) (Fla (-1 : Int32) x0 (0 : Int32)) x1 (1 : Int32)) + (1 : Int32)) < (9 : Int32) := own_bd (i := 2) (p := (own_st (own_st ((0 : Int32), []) x0) x1)) (last := (Fla (Fla (-1 : Int32) x0 (0 : Int32)) x1 (1 : Int32))) (buf := (own_emL (own_emL [] (0 : Int32) (-1 : Int32) x0 (0 : Int32)) (Fem (0 : Int32) (-1 : Int32) x0 (0 : Int32)) (Fla (-1 : Int32) x0 (0 : Int32)) x1 (1 : Int32))) (own_invS (own_invS own_inv0 (by decide) (by decide) (by decide)) (by decide) (by decide) (by decide)) (by decide)
theorem own_bd3 (x0 : Int32) (x1 : Int32) (x2 : Int32) (x3 : Int32) (x4 : Int32) : (¬ ((Fem (Fem (Fem (0 : Int32) (-1 : Int32) x0 (0 : Int32)) (Fla (-1 : Int32) x0 (0 : Int32)) x1 (1 : Int32)) (Fla (Fla (-1 : Int32) x0 (0 : Int32)) x1 (1 : Int32)) x2 (2 : Int32)) < (0 : Int32))) ∧ (Fem (Fem (Fem (0 : Int32) (-1 : Int32) x0 (0 : Int32)) (Fla (-1 : Int32) x0 (0 : Int32)) x1 (1 : Int32)) (Fla (Fla (-1 : Int32) x0 (0 : Int32)) x1 (1 : Int32)) x2 (2 : Int32)) < (9 : Int32) ∧ (¬ (((Fem (Fem (Fem (0 : Int32) (-1 : Int32) x0 (0 : Int32)) (Fla (-1 : Int32) x0 (0 : Int32)) x1 (1 : Int32)) (Fla (Fla (-1 : Int32) x0 (0 : Int32)) x1 (1 : Int32)) x2 (2 : Int32)) + (1 : Int32)) < (0 : Int32))) ∧ ((Fem (Fem (Fem (0 : Int32) (-1 : Int32) x0 (0 : Int32)) (Fla (-1 : Int32) x0 (0 : Int32)) x1 (1 : Int32)) (Fla (Fla (-1 : Int32) x0 (0 : Int32)) x1 (1 : Int32)) x2 (2 : Int32)) + (1 : Int32)) < (9 : Int32) := own_bd (i := 3) (p := (own_st (own_st (own_st ((0 : Int32), []) x0) x1) x2)) (last := (Fla (Fla (Fla (-1 : Int32) x0 (0 : Int32)) x1 (1 : Int32)) x2 (2 : Int32))) (buf := (own_emL (own_emL (own_emL [] (0 : Int32) (-1 : Int32) x0 (0 : Int32)) (Fem (0 : Int32) (-1 : Int32) x0 (0 : Int32)) (Fla (-1 : Int32) x0 (0 : Int32)) x1 (1 : Int32)) (Fem (Fem (0 : Int32) (-1 : Int32) x0 (0 : Int32)) (Fla (-1 : Int32) x0 (0 : Int32)) x1 (1 : Int32)) (Fla (Fla (-1 : Int32) x0 (0 : Int32)) x1 (1 : Int32)) x2 (2 : Int32))) (own_invS (own_invS (own_invS own_inv0 (by decide) (by decide) (by decide)) (by decide) (by decide) (by decide)) (by decide) (by decide) (by decide)) (by decide)
theorem own_bd4 (x0 : Int32) (x1 : Int32) (x2 : Int32) (x3 : Int32) (x4 : Int32) : (¬ ((Fem (Fem (Fem (Fem (0 : Int32) (-1 : Int32) x0 (0 : Int32)) (Fla (-1 : Int32) x0 (0 : Int32)) x1 (1 : Int32)) (Fla (Fla (-1 : Int32) x0 (0 : Int32)) x1 (1 : Int32)) x2 (2 : Int32)) (Fla (Fla (Fla (-1 : Int32) x0 (0 : Int32)) x1 (1 : Int32)) x2 (2 : Int32)) x3 (3 : Int32)) < (0 : Int32))) ∧ (Fem (Fem (Fem (Fem (0 : Int32) (-1 : Int32) x0 (0 : Int32)) (Fla (-1 : Int32) x0 (0 : Int32)) x1 (1 : Int32)) (Fla (Fla (-1 : Int32) x0 (0 : Int32)) x1 (1 : Int32)) x2 (2 : Int32)) (Fla (Fla (Fla (-1 : Int32) x0 (0 : Int32)) x1 (1 : Int32)) x2 (2 : Int32)) x3 (3 : Int32)) < (9 : Int32) ∧ (¬ (((Fem (Fem (Fem (Fem (0 : Int32) (-1 : Int32) x0 (0 : Int32)) (Fla (-1 : Int32) x0 (0 : Int32)) x1 (1 : Int32)) (Fla (Fla (-1 : Int32) x0 (0 : Int32)) x1 (1 : Int32)) x2 (2 : Int32)) (Fla (Fla (Fla (-1 : Int32) x0 (0 : Int32)) x1 (1 : Int32)) x2 (2 : Int32)) x3 (3 : Int32)) + (1 : Int32)) < (0 : Int32))) ∧ ((Fem (Fem (Fem (Fem (0 : Int32) (-1 : Int32) x0 (0 : Int32)) (Fla (-1 : Int32) x0 (0 : Int32)) x1 (1 : Int32)) (Fla (Fla (-1 : Int32) x0 (0 : Int32)) x1 (1 : Int32)) x2 (2 : Int32)) (Fla (Fla (Fla (-1 : Int32) x0 (0 : Int32)) x1 (1 : Int32)) x2 (2 : Int32)) x3 (3 : Int32)) + (1 : Int32)) < (9 : Int32) := own_bd (i := 4) (p := (own_st (own_st (own_st (own_st ((0 : Int32), []) x0) x1) x2) x3)) (last := (Fla (Fla (Fla (Fla (-1 : Int32) x0 (0 : Int32)) x1 (1 : Int32)) x2 (2 : Int32)) x3 (3 : Int32))) (buf := (own_emL (own_emL (own_emL (own_emL [] (0 : Int32) (-1 : Int32) x0 (0 : Int32)) (Fem (0 : Int32) (-1 : Int32) x0 (0 : Int32)) (Fla (-1 : Int32) x0 (0 : Int32)) x1 (1 : Int32)) (Fem (Fem (0 : Int32) (-1 : Int32) x0 (0 : Int32)) (Fla (-1 : Int32) x0 (0 : Int32)) x1 (1 : Int32)) (Fla (Fla (-1 : Int32) x0 (0 : Int32)) x1 (1 : Int32)) x2 (2 : Int32)) (Fem (Fem (Fem (0 : Int32) (-1 : Int32) x0 (0 : Int32)) (Fla (-1 : Int32) x0 (0 : Int32)) x1 (1 : Int32)) (Fla (Fla (-1 : Int32) x0 (0 : Int32)) x1 (1 : Int32)) x2 (2 : Int32)) (Fla (Fla (Fla (-1 : Int32) x0 (0 : Int32)) x1 (1 : Int32)) x2 (2 : Int32)) x3 (3 : Int32))) (own_invS (own_invS (own_invS (own_invS own_inv0 (by decide) (by decide) (by decide)) (by decide) (by decide) (by decide)) (by decide) (by decide) (by decide)) (by decide) (by decide) (by decide)) (by decide)
theorem own_bd5 (x0 : Int32) (x1 : Int32) (x2 : Int32) (x3 : Int32) (x4 : Int32) : (¬ ((Fem (Fem (Fem (Fem (Fem (0 : Int32) (-1 : Int32) x0 (0 : Int32)) (Fla (-1 : Int32) x0 (0 : Int32)) x1 (1 : Int32)) (Fla (Fla (-1 : Int32) x0 (0 : Int32)) x1 (1 : Int32)) x2 (2 : Int32)) (Fla (Fla (Fla (-1 : Int32) x0 (0 : Int32)) x1 (1 : Int32)) x2 (2 : Int32)) x3 (3 : Int32)) (Fla (Fla (Fla (Fla (-1 : Int32) x0 (0 : Int32)) x1 (1 : Int32)) x2 (2 : Int32)) x3 (3 : Int32)) x4 (4 : Int32)) < (0 : Int32))) ∧ (Fem (Fem (Fem (Fem (Fem (0 : Int32) (-1 : Int32) x0 (0 : Int32)) (Fla (-1 : Int32) x0 (0 : Int32)) x1 (1 : Int32)) (Fla (Fla (-1 : Int32) x0 (0 : Int32)) x1 (1 : Int32)) x2 (2 : Int32)) (Fla (Fla (Fla (-1 : Int32) x0 (0 : Int32)) x1 (1 : Int32)) x2 (2 : Int32)) x3 (3 : Int32)) (Fla (Fla (Fla (Fla (-1 : Int32) x0 (0 : Int32)) x1 (1 : Int32)) x2 (2 : Int32)) x3 (3 : Int32)) x4 (4 : Int32)) < (9 : Int32) ∧ (¬ (((Fem (Fem (Fem (Fem (Fem (0 : Int32) (-1 : Int32) x0 (0 : Int32)) (Fla (-1 : Int32) x0 (0 : Int32)) x1 (1 : Int32)) (Fla (Fla (-1 : Int32) x0 (0 : Int32)) x1 (1 : Int32)) x2 (2 : Int32)) (Fla (Fla (Fla (-1 : Int32) x0 (0 : Int32)) x1 (1 : Int32)) x2 (2 : Int32)) x3 (3 : Int32)) (Fla (Fla (Fla (Fla (-1 : Int32) x0 (0 : Int32)) x1 (1 : Int32)) x2 (2 : Int32)) x3 (3 : Int32)) x4 (4 : Int32)) + (1 : Int32)) < (0 : Int32))) ∧ ((Fem (Fem (Fem (Fem (Fem (0 : Int32) (-1 : Int32) x0 (0 : Int32)) (Fla (-1 : Int32) x0 (0 : Int32)) x1 (1 : Int32)) (Fla (Fla (-1 : Int32) x0 (0 : Int32)) x1 (1 : Int32)) x2 (2 : Int32)) (Fla (Fla (Fla (-1 : Int32) x0 (0 : Int32)) x1 (1 : Int32)) x2 (2 : Int32)) x3 (3 : Int32)) (Fla (Fla (Fla (Fla (-1 : Int32) x0 (0 : Int32)) x1 (1 : Int32)) x2 (2 : Int32)) x3 (3 : Int32)) x4 (4 : Int32)) + (1 : Int32)) < (9 : Int32) := own_bd (i := 5) (p := (own_st (own_st (own_st (own_st (own_st ((0 : Int32), []) x0) x1) x2) x3) x4)) (last := (Fla (Fla (Fla (Fla (Fla (-1 : Int32) x0 (0 : Int32)) x1 (1 : Int32)) x2 (2 : Int32)) x3 (3 : Int32)) x4 (4 : Int32))) (buf := (own_emL (own_emL (own_emL (own_emL (own_emL [] (0 : Int32) (-1 : Int32) x0 (0 : Int32)) (Fem (0 : Int32) (-1 : Int32) x0 (0 : Int32)) (Fla (-1 : Int32) x0 (0 : Int32)) x1 (1 : Int32)) (Fem (Fem (0 : Int32) (-1 : Int32) x0 (0 : Int32)) (Fla (-1 : Int32) x0 (0 : Int32)) x1 (1 : Int32)) (Fla (Fla (-1 : Int32) x0 (0 : Int32)) x1 (1 : Int32)) x2 (2 : Int32)) (Fem (Fem (Fem (0 : Int32) (-1 : Int32) x0 (0 : Int32)) (Fla (-1 : Int32) x0 (0 : Int32)) x1 (1 : Int32)) (Fla (Fla (-1 : Int32) x0 (0 : Int32)) x1 (1 : Int32)) x2 (2 : Int32)) (Fla (Fla (Fla (-1 : Int32) x0 (0 : Int32)) x1 (1 : Int32)) x2 (2 : Int32)) x3 (3 : Int32)) (Fem (Fem (Fem (Fem (0 : Int32) (-1 : Int32) x0 (0 : Int32)) (Fla (-1 : Int32) x0 (0 : Int32)) x1 (1 : Int32)) (Fla (Fla (-1 : Int32) x0 (0 : Int32)) x1 (1 : Int32)) x2 (2 : Int32)) (Fla (Fla (Fla (-1 : Int32) x0 (0 : Int32)) x1 (1 : Int32)) x2 (2 : Int32)) x3 (3 : Int32)) (Fla (Fla (Fla (Fla (-1 : Int32) x0 (0 : Int32)) x1 (1 : Int32)) x2 (2 : Int32)) x3 (3 : Int32)) x4 (4 : Int32))) (own_invS (own_invS (own_invS (own_invS (own_invS own_inv0 (by decide) (by decide) (by decide)) (by decide) (by decide) (by decide)) (by decide) (by decide) (by decide)) (by decide) (by decide) (by decide)) (by decide) (by decide) (by decide)) (by decide)
theorem own_iv5 (x0 : Int32) (x1 : Int32) (x2 : Int32) (x3 : Int32) (x4 : Int32) : own_inv 5 (own_st (own_st (own_st (own_st (own_st ((0 : Int32), []) x0) x1) x2) x3) x4) (Fem (Fem (Fem (Fem (Fem (0 : Int32) (-1 : Int32) x0 (0 : Int32)) (Fla (-1 : Int32) x0 (0 : Int32)) x1 (1 : Int32)) (Fla (Fla (-1 : Int32) x0 (0 : Int32)) x1 (1 : Int32)) x2 (2 : Int32)) (Fla (Fla (Fla (-1 : Int32) x0 (0 : Int32)) x1 (1 : Int32)) x2 (2 : Int32)) x3 (3 : Int32)) (Fla (Fla (Fla (Fla (-1 : Int32) x0 (0 : Int32)) x1 (1 : Int32)) x2 (2 : Int32)) x3 (3 : Int32)) x4 (4 : Int32)) (Fla (Fla (Fla (Fla (Fla (-1 : Int32) x0 (0 : Int32)) x1 (1 : Int32)) x2 (2 : Int32)) x3 (3 : Int32)) x4 (4 : Int32)) (own_emL (own_emL (own_emL (own_emL (own_emL [] (0 : Int32) (-1 : Int32) x0 (0 : Int32)) (Fem (0 : Int32) (-1 : Int32) x0 (0 : Int32)) (Fla (-1 : Int32) x0 (0 : Int32)) x1 (1 : Int32)) (Fem (Fem (0 : Int32) (-1 : Int32) x0 (0 : Int32)) (Fla (-1 : Int32) x0 (0 : Int32)) x1 (1 : Int32)) (Fla (Fla (-1 : Int32) x0 (0 : Int32)) x1 (1 : Int32)) x2 (2 : Int32)) (Fem (Fem (Fem (0 : Int32) (-1 : Int32) x0 (0 : Int32)) (Fla (-1 : Int32) x0 (0 : Int32)) x1 (1 : Int32)) (Fla (Fla (-1 : Int32) x0 (0 : Int32)) x1 (1 : Int32)) x2 (2 : Int32)) (Fla (Fla (Fla (-1 : Int32) x0 (0 : Int32)) x1 (1 : Int32)) x2 (2 : Int32)) x3 (3 : Int32)) (Fem (Fem (Fem (Fem (0 : Int32) (-1 : Int32) x0 (0 : Int32)) (Fla (-1 : Int32) x0 (0 : Int32)) x1 (1 : Int32)) (Fla (Fla (-1 : Int32) x0 (0 : Int32)) x1 (1 : Int32)) x2 (2 : Int32)) (Fla (Fla (Fla (-1 : Int32) x0 (0 : Int32)) x1 (1 : Int32)) x2 (2 : Int32)) x3 (3 : Int32)) (Fla (Fla (Fla (Fla (-1 : Int32) x0 (0 : Int32)) x1 (1 : Int32)) x2 (2 : Int32)) x3 (3 : Int32)) x4 (4 : Int32)) := (own_invS (own_invS (own_invS (own_invS (own_invS own_inv0 (by decide) (by decide) (by decide)) (by decide) (by decide) (by decide)) (by decide) (by decide) (by decide)) (by decide) (by decide) (by decide)) (by decide) (by decide) (by decide))
theorem own_lw (x0 : Int32) (x1 : Int32) (x2 : Int32) (x3 : Int32) (x4 : Int32) : (own_n (own_coll x0 x1 x2 x3 x4)) = (Fem (Fem (Fem (Fem (Fem (0 : Int32) (-1 : Int32) x0 (0 : Int32)) (Fla (-1 : Int32) x0 (0 : Int32)) x1 (1 : Int32)) (Fla (Fla (-1 : Int32) x0 (0 : Int32)) x1 (1 : Int32)) x2 (2 : Int32)) (Fla (Fla (Fla (-1 : Int32) x0 (0 : Int32)) x1 (1 : Int32)) x2 (2 : Int32)) x3 (3 : Int32)) (Fla (Fla (Fla (Fla (-1 : Int32) x0 (0 : Int32)) x1 (1 : Int32)) x2 (2 : Int32)) x3 (3 : Int32)) x4 (4 : Int32)) := (own_iv5 x0 x1 x2 x3 x4).1.symm
theorem own_aw (x0 : Int32) (x1 : Int32) (x2 : Int32) (x3 : Int32) (x4 : Int32) (k : Int32) : ¬ ((Fat (Fem (Fem (Fem (Fem (Fem (0 : Int32) (-1 : Int32) x0 (0 : Int32)) (Fla (-1 : Int32) x0 (0 : Int32)) x1 (1 : Int32)) (Fla (Fla (-1 : Int32) x0 (0 : Int32)) x1 (1 : Int32)) x2 (2 : Int32)) (Fla (Fla (Fla (-1 : Int32) x0 (0 : Int32)) x1 (1 : Int32)) x2 (2 : Int32)) x3 (3 : Int32)) (Fla (Fla (Fla (Fla (-1 : Int32) x0 (0 : Int32)) x1 (1 : Int32)) x2 (2 : Int32)) x3 (3 : Int32)) x4 (4 : Int32)) k (own_coll x0 x1 x2 x3 x4) (own_emL (own_emL (own_emL (own_emL (own_emL [] (0 : Int32) (-1 : Int32) x0 (0 : Int32)) (Fem (0 : Int32) (-1 : Int32) x0 (0 : Int32)) (Fla (-1 : Int32) x0 (0 : Int32)) x1 (1 : Int32)) (Fem (Fem (0 : Int32) (-1 : Int32) x0 (0 : Int32)) (Fla (-1 : Int32) x0 (0 : Int32)) x1 (1 : Int32)) (Fla (Fla (-1 : Int32) x0 (0 : Int32)) x1 (1 : Int32)) x2 (2 : Int32)) (Fem (Fem (Fem (0 : Int32) (-1 : Int32) x0 (0 : Int32)) (Fla (-1 : Int32) x0 (0 : Int32)) x1 (1 : Int32)) (Fla (Fla (-1 : Int32) x0 (0 : Int32)) x1 (1 : Int32)) x2 (2 : Int32)) (Fla (Fla (Fla (-1 : Int32) x0 (0 : Int32)) x1 (1 : Int32)) x2 (2 : Int32)) x3 (3 : Int32)) (Fem (Fem (Fem (Fem (0 : Int32) (-1 : Int32) x0 (0 : Int32)) (Fla (-1 : Int32) x0 (0 : Int32)) x1 (1 : Int32)) (Fla (Fla (-1 : Int32) x0 (0 : Int32)) x1 (1 : Int32)) x2 (2 : Int32)) (Fla (Fla (Fla (-1 : Int32) x0 (0 : Int32)) x1 (1 : Int32)) x2 (2 : Int32)) x3 (3 : Int32)) (Fla (Fla (Fla (Fla (-1 : Int32) x0 (0 : Int32)) x1 (1 : Int32)) x2 (2 : Int32)) x3 (3 : Int32)) x4 (4 : Int32))) = (0 : Int32)) := own_at (own_iv5 x0 x1 x2 x3 x4)
theorem own_nch (y : Int32) : own_ch (nar .char y) := by
  have a := c_i2c y
  exact ⟨by show 0 ≤ (y.toUInt32.toUInt16.toUInt32.toInt32).toInt; omega, by show (y.toUInt32.toUInt16.toUInt32.toInt32).toInt ≤ 65535; omega⟩
theorem pd_31 : parseMethodDescriptor "([C)V" = some ⟨[(.array .char)], none⟩ := by decide +kernel
theorem pd_32 : parseMethodDescriptor "(Ljava/lang/String;)Ljava/lang/String;" = some ⟨[(.object "java/lang/String")], some (.object "java/lang/String")⟩ := by decide +kernel
theorem pd_33 : parseMethodDescriptor "([CIICI)I" = some ⟨[(.array .char), .int, .int, .char, .int], some .int⟩ := by decide +kernel
theorem pd_34 : parseMethodDescriptor "(ICI)I" = some ⟨[.int, .char, .int], some .int⟩ := by decide +kernel
theorem pd_35 : parseMethodDescriptor "(Ljava/lang/String;[CII)Z" = some ⟨[(.object "java/lang/String"), (.array .char), .int, .int], some .boolean⟩ := by decide +kernel
theorem ef_0 (m : MethodId) (p1 : Int32) (p2 : Int32) (p3 : Int32) (p4 : Int32) (p5 : Int32) : entryFrame m #[(.int p1), (.int p2), (.int p3), (.int p4), (.int p5)] maxLocals = mkF m 0 #[.val (.int p1), .val (.int p2), .val (.int p3), .val (.int p4), .val (.int p5), .unset, .unset, .unset, .unset, .unset] [] := by first | (simp [entryFrame, mkF, argsToLocals, Value.category, maxLocals]; done) | rfl
def Q_0 (Z : State) (p1 : Int32) (p2 : Int32) (p3 : Int32) (p4 : Int32) (p5 : Int32) (cs : Int32) (fm : Value) (h0 : Heap) (n0 : Nat) (v : Option Value) (h : Heap) (L : List Loc) : Prop := v = some (.int 1) ∧ Fr n0 L
set_option maxRecDepth 65536 in
set_option maxHeartbeats 40000000 in
theorem rm0 (l : Launch) (Z : State) (a0 : Array Value) (hw : ∀ d ∈ tables_1, d.before a0 Z = true) (ws : List Jvm.Cond) (p1 : Int32) (p2 : Int32) (p3 : Int32) (p4 : Int32) (p5 : Int32) (cs : Int32) (fm : Value) (h0 : Heap) (n0 : Nat) (Z0 : n0 ≤ h0.size) (hF : FX Z h0 cs fm) :
    MetFree l x (head1 (Jvm.Cond.code x code maxLocals ret :: ws) room_1) (fun a U => a = #[(.int p1), (.int p2), (.int p3), (.int p4), (.int p5)] ∧ Z.Warmed39 U.vm ∧ U.heap = h0) (fun _ _ _ _ _ => True) (fun _ U o U' => ∃ v L, o = .returned v ∧ Q_0 Z p1 p2 p3 p4 p5 cs fm h0 n0 v U'.heap L ∧ FrameEnd U o U' L 19 156) := by
  refine met_of (Ls := #[.val (.int p1), .val (.int p2), .val (.int p3), .val (.int p4), .val (.int p5), .unset, .unset, .unset, .unset, .unset]) (plainFor_of_name (by first | (simp [plainName, overriddenIn]; done) | decide +kernel)) (fun m => ef_0 m p1 p2 p3 p4 p5) ?_
  intro p e s m below meth c T0 C X0 e0
  obtain ⟨S_cs, hcs, S_fm, hfm, S_ad, S_hi, S_lo⟩ := id hF
  have N0 := Fr.nil n0
  refine g_iconst (pc' := 1) (v := (5 : Int32)) C X0 at_0 rfl rfl ?_
  refine g_newP (pc' := 3) (cap := 5) C X0 at_1 (wq hw 0 rfl) e0 (by decide) (by decide) (by decide) (ce := 1) (sl := 5) rfl rfl (by decide) (by decide) rfl (fun T1 h1 b1 ck1 g1 X1 e1 E1 A1 => ?_)
  have FX_1 := FX_ext hF E1
  have gn_b1 : n0 ≤ b1 := Nat.le_trans Z0 (Nat.le_of_eq g1.symm)
  have Z1 := Nat.le_trans Z0 E1.1
  have V1 : Arv Z h1 b1 ck1 .char (5 : Int32) [(.int (0 : Int32)), (.int (0 : Int32)), (.int (0 : Int32)), (.int (0 : Int32)), (.int (0 : Int32))] (.int (0 : Int32)) := A1.pad (pad_rep [] (.int (0 : Int32)) 5)
  refine g_astore (pc' := 5) (Ls' := #[.val (.int p1), .val (.int p2), .val (.int p3), .val (.int p4), .val (.int p5), .val (.ref b1), .unset, .unset, .unset, .unset]) C X1 at_3 rfl rfl rfl ?_
  refine g_aload (pc' := 7) C X1 at_5 rfl rfl rfl ?_
  refine g_iconst (pc' := 8) (v := (0 : Int32)) C X1 at_7 rfl rfl ?_
  refine g_iloadN (pc' := 9) C X1 at_8 rfl rfl ?_
  refine g_callS (y := (⟨"org/vouchsafe/XsdWhitespaceCollapsePinLaw", "draw", "(I)C"⟩ : MethodName)) (argsL := [(.int p1)]) (st := [(.int (0 : Int32)), (.ref b1)]) (pc' := 12) C X1 at_9 (wq hw 1 rfl) (wq hw 2 rfl) (wq hw 3 rfl) (wq hw 4 rfl) (by decide) (rmdr l Z a0 hw [] p1 cs fm h1 n0 FX_1) (W := 2) (by decide) (by decide) (ce := 1) (sl := 5) rfl rfl (by decide) (by decide) rfl e1 rfl pd_30 rfl (Nat.le_refl _) rfl (fun rv2 T2 L2 X2 Q2 => ?_)
  obtain ⟨q2, Nq2, e2⟩ := Q2
  have N2 := Fr.app N0 Nq2
  subst q2
  show Go p.tables e below _ (T2.setTop (mkF m 12 #[.val (.int p1), .val (.int p2), .val (.int p3), .val (.int p4), .val (.int p5), .val (.ref b1), .unset, .unset, .unset, .unset] [(.int (Fdr p1)), (.int (0 : Int32)), (.ref b1)]))
  refine g_stC (pc' := 13) (i := 0) C X2 at_12 e2 V1 ⟨by decide, by decide⟩ rfl (show (0 : Nat) < 5 from by decide) rfl (fun T3 h3 X3 e3 W3 V3q => ?_)
  have V3 : Arv Z h3 b1 ck1 .char (5 : Int32) [(.int (nar .char (Fdr p1))), (.int (0 : Int32)), (.int (0 : Int32)), (.int (0 : Int32)), (.int (0 : Int32))] (.int (0 : Int32)) := V3q
  have FX_3 := FX_wr FX_1 W3
  have Z3 := Nat.le_trans Z1 (Nat.le_of_eq W3.size.symm)
  have N3 := Fr.snoc X3 N2 gn_b1
  refine g_aload (pc' := 15) C X3 at_13 rfl rfl rfl ?_
  refine g_iconst (pc' := 16) (v := (1 : Int32)) C X3 at_15 rfl rfl ?_
  refine g_iloadN (pc' := 17) C X3 at_16 rfl rfl ?_
  refine g_callS (y := (⟨"org/vouchsafe/XsdWhitespaceCollapsePinLaw", "draw", "(I)C"⟩ : MethodName)) (argsL := [(.int p2)]) (st := [(.int (1 : Int32)), (.ref b1)]) (pc' := 20) C X3 at_17 (wq hw 1 rfl) (wq hw 2 rfl) (wq hw 3 rfl) (wq hw 4 rfl) (by decide) (rmdr l Z a0 hw [] p2 cs fm h3 n0 FX_3) (W := 2) (by decide) (by decide) (ce := 1) (sl := 5) rfl rfl (by decide) (by decide) rfl e3 rfl pd_30 rfl (Nat.le_refl _) rfl (fun rv4 T4 L4 X4 Q4 => ?_)
  obtain ⟨q4, Nq4, e4⟩ := Q4
  have N4 := Fr.app N3 Nq4
  subst q4
  show Go p.tables e below _ (T4.setTop (mkF m 20 #[.val (.int p1), .val (.int p2), .val (.int p3), .val (.int p4), .val (.int p5), .val (.ref b1), .unset, .unset, .unset, .unset] [(.int (Fdr p2)), (.int (1 : Int32)), (.ref b1)]))
  refine g_stC (pc' := 21) (i := 1) C X4 at_20 e4 V3 ⟨by decide, by decide⟩ rfl (show (1 : Nat) < 5 from by decide) rfl (fun T5 h5 X5 e5 W5 V5q => ?_)
  have V5 : Arv Z h5 b1 ck1 .char (5 : Int32) [(.int (nar .char (Fdr p1))), (.int (nar .char (Fdr p2))), (.int (0 : Int32)), (.int (0 : Int32)), (.int (0 : Int32))] (.int (0 : Int32)) := V5q
  have FX_5 := FX_wr FX_3 W5
  have Z5 := Nat.le_trans Z3 (Nat.le_of_eq W5.size.symm)
  have N5 := Fr.snoc X5 N4 gn_b1
  refine g_aload (pc' := 23) C X5 at_21 rfl rfl rfl ?_
  refine g_iconst (pc' := 24) (v := (2 : Int32)) C X5 at_23 rfl rfl ?_
  refine g_iloadN (pc' := 25) C X5 at_24 rfl rfl ?_
  refine g_callS (y := (⟨"org/vouchsafe/XsdWhitespaceCollapsePinLaw", "draw", "(I)C"⟩ : MethodName)) (argsL := [(.int p3)]) (st := [(.int (2 : Int32)), (.ref b1)]) (pc' := 28) C X5 at_25 (wq hw 1 rfl) (wq hw 2 rfl) (wq hw 3 rfl) (wq hw 4 rfl) (by decide) (rmdr l Z a0 hw [] p3 cs fm h5 n0 FX_5) (W := 2) (by decide) (by decide) (ce := 1) (sl := 5) rfl rfl (by decide) (by decide) rfl e5 rfl pd_30 rfl (Nat.le_refl _) rfl (fun rv6 T6 L6 X6 Q6 => ?_)
  obtain ⟨q6, Nq6, e6⟩ := Q6
  have N6 := Fr.app N5 Nq6
  subst q6
  show Go p.tables e below _ (T6.setTop (mkF m 28 #[.val (.int p1), .val (.int p2), .val (.int p3), .val (.int p4), .val (.int p5), .val (.ref b1), .unset, .unset, .unset, .unset] [(.int (Fdr p3)), (.int (2 : Int32)), (.ref b1)]))
  refine g_stC (pc' := 29) (i := 2) C X6 at_28 e6 V5 ⟨by decide, by decide⟩ rfl (show (2 : Nat) < 5 from by decide) rfl (fun T7 h7 X7 e7 W7 V7q => ?_)
  have V7 : Arv Z h7 b1 ck1 .char (5 : Int32) [(.int (nar .char (Fdr p1))), (.int (nar .char (Fdr p2))), (.int (nar .char (Fdr p3))), (.int (0 : Int32)), (.int (0 : Int32))] (.int (0 : Int32)) := V7q
  have FX_7 := FX_wr FX_5 W7
  have Z7 := Nat.le_trans Z5 (Nat.le_of_eq W7.size.symm)
  have N7 := Fr.snoc X7 N6 gn_b1
  refine g_aload (pc' := 31) C X7 at_29 rfl rfl rfl ?_
  refine g_iconst (pc' := 32) (v := (3 : Int32)) C X7 at_31 rfl rfl ?_
  refine g_iloadN (pc' := 33) C X7 at_32 rfl rfl ?_
  refine g_callS (y := (⟨"org/vouchsafe/XsdWhitespaceCollapsePinLaw", "draw", "(I)C"⟩ : MethodName)) (argsL := [(.int p4)]) (st := [(.int (3 : Int32)), (.ref b1)]) (pc' := 36) C X7 at_33 (wq hw 1 rfl) (wq hw 2 rfl) (wq hw 3 rfl) (wq hw 4 rfl) (by decide) (rmdr l Z a0 hw [] p4 cs fm h7 n0 FX_7) (W := 2) (by decide) (by decide) (ce := 1) (sl := 5) rfl rfl (by decide) (by decide) rfl e7 rfl pd_30 rfl (Nat.le_refl _) rfl (fun rv8 T8 L8 X8 Q8 => ?_)
  obtain ⟨q8, Nq8, e8⟩ := Q8
  have N8 := Fr.app N7 Nq8
  subst q8
  show Go p.tables e below _ (T8.setTop (mkF m 36 #[.val (.int p1), .val (.int p2), .val (.int p3), .val (.int p4), .val (.int p5), .val (.ref b1), .unset, .unset, .unset, .unset] [(.int (Fdr p4)), (.int (3 : Int32)), (.ref b1)]))
  refine g_stC (pc' := 37) (i := 3) C X8 at_36 e8 V7 ⟨by decide, by decide⟩ rfl (show (3 : Nat) < 5 from by decide) rfl (fun T9 h9 X9 e9 W9 V9q => ?_)
  have V9 : Arv Z h9 b1 ck1 .char (5 : Int32) [(.int (nar .char (Fdr p1))), (.int (nar .char (Fdr p2))), (.int (nar .char (Fdr p3))), (.int (nar .char (Fdr p4))), (.int (0 : Int32))] (.int (0 : Int32)) := V9q
  have FX_9 := FX_wr FX_7 W9
  have Z9 := Nat.le_trans Z7 (Nat.le_of_eq W9.size.symm)
  have N9 := Fr.snoc X9 N8 gn_b1
  refine g_aload (pc' := 39) C X9 at_37 rfl rfl rfl ?_
  refine g_iconst (pc' := 40) (v := (4 : Int32)) C X9 at_39 rfl rfl ?_
  refine g_iload (pc' := 42) C X9 at_40 rfl rfl ?_
  refine g_callS (y := (⟨"org/vouchsafe/XsdWhitespaceCollapsePinLaw", "draw", "(I)C"⟩ : MethodName)) (argsL := [(.int p5)]) (st := [(.int (4 : Int32)), (.ref b1)]) (pc' := 45) C X9 at_42 (wq hw 1 rfl) (wq hw 2 rfl) (wq hw 3 rfl) (wq hw 4 rfl) (by decide) (rmdr l Z a0 hw [] p5 cs fm h9 n0 FX_9) (W := 2) (by decide) (by decide) (ce := 1) (sl := 5) rfl rfl (by decide) (by decide) rfl e9 rfl pd_30 rfl (Nat.le_refl _) rfl (fun rv10 T10 L10 X10 Q10 => ?_)
  obtain ⟨q10, Nq10, e10⟩ := Q10
  have N10 := Fr.app N9 Nq10
  subst q10
  show Go p.tables e below _ (T10.setTop (mkF m 45 #[.val (.int p1), .val (.int p2), .val (.int p3), .val (.int p4), .val (.int p5), .val (.ref b1), .unset, .unset, .unset, .unset] [(.int (Fdr p5)), (.int (4 : Int32)), (.ref b1)]))
  refine g_stC (pc' := 46) (i := 4) C X10 at_45 e10 V9 ⟨by decide, by decide⟩ rfl (show (4 : Nat) < 5 from by decide) rfl (fun T11 h11 X11 e11 W11 V11q => ?_)
  have V11 : Arv Z h11 b1 ck1 .char (5 : Int32) [(.int (nar .char (Fdr p1))), (.int (nar .char (Fdr p2))), (.int (nar .char (Fdr p3))), (.int (nar .char (Fdr p4))), (.int (nar .char (Fdr p5)))] (.int (0 : Int32)) := V11q
  have FX_11 := FX_wr FX_9 W11
  have Z11 := Nat.le_trans Z9 (Nat.le_of_eq W11.size.symm)
  have N11 := Fr.snoc X11 N10 gn_b1
  have hch0 := own_nch (Fdr p1)
  generalize nar .char (Fdr p1) = x0 at hch0 V11
  have hch1 := own_nch (Fdr p2)
  generalize nar .char (Fdr p2) = x1 at hch1 V11
  have hch2 := own_nch (Fdr p3)
  generalize nar .char (Fdr p3) = x2 at hch2 V11
  have hch3 := own_nch (Fdr p4)
  generalize nar .char (Fdr p4) = x3 at hch3 V11
  have hch4 := own_nch (Fdr p5)
  generalize nar .char (Fdr p5) = x4 at hch4 V11
  refine g_new (pc' := 49) C X11 at_46 (wq hw 7 rfl) (wq hw 8 rfl) (wq hw 9 rfl) e11 (ce := 2) (sl := 9) rfl rfl (by decide) (by decide) rfl (fun T12 h12 b12 g12 X12 e12 E12 A12 D12 => ?_)
  have ne12_13 : ¬ (b1 = b12) := Nat.ne_of_lt (Nat.lt_of_lt_of_le V11.lt (Nat.le_of_eq g12.symm))
  have FX_12 := FX_ext FX_11 E12
  have V11_12 := V11.ext E12
  have gn_b12 : n0 ≤ b12 := Nat.le_trans Z11 (Nat.le_of_eq g12.symm)
  have Z12 := Nat.le_trans Z11 E12.1
  have F12_coder : Fld Z h12 b12 "java/lang/String" "coder" "B" (.int (0 : Int32)) := D12 (Or.inr (wq hw 33 rfl)) (ty := .byte) (by decide)
  have F12_value : Fld Z h12 b12 "java/lang/String" "value" "[B" .null := D12 (Or.inr (wq hw 35 rfl)) (ty := (.array .byte)) (by decide)
  refine g_dup (pc' := 50) C X12 at_49 rfl rfl ?_
  refine g_aload (pc' := 52) C X12 at_50 rfl rfl rfl ?_
  refine g_callI (b := b12) (y := (⟨"java/lang/String", "<init>", "([C)V"⟩ : MethodName)) (argsL := [(.ref b1)]) (st := [(.ref b12)]) (pc' := 55) C X12 rfl at_52 (wq hw 10 rfl) (wq hw 11 rfl) (wq hw 9 rfl) (wq hw 12 rfl) (by decide) (rmsid l Z a0 hw [] b12 b1 ck1 x0 x1 x2 x3 x4 cs fm h12 n0 Z12 FX_12 A12 F12_value F12_coder V11_12 gn_b12 ne12_13 hch0 hch1 hch2 hch3 hch4) (W := 1) (by decide) (by decide) (ce := 4) (sl := 24) rfl rfl (by decide) (by decide) rfl e12 rfl pd_31 rfl (Nat.le_refl _) rfl (fun rv14 T14 L14 X14 Q14 => ?_)
  obtain ⟨w14, q14, Nq14, Kq14, sz14_w, gn_w14, P14_0⟩ := Q14
  have N14 := Fr.app N11 Nq14
  have ne14_15 : ¬ (b1 = w14) := Nat.ne_of_lt (Nat.lt_of_lt_of_le V11_12.lt sz14_w)
  have ne14_16 : ¬ (b12 = w14) := Nat.ne_of_lt (Nat.lt_of_lt_of_le A12.lt sz14_w)
  have FX_14 := FX_keep FX_12 Kq14 ((allS (by obtain ⟨c_, _, h1_, _, _, h2_, _⟩ := A12; exact ⟨c_, h1_, h2_⟩) all0))
  have V11_14 := V11_12.keep Kq14 (ninS ne12_13 nin0)
  have A12_14 := A12.keep Kq14
  have Z14 := Nat.le_trans Z12 Kq14.1
  subst q14
  show Go p.tables e below _ (T14.setTop (mkF m 55 #[.val (.int p1), .val (.int p2), .val (.int p3), .val (.int p4), .val (.int p5), .val (.ref b1), .unset, .unset, .unset, .unset] [(.ref b12)]))
  refine g_callS (y := (⟨"org/vouchsafe/XsdWhitespace", "collapse", "(Ljava/lang/String;)Ljava/lang/String;"⟩ : MethodName)) (argsL := [(.ref b12)]) (st := []) (pc' := 58) C X14 at_55 (wq hw 36 rfl) (wq hw 37 rfl) (wq hw 38 rfl) (wq hw 39 rfl) (by decide) (rmcol l Z a0 hw [] b12 w14 x0 x1 x2 x3 x4 cs fm T14.heap n0 Z14 FX_14 P14_0 hch0 hch1 hch2 hch3 hch4) (W := 0) (by decide) (by decide) (ce := 18) (sl := 147) rfl rfl (by decide) (by decide) rfl rfl rfl pd_32 rfl (Nat.le_refl _) rfl (fun rv17 T17 L17 X17 Q17 => ?_)
  obtain ⟨r17, w17, q17, Nq17, Kq17, sz17_r, sz17_w, gn_r17, gn_w17, P17_0⟩ := Q17
  have N17 := Fr.app N14 Nq17
  have ne17_18 : ¬ (b1 = r17) := Nat.ne_of_lt (Nat.lt_of_lt_of_le V11_14.lt sz17_r)
  have ne17_19 : ¬ (b12 = r17) := Nat.ne_of_lt (Nat.lt_of_lt_of_le A12_14.lt sz17_r)
  have ne17_20 : ¬ (w14 = r17) := Nat.ne_of_lt (Nat.lt_of_lt_of_le (Str_lt1 P14_0) sz17_r)
  have ne17_21 : ¬ (b1 = w17) := Nat.ne_of_lt (Nat.lt_of_lt_of_le V11_14.lt sz17_w)
  have ne17_22 : ¬ (b12 = w17) := Nat.ne_of_lt (Nat.lt_of_lt_of_le A12_14.lt sz17_w)
  have ne17_23 : ¬ (w14 = w17) := Nat.ne_of_lt (Nat.lt_of_lt_of_le (Str_lt1 P14_0) sz17_w)
  have FX_17 := FX_keep FX_14 Kq17 (fun _ q => nomatch q)
  have V11_17 := V11_14.keep Kq17 nin0
  have A12_17 := A12_14.keep Kq17
  have P14_0_17 := Str_keep P14_0 Kq17 nin0 nin0
  have Z17 := Nat.le_trans Z14 Kq17.1
  subst q17
  show Go p.tables e below _ (T17.setTop (mkF m 58 #[.val (.int p1), .val (.int p2), .val (.int p3), .val (.int p4), .val (.int p5), .val (.ref b1), .unset, .unset, .unset, .unset] [(.ref r17)]))
  refine g_astore (pc' := 60) (Ls' := #[.val (.int p1), .val (.int p2), .val (.int p3), .val (.int p4), .val (.int p5), .val (.ref b1), .val (.ref r17), .unset, .unset, .unset]) C X17 at_58 rfl rfl rfl ?_
  refine g_bipush (pc' := 62) (v := (9 : Int32)) C X17 at_60 rfl rfl ?_
  refine g_newPE (pc' := 64) (cap := 9) (ad := "[C") C X17 (by decide) at_62 (wq hw 0 rfl) rfl (by decide) (by decide) (by decide) (ce := 19) (sl := 156) rfl rfl (by decide) (by decide) rfl (fun T24 h24 b24 ck24 g24 X24 e24 E24 V24 A24 => ?_)
  have ne24_25 : ¬ (b1 = b24) := Nat.ne_of_lt (Nat.lt_of_lt_of_le V11_17.lt (Nat.le_of_eq g24.symm))
  have ne24_26 : ¬ (b12 = b24) := Nat.ne_of_lt (Nat.lt_of_lt_of_le A12_17.lt (Nat.le_of_eq g24.symm))
  have ne24_27 : ¬ (w14 = b24) := Nat.ne_of_lt (Nat.lt_of_lt_of_le (Str_lt1 P14_0_17) (Nat.le_of_eq g24.symm))
  have ne24_28 : ¬ (r17 = b24) := Nat.ne_of_lt (Nat.lt_of_lt_of_le (Str_lt0 P17_0) (Nat.le_of_eq g24.symm))
  have ne24_29 : ¬ (w17 = b24) := Nat.ne_of_lt (Nat.lt_of_lt_of_le (Str_lt1 P17_0) (Nat.le_of_eq g24.symm))
  have FX_24 := FX_ext FX_17 E24
  have V11_24 := V11_17.ext E24
  have A12_24 := A12_17.ext E24
  have P14_0_24 := Str_ext P14_0_17 E24
  have P17_0_24 := Str_ext P17_0 E24
  have gn_b24 : n0 ≤ b24 := Nat.le_trans Z17 (Nat.le_of_eq g24.symm)
  have Z24 := Nat.le_trans Z17 E24.1
  refine g_astore (pc' := 66) (Ls' := #[.val (.int p1), .val (.int p2), .val (.int p3), .val (.int p4), .val (.int p5), .val (.ref b1), .val (.ref r17), .val (.ref b24), .unset, .unset]) C X24 at_64 rfl rfl rfl ?_
  refine g_iconst (pc' := 67) (v := (0 : Int32)) C X24 at_66 rfl rfl ?_
  refine g_istore (pc' := 69) (Ls' := #[.val (.int p1), .val (.int p2), .val (.int p3), .val (.int p4), .val (.int p5), .val (.ref b1), .val (.ref r17), .val (.ref b24), .val (.int (0 : Int32)), .unset]) C X24 at_67 rfl rfl ?_
  refine g_iconst (pc' := 70) (v := (-1 : Int32)) C X24 at_69 rfl rfl ?_
  refine g_istore (pc' := 72) (Ls' := #[.val (.int p1), .val (.int p2), .val (.int p3), .val (.int p4), .val (.int p5), .val (.ref b1), .val (.ref r17), .val (.ref b24), .val (.int (0 : Int32)), .val (.int (-1 : Int32))]) C X24 at_70 rfl rfl ?_
  refine g_aload (pc' := 74) C X24 at_72 rfl rfl rfl ?_
  refine g_iload (pc' := 76) C X24 at_74 rfl rfl ?_
  refine g_iload (pc' := 78) C X24 at_76 rfl rfl ?_
  refine g_aload (pc' := 80) C X24 at_78 rfl rfl rfl ?_
  refine g_iconst (pc' := 81) (v := (0 : Int32)) C X24 at_80 rfl rfl ?_
  refine g_ldC (pc' := 82) (v := (.int x0)) C X24 at_81 e24 V11_24 ⟨by decide, by decide⟩ rfl rfl ?_
  refine g_iconst (pc' := 83) (v := (0 : Int32)) C X24 at_82 rfl rfl ?_
  refine g_callS (y := (⟨"org/vouchsafe/XsdWhitespaceCollapsePinLaw", "emit", "([CIICI)I"⟩ : MethodName)) (argsL := [(.ref b24), (.int (0 : Int32)), (.int (-1 : Int32)), (.int x0), (.int (0 : Int32))]) (st := []) (pc' := 86) C X24 at_83 (wq hw 157 rfl) (wq hw 158 rfl) (wq hw 3 rfl) (wq hw 159 rfl) (by decide) (rmem l Z a0 hw [] b24 (0 : Int32) (-1 : Int32) x0 (0 : Int32) ck24 ([]) cs fm h24 n0 Z24 FX_24 V24 gn_b24 (by decide) (by decide) (by decide) (by decide) hch0) (W := 0) (by decide) (by decide) (ce := 19) (sl := 156) rfl rfl (by decide) (by decide) rfl e24 rfl pd_33 rfl (Nat.le_refl _) rfl (fun rv30 T30 L30 X30 Q30 => ?_)
  obtain ⟨q30, Nq30, Kq30, P30_0⟩ := Q30
  have N30 := Fr.app N17 Nq30
  have FX_30 := FX_keep FX_24 Kq30 ((allS (by obtain ⟨c_, A_, _⟩ := V24; exact ⟨c_, A_.1, A_.plain⟩) all0))
  have V11_30 := V11_24.keep Kq30 (ninS ne24_25 nin0)
  have A12_30 := A12_24.keep Kq30
  have P14_0_30 := Str_keep P14_0_24 Kq30 (ninS ne24_26 nin0) (ninS ne24_27 nin0)
  have P17_0_30 := Str_keep P17_0_24 Kq30 (ninS ne24_28 nin0) (ninS ne24_29 nin0)
  have A24_30 := A24.keep Kq30
  have Z30 := Nat.le_trans Z24 Kq30.1
  subst q30
  show Go p.tables e below _ (T30.setTop (mkF m 86 #[.val (.int p1), .val (.int p2), .val (.int p3), .val (.int p4), .val (.int p5), .val (.ref b1), .val (.ref r17), .val (.ref b24), .val (.int (0 : Int32)), .val (.int (-1 : Int32))] [(.int (Fem (0 : Int32) (-1 : Int32) x0 (0 : Int32)))]))
  refine g_istore (pc' := 88) (Ls' := #[.val (.int p1), .val (.int p2), .val (.int p3), .val (.int p4), .val (.int p5), .val (.ref b1), .val (.ref r17), .val (.ref b24), .val (.int (Fem (0 : Int32) (-1 : Int32) x0 (0 : Int32))), .val (.int (-1 : Int32))]) C X30 at_86 rfl rfl ?_
  refine g_iload (pc' := 90) C X30 at_88 rfl rfl ?_
  refine g_aload (pc' := 92) C X30 at_90 rfl rfl rfl ?_
  refine g_iconst (pc' := 93) (v := (0 : Int32)) C X30 at_92 rfl rfl ?_
  refine g_ldC (pc' := 94) (v := (.int x0)) C X30 at_93 rfl V11_30 ⟨by decide, by decide⟩ rfl rfl ?_
  refine g_iconst (pc' := 95) (v := (0 : Int32)) C X30 at_94 rfl rfl ?_
  refine g_callS (y := (⟨"org/vouchsafe/XsdWhitespaceCollapsePinLaw", "lastAfter", "(ICI)I"⟩ : MethodName)) (argsL := [(.int (-1 : Int32)), (.int x0), (.int (0 : Int32))]) (st := []) (pc' := 98) C X30 at_95 (wq hw 163 rfl) (wq hw 164 rfl) (wq hw 3 rfl) (wq hw 165 rfl) (by decide) (rmla l Z a0 hw [] (-1 : Int32) x0 (0 : Int32) cs fm T30.heap n0 FX_30) (W := 0) (by decide) (by decide) (ce := 19) (sl := 156) rfl rfl (by decide) (by decide) rfl rfl rfl pd_34 rfl (Nat.le_refl _) rfl (fun rv31 T31 L31 X31 Q31 => ?_)
  obtain ⟨q31, Nq31, e31⟩ := Q31
  have N31 := Fr.app N30 Nq31
  subst q31
  show Go p.tables e below _ (T31.setTop (mkF m 98 #[.val (.int p1), .val (.int p2), .val (.int p3), .val (.int p4), .val (.int p5), .val (.ref b1), .val (.ref r17), .val (.ref b24), .val (.int (Fem (0 : Int32) (-1 : Int32) x0 (0 : Int32))), .val (.int (-1 : Int32))] [(.int (Fla (-1 : Int32) x0 (0 : Int32)))]))
  refine g_istore (pc' := 100) (Ls' := #[.val (.int p1), .val (.int p2), .val (.int p3), .val (.int p4), .val (.int p5), .val (.ref b1), .val (.ref r17), .val (.ref b24), .val (.int (Fem (0 : Int32) (-1 : Int32) x0 (0 : Int32))), .val (.int (Fla (-1 : Int32) x0 (0 : Int32)))]) C X31 at_98 rfl rfl ?_
  refine g_aload (pc' := 102) C X31 at_100 rfl rfl rfl ?_
  refine g_iload (pc' := 104) C X31 at_102 rfl rfl ?_
  refine g_iload (pc' := 106) C X31 at_104 rfl rfl ?_
  refine g_aload (pc' := 108) C X31 at_106 rfl rfl rfl ?_
  refine g_iconst (pc' := 109) (v := (1 : Int32)) C X31 at_108 rfl rfl ?_
  refine g_ldC (pc' := 110) (v := (.int x1)) C X31 at_109 e31 V11_30 ⟨by decide, by decide⟩ rfl rfl ?_
  refine g_iconst (pc' := 111) (v := (1 : Int32)) C X31 at_110 rfl rfl ?_
  refine g_callS (y := (⟨"org/vouchsafe/XsdWhitespaceCollapsePinLaw", "emit", "([CIICI)I"⟩ : MethodName)) (argsL := [(.ref b24), (.int (Fem (0 : Int32) (-1 : Int32) x0 (0 : Int32))), (.int (Fla (-1 : Int32) x0 (0 : Int32))), (.int x1), (.int (1 : Int32))]) (st := []) (pc' := 114) C X31 at_111 (wq hw 157 rfl) (wq hw 158 rfl) (wq hw 3 rfl) (wq hw 159 rfl) (by decide) (rmem l Z a0 hw [] b24 (Fem (0 : Int32) (-1 : Int32) x0 (0 : Int32)) (Fla (-1 : Int32) x0 (0 : Int32)) x1 (1 : Int32) ck24 (own_emL [] (0 : Int32) (-1 : Int32) x0 (0 : Int32)) cs fm T30.heap n0 Z30 FX_30 P30_0 gn_b24 (own_bd1 x0 x1 x2 x3 x4).1 (own_bd1 x0 x1 x2 x3 x4).2.1 (own_bd1 x0 x1 x2 x3 x4).2.2.1 (own_bd1 x0 x1 x2 x3 x4).2.2.2 hch1) (W := 0) (by decide) (by decide) (ce := 19) (sl := 156) rfl rfl (by decide) (by decide) rfl e31 rfl pd_33 rfl (Nat.le_refl _) rfl (fun rv32 T32 L32 X32 Q32 => ?_)
  obtain ⟨q32, Nq32, Kq32, P32_0⟩ := Q32
  have N32 := Fr.app N31 Nq32
  have FX_32 := FX_keep FX_30 Kq32 ((allS (by obtain ⟨c_, A_, _⟩ := P30_0; exact ⟨c_, A_.1, A_.plain⟩) all0))
  have V11_32 := V11_30.keep Kq32 (ninS ne24_25 nin0)
  have A12_32 := A12_30.keep Kq32
  have P14_0_32 := Str_keep P14_0_30 Kq32 (ninS ne24_26 nin0) (ninS ne24_27 nin0)
  have P17_0_32 := Str_keep P17_0_30 Kq32 (ninS ne24_28 nin0) (ninS ne24_29 nin0)
  have A24_32 := A24_30.keep Kq32
  have Z32 := Nat.le_trans Z30 Kq32.1
  subst q32
  show Go p.tables e below _ (T32.setTop (mkF m 114 #[.val (.int p1), .val (.int p2), .val (.int p3), .val (.int p4), .val (.int p5), .val (.ref b1), .val (.ref r17), .val (.ref b24), .val (.int (Fem (0 : Int32) (-1 : Int32) x0 (0 : Int32))), .val (.int (Fla (-1 : Int32) x0 (0 : Int32)))] [(.int (Fem (Fem (0 : Int32) (-1 : Int32) x0 (0 : Int32)) (Fla (-1 : Int32) x0 (0 : Int32)) x1 (1 : Int32)))]))
  refine g_istore (pc' := 116) (Ls' := #[.val (.int p1), .val (.int p2), .val (.int p3), .val (.int p4), .val (.int p5), .val (.ref b1), .val (.ref r17), .val (.ref b24), .val (.int (Fem (Fem (0 : Int32) (-1 : Int32) x0 (0 : Int32)) (Fla (-1 : Int32) x0 (0 : Int32)) x1 (1 : Int32))), .val (.int (Fla (-1 : Int32) x0 (0 : Int32)))]) C X32 at_114 rfl rfl ?_
  refine g_iload (pc' := 118) C X32 at_116 rfl rfl ?_
  refine g_aload (pc' := 120) C X32 at_118 rfl rfl rfl ?_
  refine g_iconst (pc' := 121) (v := (1 : Int32)) C X32 at_120 rfl rfl ?_
  refine g_ldC (pc' := 122) (v := (.int x1)) C X32 at_121 rfl V11_32 ⟨by decide, by decide⟩ rfl rfl ?_
  refine g_iconst (pc' := 123) (v := (1 : Int32)) C X32 at_122 rfl rfl ?_
  refine g_callS (y := (⟨"org/vouchsafe/XsdWhitespaceCollapsePinLaw", "lastAfter", "(ICI)I"⟩ : MethodName)) (argsL := [(.int (Fla (-1 : Int32) x0 (0 : Int32))), (.int x1), (.int (1 : Int32))]) (st := []) (pc' := 126) C X32 at_123 (wq hw 163 rfl) (wq hw 164 rfl) (wq hw 3 rfl) (wq hw 165 rfl) (by decide) (rmla l Z a0 hw [] (Fla (-1 : Int32) x0 (0 : Int32)) x1 (1 : Int32) cs fm T32.heap n0 FX_32) (W := 0) (by decide) (by decide) (ce := 19) (sl := 156) rfl rfl (by decide) (by decide) rfl rfl rfl pd_34 rfl (Nat.le_refl _) rfl (fun rv33 T33 L33 X33 Q33 => ?_)
  obtain ⟨q33, Nq33, e33⟩ := Q33
  have N33 := Fr.app N32 Nq33
  subst q33
  show Go p.tables e below _ (T33.setTop (mkF m 126 #[.val (.int p1), .val (.int p2), .val (.int p3), .val (.int p4), .val (.int p5), .val (.ref b1), .val (.ref r17), .val (.ref b24), .val (.int (Fem (Fem (0 : Int32) (-1 : Int32) x0 (0 : Int32)) (Fla (-1 : Int32) x0 (0 : Int32)) x1 (1 : Int32))), .val (.int (Fla (-1 : Int32) x0 (0 : Int32)))] [(.int (Fla (Fla (-1 : Int32) x0 (0 : Int32)) x1 (1 : Int32)))]))
  refine g_istore (pc' := 128) (Ls' := #[.val (.int p1), .val (.int p2), .val (.int p3), .val (.int p4), .val (.int p5), .val (.ref b1), .val (.ref r17), .val (.ref b24), .val (.int (Fem (Fem (0 : Int32) (-1 : Int32) x0 (0 : Int32)) (Fla (-1 : Int32) x0 (0 : Int32)) x1 (1 : Int32))), .val (.int (Fla (Fla (-1 : Int32) x0 (0 : Int32)) x1 (1 : Int32)))]) C X33 at_126 rfl rfl ?_
  refine g_aload (pc' := 130) C X33 at_128 rfl rfl rfl ?_
  refine g_iload (pc' := 132) C X33 at_130 rfl rfl ?_
  refine g_iload (pc' := 134) C X33 at_132 rfl rfl ?_
  refine g_aload (pc' := 136) C X33 at_134 rfl rfl rfl ?_
  refine g_iconst (pc' := 137) (v := (2 : Int32)) C X33 at_136 rfl rfl ?_
  refine g_ldC (pc' := 138) (v := (.int x2)) C X33 at_137 e33 V11_32 ⟨by decide, by decide⟩ rfl rfl ?_
  refine g_iconst (pc' := 139) (v := (2 : Int32)) C X33 at_138 rfl rfl ?_
  refine g_callS (y := (⟨"org/vouchsafe/XsdWhitespaceCollapsePinLaw", "emit", "([CIICI)I"⟩ : MethodName)) (argsL := [(.ref b24), (.int (Fem (Fem (0 : Int32) (-1 : Int32) x0 (0 : Int32)) (Fla (-1 : Int32) x0 (0 : Int32)) x1 (1 : Int32))), (.int (Fla (Fla (-1 : Int32) x0 (0 : Int32)) x1 (1 : Int32))), (.int x2), (.int (2 : Int32))]) (st := []) (pc' := 142) C X33 at_139 (wq hw 157 rfl) (wq hw 158 rfl) (wq hw 3 rfl) (wq hw 159 rfl) (by decide) (rmem l Z a0 hw [] b24 (Fem (Fem (0 : Int32) (-1 : Int32) x0 (0 : Int32)) (Fla (-1 : Int32) x0 (0 : Int32)) x1 (1 : Int32)) (Fla (Fla (-1 : Int32) x0 (0 : Int32)) x1 (1 : Int32)) x2 (2 : Int32) ck24 (own_emL (own_emL [] (0 : Int32) (-1 : Int32) x0 (0 : Int32)) (Fem (0 : Int32) (-1 : Int32) x0 (0 : Int32)) (Fla (-1 : Int32) x0 (0 : Int32)) x1 (1 : Int32)) cs fm T32.heap n0 Z32 FX_32 P32_0 gn_b24 (own_bd2 x0 x1 x2 x3 x4).1 (own_bd2 x0 x1 x2 x3 x4).2.1 (own_bd2 x0 x1 x2 x3 x4).2.2.1 (own_bd2 x0 x1 x2 x3 x4).2.2.2 hch2) (W := 0) (by decide) (by decide) (ce := 19) (sl := 156) rfl rfl (by decide) (by decide) rfl e33 rfl pd_33 rfl (Nat.le_refl _) rfl (fun rv34 T34 L34 X34 Q34 => ?_)
  obtain ⟨q34, Nq34, Kq34, P34_0⟩ := Q34
  have N34 := Fr.app N33 Nq34
  have FX_34 := FX_keep FX_32 Kq34 ((allS (by obtain ⟨c_, A_, _⟩ := P32_0; exact ⟨c_, A_.1, A_.plain⟩) all0))
  have V11_34 := V11_32.keep Kq34 (ninS ne24_25 nin0)
  have A12_34 := A12_32.keep Kq34
  have P14_0_34 := Str_keep P14_0_32 Kq34 (ninS ne24_26 nin0) (ninS ne24_27 nin0)
  have P17_0_34 := Str_keep P17_0_32 Kq34 (ninS ne24_28 nin0) (ninS ne24_29 nin0)
  have A24_34 := A24_32.keep Kq34
  have Z34 := Nat.le_trans Z32 Kq34.1
  subst q34
  show Go p.tables e below _ (T34.setTop (mkF m 142 #[.val (.int p1), .val (.int p2), .val (.int p3), .val (.int p4), .val (.int p5), .val (.ref b1), .val (.ref r17), .val (.ref b24), .val (.int (Fem (Fem (0 : Int32) (-1 : Int32) x0 (0 : Int32)) (Fla (-1 : Int32) x0 (0 : Int32)) x1 (1 : Int32))), .val (.int (Fla (Fla (-1 : Int32) x0 (0 : Int32)) x1 (1 : Int32)))] [(.int (Fem (Fem (Fem (0 : Int32) (-1 : Int32) x0 (0 : Int32)) (Fla (-1 : Int32) x0 (0 : Int32)) x1 (1 : Int32)) (Fla (Fla (-1 : Int32) x0 (0 : Int32)) x1 (1 : Int32)) x2 (2 : Int32)))]))
  refine g_istore (pc' := 144) (Ls' := #[.val (.int p1), .val (.int p2), .val (.int p3), .val (.int p4), .val (.int p5), .val (.ref b1), .val (.ref r17), .val (.ref b24), .val (.int (Fem (Fem (Fem (0 : Int32) (-1 : Int32) x0 (0 : Int32)) (Fla (-1 : Int32) x0 (0 : Int32)) x1 (1 : Int32)) (Fla (Fla (-1 : Int32) x0 (0 : Int32)) x1 (1 : Int32)) x2 (2 : Int32))), .val (.int (Fla (Fla (-1 : Int32) x0 (0 : Int32)) x1 (1 : Int32)))]) C X34 at_142 rfl rfl ?_
  refine g_iload (pc' := 146) C X34 at_144 rfl rfl ?_
  refine g_aload (pc' := 148) C X34 at_146 rfl rfl rfl ?_
  refine g_iconst (pc' := 149) (v := (2 : Int32)) C X34 at_148 rfl rfl ?_
  refine g_ldC (pc' := 150) (v := (.int x2)) C X34 at_149 rfl V11_34 ⟨by decide, by decide⟩ rfl rfl ?_
  refine g_iconst (pc' := 151) (v := (2 : Int32)) C X34 at_150 rfl rfl ?_
  refine g_callS (y := (⟨"org/vouchsafe/XsdWhitespaceCollapsePinLaw", "lastAfter", "(ICI)I"⟩ : MethodName)) (argsL := [(.int (Fla (Fla (-1 : Int32) x0 (0 : Int32)) x1 (1 : Int32))), (.int x2), (.int (2 : Int32))]) (st := []) (pc' := 154) C X34 at_151 (wq hw 163 rfl) (wq hw 164 rfl) (wq hw 3 rfl) (wq hw 165 rfl) (by decide) (rmla l Z a0 hw [] (Fla (Fla (-1 : Int32) x0 (0 : Int32)) x1 (1 : Int32)) x2 (2 : Int32) cs fm T34.heap n0 FX_34) (W := 0) (by decide) (by decide) (ce := 19) (sl := 156) rfl rfl (by decide) (by decide) rfl rfl rfl pd_34 rfl (Nat.le_refl _) rfl (fun rv35 T35 L35 X35 Q35 => ?_)
  obtain ⟨q35, Nq35, e35⟩ := Q35
  have N35 := Fr.app N34 Nq35
  subst q35
  show Go p.tables e below _ (T35.setTop (mkF m 154 #[.val (.int p1), .val (.int p2), .val (.int p3), .val (.int p4), .val (.int p5), .val (.ref b1), .val (.ref r17), .val (.ref b24), .val (.int (Fem (Fem (Fem (0 : Int32) (-1 : Int32) x0 (0 : Int32)) (Fla (-1 : Int32) x0 (0 : Int32)) x1 (1 : Int32)) (Fla (Fla (-1 : Int32) x0 (0 : Int32)) x1 (1 : Int32)) x2 (2 : Int32))), .val (.int (Fla (Fla (-1 : Int32) x0 (0 : Int32)) x1 (1 : Int32)))] [(.int (Fla (Fla (Fla (-1 : Int32) x0 (0 : Int32)) x1 (1 : Int32)) x2 (2 : Int32)))]))
  refine g_istore (pc' := 156) (Ls' := #[.val (.int p1), .val (.int p2), .val (.int p3), .val (.int p4), .val (.int p5), .val (.ref b1), .val (.ref r17), .val (.ref b24), .val (.int (Fem (Fem (Fem (0 : Int32) (-1 : Int32) x0 (0 : Int32)) (Fla (-1 : Int32) x0 (0 : Int32)) x1 (1 : Int32)) (Fla (Fla (-1 : Int32) x0 (0 : Int32)) x1 (1 : Int32)) x2 (2 : Int32))), .val (.int (Fla (Fla (Fla (-1 : Int32) x0 (0 : Int32)) x1 (1 : Int32)) x2 (2 : Int32)))]) C X35 at_154 rfl rfl ?_
  refine g_aload (pc' := 158) C X35 at_156 rfl rfl rfl ?_
  refine g_iload (pc' := 160) C X35 at_158 rfl rfl ?_
  refine g_iload (pc' := 162) C X35 at_160 rfl rfl ?_
  refine g_aload (pc' := 164) C X35 at_162 rfl rfl rfl ?_
  refine g_iconst (pc' := 165) (v := (3 : Int32)) C X35 at_164 rfl rfl ?_
  refine g_ldC (pc' := 166) (v := (.int x3)) C X35 at_165 e35 V11_34 ⟨by decide, by decide⟩ rfl rfl ?_
  refine g_iconst (pc' := 167) (v := (3 : Int32)) C X35 at_166 rfl rfl ?_
  refine g_callS (y := (⟨"org/vouchsafe/XsdWhitespaceCollapsePinLaw", "emit", "([CIICI)I"⟩ : MethodName)) (argsL := [(.ref b24), (.int (Fem (Fem (Fem (0 : Int32) (-1 : Int32) x0 (0 : Int32)) (Fla (-1 : Int32) x0 (0 : Int32)) x1 (1 : Int32)) (Fla (Fla (-1 : Int32) x0 (0 : Int32)) x1 (1 : Int32)) x2 (2 : Int32))), (.int (Fla (Fla (Fla (-1 : Int32) x0 (0 : Int32)) x1 (1 : Int32)) x2 (2 : Int32))), (.int x3), (.int (3 : Int32))]) (st := []) (pc' := 170) C X35 at_167 (wq hw 157 rfl) (wq hw 158 rfl) (wq hw 3 rfl) (wq hw 159 rfl) (by decide) (rmem l Z a0 hw [] b24 (Fem (Fem (Fem (0 : Int32) (-1 : Int32) x0 (0 : Int32)) (Fla (-1 : Int32) x0 (0 : Int32)) x1 (1 : Int32)) (Fla (Fla (-1 : Int32) x0 (0 : Int32)) x1 (1 : Int32)) x2 (2 : Int32)) (Fla (Fla (Fla (-1 : Int32) x0 (0 : Int32)) x1 (1 : Int32)) x2 (2 : Int32)) x3 (3 : Int32) ck24 (own_emL (own_emL (own_emL [] (0 : Int32) (-1 : Int32) x0 (0 : Int32)) (Fem (0 : Int32) (-1 : Int32) x0 (0 : Int32)) (Fla (-1 : Int32) x0 (0 : Int32)) x1 (1 : Int32)) (Fem (Fem (0 : Int32) (-1 : Int32) x0 (0 : Int32)) (Fla (-1 : Int32) x0 (0 : Int32)) x1 (1 : Int32)) (Fla (Fla (-1 : Int32) x0 (0 : Int32)) x1 (1 : Int32)) x2 (2 : Int32)) cs fm T34.heap n0 Z34 FX_34 P34_0 gn_b24 (own_bd3 x0 x1 x2 x3 x4).1 (own_bd3 x0 x1 x2 x3 x4).2.1 (own_bd3 x0 x1 x2 x3 x4).2.2.1 (own_bd3 x0 x1 x2 x3 x4).2.2.2 hch3) (W := 0) (by decide) (by decide) (ce := 19) (sl := 156) rfl rfl (by decide) (by decide) rfl e35 rfl pd_33 rfl (Nat.le_refl _) rfl (fun rv36 T36 L36 X36 Q36 => ?_)
  obtain ⟨q36, Nq36, Kq36, P36_0⟩ := Q36
  have N36 := Fr.app N35 Nq36
  have FX_36 := FX_keep FX_34 Kq36 ((allS (by obtain ⟨c_, A_, _⟩ := P34_0; exact ⟨c_, A_.1, A_.plain⟩) all0))
  have V11_36 := V11_34.keep Kq36 (ninS ne24_25 nin0)
  have A12_36 := A12_34.keep Kq36
  have P14_0_36 := Str_keep P14_0_34 Kq36 (ninS ne24_26 nin0) (ninS ne24_27 nin0)
  have P17_0_36 := Str_keep P17_0_34 Kq36 (ninS ne24_28 nin0) (ninS ne24_29 nin0)
  have A24_36 := A24_34.keep Kq36
  have Z36 := Nat.le_trans Z34 Kq36.1
  subst q36
  show Go p.tables e below _ (T36.setTop (mkF m 170 #[.val (.int p1), .val (.int p2), .val (.int p3), .val (.int p4), .val (.int p5), .val (.ref b1), .val (.ref r17), .val (.ref b24), .val (.int (Fem (Fem (Fem (0 : Int32) (-1 : Int32) x0 (0 : Int32)) (Fla (-1 : Int32) x0 (0 : Int32)) x1 (1 : Int32)) (Fla (Fla (-1 : Int32) x0 (0 : Int32)) x1 (1 : Int32)) x2 (2 : Int32))), .val (.int (Fla (Fla (Fla (-1 : Int32) x0 (0 : Int32)) x1 (1 : Int32)) x2 (2 : Int32)))] [(.int (Fem (Fem (Fem (Fem (0 : Int32) (-1 : Int32) x0 (0 : Int32)) (Fla (-1 : Int32) x0 (0 : Int32)) x1 (1 : Int32)) (Fla (Fla (-1 : Int32) x0 (0 : Int32)) x1 (1 : Int32)) x2 (2 : Int32)) (Fla (Fla (Fla (-1 : Int32) x0 (0 : Int32)) x1 (1 : Int32)) x2 (2 : Int32)) x3 (3 : Int32)))]))
  refine g_istore (pc' := 172) (Ls' := #[.val (.int p1), .val (.int p2), .val (.int p3), .val (.int p4), .val (.int p5), .val (.ref b1), .val (.ref r17), .val (.ref b24), .val (.int (Fem (Fem (Fem (Fem (0 : Int32) (-1 : Int32) x0 (0 : Int32)) (Fla (-1 : Int32) x0 (0 : Int32)) x1 (1 : Int32)) (Fla (Fla (-1 : Int32) x0 (0 : Int32)) x1 (1 : Int32)) x2 (2 : Int32)) (Fla (Fla (Fla (-1 : Int32) x0 (0 : Int32)) x1 (1 : Int32)) x2 (2 : Int32)) x3 (3 : Int32))), .val (.int (Fla (Fla (Fla (-1 : Int32) x0 (0 : Int32)) x1 (1 : Int32)) x2 (2 : Int32)))]) C X36 at_170 rfl rfl ?_
  refine g_iload (pc' := 174) C X36 at_172 rfl rfl ?_
  refine g_aload (pc' := 176) C X36 at_174 rfl rfl rfl ?_
  refine g_iconst (pc' := 177) (v := (3 : Int32)) C X36 at_176 rfl rfl ?_
  refine g_ldC (pc' := 178) (v := (.int x3)) C X36 at_177 rfl V11_36 ⟨by decide, by decide⟩ rfl rfl ?_
  refine g_iconst (pc' := 179) (v := (3 : Int32)) C X36 at_178 rfl rfl ?_
  refine g_callS (y := (⟨"org/vouchsafe/XsdWhitespaceCollapsePinLaw", "lastAfter", "(ICI)I"⟩ : MethodName)) (argsL := [(.int (Fla (Fla (Fla (-1 : Int32) x0 (0 : Int32)) x1 (1 : Int32)) x2 (2 : Int32))), (.int x3), (.int (3 : Int32))]) (st := []) (pc' := 182) C X36 at_179 (wq hw 163 rfl) (wq hw 164 rfl) (wq hw 3 rfl) (wq hw 165 rfl) (by decide) (rmla l Z a0 hw [] (Fla (Fla (Fla (-1 : Int32) x0 (0 : Int32)) x1 (1 : Int32)) x2 (2 : Int32)) x3 (3 : Int32) cs fm T36.heap n0 FX_36) (W := 0) (by decide) (by decide) (ce := 19) (sl := 156) rfl rfl (by decide) (by decide) rfl rfl rfl pd_34 rfl (Nat.le_refl _) rfl (fun rv37 T37 L37 X37 Q37 => ?_)
  obtain ⟨q37, Nq37, e37⟩ := Q37
  have N37 := Fr.app N36 Nq37
  subst q37
  show Go p.tables e below _ (T37.setTop (mkF m 182 #[.val (.int p1), .val (.int p2), .val (.int p3), .val (.int p4), .val (.int p5), .val (.ref b1), .val (.ref r17), .val (.ref b24), .val (.int (Fem (Fem (Fem (Fem (0 : Int32) (-1 : Int32) x0 (0 : Int32)) (Fla (-1 : Int32) x0 (0 : Int32)) x1 (1 : Int32)) (Fla (Fla (-1 : Int32) x0 (0 : Int32)) x1 (1 : Int32)) x2 (2 : Int32)) (Fla (Fla (Fla (-1 : Int32) x0 (0 : Int32)) x1 (1 : Int32)) x2 (2 : Int32)) x3 (3 : Int32))), .val (.int (Fla (Fla (Fla (-1 : Int32) x0 (0 : Int32)) x1 (1 : Int32)) x2 (2 : Int32)))] [(.int (Fla (Fla (Fla (Fla (-1 : Int32) x0 (0 : Int32)) x1 (1 : Int32)) x2 (2 : Int32)) x3 (3 : Int32)))]))
  refine g_istore (pc' := 184) (Ls' := #[.val (.int p1), .val (.int p2), .val (.int p3), .val (.int p4), .val (.int p5), .val (.ref b1), .val (.ref r17), .val (.ref b24), .val (.int (Fem (Fem (Fem (Fem (0 : Int32) (-1 : Int32) x0 (0 : Int32)) (Fla (-1 : Int32) x0 (0 : Int32)) x1 (1 : Int32)) (Fla (Fla (-1 : Int32) x0 (0 : Int32)) x1 (1 : Int32)) x2 (2 : Int32)) (Fla (Fla (Fla (-1 : Int32) x0 (0 : Int32)) x1 (1 : Int32)) x2 (2 : Int32)) x3 (3 : Int32))), .val (.int (Fla (Fla (Fla (Fla (-1 : Int32) x0 (0 : Int32)) x1 (1 : Int32)) x2 (2 : Int32)) x3 (3 : Int32)))]) C X37 at_182 rfl rfl ?_
  refine g_aload (pc' := 186) C X37 at_184 rfl rfl rfl ?_
  refine g_iload (pc' := 188) C X37 at_186 rfl rfl ?_
  refine g_iload (pc' := 190) C X37 at_188 rfl rfl ?_
  refine g_aload (pc' := 192) C X37 at_190 rfl rfl rfl ?_
  refine g_iconst (pc' := 193) (v := (4 : Int32)) C X37 at_192 rfl rfl ?_
  refine g_ldC (pc' := 194) (v := (.int x4)) C X37 at_193 e37 V11_36 ⟨by decide, by decide⟩ rfl rfl ?_
  refine g_iconst (pc' := 195) (v := (4 : Int32)) C X37 at_194 rfl rfl ?_
  refine g_callS (y := (⟨"org/vouchsafe/XsdWhitespaceCollapsePinLaw", "emit", "([CIICI)I"⟩ : MethodName)) (argsL := [(.ref b24), (.int (Fem (Fem (Fem (Fem (0 : Int32) (-1 : Int32) x0 (0 : Int32)) (Fla (-1 : Int32) x0 (0 : Int32)) x1 (1 : Int32)) (Fla (Fla (-1 : Int32) x0 (0 : Int32)) x1 (1 : Int32)) x2 (2 : Int32)) (Fla (Fla (Fla (-1 : Int32) x0 (0 : Int32)) x1 (1 : Int32)) x2 (2 : Int32)) x3 (3 : Int32))), (.int (Fla (Fla (Fla (Fla (-1 : Int32) x0 (0 : Int32)) x1 (1 : Int32)) x2 (2 : Int32)) x3 (3 : Int32))), (.int x4), (.int (4 : Int32))]) (st := []) (pc' := 198) C X37 at_195 (wq hw 157 rfl) (wq hw 158 rfl) (wq hw 3 rfl) (wq hw 159 rfl) (by decide) (rmem l Z a0 hw [] b24 (Fem (Fem (Fem (Fem (0 : Int32) (-1 : Int32) x0 (0 : Int32)) (Fla (-1 : Int32) x0 (0 : Int32)) x1 (1 : Int32)) (Fla (Fla (-1 : Int32) x0 (0 : Int32)) x1 (1 : Int32)) x2 (2 : Int32)) (Fla (Fla (Fla (-1 : Int32) x0 (0 : Int32)) x1 (1 : Int32)) x2 (2 : Int32)) x3 (3 : Int32)) (Fla (Fla (Fla (Fla (-1 : Int32) x0 (0 : Int32)) x1 (1 : Int32)) x2 (2 : Int32)) x3 (3 : Int32)) x4 (4 : Int32) ck24 (own_emL (own_emL (own_emL (own_emL [] (0 : Int32) (-1 : Int32) x0 (0 : Int32)) (Fem (0 : Int32) (-1 : Int32) x0 (0 : Int32)) (Fla (-1 : Int32) x0 (0 : Int32)) x1 (1 : Int32)) (Fem (Fem (0 : Int32) (-1 : Int32) x0 (0 : Int32)) (Fla (-1 : Int32) x0 (0 : Int32)) x1 (1 : Int32)) (Fla (Fla (-1 : Int32) x0 (0 : Int32)) x1 (1 : Int32)) x2 (2 : Int32)) (Fem (Fem (Fem (0 : Int32) (-1 : Int32) x0 (0 : Int32)) (Fla (-1 : Int32) x0 (0 : Int32)) x1 (1 : Int32)) (Fla (Fla (-1 : Int32) x0 (0 : Int32)) x1 (1 : Int32)) x2 (2 : Int32)) (Fla (Fla (Fla (-1 : Int32) x0 (0 : Int32)) x1 (1 : Int32)) x2 (2 : Int32)) x3 (3 : Int32)) cs fm T36.heap n0 Z36 FX_36 P36_0 gn_b24 (own_bd4 x0 x1 x2 x3 x4).1 (own_bd4 x0 x1 x2 x3 x4).2.1 (own_bd4 x0 x1 x2 x3 x4).2.2.1 (own_bd4 x0 x1 x2 x3 x4).2.2.2 hch4) (W := 0) (by decide) (by decide) (ce := 19) (sl := 156) rfl rfl (by decide) (by decide) rfl e37 rfl pd_33 rfl (Nat.le_refl _) rfl (fun rv38 T38 L38 X38 Q38 => ?_)
  obtain ⟨q38, Nq38, Kq38, P38_0⟩ := Q38
  have N38 := Fr.app N37 Nq38
  have FX_38 := FX_keep FX_36 Kq38 ((allS (by obtain ⟨c_, A_, _⟩ := P36_0; exact ⟨c_, A_.1, A_.plain⟩) all0))
  have V11_38 := V11_36.keep Kq38 (ninS ne24_25 nin0)
  have A12_38 := A12_36.keep Kq38
  have P14_0_38 := Str_keep P14_0_36 Kq38 (ninS ne24_26 nin0) (ninS ne24_27 nin0)
  have P17_0_38 := Str_keep P17_0_36 Kq38 (ninS ne24_28 nin0) (ninS ne24_29 nin0)
  have A24_38 := A24_36.keep Kq38
  have Z38 := Nat.le_trans Z36 Kq38.1
  subst q38
  show Go p.tables e below _ (T38.setTop (mkF m 198 #[.val (.int p1), .val (.int p2), .val (.int p3), .val (.int p4), .val (.int p5), .val (.ref b1), .val (.ref r17), .val (.ref b24), .val (.int (Fem (Fem (Fem (Fem (0 : Int32) (-1 : Int32) x0 (0 : Int32)) (Fla (-1 : Int32) x0 (0 : Int32)) x1 (1 : Int32)) (Fla (Fla (-1 : Int32) x0 (0 : Int32)) x1 (1 : Int32)) x2 (2 : Int32)) (Fla (Fla (Fla (-1 : Int32) x0 (0 : Int32)) x1 (1 : Int32)) x2 (2 : Int32)) x3 (3 : Int32))), .val (.int (Fla (Fla (Fla (Fla (-1 : Int32) x0 (0 : Int32)) x1 (1 : Int32)) x2 (2 : Int32)) x3 (3 : Int32)))] [(.int (Fem (Fem (Fem (Fem (Fem (0 : Int32) (-1 : Int32) x0 (0 : Int32)) (Fla (-1 : Int32) x0 (0 : Int32)) x1 (1 : Int32)) (Fla (Fla (-1 : Int32) x0 (0 : Int32)) x1 (1 : Int32)) x2 (2 : Int32)) (Fla (Fla (Fla (-1 : Int32) x0 (0 : Int32)) x1 (1 : Int32)) x2 (2 : Int32)) x3 (3 : Int32)) (Fla (Fla (Fla (Fla (-1 : Int32) x0 (0 : Int32)) x1 (1 : Int32)) x2 (2 : Int32)) x3 (3 : Int32)) x4 (4 : Int32)))]))
  refine g_istore (pc' := 200) (Ls' := #[.val (.int p1), .val (.int p2), .val (.int p3), .val (.int p4), .val (.int p5), .val (.ref b1), .val (.ref r17), .val (.ref b24), .val (.int (Fem (Fem (Fem (Fem (Fem (0 : Int32) (-1 : Int32) x0 (0 : Int32)) (Fla (-1 : Int32) x0 (0 : Int32)) x1 (1 : Int32)) (Fla (Fla (-1 : Int32) x0 (0 : Int32)) x1 (1 : Int32)) x2 (2 : Int32)) (Fla (Fla (Fla (-1 : Int32) x0 (0 : Int32)) x1 (1 : Int32)) x2 (2 : Int32)) x3 (3 : Int32)) (Fla (Fla (Fla (Fla (-1 : Int32) x0 (0 : Int32)) x1 (1 : Int32)) x2 (2 : Int32)) x3 (3 : Int32)) x4 (4 : Int32))), .val (.int (Fla (Fla (Fla (Fla (-1 : Int32) x0 (0 : Int32)) x1 (1 : Int32)) x2 (2 : Int32)) x3 (3 : Int32)))]) C X38 at_198 rfl rfl ?_
  refine g_aload (pc' := 202) C X38 at_200 rfl rfl rfl ?_
  refine g_ifnullN (pc' := 205) C X38 at_202 rfl ?_
  refine g_aload (pc' := 207) C X38 at_205 rfl rfl rfl ?_
  refine g_callV (b := r17) (z := (⟨"java/lang/String", "length", "()I"⟩ : MethodName)) (y := (⟨"java/lang/String", "length", "()I"⟩ : MethodName)) (argsL := []) (st := []) (pc' := 210) C X38 at_207 (wq hw 166 rfl) (wq hw 44 rfl) (notFace_of_selects (args := #[]) (mvT C.hZ (wq hw 46 rfl))) (wq hw 46 rfl) (wq hw 45 rfl) (wq hw 9 rfl) (wq hw 47 rfl) (by decide) (rmsl l Z a0 hw [] r17 w17 (own_coll x0 x1 x2 x3 x4) cs fm T38.heap n0 FX_38 P17_0_38) (W := 0) (by decide) (by decide) (ce := 19) (sl := 156) rfl rfl (by decide) (by decide) rfl (Str_exa P17_0_38) rfl rfl pd_18 rfl (Nat.le_refl _) rfl (fun rv39 T39 L39 X39 Q39 => ?_)
  obtain ⟨q39, Nq39, e39⟩ := Q39
  have N39 := Fr.app N38 Nq39
  subst q39
  show Go p.tables e below _ (T39.setTop (mkF m 210 #[.val (.int p1), .val (.int p2), .val (.int p3), .val (.int p4), .val (.int p5), .val (.ref b1), .val (.ref r17), .val (.ref b24), .val (.int (Fem (Fem (Fem (Fem (Fem (0 : Int32) (-1 : Int32) x0 (0 : Int32)) (Fla (-1 : Int32) x0 (0 : Int32)) x1 (1 : Int32)) (Fla (Fla (-1 : Int32) x0 (0 : Int32)) x1 (1 : Int32)) x2 (2 : Int32)) (Fla (Fla (Fla (-1 : Int32) x0 (0 : Int32)) x1 (1 : Int32)) x2 (2 : Int32)) x3 (3 : Int32)) (Fla (Fla (Fla (Fla (-1 : Int32) x0 (0 : Int32)) x1 (1 : Int32)) x2 (2 : Int32)) x3 (3 : Int32)) x4 (4 : Int32))), .val (.int (Fla (Fla (Fla (Fla (-1 : Int32) x0 (0 : Int32)) x1 (1 : Int32)) x2 (2 : Int32)) x3 (3 : Int32)))] [(.int (own_n (own_coll x0 x1 x2 x3 x4)))]))
  refine g_iload (pc' := 212) C X39 at_210 rfl rfl ?_
  refine g_icmpY (pc' := 217) C X39 at_212 (teq (show (own_n (own_coll x0 x1 x2 x3 x4)) = (Fem (Fem (Fem (Fem (Fem (0 : Int32) (-1 : Int32) x0 (0 : Int32)) (Fla (-1 : Int32) x0 (0 : Int32)) x1 (1 : Int32)) (Fla (Fla (-1 : Int32) x0 (0 : Int32)) x1 (1 : Int32)) x2 (2 : Int32)) (Fla (Fla (Fla (-1 : Int32) x0 (0 : Int32)) x1 (1 : Int32)) x2 (2 : Int32)) x3 (3 : Int32)) (Fla (Fla (Fla (Fla (-1 : Int32) x0 (0 : Int32)) x1 (1 : Int32)) x2 (2 : Int32)) x3 (3 : Int32)) x4 (4 : Int32)) from (own_lw x0 x1 x2 x3 x4))).1 (by decide) (by decide) ?_
  refine g_aload (pc' := 219) C X39 at_217 rfl rfl rfl ?_
  refine g_aload (pc' := 221) C X39 at_219 rfl rfl rfl ?_
  refine g_iload (pc' := 223) C X39 at_221 rfl rfl ?_
  refine g_iconst (pc' := 224) (v := (0 : Int32)) C X39 at_223 rfl rfl ?_
  refine g_callS (y := (⟨"org/vouchsafe/XsdWhitespaceCollapsePinLaw", "at", "(Ljava/lang/String;[CII)Z"⟩ : MethodName)) (argsL := [(.ref r17), (.ref b24), (.int (Fem (Fem (Fem (Fem (Fem (0 : Int32) (-1 : Int32) x0 (0 : Int32)) (Fla (-1 : Int32) x0 (0 : Int32)) x1 (1 : Int32)) (Fla (Fla (-1 : Int32) x0 (0 : Int32)) x1 (1 : Int32)) x2 (2 : Int32)) (Fla (Fla (Fla (-1 : Int32) x0 (0 : Int32)) x1 (1 : Int32)) x2 (2 : Int32)) x3 (3 : Int32)) (Fla (Fla (Fla (Fla (-1 : Int32) x0 (0 : Int32)) x1 (1 : Int32)) x2 (2 : Int32)) x3 (3 : Int32)) x4 (4 : Int32))), (.int (0 : Int32))]) (st := []) (pc' := 227) C X39 at_224 (wq hw 167 rfl) (wq hw 168 rfl) (wq hw 3 rfl) (wq hw 169 rfl) (by decide) (rmat l Z a0 hw [] r17 b24 (Fem (Fem (Fem (Fem (Fem (0 : Int32) (-1 : Int32) x0 (0 : Int32)) (Fla (-1 : Int32) x0 (0 : Int32)) x1 (1 : Int32)) (Fla (Fla (-1 : Int32) x0 (0 : Int32)) x1 (1 : Int32)) x2 (2 : Int32)) (Fla (Fla (Fla (-1 : Int32) x0 (0 : Int32)) x1 (1 : Int32)) x2 (2 : Int32)) x3 (3 : Int32)) (Fla (Fla (Fla (Fla (-1 : Int32) x0 (0 : Int32)) x1 (1 : Int32)) x2 (2 : Int32)) x3 (3 : Int32)) x4 (4 : Int32)) (0 : Int32) w17 (own_coll x0 x1 x2 x3 x4) ck24 (own_emL (own_emL (own_emL (own_emL (own_emL [] (0 : Int32) (-1 : Int32) x0 (0 : Int32)) (Fem (0 : Int32) (-1 : Int32) x0 (0 : Int32)) (Fla (-1 : Int32) x0 (0 : Int32)) x1 (1 : Int32)) (Fem (Fem (0 : Int32) (-1 : Int32) x0 (0 : Int32)) (Fla (-1 : Int32) x0 (0 : Int32)) x1 (1 : Int32)) (Fla (Fla (-1 : Int32) x0 (0 : Int32)) x1 (1 : Int32)) x2 (2 : Int32)) (Fem (Fem (Fem (0 : Int32) (-1 : Int32) x0 (0 : Int32)) (Fla (-1 : Int32) x0 (0 : Int32)) x1 (1 : Int32)) (Fla (Fla (-1 : Int32) x0 (0 : Int32)) x1 (1 : Int32)) x2 (2 : Int32)) (Fla (Fla (Fla (-1 : Int32) x0 (0 : Int32)) x1 (1 : Int32)) x2 (2 : Int32)) x3 (3 : Int32)) (Fem (Fem (Fem (Fem (0 : Int32) (-1 : Int32) x0 (0 : Int32)) (Fla (-1 : Int32) x0 (0 : Int32)) x1 (1 : Int32)) (Fla (Fla (-1 : Int32) x0 (0 : Int32)) x1 (1 : Int32)) x2 (2 : Int32)) (Fla (Fla (Fla (-1 : Int32) x0 (0 : Int32)) x1 (1 : Int32)) x2 (2 : Int32)) x3 (3 : Int32)) (Fla (Fla (Fla (Fla (-1 : Int32) x0 (0 : Int32)) x1 (1 : Int32)) x2 (2 : Int32)) x3 (3 : Int32)) x4 (4 : Int32)) cs fm T38.heap n0 FX_38 P17_0_38 P38_0 (own_lw x0 x1 x2 x3 x4).symm (by decide) (by decide)) (W := 0) (by decide) (by decide) (ce := 19) (sl := 156) rfl rfl (by decide) (by decide) rfl e39 rfl pd_35 rfl (Nat.le_refl _) rfl (fun rv40 T40 L40 X40 Q40 => ?_)
  obtain ⟨q40, Nq40, e40⟩ := Q40
  have N40 := Fr.app N39 Nq40
  subst q40
  show Go p.tables e below _ (T40.setTop (mkF m 227 #[.val (.int p1), .val (.int p2), .val (.int p3), .val (.int p4), .val (.int p5), .val (.ref b1), .val (.ref r17), .val (.ref b24), .val (.int (Fem (Fem (Fem (Fem (Fem (0 : Int32) (-1 : Int32) x0 (0 : Int32)) (Fla (-1 : Int32) x0 (0 : Int32)) x1 (1 : Int32)) (Fla (Fla (-1 : Int32) x0 (0 : Int32)) x1 (1 : Int32)) x2 (2 : Int32)) (Fla (Fla (Fla (-1 : Int32) x0 (0 : Int32)) x1 (1 : Int32)) x2 (2 : Int32)) x3 (3 : Int32)) (Fla (Fla (Fla (Fla (-1 : Int32) x0 (0 : Int32)) x1 (1 : Int32)) x2 (2 : Int32)) x3 (3 : Int32)) x4 (4 : Int32))), .val (.int (Fla (Fla (Fla (Fla (-1 : Int32) x0 (0 : Int32)) x1 (1 : Int32)) x2 (2 : Int32)) x3 (3 : Int32)))] [(.int (Fat (Fem (Fem (Fem (Fem (Fem (0 : Int32) (-1 : Int32) x0 (0 : Int32)) (Fla (-1 : Int32) x0 (0 : Int32)) x1 (1 : Int32)) (Fla (Fla (-1 : Int32) x0 (0 : Int32)) x1 (1 : Int32)) x2 (2 : Int32)) (Fla (Fla (Fla (-1 : Int32) x0 (0 : Int32)) x1 (1 : Int32)) x2 (2 : Int32)) x3 (3 : Int32)) (Fla (Fla (Fla (Fla (-1 : Int32) x0 (0 : Int32)) x1 (1 : Int32)) x2 (2 : Int32)) x3 (3 : Int32)) x4 (4 : Int32)) (0 : Int32) (own_coll x0 x1 x2 x3 x4) (own_emL (own_emL (own_emL (own_emL (own_emL [] (0 : Int32) (-1 : Int32) x0 (0 : Int32)) (Fem (0 : Int32) (-1 : Int32) x0 (0 : Int32)) (Fla (-1 : Int32) x0 (0 : Int32)) x1 (1 : Int32)) (Fem (Fem (0 : Int32) (-1 : Int32) x0 (0 : Int32)) (Fla (-1 : Int32) x0 (0 : Int32)) x1 (1 : Int32)) (Fla (Fla (-1 : Int32) x0 (0 : Int32)) x1 (1 : Int32)) x2 (2 : Int32)) (Fem (Fem (Fem (0 : Int32) (-1 : Int32) x0 (0 : Int32)) (Fla (-1 : Int32) x0 (0 : Int32)) x1 (1 : Int32)) (Fla (Fla (-1 : Int32) x0 (0 : Int32)) x1 (1 : Int32)) x2 (2 : Int32)) (Fla (Fla (Fla (-1 : Int32) x0 (0 : Int32)) x1 (1 : Int32)) x2 (2 : Int32)) x3 (3 : Int32)) (Fem (Fem (Fem (Fem (0 : Int32) (-1 : Int32) x0 (0 : Int32)) (Fla (-1 : Int32) x0 (0 : Int32)) x1 (1 : Int32)) (Fla (Fla (-1 : Int32) x0 (0 : Int32)) x1 (1 : Int32)) x2 (2 : Int32)) (Fla (Fla (Fla (-1 : Int32) x0 (0 : Int32)) x1 (1 : Int32)) x2 (2 : Int32)) x3 (3 : Int32)) (Fla (Fla (Fla (Fla (-1 : Int32) x0 (0 : Int32)) x1 (1 : Int32)) x2 (2 : Int32)) x3 (3 : Int32)) x4 (4 : Int32))))]))
  refine g_ifN (pc' := 230) C X40 at_227 (feq (show ¬ ((Fat (Fem (Fem (Fem (Fem (Fem (0 : Int32) (-1 : Int32) x0 (0 : Int32)) (Fla (-1 : Int32) x0 (0 : Int32)) x1 (1 : Int32)) (Fla (Fla (-1 : Int32) x0 (0 : Int32)) x1 (1 : Int32)) x2 (2 : Int32)) (Fla (Fla (Fla (-1 : Int32) x0 (0 : Int32)) x1 (1 : Int32)) x2 (2 : Int32)) x3 (3 : Int32)) (Fla (Fla (Fla (Fla (-1 : Int32) x0 (0 : Int32)) x1 (1 : Int32)) x2 (2 : Int32)) x3 (3 : Int32)) x4 (4 : Int32)) (0 : Int32) (own_coll x0 x1 x2 x3 x4) (own_emL (own_emL (own_emL (own_emL (own_emL [] (0 : Int32) (-1 : Int32) x0 (0 : Int32)) (Fem (0 : Int32) (-1 : Int32) x0 (0 : Int32)) (Fla (-1 : Int32) x0 (0 : Int32)) x1 (1 : Int32)) (Fem (Fem (0 : Int32) (-1 : Int32) x0 (0 : Int32)) (Fla (-1 : Int32) x0 (0 : Int32)) x1 (1 : Int32)) (Fla (Fla (-1 : Int32) x0 (0 : Int32)) x1 (1 : Int32)) x2 (2 : Int32)) (Fem (Fem (Fem (0 : Int32) (-1 : Int32) x0 (0 : Int32)) (Fla (-1 : Int32) x0 (0 : Int32)) x1 (1 : Int32)) (Fla (Fla (-1 : Int32) x0 (0 : Int32)) x1 (1 : Int32)) x2 (2 : Int32)) (Fla (Fla (Fla (-1 : Int32) x0 (0 : Int32)) x1 (1 : Int32)) x2 (2 : Int32)) x3 (3 : Int32)) (Fem (Fem (Fem (Fem (0 : Int32) (-1 : Int32) x0 (0 : Int32)) (Fla (-1 : Int32) x0 (0 : Int32)) x1 (1 : Int32)) (Fla (Fla (-1 : Int32) x0 (0 : Int32)) x1 (1 : Int32)) x2 (2 : Int32)) (Fla (Fla (Fla (-1 : Int32) x0 (0 : Int32)) x1 (1 : Int32)) x2 (2 : Int32)) x3 (3 : Int32)) (Fla (Fla (Fla (Fla (-1 : Int32) x0 (0 : Int32)) x1 (1 : Int32)) x2 (2 : Int32)) x3 (3 : Int32)) x4 (4 : Int32))) = (0 : Int32)) from (own_aw x0 x1 x2 x3 x4 _))).1 rfl ?_
  refine g_aload (pc' := 232) C X40 at_230 rfl rfl rfl ?_
  refine g_aload (pc' := 234) C X40 at_232 rfl rfl rfl ?_
  refine g_iload (pc' := 236) C X40 at_234 rfl rfl ?_
  refine g_iconst (pc' := 237) (v := (1 : Int32)) C X40 at_236 rfl rfl ?_
  refine g_callS (y := (⟨"org/vouchsafe/XsdWhitespaceCollapsePinLaw", "at", "(Ljava/lang/String;[CII)Z"⟩ : MethodName)) (argsL := [(.ref r17), (.ref b24), (.int (Fem (Fem (Fem (Fem (Fem (0 : Int32) (-1 : Int32) x0 (0 : Int32)) (Fla (-1 : Int32) x0 (0 : Int32)) x1 (1 : Int32)) (Fla (Fla (-1 : Int32) x0 (0 : Int32)) x1 (1 : Int32)) x2 (2 : Int32)) (Fla (Fla (Fla (-1 : Int32) x0 (0 : Int32)) x1 (1 : Int32)) x2 (2 : Int32)) x3 (3 : Int32)) (Fla (Fla (Fla (Fla (-1 : Int32) x0 (0 : Int32)) x1 (1 : Int32)) x2 (2 : Int32)) x3 (3 : Int32)) x4 (4 : Int32))), (.int (1 : Int32))]) (st := []) (pc' := 240) C X40 at_237 (wq hw 167 rfl) (wq hw 168 rfl) (wq hw 3 rfl) (wq hw 169 rfl) (by decide) (rmat l Z a0 hw [] r17 b24 (Fem (Fem (Fem (Fem (Fem (0 : Int32) (-1 : Int32) x0 (0 : Int32)) (Fla (-1 : Int32) x0 (0 : Int32)) x1 (1 : Int32)) (Fla (Fla (-1 : Int32) x0 (0 : Int32)) x1 (1 : Int32)) x2 (2 : Int32)) (Fla (Fla (Fla (-1 : Int32) x0 (0 : Int32)) x1 (1 : Int32)) x2 (2 : Int32)) x3 (3 : Int32)) (Fla (Fla (Fla (Fla (-1 : Int32) x0 (0 : Int32)) x1 (1 : Int32)) x2 (2 : Int32)) x3 (3 : Int32)) x4 (4 : Int32)) (1 : Int32) w17 (own_coll x0 x1 x2 x3 x4) ck24 (own_emL (own_emL (own_emL (own_emL (own_emL [] (0 : Int32) (-1 : Int32) x0 (0 : Int32)) (Fem (0 : Int32) (-1 : Int32) x0 (0 : Int32)) (Fla (-1 : Int32) x0 (0 : Int32)) x1 (1 : Int32)) (Fem (Fem (0 : Int32) (-1 : Int32) x0 (0 : Int32)) (Fla (-1 : Int32) x0 (0 : Int32)) x1 (1 : Int32)) (Fla (Fla (-1 : Int32) x0 (0 : Int32)) x1 (1 : Int32)) x2 (2 : Int32)) (Fem (Fem (Fem (0 : Int32) (-1 : Int32) x0 (0 : Int32)) (Fla (-1 : Int32) x0 (0 : Int32)) x1 (1 : Int32)) (Fla (Fla (-1 : Int32) x0 (0 : Int32)) x1 (1 : Int32)) x2 (2 : Int32)) (Fla (Fla (Fla (-1 : Int32) x0 (0 : Int32)) x1 (1 : Int32)) x2 (2 : Int32)) x3 (3 : Int32)) (Fem (Fem (Fem (Fem (0 : Int32) (-1 : Int32) x0 (0 : Int32)) (Fla (-1 : Int32) x0 (0 : Int32)) x1 (1 : Int32)) (Fla (Fla (-1 : Int32) x0 (0 : Int32)) x1 (1 : Int32)) x2 (2 : Int32)) (Fla (Fla (Fla (-1 : Int32) x0 (0 : Int32)) x1 (1 : Int32)) x2 (2 : Int32)) x3 (3 : Int32)) (Fla (Fla (Fla (Fla (-1 : Int32) x0 (0 : Int32)) x1 (1 : Int32)) x2 (2 : Int32)) x3 (3 : Int32)) x4 (4 : Int32)) cs fm T38.heap n0 FX_38 P17_0_38 P38_0 (own_lw x0 x1 x2 x3 x4).symm (by decide) (by decide)) (W := 0) (by decide) (by decide) (ce := 19) (sl := 156) rfl rfl (by decide) (by decide) rfl e40 rfl pd_35 rfl (Nat.le_refl _) rfl (fun rv41 T41 L41 X41 Q41 => ?_)
  obtain ⟨q41, Nq41, e41⟩ := Q41
  have N41 := Fr.app N40 Nq41
  subst q41
  show Go p.tables e below _ (T41.setTop (mkF m 240 #[.val (.int p1), .val (.int p2), .val (.int p3), .val (.int p4), .val (.int p5), .val (.ref b1), .val (.ref r17), .val (.ref b24), .val (.int (Fem (Fem (Fem (Fem (Fem (0 : Int32) (-1 : Int32) x0 (0 : Int32)) (Fla (-1 : Int32) x0 (0 : Int32)) x1 (1 : Int32)) (Fla (Fla (-1 : Int32) x0 (0 : Int32)) x1 (1 : Int32)) x2 (2 : Int32)) (Fla (Fla (Fla (-1 : Int32) x0 (0 : Int32)) x1 (1 : Int32)) x2 (2 : Int32)) x3 (3 : Int32)) (Fla (Fla (Fla (Fla (-1 : Int32) x0 (0 : Int32)) x1 (1 : Int32)) x2 (2 : Int32)) x3 (3 : Int32)) x4 (4 : Int32))), .val (.int (Fla (Fla (Fla (Fla (-1 : Int32) x0 (0 : Int32)) x1 (1 : Int32)) x2 (2 : Int32)) x3 (3 : Int32)))] [(.int (Fat (Fem (Fem (Fem (Fem (Fem (0 : Int32) (-1 : Int32) x0 (0 : Int32)) (Fla (-1 : Int32) x0 (0 : Int32)) x1 (1 : Int32)) (Fla (Fla (-1 : Int32) x0 (0 : Int32)) x1 (1 : Int32)) x2 (2 : Int32)) (Fla (Fla (Fla (-1 : Int32) x0 (0 : Int32)) x1 (1 : Int32)) x2 (2 : Int32)) x3 (3 : Int32)) (Fla (Fla (Fla (Fla (-1 : Int32) x0 (0 : Int32)) x1 (1 : Int32)) x2 (2 : Int32)) x3 (3 : Int32)) x4 (4 : Int32)) (1 : Int32) (own_coll x0 x1 x2 x3 x4) (own_emL (own_emL (own_emL (own_emL (own_emL [] (0 : Int32) (-1 : Int32) x0 (0 : Int32)) (Fem (0 : Int32) (-1 : Int32) x0 (0 : Int32)) (Fla (-1 : Int32) x0 (0 : Int32)) x1 (1 : Int32)) (Fem (Fem (0 : Int32) (-1 : Int32) x0 (0 : Int32)) (Fla (-1 : Int32) x0 (0 : Int32)) x1 (1 : Int32)) (Fla (Fla (-1 : Int32) x0 (0 : Int32)) x1 (1 : Int32)) x2 (2 : Int32)) (Fem (Fem (Fem (0 : Int32) (-1 : Int32) x0 (0 : Int32)) (Fla (-1 : Int32) x0 (0 : Int32)) x1 (1 : Int32)) (Fla (Fla (-1 : Int32) x0 (0 : Int32)) x1 (1 : Int32)) x2 (2 : Int32)) (Fla (Fla (Fla (-1 : Int32) x0 (0 : Int32)) x1 (1 : Int32)) x2 (2 : Int32)) x3 (3 : Int32)) (Fem (Fem (Fem (Fem (0 : Int32) (-1 : Int32) x0 (0 : Int32)) (Fla (-1 : Int32) x0 (0 : Int32)) x1 (1 : Int32)) (Fla (Fla (-1 : Int32) x0 (0 : Int32)) x1 (1 : Int32)) x2 (2 : Int32)) (Fla (Fla (Fla (-1 : Int32) x0 (0 : Int32)) x1 (1 : Int32)) x2 (2 : Int32)) x3 (3 : Int32)) (Fla (Fla (Fla (Fla (-1 : Int32) x0 (0 : Int32)) x1 (1 : Int32)) x2 (2 : Int32)) x3 (3 : Int32)) x4 (4 : Int32))))]))
  refine g_ifN (pc' := 243) C X41 at_240 (feq (show ¬ ((Fat (Fem (Fem (Fem (Fem (Fem (0 : Int32) (-1 : Int32) x0 (0 : Int32)) (Fla (-1 : Int32) x0 (0 : Int32)) x1 (1 : Int32)) (Fla (Fla (-1 : Int32) x0 (0 : Int32)) x1 (1 : Int32)) x2 (2 : Int32)) (Fla (Fla (Fla (-1 : Int32) x0 (0 : Int32)) x1 (1 : Int32)) x2 (2 : Int32)) x3 (3 : Int32)) (Fla (Fla (Fla (Fla (-1 : Int32) x0 (0 : Int32)) x1 (1 : Int32)) x2 (2 : Int32)) x3 (3 : Int32)) x4 (4 : Int32)) (1 : Int32) (own_coll x0 x1 x2 x3 x4) (own_emL (own_emL (own_emL (own_emL (own_emL [] (0 : Int32) (-1 : Int32) x0 (0 : Int32)) (Fem (0 : Int32) (-1 : Int32) x0 (0 : Int32)) (Fla (-1 : Int32) x0 (0 : Int32)) x1 (1 : Int32)) (Fem (Fem (0 : Int32) (-1 : Int32) x0 (0 : Int32)) (Fla (-1 : Int32) x0 (0 : Int32)) x1 (1 : Int32)) (Fla (Fla (-1 : Int32) x0 (0 : Int32)) x1 (1 : Int32)) x2 (2 : Int32)) (Fem (Fem (Fem (0 : Int32) (-1 : Int32) x0 (0 : Int32)) (Fla (-1 : Int32) x0 (0 : Int32)) x1 (1 : Int32)) (Fla (Fla (-1 : Int32) x0 (0 : Int32)) x1 (1 : Int32)) x2 (2 : Int32)) (Fla (Fla (Fla (-1 : Int32) x0 (0 : Int32)) x1 (1 : Int32)) x2 (2 : Int32)) x3 (3 : Int32)) (Fem (Fem (Fem (Fem (0 : Int32) (-1 : Int32) x0 (0 : Int32)) (Fla (-1 : Int32) x0 (0 : Int32)) x1 (1 : Int32)) (Fla (Fla (-1 : Int32) x0 (0 : Int32)) x1 (1 : Int32)) x2 (2 : Int32)) (Fla (Fla (Fla (-1 : Int32) x0 (0 : Int32)) x1 (1 : Int32)) x2 (2 : Int32)) x3 (3 : Int32)) (Fla (Fla (Fla (Fla (-1 : Int32) x0 (0 : Int32)) x1 (1 : Int32)) x2 (2 : Int32)) x3 (3 : Int32)) x4 (4 : Int32))) = (0 : Int32)) from (own_aw x0 x1 x2 x3 x4 _))).1 rfl ?_
  refine g_aload (pc' := 245) C X41 at_243 rfl rfl rfl ?_
  refine g_aload (pc' := 247) C X41 at_245 rfl rfl rfl ?_
  refine g_iload (pc' := 249) C X41 at_247 rfl rfl ?_
  refine g_iconst (pc' := 250) (v := (2 : Int32)) C X41 at_249 rfl rfl ?_
  refine g_callS (y := (⟨"org/vouchsafe/XsdWhitespaceCollapsePinLaw", "at", "(Ljava/lang/String;[CII)Z"⟩ : MethodName)) (argsL := [(.ref r17), (.ref b24), (.int (Fem (Fem (Fem (Fem (Fem (0 : Int32) (-1 : Int32) x0 (0 : Int32)) (Fla (-1 : Int32) x0 (0 : Int32)) x1 (1 : Int32)) (Fla (Fla (-1 : Int32) x0 (0 : Int32)) x1 (1 : Int32)) x2 (2 : Int32)) (Fla (Fla (Fla (-1 : Int32) x0 (0 : Int32)) x1 (1 : Int32)) x2 (2 : Int32)) x3 (3 : Int32)) (Fla (Fla (Fla (Fla (-1 : Int32) x0 (0 : Int32)) x1 (1 : Int32)) x2 (2 : Int32)) x3 (3 : Int32)) x4 (4 : Int32))), (.int (2 : Int32))]) (st := []) (pc' := 253) C X41 at_250 (wq hw 167 rfl) (wq hw 168 rfl) (wq hw 3 rfl) (wq hw 169 rfl) (by decide) (rmat l Z a0 hw [] r17 b24 (Fem (Fem (Fem (Fem (Fem (0 : Int32) (-1 : Int32) x0 (0 : Int32)) (Fla (-1 : Int32) x0 (0 : Int32)) x1 (1 : Int32)) (Fla (Fla (-1 : Int32) x0 (0 : Int32)) x1 (1 : Int32)) x2 (2 : Int32)) (Fla (Fla (Fla (-1 : Int32) x0 (0 : Int32)) x1 (1 : Int32)) x2 (2 : Int32)) x3 (3 : Int32)) (Fla (Fla (Fla (Fla (-1 : Int32) x0 (0 : Int32)) x1 (1 : Int32)) x2 (2 : Int32)) x3 (3 : Int32)) x4 (4 : Int32)) (2 : Int32) w17 (own_coll x0 x1 x2 x3 x4) ck24 (own_emL (own_emL (own_emL (own_emL (own_emL [] (0 : Int32) (-1 : Int32) x0 (0 : Int32)) (Fem (0 : Int32) (-1 : Int32) x0 (0 : Int32)) (Fla (-1 : Int32) x0 (0 : Int32)) x1 (1 : Int32)) (Fem (Fem (0 : Int32) (-1 : Int32) x0 (0 : Int32)) (Fla (-1 : Int32) x0 (0 : Int32)) x1 (1 : Int32)) (Fla (Fla (-1 : Int32) x0 (0 : Int32)) x1 (1 : Int32)) x2 (2 : Int32)) (Fem (Fem (Fem (0 : Int32) (-1 : Int32) x0 (0 : Int32)) (Fla (-1 : Int32) x0 (0 : Int32)) x1 (1 : Int32)) (Fla (Fla (-1 : Int32) x0 (0 : Int32)) x1 (1 : Int32)) x2 (2 : Int32)) (Fla (Fla (Fla (-1 : Int32) x0 (0 : Int32)) x1 (1 : Int32)) x2 (2 : Int32)) x3 (3 : Int32)) (Fem (Fem (Fem (Fem (0 : Int32) (-1 : Int32) x0 (0 : Int32)) (Fla (-1 : Int32) x0 (0 : Int32)) x1 (1 : Int32)) (Fla (Fla (-1 : Int32) x0 (0 : Int32)) x1 (1 : Int32)) x2 (2 : Int32)) (Fla (Fla (Fla (-1 : Int32) x0 (0 : Int32)) x1 (1 : Int32)) x2 (2 : Int32)) x3 (3 : Int32)) (Fla (Fla (Fla (Fla (-1 : Int32) x0 (0 : Int32)) x1 (1 : Int32)) x2 (2 : Int32)) x3 (3 : Int32)) x4 (4 : Int32)) cs fm T38.heap n0 FX_38 P17_0_38 P38_0 (own_lw x0 x1 x2 x3 x4).symm (by decide) (by decide)) (W := 0) (by decide) (by decide) (ce := 19) (sl := 156) rfl rfl (by decide) (by decide) rfl e41 rfl pd_35 rfl (Nat.le_refl _) rfl (fun rv42 T42 L42 X42 Q42 => ?_)
  obtain ⟨q42, Nq42, e42⟩ := Q42
  have N42 := Fr.app N41 Nq42
  subst q42
  show Go p.tables e below _ (T42.setTop (mkF m 253 #[.val (.int p1), .val (.int p2), .val (.int p3), .val (.int p4), .val (.int p5), .val (.ref b1), .val (.ref r17), .val (.ref b24), .val (.int (Fem (Fem (Fem (Fem (Fem (0 : Int32) (-1 : Int32) x0 (0 : Int32)) (Fla (-1 : Int32) x0 (0 : Int32)) x1 (1 : Int32)) (Fla (Fla (-1 : Int32) x0 (0 : Int32)) x1 (1 : Int32)) x2 (2 : Int32)) (Fla (Fla (Fla (-1 : Int32) x0 (0 : Int32)) x1 (1 : Int32)) x2 (2 : Int32)) x3 (3 : Int32)) (Fla (Fla (Fla (Fla (-1 : Int32) x0 (0 : Int32)) x1 (1 : Int32)) x2 (2 : Int32)) x3 (3 : Int32)) x4 (4 : Int32))), .val (.int (Fla (Fla (Fla (Fla (-1 : Int32) x0 (0 : Int32)) x1 (1 : Int32)) x2 (2 : Int32)) x3 (3 : Int32)))] [(.int (Fat (Fem (Fem (Fem (Fem (Fem (0 : Int32) (-1 : Int32) x0 (0 : Int32)) (Fla (-1 : Int32) x0 (0 : Int32)) x1 (1 : Int32)) (Fla (Fla (-1 : Int32) x0 (0 : Int32)) x1 (1 : Int32)) x2 (2 : Int32)) (Fla (Fla (Fla (-1 : Int32) x0 (0 : Int32)) x1 (1 : Int32)) x2 (2 : Int32)) x3 (3 : Int32)) (Fla (Fla (Fla (Fla (-1 : Int32) x0 (0 : Int32)) x1 (1 : Int32)) x2 (2 : Int32)) x3 (3 : Int32)) x4 (4 : Int32)) (2 : Int32) (own_coll x0 x1 x2 x3 x4) (own_emL (own_emL (own_emL (own_emL (own_emL [] (0 : Int32) (-1 : Int32) x0 (0 : Int32)) (Fem (0 : Int32) (-1 : Int32) x0 (0 : Int32)) (Fla (-1 : Int32) x0 (0 : Int32)) x1 (1 : Int32)) (Fem (Fem (0 : Int32) (-1 : Int32) x0 (0 : Int32)) (Fla (-1 : Int32) x0 (0 : Int32)) x1 (1 : Int32)) (Fla (Fla (-1 : Int32) x0 (0 : Int32)) x1 (1 : Int32)) x2 (2 : Int32)) (Fem (Fem (Fem (0 : Int32) (-1 : Int32) x0 (0 : Int32)) (Fla (-1 : Int32) x0 (0 : Int32)) x1 (1 : Int32)) (Fla (Fla (-1 : Int32) x0 (0 : Int32)) x1 (1 : Int32)) x2 (2 : Int32)) (Fla (Fla (Fla (-1 : Int32) x0 (0 : Int32)) x1 (1 : Int32)) x2 (2 : Int32)) x3 (3 : Int32)) (Fem (Fem (Fem (Fem (0 : Int32) (-1 : Int32) x0 (0 : Int32)) (Fla (-1 : Int32) x0 (0 : Int32)) x1 (1 : Int32)) (Fla (Fla (-1 : Int32) x0 (0 : Int32)) x1 (1 : Int32)) x2 (2 : Int32)) (Fla (Fla (Fla (-1 : Int32) x0 (0 : Int32)) x1 (1 : Int32)) x2 (2 : Int32)) x3 (3 : Int32)) (Fla (Fla (Fla (Fla (-1 : Int32) x0 (0 : Int32)) x1 (1 : Int32)) x2 (2 : Int32)) x3 (3 : Int32)) x4 (4 : Int32))))]))
  refine g_ifN (pc' := 256) C X42 at_253 (feq (show ¬ ((Fat (Fem (Fem (Fem (Fem (Fem (0 : Int32) (-1 : Int32) x0 (0 : Int32)) (Fla (-1 : Int32) x0 (0 : Int32)) x1 (1 : Int32)) (Fla (Fla (-1 : Int32) x0 (0 : Int32)) x1 (1 : Int32)) x2 (2 : Int32)) (Fla (Fla (Fla (-1 : Int32) x0 (0 : Int32)) x1 (1 : Int32)) x2 (2 : Int32)) x3 (3 : Int32)) (Fla (Fla (Fla (Fla (-1 : Int32) x0 (0 : Int32)) x1 (1 : Int32)) x2 (2 : Int32)) x3 (3 : Int32)) x4 (4 : Int32)) (2 : Int32) (own_coll x0 x1 x2 x3 x4) (own_emL (own_emL (own_emL (own_emL (own_emL [] (0 : Int32) (-1 : Int32) x0 (0 : Int32)) (Fem (0 : Int32) (-1 : Int32) x0 (0 : Int32)) (Fla (-1 : Int32) x0 (0 : Int32)) x1 (1 : Int32)) (Fem (Fem (0 : Int32) (-1 : Int32) x0 (0 : Int32)) (Fla (-1 : Int32) x0 (0 : Int32)) x1 (1 : Int32)) (Fla (Fla (-1 : Int32) x0 (0 : Int32)) x1 (1 : Int32)) x2 (2 : Int32)) (Fem (Fem (Fem (0 : Int32) (-1 : Int32) x0 (0 : Int32)) (Fla (-1 : Int32) x0 (0 : Int32)) x1 (1 : Int32)) (Fla (Fla (-1 : Int32) x0 (0 : Int32)) x1 (1 : Int32)) x2 (2 : Int32)) (Fla (Fla (Fla (-1 : Int32) x0 (0 : Int32)) x1 (1 : Int32)) x2 (2 : Int32)) x3 (3 : Int32)) (Fem (Fem (Fem (Fem (0 : Int32) (-1 : Int32) x0 (0 : Int32)) (Fla (-1 : Int32) x0 (0 : Int32)) x1 (1 : Int32)) (Fla (Fla (-1 : Int32) x0 (0 : Int32)) x1 (1 : Int32)) x2 (2 : Int32)) (Fla (Fla (Fla (-1 : Int32) x0 (0 : Int32)) x1 (1 : Int32)) x2 (2 : Int32)) x3 (3 : Int32)) (Fla (Fla (Fla (Fla (-1 : Int32) x0 (0 : Int32)) x1 (1 : Int32)) x2 (2 : Int32)) x3 (3 : Int32)) x4 (4 : Int32))) = (0 : Int32)) from (own_aw x0 x1 x2 x3 x4 _))).1 rfl ?_
  refine g_aload (pc' := 258) C X42 at_256 rfl rfl rfl ?_
  refine g_aload (pc' := 260) C X42 at_258 rfl rfl rfl ?_
  refine g_iload (pc' := 262) C X42 at_260 rfl rfl ?_
  refine g_iconst (pc' := 263) (v := (3 : Int32)) C X42 at_262 rfl rfl ?_
  refine g_callS (y := (⟨"org/vouchsafe/XsdWhitespaceCollapsePinLaw", "at", "(Ljava/lang/String;[CII)Z"⟩ : MethodName)) (argsL := [(.ref r17), (.ref b24), (.int (Fem (Fem (Fem (Fem (Fem (0 : Int32) (-1 : Int32) x0 (0 : Int32)) (Fla (-1 : Int32) x0 (0 : Int32)) x1 (1 : Int32)) (Fla (Fla (-1 : Int32) x0 (0 : Int32)) x1 (1 : Int32)) x2 (2 : Int32)) (Fla (Fla (Fla (-1 : Int32) x0 (0 : Int32)) x1 (1 : Int32)) x2 (2 : Int32)) x3 (3 : Int32)) (Fla (Fla (Fla (Fla (-1 : Int32) x0 (0 : Int32)) x1 (1 : Int32)) x2 (2 : Int32)) x3 (3 : Int32)) x4 (4 : Int32))), (.int (3 : Int32))]) (st := []) (pc' := 266) C X42 at_263 (wq hw 167 rfl) (wq hw 168 rfl) (wq hw 3 rfl) (wq hw 169 rfl) (by decide) (rmat l Z a0 hw [] r17 b24 (Fem (Fem (Fem (Fem (Fem (0 : Int32) (-1 : Int32) x0 (0 : Int32)) (Fla (-1 : Int32) x0 (0 : Int32)) x1 (1 : Int32)) (Fla (Fla (-1 : Int32) x0 (0 : Int32)) x1 (1 : Int32)) x2 (2 : Int32)) (Fla (Fla (Fla (-1 : Int32) x0 (0 : Int32)) x1 (1 : Int32)) x2 (2 : Int32)) x3 (3 : Int32)) (Fla (Fla (Fla (Fla (-1 : Int32) x0 (0 : Int32)) x1 (1 : Int32)) x2 (2 : Int32)) x3 (3 : Int32)) x4 (4 : Int32)) (3 : Int32) w17 (own_coll x0 x1 x2 x3 x4) ck24 (own_emL (own_emL (own_emL (own_emL (own_emL [] (0 : Int32) (-1 : Int32) x0 (0 : Int32)) (Fem (0 : Int32) (-1 : Int32) x0 (0 : Int32)) (Fla (-1 : Int32) x0 (0 : Int32)) x1 (1 : Int32)) (Fem (Fem (0 : Int32) (-1 : Int32) x0 (0 : Int32)) (Fla (-1 : Int32) x0 (0 : Int32)) x1 (1 : Int32)) (Fla (Fla (-1 : Int32) x0 (0 : Int32)) x1 (1 : Int32)) x2 (2 : Int32)) (Fem (Fem (Fem (0 : Int32) (-1 : Int32) x0 (0 : Int32)) (Fla (-1 : Int32) x0 (0 : Int32)) x1 (1 : Int32)) (Fla (Fla (-1 : Int32) x0 (0 : Int32)) x1 (1 : Int32)) x2 (2 : Int32)) (Fla (Fla (Fla (-1 : Int32) x0 (0 : Int32)) x1 (1 : Int32)) x2 (2 : Int32)) x3 (3 : Int32)) (Fem (Fem (Fem (Fem (0 : Int32) (-1 : Int32) x0 (0 : Int32)) (Fla (-1 : Int32) x0 (0 : Int32)) x1 (1 : Int32)) (Fla (Fla (-1 : Int32) x0 (0 : Int32)) x1 (1 : Int32)) x2 (2 : Int32)) (Fla (Fla (Fla (-1 : Int32) x0 (0 : Int32)) x1 (1 : Int32)) x2 (2 : Int32)) x3 (3 : Int32)) (Fla (Fla (Fla (Fla (-1 : Int32) x0 (0 : Int32)) x1 (1 : Int32)) x2 (2 : Int32)) x3 (3 : Int32)) x4 (4 : Int32)) cs fm T38.heap n0 FX_38 P17_0_38 P38_0 (own_lw x0 x1 x2 x3 x4).symm (by decide) (by decide)) (W := 0) (by decide) (by decide) (ce := 19) (sl := 156) rfl rfl (by decide) (by decide) rfl e42 rfl pd_35 rfl (Nat.le_refl _) rfl (fun rv43 T43 L43 X43 Q43 => ?_)
  obtain ⟨q43, Nq43, e43⟩ := Q43
  have N43 := Fr.app N42 Nq43
  subst q43
  show Go p.tables e below _ (T43.setTop (mkF m 266 #[.val (.int p1), .val (.int p2), .val (.int p3), .val (.int p4), .val (.int p5), .val (.ref b1), .val (.ref r17), .val (.ref b24), .val (.int (Fem (Fem (Fem (Fem (Fem (0 : Int32) (-1 : Int32) x0 (0 : Int32)) (Fla (-1 : Int32) x0 (0 : Int32)) x1 (1 : Int32)) (Fla (Fla (-1 : Int32) x0 (0 : Int32)) x1 (1 : Int32)) x2 (2 : Int32)) (Fla (Fla (Fla (-1 : Int32) x0 (0 : Int32)) x1 (1 : Int32)) x2 (2 : Int32)) x3 (3 : Int32)) (Fla (Fla (Fla (Fla (-1 : Int32) x0 (0 : Int32)) x1 (1 : Int32)) x2 (2 : Int32)) x3 (3 : Int32)) x4 (4 : Int32))), .val (.int (Fla (Fla (Fla (Fla (-1 : Int32) x0 (0 : Int32)) x1 (1 : Int32)) x2 (2 : Int32)) x3 (3 : Int32)))] [(.int (Fat (Fem (Fem (Fem (Fem (Fem (0 : Int32) (-1 : Int32) x0 (0 : Int32)) (Fla (-1 : Int32) x0 (0 : Int32)) x1 (1 : Int32)) (Fla (Fla (-1 : Int32) x0 (0 : Int32)) x1 (1 : Int32)) x2 (2 : Int32)) (Fla (Fla (Fla (-1 : Int32) x0 (0 : Int32)) x1 (1 : Int32)) x2 (2 : Int32)) x3 (3 : Int32)) (Fla (Fla (Fla (Fla (-1 : Int32) x0 (0 : Int32)) x1 (1 : Int32)) x2 (2 : Int32)) x3 (3 : Int32)) x4 (4 : Int32)) (3 : Int32) (own_coll x0 x1 x2 x3 x4) (own_emL (own_emL (own_emL (own_emL (own_emL [] (0 : Int32) (-1 : Int32) x0 (0 : Int32)) (Fem (0 : Int32) (-1 : Int32) x0 (0 : Int32)) (Fla (-1 : Int32) x0 (0 : Int32)) x1 (1 : Int32)) (Fem (Fem (0 : Int32) (-1 : Int32) x0 (0 : Int32)) (Fla (-1 : Int32) x0 (0 : Int32)) x1 (1 : Int32)) (Fla (Fla (-1 : Int32) x0 (0 : Int32)) x1 (1 : Int32)) x2 (2 : Int32)) (Fem (Fem (Fem (0 : Int32) (-1 : Int32) x0 (0 : Int32)) (Fla (-1 : Int32) x0 (0 : Int32)) x1 (1 : Int32)) (Fla (Fla (-1 : Int32) x0 (0 : Int32)) x1 (1 : Int32)) x2 (2 : Int32)) (Fla (Fla (Fla (-1 : Int32) x0 (0 : Int32)) x1 (1 : Int32)) x2 (2 : Int32)) x3 (3 : Int32)) (Fem (Fem (Fem (Fem (0 : Int32) (-1 : Int32) x0 (0 : Int32)) (Fla (-1 : Int32) x0 (0 : Int32)) x1 (1 : Int32)) (Fla (Fla (-1 : Int32) x0 (0 : Int32)) x1 (1 : Int32)) x2 (2 : Int32)) (Fla (Fla (Fla (-1 : Int32) x0 (0 : Int32)) x1 (1 : Int32)) x2 (2 : Int32)) x3 (3 : Int32)) (Fla (Fla (Fla (Fla (-1 : Int32) x0 (0 : Int32)) x1 (1 : Int32)) x2 (2 : Int32)) x3 (3 : Int32)) x4 (4 : Int32))))]))
  refine g_ifN (pc' := 269) C X43 at_266 (feq (show ¬ ((Fat (Fem (Fem (Fem (Fem (Fem (0 : Int32) (-1 : Int32) x0 (0 : Int32)) (Fla (-1 : Int32) x0 (0 : Int32)) x1 (1 : Int32)) (Fla (Fla (-1 : Int32) x0 (0 : Int32)) x1 (1 : Int32)) x2 (2 : Int32)) (Fla (Fla (Fla (-1 : Int32) x0 (0 : Int32)) x1 (1 : Int32)) x2 (2 : Int32)) x3 (3 : Int32)) (Fla (Fla (Fla (Fla (-1 : Int32) x0 (0 : Int32)) x1 (1 : Int32)) x2 (2 : Int32)) x3 (3 : Int32)) x4 (4 : Int32)) (3 : Int32) (own_coll x0 x1 x2 x3 x4) (own_emL (own_emL (own_emL (own_emL (own_emL [] (0 : Int32) (-1 : Int32) x0 (0 : Int32)) (Fem (0 : Int32) (-1 : Int32) x0 (0 : Int32)) (Fla (-1 : Int32) x0 (0 : Int32)) x1 (1 : Int32)) (Fem (Fem (0 : Int32) (-1 : Int32) x0 (0 : Int32)) (Fla (-1 : Int32) x0 (0 : Int32)) x1 (1 : Int32)) (Fla (Fla (-1 : Int32) x0 (0 : Int32)) x1 (1 : Int32)) x2 (2 : Int32)) (Fem (Fem (Fem (0 : Int32) (-1 : Int32) x0 (0 : Int32)) (Fla (-1 : Int32) x0 (0 : Int32)) x1 (1 : Int32)) (Fla (Fla (-1 : Int32) x0 (0 : Int32)) x1 (1 : Int32)) x2 (2 : Int32)) (Fla (Fla (Fla (-1 : Int32) x0 (0 : Int32)) x1 (1 : Int32)) x2 (2 : Int32)) x3 (3 : Int32)) (Fem (Fem (Fem (Fem (0 : Int32) (-1 : Int32) x0 (0 : Int32)) (Fla (-1 : Int32) x0 (0 : Int32)) x1 (1 : Int32)) (Fla (Fla (-1 : Int32) x0 (0 : Int32)) x1 (1 : Int32)) x2 (2 : Int32)) (Fla (Fla (Fla (-1 : Int32) x0 (0 : Int32)) x1 (1 : Int32)) x2 (2 : Int32)) x3 (3 : Int32)) (Fla (Fla (Fla (Fla (-1 : Int32) x0 (0 : Int32)) x1 (1 : Int32)) x2 (2 : Int32)) x3 (3 : Int32)) x4 (4 : Int32))) = (0 : Int32)) from (own_aw x0 x1 x2 x3 x4 _))).1 rfl ?_
  refine g_aload (pc' := 271) C X43 at_269 rfl rfl rfl ?_
  refine g_aload (pc' := 273) C X43 at_271 rfl rfl rfl ?_
  refine g_iload (pc' := 275) C X43 at_273 rfl rfl ?_
  refine g_iconst (pc' := 276) (v := (4 : Int32)) C X43 at_275 rfl rfl ?_
  refine g_callS (y := (⟨"org/vouchsafe/XsdWhitespaceCollapsePinLaw", "at", "(Ljava/lang/String;[CII)Z"⟩ : MethodName)) (argsL := [(.ref r17), (.ref b24), (.int (Fem (Fem (Fem (Fem (Fem (0 : Int32) (-1 : Int32) x0 (0 : Int32)) (Fla (-1 : Int32) x0 (0 : Int32)) x1 (1 : Int32)) (Fla (Fla (-1 : Int32) x0 (0 : Int32)) x1 (1 : Int32)) x2 (2 : Int32)) (Fla (Fla (Fla (-1 : Int32) x0 (0 : Int32)) x1 (1 : Int32)) x2 (2 : Int32)) x3 (3 : Int32)) (Fla (Fla (Fla (Fla (-1 : Int32) x0 (0 : Int32)) x1 (1 : Int32)) x2 (2 : Int32)) x3 (3 : Int32)) x4 (4 : Int32))), (.int (4 : Int32))]) (st := []) (pc' := 279) C X43 at_276 (wq hw 167 rfl) (wq hw 168 rfl) (wq hw 3 rfl) (wq hw 169 rfl) (by decide) (rmat l Z a0 hw [] r17 b24 (Fem (Fem (Fem (Fem (Fem (0 : Int32) (-1 : Int32) x0 (0 : Int32)) (Fla (-1 : Int32) x0 (0 : Int32)) x1 (1 : Int32)) (Fla (Fla (-1 : Int32) x0 (0 : Int32)) x1 (1 : Int32)) x2 (2 : Int32)) (Fla (Fla (Fla (-1 : Int32) x0 (0 : Int32)) x1 (1 : Int32)) x2 (2 : Int32)) x3 (3 : Int32)) (Fla (Fla (Fla (Fla (-1 : Int32) x0 (0 : Int32)) x1 (1 : Int32)) x2 (2 : Int32)) x3 (3 : Int32)) x4 (4 : Int32)) (4 : Int32) w17 (own_coll x0 x1 x2 x3 x4) ck24 (own_emL (own_emL (own_emL (own_emL (own_emL [] (0 : Int32) (-1 : Int32) x0 (0 : Int32)) (Fem (0 : Int32) (-1 : Int32) x0 (0 : Int32)) (Fla (-1 : Int32) x0 (0 : Int32)) x1 (1 : Int32)) (Fem (Fem (0 : Int32) (-1 : Int32) x0 (0 : Int32)) (Fla (-1 : Int32) x0 (0 : Int32)) x1 (1 : Int32)) (Fla (Fla (-1 : Int32) x0 (0 : Int32)) x1 (1 : Int32)) x2 (2 : Int32)) (Fem (Fem (Fem (0 : Int32) (-1 : Int32) x0 (0 : Int32)) (Fla (-1 : Int32) x0 (0 : Int32)) x1 (1 : Int32)) (Fla (Fla (-1 : Int32) x0 (0 : Int32)) x1 (1 : Int32)) x2 (2 : Int32)) (Fla (Fla (Fla (-1 : Int32) x0 (0 : Int32)) x1 (1 : Int32)) x2 (2 : Int32)) x3 (3 : Int32)) (Fem (Fem (Fem (Fem (0 : Int32) (-1 : Int32) x0 (0 : Int32)) (Fla (-1 : Int32) x0 (0 : Int32)) x1 (1 : Int32)) (Fla (Fla (-1 : Int32) x0 (0 : Int32)) x1 (1 : Int32)) x2 (2 : Int32)) (Fla (Fla (Fla (-1 : Int32) x0 (0 : Int32)) x1 (1 : Int32)) x2 (2 : Int32)) x3 (3 : Int32)) (Fla (Fla (Fla (Fla (-1 : Int32) x0 (0 : Int32)) x1 (1 : Int32)) x2 (2 : Int32)) x3 (3 : Int32)) x4 (4 : Int32)) cs fm T38.heap n0 FX_38 P17_0_38 P38_0 (own_lw x0 x1 x2 x3 x4).symm (by decide) (by decide)) (W := 0) (by decide) (by decide) (ce := 19) (sl := 156) rfl rfl (by decide) (by decide) rfl e43 rfl pd_35 rfl (Nat.le_refl _) rfl (fun rv44 T44 L44 X44 Q44 => ?_)
  obtain ⟨q44, Nq44, e44⟩ := Q44
  have N44 := Fr.app N43 Nq44
  subst q44
  show Go p.tables e below _ (T44.setTop (mkF m 279 #[.val (.int p1), .val (.int p2), .val (.int p3), .val (.int p4), .val (.int p5), .val (.ref b1), .val (.ref r17), .val (.ref b24), .val (.int (Fem (Fem (Fem (Fem (Fem (0 : Int32) (-1 : Int32) x0 (0 : Int32)) (Fla (-1 : Int32) x0 (0 : Int32)) x1 (1 : Int32)) (Fla (Fla (-1 : Int32) x0 (0 : Int32)) x1 (1 : Int32)) x2 (2 : Int32)) (Fla (Fla (Fla (-1 : Int32) x0 (0 : Int32)) x1 (1 : Int32)) x2 (2 : Int32)) x3 (3 : Int32)) (Fla (Fla (Fla (Fla (-1 : Int32) x0 (0 : Int32)) x1 (1 : Int32)) x2 (2 : Int32)) x3 (3 : Int32)) x4 (4 : Int32))), .val (.int (Fla (Fla (Fla (Fla (-1 : Int32) x0 (0 : Int32)) x1 (1 : Int32)) x2 (2 : Int32)) x3 (3 : Int32)))] [(.int (Fat (Fem (Fem (Fem (Fem (Fem (0 : Int32) (-1 : Int32) x0 (0 : Int32)) (Fla (-1 : Int32) x0 (0 : Int32)) x1 (1 : Int32)) (Fla (Fla (-1 : Int32) x0 (0 : Int32)) x1 (1 : Int32)) x2 (2 : Int32)) (Fla (Fla (Fla (-1 : Int32) x0 (0 : Int32)) x1 (1 : Int32)) x2 (2 : Int32)) x3 (3 : Int32)) (Fla (Fla (Fla (Fla (-1 : Int32) x0 (0 : Int32)) x1 (1 : Int32)) x2 (2 : Int32)) x3 (3 : Int32)) x4 (4 : Int32)) (4 : Int32) (own_coll x0 x1 x2 x3 x4) (own_emL (own_emL (own_emL (own_emL (own_emL [] (0 : Int32) (-1 : Int32) x0 (0 : Int32)) (Fem (0 : Int32) (-1 : Int32) x0 (0 : Int32)) (Fla (-1 : Int32) x0 (0 : Int32)) x1 (1 : Int32)) (Fem (Fem (0 : Int32) (-1 : Int32) x0 (0 : Int32)) (Fla (-1 : Int32) x0 (0 : Int32)) x1 (1 : Int32)) (Fla (Fla (-1 : Int32) x0 (0 : Int32)) x1 (1 : Int32)) x2 (2 : Int32)) (Fem (Fem (Fem (0 : Int32) (-1 : Int32) x0 (0 : Int32)) (Fla (-1 : Int32) x0 (0 : Int32)) x1 (1 : Int32)) (Fla (Fla (-1 : Int32) x0 (0 : Int32)) x1 (1 : Int32)) x2 (2 : Int32)) (Fla (Fla (Fla (-1 : Int32) x0 (0 : Int32)) x1 (1 : Int32)) x2 (2 : Int32)) x3 (3 : Int32)) (Fem (Fem (Fem (Fem (0 : Int32) (-1 : Int32) x0 (0 : Int32)) (Fla (-1 : Int32) x0 (0 : Int32)) x1 (1 : Int32)) (Fla (Fla (-1 : Int32) x0 (0 : Int32)) x1 (1 : Int32)) x2 (2 : Int32)) (Fla (Fla (Fla (-1 : Int32) x0 (0 : Int32)) x1 (1 : Int32)) x2 (2 : Int32)) x3 (3 : Int32)) (Fla (Fla (Fla (Fla (-1 : Int32) x0 (0 : Int32)) x1 (1 : Int32)) x2 (2 : Int32)) x3 (3 : Int32)) x4 (4 : Int32))))]))
  refine g_ifN (pc' := 282) C X44 at_279 (feq (show ¬ ((Fat (Fem (Fem (Fem (Fem (Fem (0 : Int32) (-1 : Int32) x0 (0 : Int32)) (Fla (-1 : Int32) x0 (0 : Int32)) x1 (1 : Int32)) (Fla (Fla (-1 : Int32) x0 (0 : Int32)) x1 (1 : Int32)) x2 (2 : Int32)) (Fla (Fla (Fla (-1 : Int32) x0 (0 : Int32)) x1 (1 : Int32)) x2 (2 : Int32)) x3 (3 : Int32)) (Fla (Fla (Fla (Fla (-1 : Int32) x0 (0 : Int32)) x1 (1 : Int32)) x2 (2 : Int32)) x3 (3 : Int32)) x4 (4 : Int32)) (4 : Int32) (own_coll x0 x1 x2 x3 x4) (own_emL (own_emL (own_emL (own_emL (own_emL [] (0 : Int32) (-1 : Int32) x0 (0 : Int32)) (Fem (0 : Int32) (-1 : Int32) x0 (0 : Int32)) (Fla (-1 : Int32) x0 (0 : Int32)) x1 (1 : Int32)) (Fem (Fem (0 : Int32) (-1 : Int32) x0 (0 : Int32)) (Fla (-1 : Int32) x0 (0 : Int32)) x1 (1 : Int32)) (Fla (Fla (-1 : Int32) x0 (0 : Int32)) x1 (1 : Int32)) x2 (2 : Int32)) (Fem (Fem (Fem (0 : Int32) (-1 : Int32) x0 (0 : Int32)) (Fla (-1 : Int32) x0 (0 : Int32)) x1 (1 : Int32)) (Fla (Fla (-1 : Int32) x0 (0 : Int32)) x1 (1 : Int32)) x2 (2 : Int32)) (Fla (Fla (Fla (-1 : Int32) x0 (0 : Int32)) x1 (1 : Int32)) x2 (2 : Int32)) x3 (3 : Int32)) (Fem (Fem (Fem (Fem (0 : Int32) (-1 : Int32) x0 (0 : Int32)) (Fla (-1 : Int32) x0 (0 : Int32)) x1 (1 : Int32)) (Fla (Fla (-1 : Int32) x0 (0 : Int32)) x1 (1 : Int32)) x2 (2 : Int32)) (Fla (Fla (Fla (-1 : Int32) x0 (0 : Int32)) x1 (1 : Int32)) x2 (2 : Int32)) x3 (3 : Int32)) (Fla (Fla (Fla (Fla (-1 : Int32) x0 (0 : Int32)) x1 (1 : Int32)) x2 (2 : Int32)) x3 (3 : Int32)) x4 (4 : Int32))) = (0 : Int32)) from (own_aw x0 x1 x2 x3 x4 _))).1 rfl ?_
  refine g_aload (pc' := 284) C X44 at_282 rfl rfl rfl ?_
  refine g_aload (pc' := 286) C X44 at_284 rfl rfl rfl ?_
  refine g_iload (pc' := 288) C X44 at_286 rfl rfl ?_
  refine g_iconst (pc' := 289) (v := (5 : Int32)) C X44 at_288 rfl rfl ?_
  refine g_callS (y := (⟨"org/vouchsafe/XsdWhitespaceCollapsePinLaw", "at", "(Ljava/lang/String;[CII)Z"⟩ : MethodName)) (argsL := [(.ref r17), (.ref b24), (.int (Fem (Fem (Fem (Fem (Fem (0 : Int32) (-1 : Int32) x0 (0 : Int32)) (Fla (-1 : Int32) x0 (0 : Int32)) x1 (1 : Int32)) (Fla (Fla (-1 : Int32) x0 (0 : Int32)) x1 (1 : Int32)) x2 (2 : Int32)) (Fla (Fla (Fla (-1 : Int32) x0 (0 : Int32)) x1 (1 : Int32)) x2 (2 : Int32)) x3 (3 : Int32)) (Fla (Fla (Fla (Fla (-1 : Int32) x0 (0 : Int32)) x1 (1 : Int32)) x2 (2 : Int32)) x3 (3 : Int32)) x4 (4 : Int32))), (.int (5 : Int32))]) (st := []) (pc' := 292) C X44 at_289 (wq hw 167 rfl) (wq hw 168 rfl) (wq hw 3 rfl) (wq hw 169 rfl) (by decide) (rmat l Z a0 hw [] r17 b24 (Fem (Fem (Fem (Fem (Fem (0 : Int32) (-1 : Int32) x0 (0 : Int32)) (Fla (-1 : Int32) x0 (0 : Int32)) x1 (1 : Int32)) (Fla (Fla (-1 : Int32) x0 (0 : Int32)) x1 (1 : Int32)) x2 (2 : Int32)) (Fla (Fla (Fla (-1 : Int32) x0 (0 : Int32)) x1 (1 : Int32)) x2 (2 : Int32)) x3 (3 : Int32)) (Fla (Fla (Fla (Fla (-1 : Int32) x0 (0 : Int32)) x1 (1 : Int32)) x2 (2 : Int32)) x3 (3 : Int32)) x4 (4 : Int32)) (5 : Int32) w17 (own_coll x0 x1 x2 x3 x4) ck24 (own_emL (own_emL (own_emL (own_emL (own_emL [] (0 : Int32) (-1 : Int32) x0 (0 : Int32)) (Fem (0 : Int32) (-1 : Int32) x0 (0 : Int32)) (Fla (-1 : Int32) x0 (0 : Int32)) x1 (1 : Int32)) (Fem (Fem (0 : Int32) (-1 : Int32) x0 (0 : Int32)) (Fla (-1 : Int32) x0 (0 : Int32)) x1 (1 : Int32)) (Fla (Fla (-1 : Int32) x0 (0 : Int32)) x1 (1 : Int32)) x2 (2 : Int32)) (Fem (Fem (Fem (0 : Int32) (-1 : Int32) x0 (0 : Int32)) (Fla (-1 : Int32) x0 (0 : Int32)) x1 (1 : Int32)) (Fla (Fla (-1 : Int32) x0 (0 : Int32)) x1 (1 : Int32)) x2 (2 : Int32)) (Fla (Fla (Fla (-1 : Int32) x0 (0 : Int32)) x1 (1 : Int32)) x2 (2 : Int32)) x3 (3 : Int32)) (Fem (Fem (Fem (Fem (0 : Int32) (-1 : Int32) x0 (0 : Int32)) (Fla (-1 : Int32) x0 (0 : Int32)) x1 (1 : Int32)) (Fla (Fla (-1 : Int32) x0 (0 : Int32)) x1 (1 : Int32)) x2 (2 : Int32)) (Fla (Fla (Fla (-1 : Int32) x0 (0 : Int32)) x1 (1 : Int32)) x2 (2 : Int32)) x3 (3 : Int32)) (Fla (Fla (Fla (Fla (-1 : Int32) x0 (0 : Int32)) x1 (1 : Int32)) x2 (2 : Int32)) x3 (3 : Int32)) x4 (4 : Int32)) cs fm T38.heap n0 FX_38 P17_0_38 P38_0 (own_lw x0 x1 x2 x3 x4).symm (by decide) (by decide)) (W := 0) (by decide) (by decide) (ce := 19) (sl := 156) rfl rfl (by decide) (by decide) rfl e44 rfl pd_35 rfl (Nat.le_refl _) rfl (fun rv45 T45 L45 X45 Q45 => ?_)
  obtain ⟨q45, Nq45, e45⟩ := Q45
  have N45 := Fr.app N44 Nq45
  subst q45
  show Go p.tables e below _ (T45.setTop (mkF m 292 #[.val (.int p1), .val (.int p2), .val (.int p3), .val (.int p4), .val (.int p5), .val (.ref b1), .val (.ref r17), .val (.ref b24), .val (.int (Fem (Fem (Fem (Fem (Fem (0 : Int32) (-1 : Int32) x0 (0 : Int32)) (Fla (-1 : Int32) x0 (0 : Int32)) x1 (1 : Int32)) (Fla (Fla (-1 : Int32) x0 (0 : Int32)) x1 (1 : Int32)) x2 (2 : Int32)) (Fla (Fla (Fla (-1 : Int32) x0 (0 : Int32)) x1 (1 : Int32)) x2 (2 : Int32)) x3 (3 : Int32)) (Fla (Fla (Fla (Fla (-1 : Int32) x0 (0 : Int32)) x1 (1 : Int32)) x2 (2 : Int32)) x3 (3 : Int32)) x4 (4 : Int32))), .val (.int (Fla (Fla (Fla (Fla (-1 : Int32) x0 (0 : Int32)) x1 (1 : Int32)) x2 (2 : Int32)) x3 (3 : Int32)))] [(.int (Fat (Fem (Fem (Fem (Fem (Fem (0 : Int32) (-1 : Int32) x0 (0 : Int32)) (Fla (-1 : Int32) x0 (0 : Int32)) x1 (1 : Int32)) (Fla (Fla (-1 : Int32) x0 (0 : Int32)) x1 (1 : Int32)) x2 (2 : Int32)) (Fla (Fla (Fla (-1 : Int32) x0 (0 : Int32)) x1 (1 : Int32)) x2 (2 : Int32)) x3 (3 : Int32)) (Fla (Fla (Fla (Fla (-1 : Int32) x0 (0 : Int32)) x1 (1 : Int32)) x2 (2 : Int32)) x3 (3 : Int32)) x4 (4 : Int32)) (5 : Int32) (own_coll x0 x1 x2 x3 x4) (own_emL (own_emL (own_emL (own_emL (own_emL [] (0 : Int32) (-1 : Int32) x0 (0 : Int32)) (Fem (0 : Int32) (-1 : Int32) x0 (0 : Int32)) (Fla (-1 : Int32) x0 (0 : Int32)) x1 (1 : Int32)) (Fem (Fem (0 : Int32) (-1 : Int32) x0 (0 : Int32)) (Fla (-1 : Int32) x0 (0 : Int32)) x1 (1 : Int32)) (Fla (Fla (-1 : Int32) x0 (0 : Int32)) x1 (1 : Int32)) x2 (2 : Int32)) (Fem (Fem (Fem (0 : Int32) (-1 : Int32) x0 (0 : Int32)) (Fla (-1 : Int32) x0 (0 : Int32)) x1 (1 : Int32)) (Fla (Fla (-1 : Int32) x0 (0 : Int32)) x1 (1 : Int32)) x2 (2 : Int32)) (Fla (Fla (Fla (-1 : Int32) x0 (0 : Int32)) x1 (1 : Int32)) x2 (2 : Int32)) x3 (3 : Int32)) (Fem (Fem (Fem (Fem (0 : Int32) (-1 : Int32) x0 (0 : Int32)) (Fla (-1 : Int32) x0 (0 : Int32)) x1 (1 : Int32)) (Fla (Fla (-1 : Int32) x0 (0 : Int32)) x1 (1 : Int32)) x2 (2 : Int32)) (Fla (Fla (Fla (-1 : Int32) x0 (0 : Int32)) x1 (1 : Int32)) x2 (2 : Int32)) x3 (3 : Int32)) (Fla (Fla (Fla (Fla (-1 : Int32) x0 (0 : Int32)) x1 (1 : Int32)) x2 (2 : Int32)) x3 (3 : Int32)) x4 (4 : Int32))))]))
  refine g_ifN (pc' := 295) C X45 at_292 (feq (show ¬ ((Fat (Fem (Fem (Fem (Fem (Fem (0 : Int32) (-1 : Int32) x0 (0 : Int32)) (Fla (-1 : Int32) x0 (0 : Int32)) x1 (1 : Int32)) (Fla (Fla (-1 : Int32) x0 (0 : Int32)) x1 (1 : Int32)) x2 (2 : Int32)) (Fla (Fla (Fla (-1 : Int32) x0 (0 : Int32)) x1 (1 : Int32)) x2 (2 : Int32)) x3 (3 : Int32)) (Fla (Fla (Fla (Fla (-1 : Int32) x0 (0 : Int32)) x1 (1 : Int32)) x2 (2 : Int32)) x3 (3 : Int32)) x4 (4 : Int32)) (5 : Int32) (own_coll x0 x1 x2 x3 x4) (own_emL (own_emL (own_emL (own_emL (own_emL [] (0 : Int32) (-1 : Int32) x0 (0 : Int32)) (Fem (0 : Int32) (-1 : Int32) x0 (0 : Int32)) (Fla (-1 : Int32) x0 (0 : Int32)) x1 (1 : Int32)) (Fem (Fem (0 : Int32) (-1 : Int32) x0 (0 : Int32)) (Fla (-1 : Int32) x0 (0 : Int32)) x1 (1 : Int32)) (Fla (Fla (-1 : Int32) x0 (0 : Int32)) x1 (1 : Int32)) x2 (2 : Int32)) (Fem (Fem (Fem (0 : Int32) (-1 : Int32) x0 (0 : Int32)) (Fla (-1 : Int32) x0 (0 : Int32)) x1 (1 : Int32)) (Fla (Fla (-1 : Int32) x0 (0 : Int32)) x1 (1 : Int32)) x2 (2 : Int32)) (Fla (Fla (Fla (-1 : Int32) x0 (0 : Int32)) x1 (1 : Int32)) x2 (2 : Int32)) x3 (3 : Int32)) (Fem (Fem (Fem (Fem (0 : Int32) (-1 : Int32) x0 (0 : Int32)) (Fla (-1 : Int32) x0 (0 : Int32)) x1 (1 : Int32)) (Fla (Fla (-1 : Int32) x0 (0 : Int32)) x1 (1 : Int32)) x2 (2 : Int32)) (Fla (Fla (Fla (-1 : Int32) x0 (0 : Int32)) x1 (1 : Int32)) x2 (2 : Int32)) x3 (3 : Int32)) (Fla (Fla (Fla (Fla (-1 : Int32) x0 (0 : Int32)) x1 (1 : Int32)) x2 (2 : Int32)) x3 (3 : Int32)) x4 (4 : Int32))) = (0 : Int32)) from (own_aw x0 x1 x2 x3 x4 _))).1 rfl ?_
  refine g_aload (pc' := 297) C X45 at_295 rfl rfl rfl ?_
  refine g_aload (pc' := 299) C X45 at_297 rfl rfl rfl ?_
  refine g_iload (pc' := 301) C X45 at_299 rfl rfl ?_
  refine g_bipush (pc' := 303) (v := (6 : Int32)) C X45 at_301 rfl rfl ?_
  refine g_callS (y := (⟨"org/vouchsafe/XsdWhitespaceCollapsePinLaw", "at", "(Ljava/lang/String;[CII)Z"⟩ : MethodName)) (argsL := [(.ref r17), (.ref b24), (.int (Fem (Fem (Fem (Fem (Fem (0 : Int32) (-1 : Int32) x0 (0 : Int32)) (Fla (-1 : Int32) x0 (0 : Int32)) x1 (1 : Int32)) (Fla (Fla (-1 : Int32) x0 (0 : Int32)) x1 (1 : Int32)) x2 (2 : Int32)) (Fla (Fla (Fla (-1 : Int32) x0 (0 : Int32)) x1 (1 : Int32)) x2 (2 : Int32)) x3 (3 : Int32)) (Fla (Fla (Fla (Fla (-1 : Int32) x0 (0 : Int32)) x1 (1 : Int32)) x2 (2 : Int32)) x3 (3 : Int32)) x4 (4 : Int32))), (.int (6 : Int32))]) (st := []) (pc' := 306) C X45 at_303 (wq hw 167 rfl) (wq hw 168 rfl) (wq hw 3 rfl) (wq hw 169 rfl) (by decide) (rmat l Z a0 hw [] r17 b24 (Fem (Fem (Fem (Fem (Fem (0 : Int32) (-1 : Int32) x0 (0 : Int32)) (Fla (-1 : Int32) x0 (0 : Int32)) x1 (1 : Int32)) (Fla (Fla (-1 : Int32) x0 (0 : Int32)) x1 (1 : Int32)) x2 (2 : Int32)) (Fla (Fla (Fla (-1 : Int32) x0 (0 : Int32)) x1 (1 : Int32)) x2 (2 : Int32)) x3 (3 : Int32)) (Fla (Fla (Fla (Fla (-1 : Int32) x0 (0 : Int32)) x1 (1 : Int32)) x2 (2 : Int32)) x3 (3 : Int32)) x4 (4 : Int32)) (6 : Int32) w17 (own_coll x0 x1 x2 x3 x4) ck24 (own_emL (own_emL (own_emL (own_emL (own_emL [] (0 : Int32) (-1 : Int32) x0 (0 : Int32)) (Fem (0 : Int32) (-1 : Int32) x0 (0 : Int32)) (Fla (-1 : Int32) x0 (0 : Int32)) x1 (1 : Int32)) (Fem (Fem (0 : Int32) (-1 : Int32) x0 (0 : Int32)) (Fla (-1 : Int32) x0 (0 : Int32)) x1 (1 : Int32)) (Fla (Fla (-1 : Int32) x0 (0 : Int32)) x1 (1 : Int32)) x2 (2 : Int32)) (Fem (Fem (Fem (0 : Int32) (-1 : Int32) x0 (0 : Int32)) (Fla (-1 : Int32) x0 (0 : Int32)) x1 (1 : Int32)) (Fla (Fla (-1 : Int32) x0 (0 : Int32)) x1 (1 : Int32)) x2 (2 : Int32)) (Fla (Fla (Fla (-1 : Int32) x0 (0 : Int32)) x1 (1 : Int32)) x2 (2 : Int32)) x3 (3 : Int32)) (Fem (Fem (Fem (Fem (0 : Int32) (-1 : Int32) x0 (0 : Int32)) (Fla (-1 : Int32) x0 (0 : Int32)) x1 (1 : Int32)) (Fla (Fla (-1 : Int32) x0 (0 : Int32)) x1 (1 : Int32)) x2 (2 : Int32)) (Fla (Fla (Fla (-1 : Int32) x0 (0 : Int32)) x1 (1 : Int32)) x2 (2 : Int32)) x3 (3 : Int32)) (Fla (Fla (Fla (Fla (-1 : Int32) x0 (0 : Int32)) x1 (1 : Int32)) x2 (2 : Int32)) x3 (3 : Int32)) x4 (4 : Int32)) cs fm T38.heap n0 FX_38 P17_0_38 P38_0 (own_lw x0 x1 x2 x3 x4).symm (by decide) (by decide)) (W := 0) (by decide) (by decide) (ce := 19) (sl := 156) rfl rfl (by decide) (by decide) rfl e45 rfl pd_35 rfl (Nat.le_refl _) rfl (fun rv46 T46 L46 X46 Q46 => ?_)
  obtain ⟨q46, Nq46, e46⟩ := Q46
  have N46 := Fr.app N45 Nq46
  subst q46
  show Go p.tables e below _ (T46.setTop (mkF m 306 #[.val (.int p1), .val (.int p2), .val (.int p3), .val (.int p4), .val (.int p5), .val (.ref b1), .val (.ref r17), .val (.ref b24), .val (.int (Fem (Fem (Fem (Fem (Fem (0 : Int32) (-1 : Int32) x0 (0 : Int32)) (Fla (-1 : Int32) x0 (0 : Int32)) x1 (1 : Int32)) (Fla (Fla (-1 : Int32) x0 (0 : Int32)) x1 (1 : Int32)) x2 (2 : Int32)) (Fla (Fla (Fla (-1 : Int32) x0 (0 : Int32)) x1 (1 : Int32)) x2 (2 : Int32)) x3 (3 : Int32)) (Fla (Fla (Fla (Fla (-1 : Int32) x0 (0 : Int32)) x1 (1 : Int32)) x2 (2 : Int32)) x3 (3 : Int32)) x4 (4 : Int32))), .val (.int (Fla (Fla (Fla (Fla (-1 : Int32) x0 (0 : Int32)) x1 (1 : Int32)) x2 (2 : Int32)) x3 (3 : Int32)))] [(.int (Fat (Fem (Fem (Fem (Fem (Fem (0 : Int32) (-1 : Int32) x0 (0 : Int32)) (Fla (-1 : Int32) x0 (0 : Int32)) x1 (1 : Int32)) (Fla (Fla (-1 : Int32) x0 (0 : Int32)) x1 (1 : Int32)) x2 (2 : Int32)) (Fla (Fla (Fla (-1 : Int32) x0 (0 : Int32)) x1 (1 : Int32)) x2 (2 : Int32)) x3 (3 : Int32)) (Fla (Fla (Fla (Fla (-1 : Int32) x0 (0 : Int32)) x1 (1 : Int32)) x2 (2 : Int32)) x3 (3 : Int32)) x4 (4 : Int32)) (6 : Int32) (own_coll x0 x1 x2 x3 x4) (own_emL (own_emL (own_emL (own_emL (own_emL [] (0 : Int32) (-1 : Int32) x0 (0 : Int32)) (Fem (0 : Int32) (-1 : Int32) x0 (0 : Int32)) (Fla (-1 : Int32) x0 (0 : Int32)) x1 (1 : Int32)) (Fem (Fem (0 : Int32) (-1 : Int32) x0 (0 : Int32)) (Fla (-1 : Int32) x0 (0 : Int32)) x1 (1 : Int32)) (Fla (Fla (-1 : Int32) x0 (0 : Int32)) x1 (1 : Int32)) x2 (2 : Int32)) (Fem (Fem (Fem (0 : Int32) (-1 : Int32) x0 (0 : Int32)) (Fla (-1 : Int32) x0 (0 : Int32)) x1 (1 : Int32)) (Fla (Fla (-1 : Int32) x0 (0 : Int32)) x1 (1 : Int32)) x2 (2 : Int32)) (Fla (Fla (Fla (-1 : Int32) x0 (0 : Int32)) x1 (1 : Int32)) x2 (2 : Int32)) x3 (3 : Int32)) (Fem (Fem (Fem (Fem (0 : Int32) (-1 : Int32) x0 (0 : Int32)) (Fla (-1 : Int32) x0 (0 : Int32)) x1 (1 : Int32)) (Fla (Fla (-1 : Int32) x0 (0 : Int32)) x1 (1 : Int32)) x2 (2 : Int32)) (Fla (Fla (Fla (-1 : Int32) x0 (0 : Int32)) x1 (1 : Int32)) x2 (2 : Int32)) x3 (3 : Int32)) (Fla (Fla (Fla (Fla (-1 : Int32) x0 (0 : Int32)) x1 (1 : Int32)) x2 (2 : Int32)) x3 (3 : Int32)) x4 (4 : Int32))))]))
  refine g_ifN (pc' := 309) C X46 at_306 (feq (show ¬ ((Fat (Fem (Fem (Fem (Fem (Fem (0 : Int32) (-1 : Int32) x0 (0 : Int32)) (Fla (-1 : Int32) x0 (0 : Int32)) x1 (1 : Int32)) (Fla (Fla (-1 : Int32) x0 (0 : Int32)) x1 (1 : Int32)) x2 (2 : Int32)) (Fla (Fla (Fla (-1 : Int32) x0 (0 : Int32)) x1 (1 : Int32)) x2 (2 : Int32)) x3 (3 : Int32)) (Fla (Fla (Fla (Fla (-1 : Int32) x0 (0 : Int32)) x1 (1 : Int32)) x2 (2 : Int32)) x3 (3 : Int32)) x4 (4 : Int32)) (6 : Int32) (own_coll x0 x1 x2 x3 x4) (own_emL (own_emL (own_emL (own_emL (own_emL [] (0 : Int32) (-1 : Int32) x0 (0 : Int32)) (Fem (0 : Int32) (-1 : Int32) x0 (0 : Int32)) (Fla (-1 : Int32) x0 (0 : Int32)) x1 (1 : Int32)) (Fem (Fem (0 : Int32) (-1 : Int32) x0 (0 : Int32)) (Fla (-1 : Int32) x0 (0 : Int32)) x1 (1 : Int32)) (Fla (Fla (-1 : Int32) x0 (0 : Int32)) x1 (1 : Int32)) x2 (2 : Int32)) (Fem (Fem (Fem (0 : Int32) (-1 : Int32) x0 (0 : Int32)) (Fla (-1 : Int32) x0 (0 : Int32)) x1 (1 : Int32)) (Fla (Fla (-1 : Int32) x0 (0 : Int32)) x1 (1 : Int32)) x2 (2 : Int32)) (Fla (Fla (Fla (-1 : Int32) x0 (0 : Int32)) x1 (1 : Int32)) x2 (2 : Int32)) x3 (3 : Int32)) (Fem (Fem (Fem (Fem (0 : Int32) (-1 : Int32) x0 (0 : Int32)) (Fla (-1 : Int32) x0 (0 : Int32)) x1 (1 : Int32)) (Fla (Fla (-1 : Int32) x0 (0 : Int32)) x1 (1 : Int32)) x2 (2 : Int32)) (Fla (Fla (Fla (-1 : Int32) x0 (0 : Int32)) x1 (1 : Int32)) x2 (2 : Int32)) x3 (3 : Int32)) (Fla (Fla (Fla (Fla (-1 : Int32) x0 (0 : Int32)) x1 (1 : Int32)) x2 (2 : Int32)) x3 (3 : Int32)) x4 (4 : Int32))) = (0 : Int32)) from (own_aw x0 x1 x2 x3 x4 _))).1 rfl ?_
  refine g_aload (pc' := 311) C X46 at_309 rfl rfl rfl ?_
  refine g_aload (pc' := 313) C X46 at_311 rfl rfl rfl ?_
  refine g_iload (pc' := 315) C X46 at_313 rfl rfl ?_
  refine g_bipush (pc' := 317) (v := (7 : Int32)) C X46 at_315 rfl rfl ?_
  refine g_callS (y := (⟨"org/vouchsafe/XsdWhitespaceCollapsePinLaw", "at", "(Ljava/lang/String;[CII)Z"⟩ : MethodName)) (argsL := [(.ref r17), (.ref b24), (.int (Fem (Fem (Fem (Fem (Fem (0 : Int32) (-1 : Int32) x0 (0 : Int32)) (Fla (-1 : Int32) x0 (0 : Int32)) x1 (1 : Int32)) (Fla (Fla (-1 : Int32) x0 (0 : Int32)) x1 (1 : Int32)) x2 (2 : Int32)) (Fla (Fla (Fla (-1 : Int32) x0 (0 : Int32)) x1 (1 : Int32)) x2 (2 : Int32)) x3 (3 : Int32)) (Fla (Fla (Fla (Fla (-1 : Int32) x0 (0 : Int32)) x1 (1 : Int32)) x2 (2 : Int32)) x3 (3 : Int32)) x4 (4 : Int32))), (.int (7 : Int32))]) (st := []) (pc' := 320) C X46 at_317 (wq hw 167 rfl) (wq hw 168 rfl) (wq hw 3 rfl) (wq hw 169 rfl) (by decide) (rmat l Z a0 hw [] r17 b24 (Fem (Fem (Fem (Fem (Fem (0 : Int32) (-1 : Int32) x0 (0 : Int32)) (Fla (-1 : Int32) x0 (0 : Int32)) x1 (1 : Int32)) (Fla (Fla (-1 : Int32) x0 (0 : Int32)) x1 (1 : Int32)) x2 (2 : Int32)) (Fla (Fla (Fla (-1 : Int32) x0 (0 : Int32)) x1 (1 : Int32)) x2 (2 : Int32)) x3 (3 : Int32)) (Fla (Fla (Fla (Fla (-1 : Int32) x0 (0 : Int32)) x1 (1 : Int32)) x2 (2 : Int32)) x3 (3 : Int32)) x4 (4 : Int32)) (7 : Int32) w17 (own_coll x0 x1 x2 x3 x4) ck24 (own_emL (own_emL (own_emL (own_emL (own_emL [] (0 : Int32) (-1 : Int32) x0 (0 : Int32)) (Fem (0 : Int32) (-1 : Int32) x0 (0 : Int32)) (Fla (-1 : Int32) x0 (0 : Int32)) x1 (1 : Int32)) (Fem (Fem (0 : Int32) (-1 : Int32) x0 (0 : Int32)) (Fla (-1 : Int32) x0 (0 : Int32)) x1 (1 : Int32)) (Fla (Fla (-1 : Int32) x0 (0 : Int32)) x1 (1 : Int32)) x2 (2 : Int32)) (Fem (Fem (Fem (0 : Int32) (-1 : Int32) x0 (0 : Int32)) (Fla (-1 : Int32) x0 (0 : Int32)) x1 (1 : Int32)) (Fla (Fla (-1 : Int32) x0 (0 : Int32)) x1 (1 : Int32)) x2 (2 : Int32)) (Fla (Fla (Fla (-1 : Int32) x0 (0 : Int32)) x1 (1 : Int32)) x2 (2 : Int32)) x3 (3 : Int32)) (Fem (Fem (Fem (Fem (0 : Int32) (-1 : Int32) x0 (0 : Int32)) (Fla (-1 : Int32) x0 (0 : Int32)) x1 (1 : Int32)) (Fla (Fla (-1 : Int32) x0 (0 : Int32)) x1 (1 : Int32)) x2 (2 : Int32)) (Fla (Fla (Fla (-1 : Int32) x0 (0 : Int32)) x1 (1 : Int32)) x2 (2 : Int32)) x3 (3 : Int32)) (Fla (Fla (Fla (Fla (-1 : Int32) x0 (0 : Int32)) x1 (1 : Int32)) x2 (2 : Int32)) x3 (3 : Int32)) x4 (4 : Int32)) cs fm T38.heap n0 FX_38 P17_0_38 P38_0 (own_lw x0 x1 x2 x3 x4).symm (by decide) (by decide)) (W := 0) (by decide) (by decide) (ce := 19) (sl := 156) rfl rfl (by decide) (by decide) rfl e46 rfl pd_35 rfl (Nat.le_refl _) rfl (fun rv47 T47 L47 X47 Q47 => ?_)
  obtain ⟨q47, Nq47, e47⟩ := Q47
  have N47 := Fr.app N46 Nq47
  subst q47
  show Go p.tables e below _ (T47.setTop (mkF m 320 #[.val (.int p1), .val (.int p2), .val (.int p3), .val (.int p4), .val (.int p5), .val (.ref b1), .val (.ref r17), .val (.ref b24), .val (.int (Fem (Fem (Fem (Fem (Fem (0 : Int32) (-1 : Int32) x0 (0 : Int32)) (Fla (-1 : Int32) x0 (0 : Int32)) x1 (1 : Int32)) (Fla (Fla (-1 : Int32) x0 (0 : Int32)) x1 (1 : Int32)) x2 (2 : Int32)) (Fla (Fla (Fla (-1 : Int32) x0 (0 : Int32)) x1 (1 : Int32)) x2 (2 : Int32)) x3 (3 : Int32)) (Fla (Fla (Fla (Fla (-1 : Int32) x0 (0 : Int32)) x1 (1 : Int32)) x2 (2 : Int32)) x3 (3 : Int32)) x4 (4 : Int32))), .val (.int (Fla (Fla (Fla (Fla (-1 : Int32) x0 (0 : Int32)) x1 (1 : Int32)) x2 (2 : Int32)) x3 (3 : Int32)))] [(.int (Fat (Fem (Fem (Fem (Fem (Fem (0 : Int32) (-1 : Int32) x0 (0 : Int32)) (Fla (-1 : Int32) x0 (0 : Int32)) x1 (1 : Int32)) (Fla (Fla (-1 : Int32) x0 (0 : Int32)) x1 (1 : Int32)) x2 (2 : Int32)) (Fla (Fla (Fla (-1 : Int32) x0 (0 : Int32)) x1 (1 : Int32)) x2 (2 : Int32)) x3 (3 : Int32)) (Fla (Fla (Fla (Fla (-1 : Int32) x0 (0 : Int32)) x1 (1 : Int32)) x2 (2 : Int32)) x3 (3 : Int32)) x4 (4 : Int32)) (7 : Int32) (own_coll x0 x1 x2 x3 x4) (own_emL (own_emL (own_emL (own_emL (own_emL [] (0 : Int32) (-1 : Int32) x0 (0 : Int32)) (Fem (0 : Int32) (-1 : Int32) x0 (0 : Int32)) (Fla (-1 : Int32) x0 (0 : Int32)) x1 (1 : Int32)) (Fem (Fem (0 : Int32) (-1 : Int32) x0 (0 : Int32)) (Fla (-1 : Int32) x0 (0 : Int32)) x1 (1 : Int32)) (Fla (Fla (-1 : Int32) x0 (0 : Int32)) x1 (1 : Int32)) x2 (2 : Int32)) (Fem (Fem (Fem (0 : Int32) (-1 : Int32) x0 (0 : Int32)) (Fla (-1 : Int32) x0 (0 : Int32)) x1 (1 : Int32)) (Fla (Fla (-1 : Int32) x0 (0 : Int32)) x1 (1 : Int32)) x2 (2 : Int32)) (Fla (Fla (Fla (-1 : Int32) x0 (0 : Int32)) x1 (1 : Int32)) x2 (2 : Int32)) x3 (3 : Int32)) (Fem (Fem (Fem (Fem (0 : Int32) (-1 : Int32) x0 (0 : Int32)) (Fla (-1 : Int32) x0 (0 : Int32)) x1 (1 : Int32)) (Fla (Fla (-1 : Int32) x0 (0 : Int32)) x1 (1 : Int32)) x2 (2 : Int32)) (Fla (Fla (Fla (-1 : Int32) x0 (0 : Int32)) x1 (1 : Int32)) x2 (2 : Int32)) x3 (3 : Int32)) (Fla (Fla (Fla (Fla (-1 : Int32) x0 (0 : Int32)) x1 (1 : Int32)) x2 (2 : Int32)) x3 (3 : Int32)) x4 (4 : Int32))))]))
  refine g_ifN (pc' := 323) C X47 at_320 (feq (show ¬ ((Fat (Fem (Fem (Fem (Fem (Fem (0 : Int32) (-1 : Int32) x0 (0 : Int32)) (Fla (-1 : Int32) x0 (0 : Int32)) x1 (1 : Int32)) (Fla (Fla (-1 : Int32) x0 (0 : Int32)) x1 (1 : Int32)) x2 (2 : Int32)) (Fla (Fla (Fla (-1 : Int32) x0 (0 : Int32)) x1 (1 : Int32)) x2 (2 : Int32)) x3 (3 : Int32)) (Fla (Fla (Fla (Fla (-1 : Int32) x0 (0 : Int32)) x1 (1 : Int32)) x2 (2 : Int32)) x3 (3 : Int32)) x4 (4 : Int32)) (7 : Int32) (own_coll x0 x1 x2 x3 x4) (own_emL (own_emL (own_emL (own_emL (own_emL [] (0 : Int32) (-1 : Int32) x0 (0 : Int32)) (Fem (0 : Int32) (-1 : Int32) x0 (0 : Int32)) (Fla (-1 : Int32) x0 (0 : Int32)) x1 (1 : Int32)) (Fem (Fem (0 : Int32) (-1 : Int32) x0 (0 : Int32)) (Fla (-1 : Int32) x0 (0 : Int32)) x1 (1 : Int32)) (Fla (Fla (-1 : Int32) x0 (0 : Int32)) x1 (1 : Int32)) x2 (2 : Int32)) (Fem (Fem (Fem (0 : Int32) (-1 : Int32) x0 (0 : Int32)) (Fla (-1 : Int32) x0 (0 : Int32)) x1 (1 : Int32)) (Fla (Fla (-1 : Int32) x0 (0 : Int32)) x1 (1 : Int32)) x2 (2 : Int32)) (Fla (Fla (Fla (-1 : Int32) x0 (0 : Int32)) x1 (1 : Int32)) x2 (2 : Int32)) x3 (3 : Int32)) (Fem (Fem (Fem (Fem (0 : Int32) (-1 : Int32) x0 (0 : Int32)) (Fla (-1 : Int32) x0 (0 : Int32)) x1 (1 : Int32)) (Fla (Fla (-1 : Int32) x0 (0 : Int32)) x1 (1 : Int32)) x2 (2 : Int32)) (Fla (Fla (Fla (-1 : Int32) x0 (0 : Int32)) x1 (1 : Int32)) x2 (2 : Int32)) x3 (3 : Int32)) (Fla (Fla (Fla (Fla (-1 : Int32) x0 (0 : Int32)) x1 (1 : Int32)) x2 (2 : Int32)) x3 (3 : Int32)) x4 (4 : Int32))) = (0 : Int32)) from (own_aw x0 x1 x2 x3 x4 _))).1 rfl ?_
  refine g_aload (pc' := 325) C X47 at_323 rfl rfl rfl ?_
  refine g_aload (pc' := 327) C X47 at_325 rfl rfl rfl ?_
  refine g_iload (pc' := 329) C X47 at_327 rfl rfl ?_
  refine g_bipush (pc' := 331) (v := (8 : Int32)) C X47 at_329 rfl rfl ?_
  refine g_callS (y := (⟨"org/vouchsafe/XsdWhitespaceCollapsePinLaw", "at", "(Ljava/lang/String;[CII)Z"⟩ : MethodName)) (argsL := [(.ref r17), (.ref b24), (.int (Fem (Fem (Fem (Fem (Fem (0 : Int32) (-1 : Int32) x0 (0 : Int32)) (Fla (-1 : Int32) x0 (0 : Int32)) x1 (1 : Int32)) (Fla (Fla (-1 : Int32) x0 (0 : Int32)) x1 (1 : Int32)) x2 (2 : Int32)) (Fla (Fla (Fla (-1 : Int32) x0 (0 : Int32)) x1 (1 : Int32)) x2 (2 : Int32)) x3 (3 : Int32)) (Fla (Fla (Fla (Fla (-1 : Int32) x0 (0 : Int32)) x1 (1 : Int32)) x2 (2 : Int32)) x3 (3 : Int32)) x4 (4 : Int32))), (.int (8 : Int32))]) (st := []) (pc' := 334) C X47 at_331 (wq hw 167 rfl) (wq hw 168 rfl) (wq hw 3 rfl) (wq hw 169 rfl) (by decide) (rmat l Z a0 hw [] r17 b24 (Fem (Fem (Fem (Fem (Fem (0 : Int32) (-1 : Int32) x0 (0 : Int32)) (Fla (-1 : Int32) x0 (0 : Int32)) x1 (1 : Int32)) (Fla (Fla (-1 : Int32) x0 (0 : Int32)) x1 (1 : Int32)) x2 (2 : Int32)) (Fla (Fla (Fla (-1 : Int32) x0 (0 : Int32)) x1 (1 : Int32)) x2 (2 : Int32)) x3 (3 : Int32)) (Fla (Fla (Fla (Fla (-1 : Int32) x0 (0 : Int32)) x1 (1 : Int32)) x2 (2 : Int32)) x3 (3 : Int32)) x4 (4 : Int32)) (8 : Int32) w17 (own_coll x0 x1 x2 x3 x4) ck24 (own_emL (own_emL (own_emL (own_emL (own_emL [] (0 : Int32) (-1 : Int32) x0 (0 : Int32)) (Fem (0 : Int32) (-1 : Int32) x0 (0 : Int32)) (Fla (-1 : Int32) x0 (0 : Int32)) x1 (1 : Int32)) (Fem (Fem (0 : Int32) (-1 : Int32) x0 (0 : Int32)) (Fla (-1 : Int32) x0 (0 : Int32)) x1 (1 : Int32)) (Fla (Fla (-1 : Int32) x0 (0 : Int32)) x1 (1 : Int32)) x2 (2 : Int32)) (Fem (Fem (Fem (0 : Int32) (-1 : Int32) x0 (0 : Int32)) (Fla (-1 : Int32) x0 (0 : Int32)) x1 (1 : Int32)) (Fla (Fla (-1 : Int32) x0 (0 : Int32)) x1 (1 : Int32)) x2 (2 : Int32)) (Fla (Fla (Fla (-1 : Int32) x0 (0 : Int32)) x1 (1 : Int32)) x2 (2 : Int32)) x3 (3 : Int32)) (Fem (Fem (Fem (Fem (0 : Int32) (-1 : Int32) x0 (0 : Int32)) (Fla (-1 : Int32) x0 (0 : Int32)) x1 (1 : Int32)) (Fla (Fla (-1 : Int32) x0 (0 : Int32)) x1 (1 : Int32)) x2 (2 : Int32)) (Fla (Fla (Fla (-1 : Int32) x0 (0 : Int32)) x1 (1 : Int32)) x2 (2 : Int32)) x3 (3 : Int32)) (Fla (Fla (Fla (Fla (-1 : Int32) x0 (0 : Int32)) x1 (1 : Int32)) x2 (2 : Int32)) x3 (3 : Int32)) x4 (4 : Int32)) cs fm T38.heap n0 FX_38 P17_0_38 P38_0 (own_lw x0 x1 x2 x3 x4).symm (by decide) (by decide)) (W := 0) (by decide) (by decide) (ce := 19) (sl := 156) rfl rfl (by decide) (by decide) rfl e47 rfl pd_35 rfl (Nat.le_refl _) rfl (fun rv48 T48 L48 X48 Q48 => ?_)
  obtain ⟨q48, Nq48, e48⟩ := Q48
  have N48 := Fr.app N47 Nq48
  subst q48
  show Go p.tables e below _ (T48.setTop (mkF m 334 #[.val (.int p1), .val (.int p2), .val (.int p3), .val (.int p4), .val (.int p5), .val (.ref b1), .val (.ref r17), .val (.ref b24), .val (.int (Fem (Fem (Fem (Fem (Fem (0 : Int32) (-1 : Int32) x0 (0 : Int32)) (Fla (-1 : Int32) x0 (0 : Int32)) x1 (1 : Int32)) (Fla (Fla (-1 : Int32) x0 (0 : Int32)) x1 (1 : Int32)) x2 (2 : Int32)) (Fla (Fla (Fla (-1 : Int32) x0 (0 : Int32)) x1 (1 : Int32)) x2 (2 : Int32)) x3 (3 : Int32)) (Fla (Fla (Fla (Fla (-1 : Int32) x0 (0 : Int32)) x1 (1 : Int32)) x2 (2 : Int32)) x3 (3 : Int32)) x4 (4 : Int32))), .val (.int (Fla (Fla (Fla (Fla (-1 : Int32) x0 (0 : Int32)) x1 (1 : Int32)) x2 (2 : Int32)) x3 (3 : Int32)))] [(.int (Fat (Fem (Fem (Fem (Fem (Fem (0 : Int32) (-1 : Int32) x0 (0 : Int32)) (Fla (-1 : Int32) x0 (0 : Int32)) x1 (1 : Int32)) (Fla (Fla (-1 : Int32) x0 (0 : Int32)) x1 (1 : Int32)) x2 (2 : Int32)) (Fla (Fla (Fla (-1 : Int32) x0 (0 : Int32)) x1 (1 : Int32)) x2 (2 : Int32)) x3 (3 : Int32)) (Fla (Fla (Fla (Fla (-1 : Int32) x0 (0 : Int32)) x1 (1 : Int32)) x2 (2 : Int32)) x3 (3 : Int32)) x4 (4 : Int32)) (8 : Int32) (own_coll x0 x1 x2 x3 x4) (own_emL (own_emL (own_emL (own_emL (own_emL [] (0 : Int32) (-1 : Int32) x0 (0 : Int32)) (Fem (0 : Int32) (-1 : Int32) x0 (0 : Int32)) (Fla (-1 : Int32) x0 (0 : Int32)) x1 (1 : Int32)) (Fem (Fem (0 : Int32) (-1 : Int32) x0 (0 : Int32)) (Fla (-1 : Int32) x0 (0 : Int32)) x1 (1 : Int32)) (Fla (Fla (-1 : Int32) x0 (0 : Int32)) x1 (1 : Int32)) x2 (2 : Int32)) (Fem (Fem (Fem (0 : Int32) (-1 : Int32) x0 (0 : Int32)) (Fla (-1 : Int32) x0 (0 : Int32)) x1 (1 : Int32)) (Fla (Fla (-1 : Int32) x0 (0 : Int32)) x1 (1 : Int32)) x2 (2 : Int32)) (Fla (Fla (Fla (-1 : Int32) x0 (0 : Int32)) x1 (1 : Int32)) x2 (2 : Int32)) x3 (3 : Int32)) (Fem (Fem (Fem (Fem (0 : Int32) (-1 : Int32) x0 (0 : Int32)) (Fla (-1 : Int32) x0 (0 : Int32)) x1 (1 : Int32)) (Fla (Fla (-1 : Int32) x0 (0 : Int32)) x1 (1 : Int32)) x2 (2 : Int32)) (Fla (Fla (Fla (-1 : Int32) x0 (0 : Int32)) x1 (1 : Int32)) x2 (2 : Int32)) x3 (3 : Int32)) (Fla (Fla (Fla (Fla (-1 : Int32) x0 (0 : Int32)) x1 (1 : Int32)) x2 (2 : Int32)) x3 (3 : Int32)) x4 (4 : Int32))))]))
  refine g_ifN (pc' := 337) C X48 at_334 (feq (show ¬ ((Fat (Fem (Fem (Fem (Fem (Fem (0 : Int32) (-1 : Int32) x0 (0 : Int32)) (Fla (-1 : Int32) x0 (0 : Int32)) x1 (1 : Int32)) (Fla (Fla (-1 : Int32) x0 (0 : Int32)) x1 (1 : Int32)) x2 (2 : Int32)) (Fla (Fla (Fla (-1 : Int32) x0 (0 : Int32)) x1 (1 : Int32)) x2 (2 : Int32)) x3 (3 : Int32)) (Fla (Fla (Fla (Fla (-1 : Int32) x0 (0 : Int32)) x1 (1 : Int32)) x2 (2 : Int32)) x3 (3 : Int32)) x4 (4 : Int32)) (8 : Int32) (own_coll x0 x1 x2 x3 x4) (own_emL (own_emL (own_emL (own_emL (own_emL [] (0 : Int32) (-1 : Int32) x0 (0 : Int32)) (Fem (0 : Int32) (-1 : Int32) x0 (0 : Int32)) (Fla (-1 : Int32) x0 (0 : Int32)) x1 (1 : Int32)) (Fem (Fem (0 : Int32) (-1 : Int32) x0 (0 : Int32)) (Fla (-1 : Int32) x0 (0 : Int32)) x1 (1 : Int32)) (Fla (Fla (-1 : Int32) x0 (0 : Int32)) x1 (1 : Int32)) x2 (2 : Int32)) (Fem (Fem (Fem (0 : Int32) (-1 : Int32) x0 (0 : Int32)) (Fla (-1 : Int32) x0 (0 : Int32)) x1 (1 : Int32)) (Fla (Fla (-1 : Int32) x0 (0 : Int32)) x1 (1 : Int32)) x2 (2 : Int32)) (Fla (Fla (Fla (-1 : Int32) x0 (0 : Int32)) x1 (1 : Int32)) x2 (2 : Int32)) x3 (3 : Int32)) (Fem (Fem (Fem (Fem (0 : Int32) (-1 : Int32) x0 (0 : Int32)) (Fla (-1 : Int32) x0 (0 : Int32)) x1 (1 : Int32)) (Fla (Fla (-1 : Int32) x0 (0 : Int32)) x1 (1 : Int32)) x2 (2 : Int32)) (Fla (Fla (Fla (-1 : Int32) x0 (0 : Int32)) x1 (1 : Int32)) x2 (2 : Int32)) x3 (3 : Int32)) (Fla (Fla (Fla (Fla (-1 : Int32) x0 (0 : Int32)) x1 (1 : Int32)) x2 (2 : Int32)) x3 (3 : Int32)) x4 (4 : Int32))) = (0 : Int32)) from (own_aw x0 x1 x2 x3 x4 _))).1 rfl ?_
  refine g_iconst (pc' := 338) (v := (1 : Int32)) C X48 at_337 rfl rfl ?_
  refine g_goto (pc' := 342) C X48 at_338 (by decide) (by decide) ?_
  exact g_retN C X48 (by simp) at_342 (by decide) (by decide) ⟨rfl, N48⟩
theorem own_eqi {args : Array Value} {s : State} {t : Term} {v : Int32} (h : (Jvm.Cond.eq t (.int v)).value args s none s [] = some true) : t.eval args s none [] s = some (.int v) := by
  simp only [Cond.value, Term.eval] at h
  cases ht : t.eval args s none [] s with
  | none => simp [ht] at h
  | some x => cases x <;> simp [ht] at h ⊢; exact h
theorem own_eqr {args : Array Value} {s : State} {t u : Term} {a : Addr} (h : (Jvm.Cond.eq t u).value args s none s [] = some true) (hu : u.eval args s none [] s = some (.ref a)) : t.eval args s none [] s = some (.ref a) := by
  simp only [Cond.value, hu] at h
  cases ht : t.eval args s none [] s with
  | none => simp [ht] at h
  | some x => cases x <;> simp [ht] at h ⊢; exact h
theorem own_len {args : Array Value} {s : State} {t : Term} {a : Addr} {cl : Cell} {ty : FieldType} {n : Int32} (ht : t.eval args s none [] s = some (.ref a)) (A : Arr s s.heap a cl ty) (h : (Term.length t).eval args s none [] s = some (.int n)) : cl.slots.size < 2 ^ 31 ∧ cl.slots.size.toInt32 = n := by
  have ha : s.arrayAt? a = some cl := A.fin (Vm.Alike.refl _)
  by_cases q : cl.slots.size < 2 ^ 31
  · rw [len_f ht ha q] at h
    exact ⟨q, Value.int.inj (Option.some.inj h)⟩
  · simp [Term.eval, ht, ha, q] at h
theorem own_fld {args : Array Value} {s : State} {t : Term} {C n d : String} {a : Addr} {v : Value} (ht : t.eval args s none [] s = some (.ref a)) (hv : (Term.field t C n d).eval args s none [] s = some v) : Fld s s.heap a C n d v := Fld.start ((fld_at ht).symm.trans hv)
set_option maxRecDepth 65536 in
set_option maxHeartbeats 40000000 in
theorem comes_1 {Post : Tables → Env → Array Value → State → Outcome → State → Prop} (hpost : ∀ tb e args s v u, (limb_1_1.after args s (.returned v) u = true ∧ limb_1_2.after args s (.returned v) u = true ∧ True) → FrameEnd s (.returned v) u (Jvm.fieldLocs frame_1_writes args s ++ Jvm.arrayLocs frame_1_arrays args s ++ Jvm.staticLocs frame_1_statics s) 32 256 → Post tb e args s (.returned v) u) :
    ArmFor flags0 classFile x code maxLocals ret World_1 tables_1 room_1 Calls_1 rest_1 Pre_1 Post := by
  intro l hfl _ _ p e ha hc hk s m args below hf hA hF happ hP
  obtain ⟨hcalls, hrest, hpre⟩ := hP
  obtain ⟨-, -, -, hnamed, -, -, -, hat⟩ := (Spec.applies_iff hf).mp happ
  obtain ⟨hg, hnr⟩ := and_e (Cond.before_iff.mp (show (Jvm.Cond.and given_1 narrow_1).before args s = true from hpre))
  obtain ⟨gg1, gg2⟩ := and_e hg
  obtain ⟨gg3, gg4⟩ := and_e gg2
  obtain ⟨gg5, gg6⟩ := and_e gg4
  obtain ⟨gg7, gg8⟩ := and_e gg6
  obtain ⟨gg9, gg10⟩ := and_e gg8
  obtain ⟨w0, w1, w2, w3, w4, rfl⟩ : ∃ w0 w1 w2 w3 w4 : Value, args = #[w0, w1, w2, w3, w4] := by
    have hs : args.size = 5 := by simpa [Cond.value, given_1] using gg1
    obtain ⟨L⟩ := args
    match L, hs with
    | [w0, w1, w2, w3, w4], _ => exact ⟨w0, w1, w2, w3, w4, rfl⟩
  have hw := fun d (hd : d ∈ tables_1) => atoms_spec (ws := Jvm.Cond.code x code maxLocals ret :: tables_1) hat d (List.mem_cons_of_mem _ hd)
  have hfit : Fit s := fun {y c} hc i hi => by
    obtain ⟨ha, rfl⟩ := Array.getElem?_eq_some_iff.mp hc
    have q := List.all_eq_true.mp ((Array.all_eq_true_iff_forall_mem.mp hF) _ (Array.getElem_mem ha)) i (List.mem_range.mpr hi)
    simpa [Array.getElem?_eq_getElem hi] using q
  obtain ⟨i0, ei0⟩ := is_v gg3
  obtain rfl : w0 = (.int i0) := Option.some.inj ei0
  obtain ⟨i1, ei1⟩ := is_v gg5
  obtain rfl : w1 = (.int i1) := Option.some.inj ei1
  obtain ⟨i2, ei2⟩ := is_v gg7
  obtain rfl : w2 = (.int i2) := Option.some.inj ei2
  obtain ⟨i3, ei3⟩ := is_v gg9
  obtain rfl : w3 = (.int i3) := Option.some.inj ei3
  obtain ⟨i4, ei4⟩ := is_v gg10
  obtain rfl : w4 = (.int i4) := Option.some.inj ei4
  obtain ⟨hsets, hown0⟩ := atoms_of _ (rest_1_c_eq ▸ (show rest_1_c.before _ s = true from hrest))
  obtain ⟨cs, ev_cs⟩ := is_v (Cond.before_iff.mp (hsets _ (List.mem_of_getElem? (i := 1) rfl)))
  have S_cs := Sta.start ev_cs (Or.inl (hsets _ (List.mem_of_getElem? (i := 0) rfl)))
  have hcw := hsets _ (List.mem_of_getElem? (i := 2) rfl)
  have hcs : ¬ (cs = (0 : Int32)) := own_neqi ev_cs (Cond.before_iff.mp hcw)
  obtain ⟨fm, ev_fm, hrf⟩ := Cond.isRef_spec (show (Jvm.Cond.isRef _).holds _ s none s [] = true from (hsets _ (List.mem_of_getElem? (i := 8) rfl)))
  have S_fm := Sta.start ev_fm (Or.inl (hsets _ (List.mem_of_getElem? (i := 7) rfl)))
  have hfm : fm.category = 1 := by cases fm <;> first | rfl | (simp [Value.isRef] at hrf)
  have S_ad := Sta.start (own_eqi (Cond.before_iff.mp (hsets _ (List.mem_of_getElem? (i := 12) rfl)))) (Or.inl (hsets _ (List.mem_of_getElem? (i := 11) rfl)))
  have S_hi := Sta.start (own_eqi (Cond.before_iff.mp (hsets _ (List.mem_of_getElem? (i := 15) rfl)))) (Or.inl (hsets _ (List.mem_of_getElem? (i := 14) rfl)))
  have S_lo := Sta.start (own_eqi (Cond.before_iff.mp (hsets _ (List.mem_of_getElem? (i := 18) rfl)))) (Or.inl (hsets _ (List.mem_of_getElem? (i := 17) rfl)))
  have hFX : FX s s.heap cs fm := ⟨S_cs, hcs, S_fm, hfm, S_ad, S_hi, S_lo⟩
  obtain ⟨n, o, h1, h2, h3, _, L, rfl, ⟨hv, N⟩, hq⟩ := rm0 l s _ hw tables_1 i0 i1 i2 i3 i4 cs fm s.heap s.heap.size (Nat.le_refl _) hFX p e ha hc hk s m _ below hf ((Spec.applies_iff_loose hf).mp happ).1 ⟨rfl, State.Warmed39.refl s, rfl⟩ trivial
  subst hv
  refine ⟨n, _, h1, h2, h3, hpost _ _ _ _ _ _ ⟨Cond.after_iff.mpr rfl, Cond.after_iff.mpr (eq_i res_at (Term.int_eval (1)) rfl), trivial⟩ ⟨hq.1, hq.2.1, (hq.2.2.sift fun y hy => Or.inr (N y hy)).mono (by decide) (by decide)⟩⟩
theorem main_1_1 : Claimed_1_1 := comes_1 fun _ _ _ _ _ _ h hF => ⟨h.1, hF⟩
theorem main_1_2 : Claimed_1_2 := comes_1 fun _ _ _ _ _ _ h hF => ⟨h.2.1, hF⟩
end Jvm.Pilot.@@N@@
namespace Jvm.Pilot.@@N@@
open Jvm Jvm.ClassFile Sem Op Lib Jvm.Free Jvm.Stand Jvm.Pilot.@@N@@.Jvm.D
/-! MADE BY PROGRAM (witnessworld.py) out of the Statement's table words and the real class files: 24 classes; the members and pool entries that the words name. The judged class is class 1, her method 6. -/
namespace start1
open Jvm.ClassFile
def u (s : String) : CpInfo := .utf8 (stringToUtf16 s)
/-- a pool by its gaps: so many unusable entries, then the entry; so many at the end -/
def gap : Nat → List CpInfo → List CpInfo
  | 0, r => r
  | n + 1, r => .unusable :: gap n r
def poolList (es : List (Nat × CpInfo)) (last : Nat) : List CpInfo := es.foldr (fun e r => gap e.1 (e.2 :: r)) (gap last [])
def pool (es : List (Nat × CpInfo)) (last : Nat) : Array CpInfo := ⟨poolList es last⟩
def fileOf (pool : Array CpInfo) (this : Nat) (attrs : Array Attribute := #[]) (ms : Array MethodInfo := #[]) (fl : Nat := 33) (sup : Nat := 0) (ifs : Array Nat := #[]) (fds : Array FieldInfo := #[]) : ClassFile where
  minorVersion := 0
  majorVersion := 65
  constantPool := pool
  accessFlags := fl
  thisClass := this
  superClass := sup
  interfaces := ifs
  fields := fds
  methods := ms
  attributes := attrs
def plain (name : String) (sup : Option ClassId) : Class where
  name := name
  kind := .ordinary
  loader := none
  accessFlags := 33
  super := sup
  interfaces := #[]
  cf := none
  fields := #[]
  methods := #[]
  instanceTypes := #[]
  staticTypes := #[]
  resolved := #[]
  callSites := []
  init := .initialized
  statics := none
  mirror := none

def pool0 : Array CpInfo := pool [(5, u "<init>"), (0, u "()V"), (1, .class_ 10), (1, u "java/lang/Object"), (85, u "clone"), (0, u "()Ljava/lang/Object;")] 26

def k0c0 : Code := { maxStack := 0, maxLocals := 1, code := object_method_1_code, exceptionTable := #[], attributes := #[] }
def k0m0 : Method := { name := "<init>", desc := "()V", sig := { parameters := [], returnType := none }, accessFlags := 1, code := some k0c0 }
def k0m1 : Method := { name := "clone", desc := "()Ljava/lang/Object;", sig := { parameters := [], returnType := some (.object "java/lang/Object") }, accessFlags := 260, code := none }
/-- java/lang/Object -/
def k0 : Class := { plain "java/lang/Object" none with
  accessFlags := 33
  interfaces := #[]
  cf := some (fileOf pool0 8 #[] #[{ accessFlags := 1, nameIndex := 5, descriptorIndex := 6, attributes := #[] }, { accessFlags := 260, nameIndex := 96, descriptorIndex := 97, attributes := #[] }] 33 0 #[] #[])
  fields := #[]
  methods := #[k0m0, k0m1]
  instanceTypes := #[]
  staticTypes := #[]
  resolved := Array.replicate 124 none
  statics := none }

def pool1 : Array CpInfo := pool [(2, .class_ 4), (1, u "java/lang/Object"), (0, u "<init>"), (0, u "()V"), (0, .integer 65536), (0, .integer 65535), (0, .methodref 10 11), (0, .class_ 12), (0, .nameAndType 13 14), (0, u "org/vouchsafe/XsdWhitespaceCollapsePinLaw"), (0, u "ws"), (0, u "(C)Z"), (0, .methodref 16 17), (0, .class_ 18), (0, .nameAndType 19 20), (0, u "java/lang/String"), (0, u "charAt"), (0, u "(I)C"), (0, .methodref 10 22), (0, .nameAndType 23 20), (0, u "draw"), (0, .methodref 16 25), (0, .nameAndType 5 26), (0, u "([C)V"), (0, .methodref 28 29), (0, .class_ 30), (0, .nameAndType 31 32), (0, u "org/vouchsafe/XsdWhitespace"), (0, u "collapse"), (0, u "(Ljava/lang/String;)Ljava/lang/String;"), (0, .methodref 10 34), (0, .nameAndType 35 36), (0, u "emit"), (0, u "([CIICI)I"), (0, .methodref 10 38), (0, .nameAndType 39 40), (0, u "lastAfter"), (0, u "(ICI)I"), (0, .methodref 16 42), (0, .nameAndType 43 44), (0, u "length"), (0, u "()I"), (0, .methodref 10 46), (0, .nameAndType 47 48), (0, u "at"), (0, u "(Ljava/lang/String;[CII)Z"), (3, u "law"), (0, u "(IIIII)Z")] 4

def k1m0 : Method := { name := "<init>", desc := "()V", sig := { parameters := [], returnType := none }, accessFlags := 1, code := none }
def k1c1 : Code := { maxStack := 2, maxLocals := 2, code := method_2_code, exceptionTable := #[], attributes := #[] }
def k1m1 : Method := { name := "draw", desc := "(I)C", sig := { parameters := [.int], returnType := some .char }, accessFlags := 10, code := some k1c1 }
def k1c2 : Code := { maxStack := 2, maxLocals := 1, code := method_3_code, exceptionTable := #[], attributes := #[] }
def k1m2 : Method := { name := "ws", desc := "(C)Z", sig := { parameters := [.char], returnType := some .boolean }, accessFlags := 10, code := some k1c2 }
def k1c3 : Code := { maxStack := 3, maxLocals := 6, code := method_4_code, exceptionTable := #[], attributes := #[] }
def k1m3 : Method := { name := "emit", desc := "([CIICI)I", sig := { parameters := [(.array .char), .int, .int, .char, .int], returnType := some .int }, accessFlags := 10, code := some k1c3 }
def k1c4 : Code := { maxStack := 1, maxLocals := 3, code := method_5_code, exceptionTable := #[], attributes := #[] }
def k1m4 : Method := { name := "lastAfter", desc := "(ICI)I", sig := { parameters := [.int, .char, .int], returnType := some .int }, accessFlags := 10, code := some k1c4 }
def k1c5 : Code := { maxStack := 3, maxLocals := 4, code := method_6_code, exceptionTable := #[], attributes := #[] }
def k1m5 : Method := { name := "at", desc := "(Ljava/lang/String;[CII)Z", sig := { parameters := [(.object "java/lang/String"), (.array .char), .int, .int], returnType := some .boolean }, accessFlags := 10, code := some k1c5 }
def k1c6 : Code := { maxStack := 5, maxLocals := 10, code := code, exceptionTable := #[], attributes := #[] }
def k1m6 : Method := { name := "law", desc := "(IIIII)Z", sig := { parameters := [.int, .int, .int, .int, .int], returnType := some .boolean }, accessFlags := 9, code := some k1c6 }
/-- org/vouchsafe/XsdWhitespaceCollapsePinLaw -/
def k1 : Class := { plain "org/vouchsafe/XsdWhitespaceCollapsePinLaw" (some 0) with
  accessFlags := 49
  interfaces := #[]
  cf := some (fileOf pool1 10 #[] #[{ accessFlags := 1, nameIndex := 5, descriptorIndex := 6, attributes := #[] }, { accessFlags := 10, nameIndex := 23, descriptorIndex := 20, attributes := #[] }, { accessFlags := 10, nameIndex := 13, descriptorIndex := 14, attributes := #[] }, { accessFlags := 10, nameIndex := 35, descriptorIndex := 36, attributes := #[] }, { accessFlags := 10, nameIndex := 39, descriptorIndex := 40, attributes := #[] }, { accessFlags := 10, nameIndex := 47, descriptorIndex := 48, attributes := #[] }, { accessFlags := 9, nameIndex := 52, descriptorIndex := 53, attributes := #[] }] 49 2 #[] #[])
  fields := #[]
  methods := #[k1m0, k1m1, k1m2, k1m3, k1m4, k1m5, k1m6]
  instanceTypes := #[]
  staticTypes := #[]
  resolved := Array.replicate 58 none
  statics := none }

def pool2 : Array CpInfo := pool [(1, .class_ 2), (0, u "java/io/Serializable"), (0, .class_ 4), (0, u "java/lang/Object")] 2

/-- java/io/Serializable -/
def k2 : Class := { plain "java/io/Serializable" (some 0) with
  accessFlags := 1537
  interfaces := #[]
  cf := some (fileOf pool2 1 #[] #[] 1537 3 #[] #[])
  fields := #[]
  methods := #[]
  instanceTypes := #[]
  staticTypes := #[]
  resolved := Array.replicate 7 none
  statics := none }

def pool3 : Array CpInfo := pool [(1, .class_ 2), (0, u "java/lang/Comparable"), (0, .class_ 4), (0, u "java/lang/Object")] 7

/-- java/lang/Comparable -/
def k3 : Class := { plain "java/lang/Comparable" (some 0) with
  accessFlags := 1537
  interfaces := #[]
  cf := some (fileOf pool3 1 #[] #[] 1537 3 #[] #[])
  fields := #[]
  methods := #[]
  instanceTypes := #[]
  staticTypes := #[]
  resolved := Array.replicate 12 none
  statics := none }

def pool4 : Array CpInfo := pool [(2, .class_ 4), (1, u "java/lang/CharSequence"), (42, .class_ 48), (0, u "java/lang/CharSequence$1CodePointIterator"), (10, .class_ 60), (0, u "java/lang/CharSequence$1CharIterator"), (5, .class_ 67), (0, u "java/lang/Object")] 63

/-- java/lang/CharSequence -/
def k4 : Class := { plain "java/lang/CharSequence" (some 0) with
  accessFlags := 1537
  interfaces := #[]
  cf := some (fileOf pool4 2 #[.nestMembers #[47, 59]] #[] 1537 66 #[] #[])
  fields := #[]
  methods := #[]
  instanceTypes := #[]
  staticTypes := #[]
  resolved := Array.replicate 131 none
  statics := none }

def pool5 : Array CpInfo := pool [(1, .class_ 2), (0, u "java/lang/constant/Constable"), (0, .class_ 4), (0, u "java/lang/Object")] 6

/-- java/lang/constant/Constable -/
def k5 : Class := { plain "java/lang/constant/Constable" (some 0) with
  accessFlags := 1537
  interfaces := #[]
  cf := some (fileOf pool5 1 #[] #[] 1537 3 #[] #[])
  fields := #[]
  methods := #[]
  instanceTypes := #[]
  staticTypes := #[]
  resolved := Array.replicate 11 none
  statics := none }

def pool6 : Array CpInfo := pool [(1, .class_ 2), (0, u "java/lang/constant/ConstantDesc"), (0, .class_ 4), (0, u "java/lang/Object")] 32

/-- java/lang/constant/ConstantDesc -/
def k6 : Class := { plain "java/lang/constant/ConstantDesc" (some 0) with
  accessFlags := 1537
  interfaces := #[]
  cf := some (fileOf pool6 1 #[] #[] 1537 3 #[] #[])
  fields := #[]
  methods := #[]
  instanceTypes := #[]
  staticTypes := #[]
  resolved := Array.replicate 37 none
  statics := none }

def pool7 : Array CpInfo := pool [(1, .methodref 2 3), (0, .class_ 4), (0, .nameAndType 5 6), (0, u "java/lang/Object"), (0, u "<init>"), (0, u "()V"), (2, .fieldref 10 11), (0, .class_ 12), (0, .nameAndType 13 14), (0, u "java/lang/String"), (0, u "value"), (0, u "[B"), (0, .fieldref 10 16), (0, .nameAndType 17 18), (0, u "coder"), (0, u "B"), (2, u "hash"), (0, u "I"), (2, u "hashIsZero"), (0, u "Z"), (0, .methodref 10 28), (0, .nameAndType 5 29), (0, u "([CIILjava/lang/Void;)V"), (6, u "checkBoundsOffCount"), (0, u "(III)I"), (0, .fieldref 10 39), (0, .nameAndType 40 26), (0, u "COMPACT_STRINGS"), (1, .class_ 44), (1, u "java/lang/StringUTF16"), (0, u "compress"), (1, .methodref 42 48), (0, .nameAndType 49 50), (0, u "coderFromArrayLen"), (0, u "([BI)B"), (3, .methodref 55 56), (0, .class_ 57), (0, .nameAndType 58 59), (0, u "java/util/Arrays"), (0, u "copyOfRange"), (0, u "([BII)[B"), (47, .class_ 109), (1, u "java/lang/StringLatin1"), (32, u "()Z"), (34, .methodref 42 178), (0, .nameAndType 45 179), (0, u "([CII)[B"), (154, u "()I"), (0, .methodref 10 336), (0, .nameAndType 17 337), (0, u "()B"), (2, u "()[B"), (22, u "([BI)C"), (27, u "(II)V"), (35, u "(I)C"), (61, .methodref 10 490), (0, .nameAndType 5 491), (0, u "(Ljava/lang/AbstractStringBuilder;Ljava/lang/Void;)V"), (0, .methodref 10 493), (0, .nameAndType 494 142), (0, u "isLatin1"), (0, .methodref 107 496), (0, .nameAndType 497 363), (0, u "charAt"), (0, .methodref 42 496), (2, u "checkIndex"), (4, .nameAndType 507 334), (0, u "length"), (41, .methodref 550 506), (0, .class_ 551), (0, u "java/lang/AbstractStringBuilder"), (0, .methodref 550 553), (0, .nameAndType 554 340), (0, u "getValue"), (20, .class_ 576), (0, u "java/lang/CharSequence"), (22, u "CASE_INSENSITIVE_ORDER"), (0, u "Ljava/util/Comparator;"), (409, u "([C)V"), (36, .methodref 550 493), (0, .fieldref 550 1049), (0, .nameAndType 1050 26), (0, u "maybeLatin1"), (2, .fieldref 1054 1055), (0, .class_ 1056), (0, .nameAndType 1057 1058), (0, u "jdk/internal/util/Preconditions"), (0, u "SIOOBE_FORMATTER"), (0, u "Ljava/util/function/BiFunction;"), (0, .methodref 1054 1060), (0, .nameAndType 501 1061), (0, u "(IILjava/util/function/BiFunction;)I"), (2, u "(IIILjava/util/function/BiFunction;)I"), (0, .methodref 1054 1066), (0, .nameAndType 1067 1064), (0, u "checkFromIndexSize"), (33, u "serialPersistentFields"), (0, u "[Ljava/io/ObjectStreamField;"), (0, .class_ 1104), (0, u "java/lang/String$CaseInsensitiveComparator"), (1, .class_ 1107), (0, u "java/io/Serializable"), (0, .class_ 1109), (0, u "java/lang/Comparable"), (0, .class_ 1111), (0, u "java/lang/constant/Constable"), (0, .class_ 1113), (0, u "java/lang/constant/ConstantDesc"), (2, u "serialVersionUID"), (0, u "J"), (3, u "REPL"), (0, u "C"), (2, u "LATIN1"), (1, u "UTF16"), (105, u "(Ljava/lang/StringBuilder;)V")] 217

def k7m0 : Method := { name := "<init>", desc := "()V", sig := { parameters := [], returnType := none }, accessFlags := 1, code := none }
def k7c1 : Code := { maxStack := 5, maxLocals := 2, code := jdk_42_method_3_code, exceptionTable := #[], attributes := #[] }
def k7m1 : Method := { name := "<init>", desc := "([C)V", sig := { parameters := [(.array .char)], returnType := none }, accessFlags := 1, code := some k7c1 }
def k7c2 : Code := { maxStack := 3, maxLocals := 2, code := jdk_42_method_53_code, exceptionTable := #[], attributes := #[] }
def k7m2 : Method := { name := "<init>", desc := "(Ljava/lang/StringBuilder;)V", sig := { parameters := [(.object "java/lang/StringBuilder")], returnType := none }, accessFlags := 1, code := some k7c2 }
def k7c3 : Code := { maxStack := 2, maxLocals := 1, code := jdk_42_method_54_code, exceptionTable := #[], attributes := #[] }
def k7m3 : Method := { name := "length", desc := "()I", sig := { parameters := [], returnType := some .int }, accessFlags := 1, code := some k7c3 }
def k7c4 : Code := { maxStack := 2, maxLocals := 2, code := jdk_42_method_56_code, exceptionTable := #[], attributes := #[] }
def k7m4 : Method := { name := "charAt", desc := "(I)C", sig := { parameters := [.int], returnType := some .char }, accessFlags := 1, code := some k7c4 }
def k7c5 : Code := { maxStack := 4, maxLocals := 6, code := jdk_42_method_149_code, exceptionTable := #[], attributes := #[] }
def k7m5 : Method := { name := "<init>", desc := "([CIILjava/lang/Void;)V", sig := { parameters := [(.array .char), .int, .int, (.object "java/lang/Void")], returnType := none }, accessFlags := 2, code := some k7c5 }
def k7c6 : Code := { maxStack := 5, maxLocals := 5, code := jdk_42_method_150_code, exceptionTable := #[], attributes := #[] }
def k7m6 : Method := { name := "<init>", desc := "(Ljava/lang/AbstractStringBuilder;Ljava/lang/Void;)V", sig := { parameters := [(.object "java/lang/AbstractStringBuilder"), (.object "java/lang/Void")], returnType := none }, accessFlags := 0, code := some k7c6 }
def k7c7 : Code := { maxStack := 1, maxLocals := 1, code := jdk_42_method_152_code, exceptionTable := #[], attributes := #[] }
def k7m7 : Method := { name := "coder", desc := "()B", sig := { parameters := [], returnType := some .byte }, accessFlags := 0, code := some k7c7 }
def k7c8 : Code := { maxStack := 1, maxLocals := 1, code := jdk_42_method_154_code, exceptionTable := #[], attributes := #[] }
def k7m8 : Method := { name := "isLatin1", desc := "()Z", sig := { parameters := [], returnType := some .boolean }, accessFlags := 0, code := some k7c8 }
def k7c9 : Code := { maxStack := 3, maxLocals := 2, code := jdk_42_method_155_code, exceptionTable := #[], attributes := #[] }
def k7m9 : Method := { name := "checkIndex", desc := "(II)V", sig := { parameters := [.int, .int], returnType := none }, accessFlags := 8, code := some k7c9 }
def k7c10 : Code := { maxStack := 4, maxLocals := 3, code := jdk_42_method_157_code, exceptionTable := #[], attributes := #[] }
def k7m10 : Method := { name := "checkBoundsOffCount", desc := "(III)I", sig := { parameters := [.int, .int, .int], returnType := some .int }, accessFlags := 8, code := some k7c10 }
/-- java/lang/String -/
def k7 : Class := { plain "java/lang/String" (some 0) with
  accessFlags := 49
  interfaces := #[2, 3, 4, 5, 6]
  cf := some (fileOf pool7 10 #[.nestMembers #[1103]] #[{ accessFlags := 1, nameIndex := 5, descriptorIndex := 6, attributes := #[] }, { accessFlags := 1, nameIndex := 5, descriptorIndex := 1010, attributes := #[] }, { accessFlags := 1, nameIndex := 5, descriptorIndex := 1233, attributes := #[] }, { accessFlags := 1, nameIndex := 507, descriptorIndex := 334, attributes := #[] }, { accessFlags := 1, nameIndex := 497, descriptorIndex := 427, attributes := #[] }, { accessFlags := 2, nameIndex := 5, descriptorIndex := 29, attributes := #[] }, { accessFlags := 0, nameIndex := 5, descriptorIndex := 491, attributes := #[] }, { accessFlags := 0, nameIndex := 17, descriptorIndex := 337, attributes := #[] }, { accessFlags := 0, nameIndex := 494, descriptorIndex := 142, attributes := #[] }, { accessFlags := 8, nameIndex := 501, descriptorIndex := 391, attributes := #[] }, { accessFlags := 8, nameIndex := 36, descriptorIndex := 37, attributes := #[] }] 49 2 #[1106, 1108, 575, 1110, 1112] #[{ accessFlags := 18, nameIndex := 13, descriptorIndex := 14, attributes := #[] }, { accessFlags := 18, nameIndex := 17, descriptorIndex := 18, attributes := #[] }, { accessFlags := 2, nameIndex := 21, descriptorIndex := 22, attributes := #[] }, { accessFlags := 2, nameIndex := 25, descriptorIndex := 26, attributes := #[] }, { accessFlags := 26, nameIndex := 1116, descriptorIndex := 1117, attributes := #[] }, { accessFlags := 24, nameIndex := 40, descriptorIndex := 26, attributes := #[] }, { accessFlags := 26, nameIndex := 1101, descriptorIndex := 1102, attributes := #[] }, { accessFlags := 26, nameIndex := 1121, descriptorIndex := 1122, attributes := #[] }, { accessFlags := 25, nameIndex := 599, descriptorIndex := 600, attributes := #[] }, { accessFlags := 24, nameIndex := 1125, descriptorIndex := 18, attributes := #[] }, { accessFlags := 24, nameIndex := 1127, descriptorIndex := 18, attributes := #[] }])
  fields := #[{ name := "value", type := (.array .byte), accessFlags := 18, slot := 0, constantValue := 0 }, { name := "coder", type := .byte, accessFlags := 18, slot := 1, constantValue := 0 }, { name := "hash", type := .int, accessFlags := 2, slot := 2, constantValue := 0 }, { name := "hashIsZero", type := .boolean, accessFlags := 2, slot := 3, constantValue := 0 }, { name := "serialVersionUID", type := .long, accessFlags := 26, slot := 0, constantValue := 0 }, { name := "COMPACT_STRINGS", type := .boolean, accessFlags := 24, slot := 1, constantValue := 0 }, { name := "serialPersistentFields", type := (.array (.object "java/io/ObjectStreamField")), accessFlags := 26, slot := 2, constantValue := 0 }, { name := "REPL", type := .char, accessFlags := 26, slot := 3, constantValue := 0 }, { name := "CASE_INSENSITIVE_ORDER", type := (.object "java/util/Comparator"), accessFlags := 25, slot := 4, constantValue := 0 }, { name := "LATIN1", type := .byte, accessFlags := 24, slot := 5, constantValue := 0 }, { name := "UTF16", type := .byte, accessFlags := 24, slot := 6, constantValue := 0 }]
  methods := #[k7m0, k7m1, k7m2, k7m3, k7m4, k7m5, k7m6, k7m7, k7m8, k7m9, k7m10]
  instanceTypes := #[(.array .byte), .byte, .int, .boolean]
  staticTypes := #[.long, .boolean, (.array (.object "java/io/ObjectStreamField")), .char, (.object "java/util/Comparator"), .byte, .byte]
  resolved := Array.replicate 1451 none
  statics := some 0 }

def pool8 : Array CpInfo := pool [(3, .class_ 4), (0, u "java/lang/String"), (1, .class_ 8), (1, u "java/lang/Object"), (0, u "<init>"), (0, u "()V"), (0, .methodref 12 13), (0, .class_ 14), (0, .nameAndType 15 16), (0, u "java/lang/StringUTF16"), (0, u "newBytesLength"), (0, u "(I)I"), (3, .integer 1073741823), (23, .fieldref 12 45), (0, .nameAndType 46 47), (0, u "$assertionsDisabled"), (0, u "Z"), (0, .methodref 12 49), (0, .nameAndType 50 51), (0, u "length"), (0, u "([B)I"), (7, .fieldref 12 60), (0, .nameAndType 61 62), (0, u "HI_BYTE_SHIFT"), (0, u "I"), (0, .fieldref 12 64), (0, .nameAndType 65 62), (0, u "LO_BYTE_SHIFT"), (1, .methodref 12 68), (0, .nameAndType 69 70), (0, u "checkIndex"), (0, u "(I[B)V"), (0, .methodref 12 72), (0, .nameAndType 73 74), (0, u "getChar"), (0, u "([BI)C"), (24, u "(II[B)V"), (7, .methodref 12 108), (0, .nameAndType 109 110), (0, u "newBytesFor"), (0, u "(I)[B"), (0, .methodref 12 112), (0, .nameAndType 113 114), (0, u "putChar"), (0, u "([BII)V"), (0, .methodref 12 116), (0, .nameAndType 117 118), (0, u "compress"), (0, u "([CI[BII)I"), (0, .methodref 12 120), (0, .nameAndType 121 122), (0, u "toBytes"), (0, u "([CII)[B"), (17, u "inflate"), (0, u "([BI[BII)V"), (31, .methodref 12 174), (0, .nameAndType 175 99), (0, u "checkBoundsOffCount"), (85, u "coderFromArrayLen"), (0, u "([BI)B"), (18, u "(III)I"), (87, .class_ 371), (1, u "java/lang/StringUTF16$LinesSpliterator"), (20, u "charAt"), (21, .methodref 3 415), (0, .nameAndType 69 416), (0, u "(II)V"), (2, .methodref 3 420), (0, .nameAndType 175 281), (9, u "MAX_LENGTH"), (155, u "putCharSB"), (40, .class_ 628), (0, u "java/lang/StringUTF16$CodePointsSpliterator"), (0, .class_ 630), (0, u "java/lang/StringUTF16$CharsSpliterator")] 4

def k8m0 : Method := { name := "<init>", desc := "()V", sig := { parameters := [], returnType := none }, accessFlags := 0, code := none }
def k8c1 : Code := { maxStack := 1, maxLocals := 1, code := jdk_52_method_2_code, exceptionTable := #[], attributes := #[] }
def k8m1 : Method := { name := "newBytesFor", desc := "(I)[B", sig := { parameters := [.int], returnType := some (.array .byte) }, accessFlags := 9, code := some k8c1 }
def k8c2 : Code := { maxStack := 4, maxLocals := 1, code := jdk_52_method_3_code, exceptionTable := #[], attributes := #[] }
def k8m2 : Method := { name := "newBytesLength", desc := "(I)I", sig := { parameters := [.int], returnType := some .int }, accessFlags := 9, code := some k8c2 }
def k8c3 : Code := { maxStack := 4, maxLocals := 3, code := jdk_52_method_4_code, exceptionTable := #[], attributes := #[] }
def k8m3 : Method := { name := "putChar", desc := "([BII)V", sig := { parameters := [(.array .byte), .int, .int], returnType := none }, accessFlags := 8, code := some k8c3 }
def k8c4 : Code := { maxStack := 3, maxLocals := 2, code := jdk_52_method_5_code, exceptionTable := #[], attributes := #[] }
def k8m4 : Method := { name := "getChar", desc := "([BI)C", sig := { parameters := [(.array .byte), .int], returnType := some .char }, accessFlags := 8, code := some k8c4 }
def k8c5 : Code := { maxStack := 2, maxLocals := 1, code := jdk_52_method_6_code, exceptionTable := #[], attributes := #[] }
def k8m5 : Method := { name := "length", desc := "([B)I", sig := { parameters := [(.array .byte)], returnType := some .int }, accessFlags := 9, code := some k8c5 }
def k8c6 : Code := { maxStack := 4, maxLocals := 5, code := jdk_52_method_14_code, exceptionTable := #[], attributes := #[] }
def k8m6 : Method := { name := "toBytes", desc := "([CII)[B", sig := { parameters := [(.array .char), .int, .int], returnType := some (.array .byte) }, accessFlags := 9, code := some k8c6 }
def k8c7 : Code := { maxStack := 2, maxLocals := 2, code := jdk_52_method_15_code, exceptionTable := #[], attributes := #[] }
def k8m7 : Method := { name := "coderFromArrayLen", desc := "([BI)B", sig := { parameters := [(.array .byte), .int], returnType := some .byte }, accessFlags := 8, code := some k8c7 }
def k8c8 : Code := { maxStack := 5, maxLocals := 6, code := jdk_52_method_16_code, exceptionTable := #[], attributes := #[] }
def k8m8 : Method := { name := "compress", desc := "([CII)[B", sig := { parameters := [(.array .char), .int, .int], returnType := some (.array .byte) }, accessFlags := 9, code := some k8c8 }
def k8c9 : Code := { maxStack := 3, maxLocals := 7, code := jdk_52_method_21_code, exceptionTable := #[], attributes := #[] }
def k8m9 : Method := { name := "compress", desc := "([CI[BII)I", sig := { parameters := [(.array .char), .int, (.array .byte), .int, .int], returnType := some .int }, accessFlags := 9, code := some k8c9 }
def k8c10 : Code := { maxStack := 3, maxLocals := 3, code := jdk_52_method_71_code, exceptionTable := #[], attributes := #[] }
def k8m10 : Method := { name := "putCharSB", desc := "([BII)V", sig := { parameters := [(.array .byte), .int, .int], returnType := none }, accessFlags := 9, code := some k8c10 }
def k8c11 : Code := { maxStack := 2, maxLocals := 2, code := jdk_52_method_83_code, exceptionTable := #[], attributes := #[] }
def k8m11 : Method := { name := "charAt", desc := "([BI)C", sig := { parameters := [(.array .byte), .int], returnType := some .char }, accessFlags := 9, code := some k8c11 }
def k8c12 : Code := { maxStack := 4, maxLocals := 6, code := jdk_52_method_86_code, exceptionTable := #[], attributes := #[] }
def k8m12 : Method := { name := "inflate", desc := "([BI[BII)V", sig := { parameters := [(.array .byte), .int, (.array .byte), .int, .int], returnType := none }, accessFlags := 9, code := some k8c12 }
def k8c13 : Code := { maxStack := 2, maxLocals := 2, code := jdk_52_method_91_code, exceptionTable := #[], attributes := #[] }
def k8m13 : Method := { name := "checkIndex", desc := "(I[B)V", sig := { parameters := [.int, (.array .byte)], returnType := none }, accessFlags := 9, code := some k8c13 }
def k8c14 : Code := { maxStack := 3, maxLocals := 3, code := jdk_52_method_94_code, exceptionTable := #[], attributes := #[] }
def k8m14 : Method := { name := "checkBoundsOffCount", desc := "(II[B)V", sig := { parameters := [.int, .int, (.array .byte)], returnType := none }, accessFlags := 9, code := some k8c14 }
/-- java/lang/StringUTF16 -/
def k8 : Class := { plain "java/lang/StringUTF16" (some 0) with
  accessFlags := 48
  interfaces := #[]
  cf := some (fileOf pool8 12 #[.nestMembers #[627, 629, 369]] #[{ accessFlags := 0, nameIndex := 9, descriptorIndex := 10, attributes := #[] }, { accessFlags := 9, nameIndex := 109, descriptorIndex := 110, attributes := #[] }, { accessFlags := 9, nameIndex := 15, descriptorIndex := 16, attributes := #[] }, { accessFlags := 8, nameIndex := 113, descriptorIndex := 114, attributes := #[] }, { accessFlags := 8, nameIndex := 73, descriptorIndex := 74, attributes := #[] }, { accessFlags := 9, nameIndex := 50, descriptorIndex := 51, attributes := #[] }, { accessFlags := 9, nameIndex := 121, descriptorIndex := 122, attributes := #[] }, { accessFlags := 8, nameIndex := 261, descriptorIndex := 262, attributes := #[] }, { accessFlags := 9, nameIndex := 117, descriptorIndex := 122, attributes := #[] }, { accessFlags := 9, nameIndex := 117, descriptorIndex := 118, attributes := #[] }, { accessFlags := 9, nameIndex := 586, descriptorIndex := 114, attributes := #[] }, { accessFlags := 9, nameIndex := 392, descriptorIndex := 74, attributes := #[] }, { accessFlags := 9, nameIndex := 140, descriptorIndex := 141, attributes := #[] }, { accessFlags := 9, nameIndex := 69, descriptorIndex := 70, attributes := #[] }, { accessFlags := 9, nameIndex := 175, descriptorIndex := 99, attributes := #[] }] 48 6 #[] #[{ accessFlags := 26, nameIndex := 61, descriptorIndex := 62, attributes := #[] }, { accessFlags := 26, nameIndex := 65, descriptorIndex := 62, attributes := #[] }, { accessFlags := 24, nameIndex := 430, descriptorIndex := 62, attributes := #[] }, { accessFlags := 4120, nameIndex := 46, descriptorIndex := 47, attributes := #[] }])
  fields := #[{ name := "HI_BYTE_SHIFT", type := .int, accessFlags := 26, slot := 0, constantValue := 0 }, { name := "LO_BYTE_SHIFT", type := .int, accessFlags := 26, slot := 1, constantValue := 0 }, { name := "MAX_LENGTH", type := .int, accessFlags := 24, slot := 2, constantValue := 0 }, { name := "$assertionsDisabled", type := .boolean, accessFlags := 4120, slot := 3, constantValue := 0 }]
  methods := #[k8m0, k8m1, k8m2, k8m3, k8m4, k8m5, k8m6, k8m7, k8m8, k8m9, k8m10, k8m11, k8m12, k8m13, k8m14]
  instanceTypes := #[]
  staticTypes := #[.int, .int, .int, .boolean]
  resolved := Array.replicate 635 none
  statics := some 1 }

def pool9 : Array CpInfo := pool [(2, .class_ 4), (1, u "java/lang/Object"), (0, u "<init>"), (0, u "()V"), (0, .class_ 8), (0, u "java/lang/StringBuilder"), (0, .methodref 10 11), (0, .class_ 12), (0, .nameAndType 13 14), (0, u "java/lang/String"), (0, u "length"), (0, u "()I"), (0, .methodref 7 16), (0, .nameAndType 5 17), (0, u "(I)V"), (0, .methodref 10 19), (0, .nameAndType 20 21), (0, u "charAt"), (0, u "(I)C"), (0, .methodref 23 24), (0, .class_ 25), (0, .nameAndType 26 27), (0, u "org/vouchsafe/XsdWhitespace"), (0, u "isWhitespace"), (0, u "(C)Z"), (0, .methodref 7 11), (0, .methodref 7 30), (0, .nameAndType 31 32), (0, u "append"), (0, u "(C)Ljava/lang/StringBuilder;"), (0, .methodref 7 34), (0, .nameAndType 35 36), (0, u "toString"), (0, u "()Ljava/lang/String;"), (2, u "collapse"), (0, u "(Ljava/lang/String;)Ljava/lang/String;")] 3

def k9m0 : Method := { name := "<init>", desc := "()V", sig := { parameters := [], returnType := none }, accessFlags := 2, code := none }
def k9c1 : Code := { maxStack := 3, maxLocals := 5, code := prog_50_method_2_code, exceptionTable := #[], attributes := #[] }
def k9m1 : Method := { name := "collapse", desc := "(Ljava/lang/String;)Ljava/lang/String;", sig := { parameters := [(.object "java/lang/String")], returnType := some (.object "java/lang/String") }, accessFlags := 8, code := some k9c1 }
def k9c2 : Code := { maxStack := 2, maxLocals := 1, code := prog_50_method_3_code, exceptionTable := #[], attributes := #[] }
def k9m2 : Method := { name := "isWhitespace", desc := "(C)Z", sig := { parameters := [.char], returnType := some .boolean }, accessFlags := 10, code := some k9c2 }
/-- org/vouchsafe/XsdWhitespace -/
def k9 : Class := { plain "org/vouchsafe/XsdWhitespace" (some 0) with
  accessFlags := 48
  interfaces := #[]
  cf := some (fileOf pool9 23 #[] #[{ accessFlags := 2, nameIndex := 5, descriptorIndex := 6, attributes := #[] }, { accessFlags := 8, nameIndex := 39, descriptorIndex := 40, attributes := #[] }, { accessFlags := 10, nameIndex := 26, descriptorIndex := 27, attributes := #[] }] 48 2 #[] #[])
  fields := #[]
  methods := #[k9m0, k9m1, k9m2]
  instanceTypes := #[]
  staticTypes := #[]
  resolved := Array.replicate 44 none
  statics := none }

def pool10 : Array CpInfo := pool [(1, .class_ 2), (0, u "java/lang/Appendable"), (0, .class_ 4), (0, u "java/lang/Object")] 9

/-- java/lang/Appendable -/
def k10 : Class := { plain "java/lang/Appendable" (some 0) with
  accessFlags := 1537
  interfaces := #[]
  cf := some (fileOf pool10 1 #[] #[] 1537 3 #[] #[])
  fields := #[]
  methods := #[]
  instanceTypes := #[]
  staticTypes := #[]
  resolved := Array.replicate 14 none
  statics := none }

def pool11 : Array CpInfo := pool [(1, .class_ 2), (0, u "java/lang/String"), (0, .methodref 4 5), (0, .class_ 6), (0, .nameAndType 7 8), (0, u "java/lang/Object"), (0, u "<init>"), (0, u "()V"), (1, .class_ 12), (1, u "java/lang/AbstractStringBuilder"), (0, u "EMPTYVALUE"), (0, u "[B"), (0, .fieldref 10 16), (0, .nameAndType 17 14), (0, u "value"), (0, .fieldref 1 19), (0, .nameAndType 20 21), (0, u "COMPACT_STRINGS"), (0, u "Z"), (0, .fieldref 10 23), (0, .nameAndType 24 25), (0, u "coder"), (0, u "B"), (0, .methodref 27 28), (0, .class_ 29), (0, .nameAndType 30 31), (0, u "java/lang/StringUTF16"), (0, u "newBytesFor"), (0, u "(I)[B"), (2, u "length"), (0, u "()I"), (9, u "append"), (2, .class_ 49), (0, u "java/lang/CharSequence"), (25, u "maybeLatin1"), (3, .fieldref 10 80), (0, .nameAndType 81 82), (0, u "count"), (0, u "I"), (0, .methodref 10 84), (0, .nameAndType 85 86), (0, u "isLatin1"), (0, u "()Z"), (1, .class_ 90), (1, u "java/lang/StringLatin1"), (9, .methodref 10 101), (0, .nameAndType 102 103), (0, u "ensureCapacityInternal"), (0, u "(I)V"), (21, .methodref 88 126), (0, .nameAndType 127 128), (0, u "inflate"), (0, u "([BI[BII)V"), (7, u "([BII)V"), (54, .methodref 88 192), (0, .nameAndType 193 194), (0, u "canEncode"), (0, u "(C)Z"), (0, .methodref 10 196), (0, .nameAndType 127 8), (0, .methodref 27 198), (0, .nameAndType 199 136), (0, u "putCharSB"), (92, u "(C)Ljava/lang/AbstractStringBuilder;"), (110, u "()[B"), (40, .class_ 445), (0, u "java/lang/Appendable"), (106, u "getValue")] 56

def k11m0 : Method := { name := "<init>", desc := "()V", sig := { parameters := [], returnType := none }, accessFlags := 0, code := none }
def k11c1 : Code := { maxStack := 2, maxLocals := 2, code := jdk_68_method_2_code, exceptionTable := #[], attributes := #[] }
def k11m1 : Method := { name := "<init>", desc := "(I)V", sig := { parameters := [.int], returnType := none }, accessFlags := 0, code := some k11c1 }
def k11c2 : Code := { maxStack := 1, maxLocals := 1, code := jdk_68_method_6_code, exceptionTable := #[], attributes := #[] }
def k11m2 : Method := { name := "length", desc := "()I", sig := { parameters := [], returnType := some .int }, accessFlags := 1, code := some k11c2 }
def k11c3 : Code := { maxStack := 4, maxLocals := 3, code := jdk_68_method_9_code, exceptionTable := #[], attributes := #[] }
def k11m3 : Method := { name := "ensureCapacityInternal", desc := "(I)V", sig := { parameters := [.int], returnType := none }, accessFlags := 2, code := some k11c3 }
def k11c4 : Code := { maxStack := 5, maxLocals := 2, code := jdk_68_method_11_code, exceptionTable := #[], attributes := #[] }
def k11m4 : Method := { name := "inflate", desc := "()V", sig := { parameters := [], returnType := none }, accessFlags := 2, code := some k11c4 }
def k11c5 : Code := { maxStack := 5, maxLocals := 2, code := jdk_68_method_31_code, exceptionTable := #[], attributes := #[] }
def k11m5 : Method := { name := "append", desc := "(C)Ljava/lang/AbstractStringBuilder;", sig := { parameters := [.char], returnType := some (.object "java/lang/AbstractStringBuilder") }, accessFlags := 1, code := some k11c5 }
def k11c6 : Code := { maxStack := 1, maxLocals := 1, code := jdk_68_method_64_code, exceptionTable := #[], attributes := #[] }
def k11m6 : Method := { name := "getValue", desc := "()[B", sig := { parameters := [], returnType := some (.array .byte) }, accessFlags := 16, code := some k11c6 }
def k11c7 : Code := { maxStack := 1, maxLocals := 1, code := jdk_68_method_68_code, exceptionTable := #[], attributes := #[] }
def k11m7 : Method := { name := "isLatin1", desc := "()Z", sig := { parameters := [], returnType := some .boolean }, accessFlags := 16, code := some k11c7 }
/-- java/lang/AbstractStringBuilder -/
def k11 : Class := { plain "java/lang/AbstractStringBuilder" (some 0) with
  accessFlags := 1056
  interfaces := #[10, 4]
  cf := some (fileOf pool11 10 #[] #[{ accessFlags := 0, nameIndex := 7, descriptorIndex := 8, attributes := #[] }, { accessFlags := 0, nameIndex := 7, descriptorIndex := 103, attributes := #[] }, { accessFlags := 1, nameIndex := 34, descriptorIndex := 35, attributes := #[] }, { accessFlags := 2, nameIndex := 102, descriptorIndex := 103, attributes := #[] }, { accessFlags := 2, nameIndex := 127, descriptorIndex := 8, attributes := #[] }, { accessFlags := 1, nameIndex := 45, descriptorIndex := 292, attributes := #[] }, { accessFlags := 16, nameIndex := 552, descriptorIndex := 403, attributes := #[] }, { accessFlags := 16, nameIndex := 85, descriptorIndex := 86, attributes := #[] }] 1056 4 #[444, 48] #[{ accessFlags := 0, nameIndex := 17, descriptorIndex := 14, attributes := #[] }, { accessFlags := 0, nameIndex := 24, descriptorIndex := 25, attributes := #[] }, { accessFlags := 0, nameIndex := 75, descriptorIndex := 21, attributes := #[] }, { accessFlags := 0, nameIndex := 81, descriptorIndex := 82, attributes := #[] }, { accessFlags := 26, nameIndex := 13, descriptorIndex := 14, attributes := #[] }])
  fields := #[{ name := "value", type := (.array .byte), accessFlags := 0, slot := 0, constantValue := 0 }, { name := "coder", type := .byte, accessFlags := 0, slot := 1, constantValue := 0 }, { name := "maybeLatin1", type := .boolean, accessFlags := 0, slot := 2, constantValue := 0 }, { name := "count", type := .int, accessFlags := 0, slot := 3, constantValue := 0 }, { name := "EMPTYVALUE", type := (.array .byte), accessFlags := 26, slot := 0, constantValue := 0 }]
  methods := #[k11m0, k11m1, k11m2, k11m3, k11m4, k11m5, k11m6, k11m7]
  instanceTypes := #[(.array .byte), .byte, .boolean, .int]
  staticTypes := #[(.array .byte)]
  resolved := Array.replicate 609 none
  statics := none }

def pool12 : Array CpInfo := pool [(1, .methodref 2 3), (0, .class_ 4), (0, .nameAndType 5 6), (0, u "java/lang/AbstractStringBuilder"), (0, u "<init>"), (0, u "(I)V"), (11, .class_ 20), (1, u "java/lang/String"), (3, .class_ 26), (1, u "java/lang/StringBuilder"), (0, u "append"), (22, .methodref 2 51), (0, .nameAndType 27 52), (0, u "(C)Ljava/lang/AbstractStringBuilder;"), (84, .methodref 18 138), (0, .nameAndType 5 139), (0, u "(Ljava/lang/StringBuilder;)V"), (5, u "()V"), (10, u "()I"), (129, u "(C)Ljava/lang/StringBuilder;"), (56, .methodref 2 344), (0, .nameAndType 345 156), (0, u "length"), (3, .class_ 350), (0, u "java/lang/Appendable"), (0, .class_ 352), (0, u "java/io/Serializable"), (0, .class_ 354), (0, u "java/lang/Comparable"), (0, .class_ 356), (0, u "java/lang/CharSequence"), (0, u "serialVersionUID"), (0, u "J"), (40, u "toString"), (0, u "()Ljava/lang/String;")] 21

def k12m0 : Method := { name := "<init>", desc := "()V", sig := { parameters := [], returnType := none }, accessFlags := 1, code := none }
def k12c1 : Code := { maxStack := 2, maxLocals := 2, code := jdk_67_method_2_code, exceptionTable := #[], attributes := #[] }
def k12m1 : Method := { name := "<init>", desc := "(I)V", sig := { parameters := [.int], returnType := none }, accessFlags := 1, code := some k12c1 }
def k12c2 : Code := { maxStack := 2, maxLocals := 2, code := jdk_67_method_14_code, exceptionTable := #[], attributes := #[] }
def k12m2 : Method := { name := "append", desc := "(C)Ljava/lang/StringBuilder;", sig := { parameters := [.char], returnType := some (.object "java/lang/StringBuilder") }, accessFlags := 1, code := some k12c2 }
def k12c3 : Code := { maxStack := 3, maxLocals := 1, code := jdk_67_method_42_code, exceptionTable := #[], attributes := #[] }
def k12m3 : Method := { name := "toString", desc := "()Ljava/lang/String;", sig := { parameters := [], returnType := some (.object "java/lang/String") }, accessFlags := 1, code := some k12c3 }
def k12c4 : Code := { maxStack := 1, maxLocals := 1, code := jdk_67_method_93_code, exceptionTable := #[], attributes := #[] }
def k12m4 : Method := { name := "length", desc := "()I", sig := { parameters := [], returnType := some .int }, accessFlags := 4161, code := some k12c4 }
/-- java/lang/StringBuilder -/
def k12 : Class := { plain "java/lang/StringBuilder" (some 11) with
  accessFlags := 49
  interfaces := #[10, 2, 3, 4]
  cf := some (fileOf pool12 24 #[] #[{ accessFlags := 1, nameIndex := 5, descriptorIndex := 145, attributes := #[] }, { accessFlags := 1, nameIndex := 5, descriptorIndex := 6, attributes := #[] }, { accessFlags := 1, nameIndex := 27, descriptorIndex := 286, attributes := #[] }, { accessFlags := 1, nameIndex := 399, descriptorIndex := 400, attributes := #[] }, { accessFlags := 4161, nameIndex := 345, descriptorIndex := 156, attributes := #[] }] 49 2 #[349, 351, 353, 355] #[{ accessFlags := 24, nameIndex := 357, descriptorIndex := 358, attributes := #[] }])
  fields := #[{ name := "serialVersionUID", type := .long, accessFlags := 24, slot := 0, constantValue := 0 }]
  methods := #[k12m0, k12m1, k12m2, k12m3, k12m4]
  instanceTypes := #[(.array .byte), .byte, .boolean, .int]
  staticTypes := #[.long]
  resolved := Array.replicate 422 none
  statics := none }

def pool13 : Array CpInfo := pool [(1, .class_ 2), (0, u "java/lang/String"), (1, .class_ 6), (1, u "java/lang/Object"), (0, u "<init>"), (0, u "()V"), (0, .methodref 1 10), (0, .nameAndType 11 12), (0, u "checkIndex"), (0, u "(II)V"), (1, .class_ 16), (1, u "java/lang/StringLatin1"), (0, u "inflate"), (2, .class_ 22), (1, u "java/lang/StringUTF16"), (3, .nameAndType 17 27), (0, u "([BI[BII)V"), (25, u "([BI)C"), (36, u "canEncode"), (14, u "(C)Z"), (15, u "$assertionsDisabled"), (0, u "Z"), (98, .class_ 223), (1, u "java/lang/StringLatin1$LinesSpliterator"), (16, .methodref 20 26), (11, u "charAt"), (137, .class_ 391), (0, u "java/lang/StringLatin1$CharsSpliterator")] 3

def k13m0 : Method := { name := "<init>", desc := "()V", sig := { parameters := [], returnType := none }, accessFlags := 0, code := none }
def k13c1 : Code := { maxStack := 2, maxLocals := 2, code := jdk_43_method_2_code, exceptionTable := #[], attributes := #[] }
def k13m1 : Method := { name := "charAt", desc := "([BI)C", sig := { parameters := [(.array .byte), .int], returnType := some .char }, accessFlags := 9, code := some k13c1 }
def k13c2 : Code := { maxStack := 2, maxLocals := 1, code := jdk_43_method_3_code, exceptionTable := #[], attributes := #[] }
def k13m2 : Method := { name := "canEncode", desc := "(C)Z", sig := { parameters := [.char], returnType := some .boolean }, accessFlags := 9, code := some k13c2 }
def k13c3 : Code := { maxStack := 5, maxLocals := 5, code := jdk_43_method_50_code, exceptionTable := #[], attributes := #[] }
def k13m3 : Method := { name := "inflate", desc := "([BI[BII)V", sig := { parameters := [(.array .byte), .int, (.array .byte), .int, .int], returnType := none }, accessFlags := 9, code := some k13c3 }
/-- java/lang/StringLatin1 -/
def k13 : Class := { plain "java/lang/StringLatin1" (some 0) with
  accessFlags := 48
  interfaces := #[]
  cf := some (fileOf pool13 14 #[.nestMembers #[390, 221]] #[{ accessFlags := 0, nameIndex := 7, descriptorIndex := 8, attributes := #[] }, { accessFlags := 9, nameIndex := 252, descriptorIndex := 53, attributes := #[] }, { accessFlags := 9, nameIndex := 90, descriptorIndex := 105, attributes := #[] }, { accessFlags := 9, nameIndex := 17, descriptorIndex := 27, attributes := #[] }] 48 4 #[] #[{ accessFlags := 4120, nameIndex := 121, descriptorIndex := 122, attributes := #[] }])
  fields := #[{ name := "$assertionsDisabled", type := .boolean, accessFlags := 4120, slot := 0, constantValue := 0 }]
  methods := #[k13m0, k13m1, k13m2, k13m3]
  instanceTypes := #[]
  staticTypes := #[.boolean]
  resolved := Array.replicate 395 none
  statics := none }

def pool14 : Array CpInfo := pool [(2, .class_ 4), (1, u "java/lang/Object"), (0, u "<init>"), (0, u "()V"), (17, .class_ 26), (1, u "jdk/internal/util/Preconditions"), (6, u "checkIndex"), (15, u "checkFromIndexSize"), (5, .class_ 56), (0, u "jdk/internal/util/Preconditions$4"), (57, .class_ 115), (0, u "jdk/internal/util/Preconditions$1"), (7, u "SIOOBE_FORMATTER"), (0, u "Ljava/util/function/BiFunction;"), (0, .class_ 126), (0, u "jdk/internal/util/Preconditions$2"), (3, u "AIOOBE_FORMATTER"), (0, .class_ 132), (0, u "jdk/internal/util/Preconditions$3"), (3, u "IOOBE_FORMATTER"), (41, u "(IILjava/util/function/BiFunction;)I"), (4, u "(IIILjava/util/function/BiFunction;)I")] 10

def k14m0 : Method := { name := "<init>", desc := "()V", sig := { parameters := [], returnType := none }, accessFlags := 1, code := none }
def k14c1 : Code := { maxStack := 3, maxLocals := 3, code := jdk_41_method_11_code, exceptionTable := #[], attributes := #[] }
def k14m1 : Method := { name := "checkIndex", desc := "(IILjava/util/function/BiFunction;)I", sig := { parameters := [.int, .int, (.object "java/util/function/BiFunction")], returnType := some .int }, accessFlags := 9, code := some k14c1 }
def k14c2 : Code := { maxStack := 4, maxLocals := 4, code := jdk_41_method_13_code, exceptionTable := #[], attributes := #[] }
def k14m2 : Method := { name := "checkFromIndexSize", desc := "(IIILjava/util/function/BiFunction;)I", sig := { parameters := [.int, .int, .int, (.object "java/util/function/BiFunction")], returnType := some .int }, accessFlags := 9, code := some k14c2 }
/-- jdk/internal/util/Preconditions -/
def k14 : Class := { plain "jdk/internal/util/Preconditions" (some 0) with
  accessFlags := 33
  interfaces := #[]
  cf := some (fileOf pool14 24 #[.nestMembers #[55, 131, 125, 114]] #[{ accessFlags := 1, nameIndex := 5, descriptorIndex := 6, attributes := #[] }, { accessFlags := 9, nameIndex := 33, descriptorIndex := 178, attributes := #[] }, { accessFlags := 9, nameIndex := 49, descriptorIndex := 183, attributes := #[] }] 33 2 #[] #[{ accessFlags := 25, nameIndex := 123, descriptorIndex := 124, attributes := #[] }, { accessFlags := 25, nameIndex := 130, descriptorIndex := 124, attributes := #[] }, { accessFlags := 25, nameIndex := 136, descriptorIndex := 124, attributes := #[] }])
  fields := #[{ name := "SIOOBE_FORMATTER", type := (.object "java/util/function/BiFunction"), accessFlags := 25, slot := 0, constantValue := 0 }, { name := "AIOOBE_FORMATTER", type := (.object "java/util/function/BiFunction"), accessFlags := 25, slot := 1, constantValue := 0 }, { name := "IOOBE_FORMATTER", type := (.object "java/util/function/BiFunction"), accessFlags := 25, slot := 2, constantValue := 0 }]
  methods := #[k14m0, k14m1, k14m2]
  instanceTypes := #[]
  staticTypes := #[(.object "java/util/function/BiFunction"), (.object "java/util/function/BiFunction"), (.object "java/util/function/BiFunction")]
  resolved := Array.replicate 194 none
  statics := some 2 }

def pool15 : Array CpInfo := pool [(2, .class_ 4), (1, u "java/lang/Object"), (0, u "<init>"), (0, u "()V"), (7, .class_ 16), (1, u "java/util/Arrays"), (57, .class_ 76), (1, u "java/util/Arrays$NaturalOrder"), (32, u "()Ljava/lang/Object;"), (3, .class_ 115), (1, u "java/util/Arrays$LegacyMergeSort"), (1, u "Z"), (10, .nameAndType 129 109), (0, u "clone"), (9, u "copyOfRange"), (10, .methodref 151 152), (0, .class_ 153), (0, .nameAndType 154 155), (0, u "java/lang/System"), (0, u "arraycopy"), (0, u "(Ljava/lang/Object;ILjava/lang/Object;II)V"), (148, .methodref 305 306), (0, .class_ 307), (0, .nameAndType 308 309), (0, u "java/lang/Math"), (0, u "min"), (0, u "(II)I"), (0, .methodref 311 128), (0, .class_ 312), (0, u "[B"), (26, .methodref 14 340), (0, .nameAndType 341 342), (0, u "copyOfRangeByte"), (0, u "([BII)[B"), (0, .methodref 14 344), (0, .nameAndType 345 346), (0, u "checkLength"), (0, u "(II)V"), (28, .class_ 376), (0, u "java/util/Arrays$ArrayList"), (68, u "$assertionsDisabled"), (269, u "MIN_ARRAY_SORT_GRAN"), (0, u "I"), (2, u "INSERTIONSORT_THRESHOLD"), (255, .class_ 976), (0, u "java/util/Arrays$ArrayItr")] 52

def k15m0 : Method := { name := "<init>", desc := "()V", sig := { parameters := [], returnType := none }, accessFlags := 2, code := none }
def k15c1 : Code := { maxStack := 4, maxLocals := 2, code := jdk_65_method_131_code, exceptionTable := #[], attributes := #[] }
def k15m1 : Method := { name := "checkLength", desc := "(II)V", sig := { parameters := [.int, .int], returnType := none }, accessFlags := 10, code := some k15c1 }
def k15c2 : Code := { maxStack := 3, maxLocals := 3, code := jdk_65_method_132_code, exceptionTable := #[], attributes := #[] }
def k15m2 : Method := { name := "copyOfRange", desc := "([BII)[B", sig := { parameters := [(.array .byte), .int, .int], returnType := some (.array .byte) }, accessFlags := 9, code := some k15c2 }
def k15c3 : Code := { maxStack := 6, maxLocals := 5, code := jdk_65_method_133_code, exceptionTable := #[], attributes := #[] }
def k15m3 : Method := { name := "copyOfRangeByte", desc := "([BII)[B", sig := { parameters := [(.array .byte), .int, .int], returnType := some (.array .byte) }, accessFlags := 10, code := some k15c3 }
/-- java/util/Arrays -/
def k15 : Class := { plain "java/util/Arrays" (some 0) with
  accessFlags := 49
  interfaces := #[]
  cf := some (fileOf pool15 14 #[.nestMembers #[975, 375, 113, 74]] #[{ accessFlags := 2, nameIndex := 5, descriptorIndex := 6, attributes := #[] }, { accessFlags := 10, nameIndex := 345, descriptorIndex := 346, attributes := #[] }, { accessFlags := 9, nameIndex := 139, descriptorIndex := 342, attributes := #[] }, { accessFlags := 10, nameIndex := 341, descriptorIndex := 342, attributes := #[] }] 49 2 #[] #[{ accessFlags := 26, nameIndex := 715, descriptorIndex := 716, attributes := #[] }, { accessFlags := 26, nameIndex := 719, descriptorIndex := 716, attributes := #[] }, { accessFlags := 4120, nameIndex := 445, descriptorIndex := 117, attributes := #[] }])
  fields := #[{ name := "MIN_ARRAY_SORT_GRAN", type := .int, accessFlags := 26, slot := 0, constantValue := 0 }, { name := "INSERTIONSORT_THRESHOLD", type := .int, accessFlags := 26, slot := 1, constantValue := 0 }, { name := "$assertionsDisabled", type := .boolean, accessFlags := 4120, slot := 2, constantValue := 0 }]
  methods := #[k15m0, k15m1, k15m2, k15m3]
  instanceTypes := #[]
  staticTypes := #[.int, .int, .boolean]
  resolved := Array.replicate 1029 none
  statics := none }

def pool16 : Array CpInfo := pool [(1, .class_ 2), (0, u "java/lang/Cloneable"), (0, .class_ 4), (0, u "java/lang/Object")] 2

/-- java/lang/Cloneable -/
def k16 : Class := { plain "java/lang/Cloneable" (some 0) with
  accessFlags := 1537
  interfaces := #[]
  cf := some (fileOf pool16 1 #[] #[] 1537 3 #[] #[])
  fields := #[]
  methods := #[]
  instanceTypes := #[]
  staticTypes := #[]
  resolved := Array.replicate 7 none
  statics := none }

def pool17 : Array CpInfo := pool [(1, .class_ 2), (0, u "java/lang/Math"), (1, .class_ 6), (1, u "java/lang/Object"), (0, u "<init>"), (0, u "()V"), (89, .class_ 100), (1, u "java/lang/Math$RandomNumberGeneratorHolder"), (71, u "negativeZeroFloatBits"), (0, u "J"), (2, u "negativeZeroDoubleBits"), (24, u "min"), (43, u "$assertionsDisabled"), (0, u "Z"), (88, u "(II)I"), (2, u "twoToTheDoubleScaleDown"), (0, u "D"), (4, u "twoToTheDoubleScaleUp"), (9, u "E"), (3, u "PI"), (2, u "TAU"), (2, u "DEGREES_TO_RADIANS"), (0, u "RADIANS_TO_DEGREES")] 94

def k17m0 : Method := { name := "<init>", desc := "()V", sig := { parameters := [], returnType := none }, accessFlags := 2, code := none }
def k17c1 : Code := { maxStack := 2, maxLocals := 2, code := jdk_29_method_69_code, exceptionTable := #[], attributes := #[] }
def k17m1 : Method := { name := "min", desc := "(II)I", sig := { parameters := [.int, .int], returnType := some .int }, accessFlags := 9, code := some k17c1 }
/-- java/lang/Math -/
def k17 : Class := { plain "java/lang/Math" (some 0) with
  accessFlags := 49
  interfaces := #[]
  cf := some (fileOf pool17 1 #[.nestMembers #[98]] #[{ accessFlags := 2, nameIndex := 7, descriptorIndex := 8, attributes := #[] }, { accessFlags := 9, nameIndex := 201, descriptorIndex := 335, attributes := #[] }] 49 4 #[] #[{ accessFlags := 25, nameIndex := 354, descriptorIndex := 339, attributes := #[] }, { accessFlags := 25, nameIndex := 358, descriptorIndex := 339, attributes := #[] }, { accessFlags := 25, nameIndex := 361, descriptorIndex := 339, attributes := #[] }, { accessFlags := 26, nameIndex := 364, descriptorIndex := 339, attributes := #[] }, { accessFlags := 26, nameIndex := 365, descriptorIndex := 339, attributes := #[] }, { accessFlags := 26, nameIndex := 172, descriptorIndex := 173, attributes := #[] }, { accessFlags := 26, nameIndex := 176, descriptorIndex := 173, attributes := #[] }, { accessFlags := 8, nameIndex := 344, descriptorIndex := 339, attributes := #[] }, { accessFlags := 8, nameIndex := 338, descriptorIndex := 339, attributes := #[] }, { accessFlags := 4120, nameIndex := 245, descriptorIndex := 246, attributes := #[] }])
  fields := #[{ name := "E", type := .double, accessFlags := 25, slot := 0, constantValue := 0 }, { name := "PI", type := .double, accessFlags := 25, slot := 1, constantValue := 0 }, { name := "TAU", type := .double, accessFlags := 25, slot := 2, constantValue := 0 }, { name := "DEGREES_TO_RADIANS", type := .double, accessFlags := 26, slot := 3, constantValue := 0 }, { name := "RADIANS_TO_DEGREES", type := .double, accessFlags := 26, slot := 4, constantValue := 0 }, { name := "negativeZeroFloatBits", type := .long, accessFlags := 26, slot := 5, constantValue := 0 }, { name := "negativeZeroDoubleBits", type := .long, accessFlags := 26, slot := 6, constantValue := 0 }, { name := "twoToTheDoubleScaleUp", type := .double, accessFlags := 8, slot := 7, constantValue := 0 }, { name := "twoToTheDoubleScaleDown", type := .double, accessFlags := 8, slot := 8, constantValue := 0 }, { name := "$assertionsDisabled", type := .boolean, accessFlags := 4120, slot := 9, constantValue := 0 }]
  methods := #[k17m0, k17m1]
  instanceTypes := #[]
  staticTypes := #[.double, .double, .double, .double, .double, .long, .long, .double, .double, .boolean]
  resolved := Array.replicate 460 none
  statics := none }

def pool18 : Array CpInfo := pool [(2, .class_ 4), (1, u "java/lang/Object"), (0, u "<init>"), (0, u "()V"), (1, .class_ 10), (1, u "java/lang/System"), (0, u "allowSecurityManager"), (0, u "I"), (16, u "cons"), (0, u "Ljava/io/Console;"), (77, .class_ 110), (1, u "java/lang/System$CallersHolder"), (43, u "initialErrStream"), (0, u "Ljava/io/PrintStream;"), (19, u "security"), (0, u "Ljava/lang/SecurityManager;"), (31, .class_ 209), (0, u "java/lang/System$1"), (7, u "props"), (0, u "Ljava/util/Properties;"), (2, u "lineSeparator"), (0, u "Ljava/lang/String;"), (96, .class_ 321), (1, u "java/lang/System$LoggerFinder"), (5, .class_ 328), (0, u "java/lang/System$Logger"), (67, u "err"), (2, u "out"), (91, u "notSupportedJnuEncoding"), (15, u "in"), (17, u "initialIn"), (0, u "Ljava/io/InputStream;"), (35, u "bootLayer"), (0, u "Ljava/lang/ModuleLayer;"), (99, .class_ 664), (0, u "java/lang/System$2"), (9, u "NEVER"), (2, u "MAYBE"), (49, u "arraycopy"), (0, u "(Ljava/lang/Object;ILjava/lang/Object;II)V"), (72, .class_ 802), (0, u "java/lang/System$Logger$Level")] 31

def k18m0 : Method := { name := "<init>", desc := "()V", sig := { parameters := [], returnType := none }, accessFlags := 2, code := none }
def k18m1 : Method := { name := "arraycopy", desc := "(Ljava/lang/Object;ILjava/lang/Object;II)V", sig := { parameters := [(.object "java/lang/Object"), .int, (.object "java/lang/Object"), .int, .int], returnType := none }, accessFlags := 265, code := none }
/-- java/lang/System -/
def k18 : Class := { plain "java/lang/System" (some 0) with
  accessFlags := 49
  interfaces := #[]
  cf := some (fileOf pool18 8 #[.nestMembers #[319, 327, 801, 108, 663, 208]] #[{ accessFlags := 2, nameIndex := 5, descriptorIndex := 6, attributes := #[] }, { accessFlags := 265, nameIndex := 727, descriptorIndex := 728, attributes := #[] }] 49 2 #[] #[{ accessFlags := 25, nameIndex := 507, descriptorIndex := 526, attributes := #[] }, { accessFlags := 25, nameIndex := 399, descriptorIndex := 155, attributes := #[] }, { accessFlags := 25, nameIndex := 396, descriptorIndex := 155, attributes := #[] }, { accessFlags := 10, nameIndex := 525, descriptorIndex := 526, attributes := #[] }, { accessFlags := 26, nameIndex := 674, descriptorIndex := 12, attributes := #[] }, { accessFlags := 26, nameIndex := 677, descriptorIndex := 12, attributes := #[] }, { accessFlags := 10, nameIndex := 11, descriptorIndex := 12, attributes := #[] }, { accessFlags := 74, nameIndex := 175, descriptorIndex := 176, attributes := #[] }, { accessFlags := 10, nameIndex := 491, descriptorIndex := 222, attributes := #[] }, { accessFlags := 74, nameIndex := 29, descriptorIndex := 30, attributes := #[] }, { accessFlags := 74, nameIndex := 154, descriptorIndex := 155, attributes := #[] }, { accessFlags := 10, nameIndex := 217, descriptorIndex := 218, attributes := #[] }, { accessFlags := 10, nameIndex := 221, descriptorIndex := 222, attributes := #[] }, { accessFlags := 8, nameIndex := 562, descriptorIndex := 563, attributes := #[] }])
  fields := #[{ name := "in", type := (.object "java/io/InputStream"), accessFlags := 25, slot := 0, constantValue := 0 }, { name := "out", type := (.object "java/io/PrintStream"), accessFlags := 25, slot := 1, constantValue := 0 }, { name := "err", type := (.object "java/io/PrintStream"), accessFlags := 25, slot := 2, constantValue := 0 }, { name := "initialIn", type := (.object "java/io/InputStream"), accessFlags := 10, slot := 3, constantValue := 0 }, { name := "NEVER", type := .int, accessFlags := 26, slot := 4, constantValue := 0 }, { name := "MAYBE", type := .int, accessFlags := 26, slot := 5, constantValue := 0 }, { name := "allowSecurityManager", type := .int, accessFlags := 10, slot := 6, constantValue := 0 }, { name := "security", type := (.object "java/lang/SecurityManager"), accessFlags := 74, slot := 7, constantValue := 0 }, { name := "notSupportedJnuEncoding", type := (.object "java/lang/String"), accessFlags := 10, slot := 8, constantValue := 0 }, { name := "cons", type := (.object "java/io/Console"), accessFlags := 74, slot := 9, constantValue := 0 }, { name := "initialErrStream", type := (.object "java/io/PrintStream"), accessFlags := 74, slot := 10, constantValue := 0 }, { name := "props", type := (.object "java/util/Properties"), accessFlags := 10, slot := 11, constantValue := 0 }, { name := "lineSeparator", type := (.object "java/lang/String"), accessFlags := 10, slot := 12, constantValue := 0 }, { name := "bootLayer", type := (.object "java/lang/ModuleLayer"), accessFlags := 8, slot := 13, constantValue := 0 }]
  methods := #[k18m0, k18m1]
  instanceTypes := #[]
  staticTypes := #[(.object "java/io/InputStream"), (.object "java/io/PrintStream"), (.object "java/io/PrintStream"), (.object "java/io/InputStream"), .int, .int, .int, (.object "java/lang/SecurityManager"), (.object "java/lang/String"), (.object "java/io/Console"), (.object "java/io/PrintStream"), (.object "java/util/Properties"), (.object "java/lang/String"), (.object "java/lang/ModuleLayer")]
  resolved := Array.replicate 834 none
  statics := none }

def pool19 : Array CpInfo := pool [(9, u "<init>"), (6, .class_ 18), (1, u "java/lang/Object"), (0, u "()V"), (1, .class_ 23), (1, u "jdk/internal/util/ArraysSupport"), (0, u "LOG2_ARRAY_LONG_INDEX_SCALE"), (0, u "I"), (2, u "U"), (0, u "Ljdk/internal/misc/Unsafe;"), (8, u "BIG_ENDIAN"), (0, u "Z"), (8, u "LOG2_BYTE_BIT_SIZE"), (4, u "LOG2_ARRAY_INT_INDEX_SCALE"), (54, u "JLA"), (0, u "Ljdk/internal/access/JavaLangAccess;"), (11, u "LOG2_ARRAY_BOOLEAN_INDEX_SCALE"), (9, u "LOG2_ARRAY_BYTE_INDEX_SCALE"), (5, u "LOG2_ARRAY_CHAR_INDEX_SCALE"), (5, u "LOG2_ARRAY_SHORT_INDEX_SCALE"), (18, u "LOG2_ARRAY_FLOAT_INDEX_SCALE"), (24, u "LOG2_ARRAY_DOUBLE_INDEX_SCALE"), (89, u "T_BOOLEAN"), (2, u "T_CHAR"), (1, u "T_FLOAT"), (1, u "T_DOUBLE"), (1, u "T_BYTE"), (1, u "T_SHORT"), (1, u "T_INT"), (1, u "T_LONG"), (1, u "SOFT_MAX_ARRAY_LENGTH")] 83

def k19m0 : Method := { name := "<init>", desc := "()V", sig := { parameters := [], returnType := none }, accessFlags := 2, code := none }
/-- jdk/internal/util/ArraysSupport -/
def k19 : Class := { plain "jdk/internal/util/ArraysSupport" (some 0) with
  accessFlags := 33
  interfaces := #[]
  cf := some (fileOf pool19 21 #[] #[{ accessFlags := 2, nameIndex := 9, descriptorIndex := 19, attributes := #[] }] 33 16 #[] #[{ accessFlags := 24, nameIndex := 28, descriptorIndex := 29, attributes := #[] }, { accessFlags := 26, nameIndex := 38, descriptorIndex := 39, attributes := #[] }, { accessFlags := 25, nameIndex := 121, descriptorIndex := 25, attributes := #[] }, { accessFlags := 25, nameIndex := 131, descriptorIndex := 25, attributes := #[] }, { accessFlags := 25, nameIndex := 137, descriptorIndex := 25, attributes := #[] }, { accessFlags := 25, nameIndex := 143, descriptorIndex := 25, attributes := #[] }, { accessFlags := 25, nameIndex := 53, descriptorIndex := 25, attributes := #[] }, { accessFlags := 25, nameIndex := 24, descriptorIndex := 25, attributes := #[] }, { accessFlags := 25, nameIndex := 162, descriptorIndex := 25, attributes := #[] }, { accessFlags := 25, nameIndex := 187, descriptorIndex := 25, attributes := #[] }, { accessFlags := 26, nameIndex := 48, descriptorIndex := 25, attributes := #[] }, { accessFlags := 25, nameIndex := 277, descriptorIndex := 25, attributes := #[] }, { accessFlags := 25, nameIndex := 280, descriptorIndex := 25, attributes := #[] }, { accessFlags := 25, nameIndex := 282, descriptorIndex := 25, attributes := #[] }, { accessFlags := 25, nameIndex := 284, descriptorIndex := 25, attributes := #[] }, { accessFlags := 25, nameIndex := 286, descriptorIndex := 25, attributes := #[] }, { accessFlags := 25, nameIndex := 288, descriptorIndex := 25, attributes := #[] }, { accessFlags := 25, nameIndex := 290, descriptorIndex := 25, attributes := #[] }, { accessFlags := 25, nameIndex := 292, descriptorIndex := 25, attributes := #[] }, { accessFlags := 26, nameIndex := 108, descriptorIndex := 109, attributes := #[] }, { accessFlags := 25, nameIndex := 294, descriptorIndex := 25, attributes := #[] }])
  fields := #[{ name := "U", type := (.object "jdk/internal/misc/Unsafe"), accessFlags := 24, slot := 0, constantValue := 0 }, { name := "BIG_ENDIAN", type := .boolean, accessFlags := 26, slot := 1, constantValue := 0 }, { name := "LOG2_ARRAY_BOOLEAN_INDEX_SCALE", type := .int, accessFlags := 25, slot := 2, constantValue := 0 }, { name := "LOG2_ARRAY_BYTE_INDEX_SCALE", type := .int, accessFlags := 25, slot := 3, constantValue := 0 }, { name := "LOG2_ARRAY_CHAR_INDEX_SCALE", type := .int, accessFlags := 25, slot := 4, constantValue := 0 }, { name := "LOG2_ARRAY_SHORT_INDEX_SCALE", type := .int, accessFlags := 25, slot := 5, constantValue := 0 }, { name := "LOG2_ARRAY_INT_INDEX_SCALE", type := .int, accessFlags := 25, slot := 6, constantValue := 0 }, { name := "LOG2_ARRAY_LONG_INDEX_SCALE", type := .int, accessFlags := 25, slot := 7, constantValue := 0 }, { name := "LOG2_ARRAY_FLOAT_INDEX_SCALE", type := .int, accessFlags := 25, slot := 8, constantValue := 0 }, { name := "LOG2_ARRAY_DOUBLE_INDEX_SCALE", type := .int, accessFlags := 25, slot := 9, constantValue := 0 }, { name := "LOG2_BYTE_BIT_SIZE", type := .int, accessFlags := 26, slot := 10, constantValue := 0 }, { name := "T_BOOLEAN", type := .int, accessFlags := 25, slot := 11, constantValue := 0 }, { name := "T_CHAR", type := .int, accessFlags := 25, slot := 12, constantValue := 0 }, { name := "T_FLOAT", type := .int, accessFlags := 25, slot := 13, constantValue := 0 }, { name := "T_DOUBLE", type := .int, accessFlags := 25, slot := 14, constantValue := 0 }, { name := "T_BYTE", type := .int, accessFlags := 25, slot := 15, constantValue := 0 }, { name := "T_SHORT", type := .int, accessFlags := 25, slot := 16, constantValue := 0 }, { name := "T_INT", type := .int, accessFlags := 25, slot := 17, constantValue := 0 }, { name := "T_LONG", type := .int, accessFlags := 25, slot := 18, constantValue := 0 }, { name := "JLA", type := (.object "jdk/internal/access/JavaLangAccess"), accessFlags := 26, slot := 19, constantValue := 0 }, { name := "SOFT_MAX_ARRAY_LENGTH", type := .int, accessFlags := 25, slot := 20, constantValue := 0 }]
  methods := #[k19m0]
  instanceTypes := #[]
  staticTypes := #[(.object "jdk/internal/misc/Unsafe"), .boolean, .int, .int, .int, .int, .int, .int, .int, .int, .int, .int, .int, .int, .int, .int, .int, .int, .int, (.object "jdk/internal/access/JavaLangAccess"), .int]
  resolved := Array.replicate 378 none
  statics := none }

/-- the primitive byte -/
def k20 : Class := { plain "byte" none with kind := .primitive 'B', accessFlags := 0x411 }
/-- [B -/
def k21 : Class := { plain "[B" (some 0) with kind := .array 20 .byte, interfaces := #[16, 2], accessFlags := 1041 }

/-- the primitive char -/
def k22 : Class := { plain "char" none with kind := .primitive 'C', accessFlags := 0x411 }
/-- [C -/
def k23 : Class := { plain "[C" (some 0) with kind := .array 22 .char, interfaces := #[16, 2], accessFlags := 1041 }

def heap : Heap := #[{ cls := 7, slots := #[.long 0, .int 1, .null, .int 0, .null, .int 0, .int 0], vm := .statics 7 },
  { cls := 8, slots := #[.int 0, .int 8, .int 0, .int 1], vm := .statics 8 },
  { cls := 14, slots := #[.null, .null, .null], vm := .statics 14 }]
def classes : Array Class := #[k0, k1, k2, k3, k4, k5, k6, k7, k8, k9, k10, k11, k12, k13, k14, k15, k16, k17, k18, k19, k20, k21, k22, k23]
def interned : List (Array UInt16 × Addr) := []
def slotsUsed : Nat := 14
def theMethod : MethodId := ⟨1, 6⟩
def args0 : Array Value := #[.int 5, .int 5, .int 5, .int 5, .int 5]
def aboutOver (below : List Frame) : State where
  vm := { classes := classes, interned := interned.toArray }
  heap := heap
  slotsUsed := slotsUsed
  threads := #[{ frames := .invoking theMethod args0 :: below }]
def below0 : List Frame := [.native { method := ⟨0, 0⟩, args := #[] }]
def about1 : State := aboutOver below0
def p0 : Program := .bare "" "" ""
def e0 : Env := launch0.env 0 0 0
theorem w_frames : about1.frames = Frame.invoking theMethod args0 :: below0 := rfl
set_option maxRecDepth 65536 in
theorem w_args : argsFit about1.vm theMethod args0 = true := by decide +kernel
set_option maxRecDepth 65536 in
theorem w_heap : heapFits about1 = true := by decide +kernel
set_option maxRecDepth 65536 in
theorem w_runnable : about1.curStatus? = some .runnable := by decide +kernel
set_option maxRecDepth 65536 in
theorem w_alone : about1.alone = true := by decide +kernel
set_option maxRecDepth 65536 in
theorem w_named : about1.methodNamed? x = some theMethod := by decide +kernel
set_option maxRecDepth 65536 in
theorem w_hears : about1.hears theMethod below0 = true := by decide +kernel
set_option maxRecDepth 65536 in
theorem w_ripe : about1.ripe theMethod args0 below0 = true := by decide +kernel
theorem w_running : about1.status = .running := rfl
set_option maxRecDepth 65536 in
theorem w_room : about1.hasRoom e0.platform room_1 = true :=
  launch0.hasRoom_least _ room_1 (by decide +kernel) (by decide +kernel) (by decide +kernel) (by decide +kernel) (by decide +kernel) (by decide +kernel)
theorem allAtoms_all (ts : List Jvm.Cond) (a : Array Jvm.Value) (st : Jvm.State) : (allAtoms ts).before a st = ts.all (fun c => c.before a st) := by
  induction ts with
  | nil => rfl
  | cons c t ih =>
    show (Jvm.Cond.and c (allAtoms t)).before a st = _
    rw [Jvm.Cond.before_and, ih, List.all_cons]
def words1 : List Jvm.Cond := Jvm.Cond.code x code maxLocals ret :: tables_1
/-- a 'code' word, met by the world's own term for the bytes: nothing is compared byte by byte -/
theorem code_word {y : MethodName} {bytes : ByteArray} {mx : Nat} {rt : Option FieldType} {a : Array Value} {s : State} {m : MethodId} {meth : Method} {c : Code} (h1 : s.methodNamed? y = some m) (h2 : s.vm.method? m = some meth) (h3 : meth.code = some c) (h4 : c.code = bytes)
    (h5 : (c.maxLocals == mx && c.exceptionTable.isEmpty && decide (c.maxStack ≤ mostOperands) && decide (meth.sig.returnType = rt) && !meth.locks && decide (parseMethodDescriptor y.desc = some meth.sig)) = true) : (Jvm.Cond.code y bytes mx rt).before a s = true := by
  simp only [Bool.and_eq_true, beq_iff_eq, Bool.not_eq_true', decide_eq_true_eq] at h5
  obtain ⟨⟨⟨⟨⟨g1, g2⟩, g3⟩, g4⟩, g5⟩, g6⟩ := h5
  simp [Cond.before, Cond.holds, Cond.value, h1, h2, h3, h4, g1, g2, g3, g4, g5, g6]
def isCode : Jvm.Cond → Bool
  | .code _ _ _ _ => true
  | _ => false
theorem all_split {L : List Jvm.Cond} {P : Jvm.Cond → Bool} (h1 : L.all (fun c => isCode c || P c) = true) (h2 : ∀ c ∈ L.filter isCode, P c = true) : L.all P = true := by
  refine List.all_eq_true.mpr fun c hc => ?_
  have h := List.all_eq_true.mp h1 c hc
  rcases Bool.eq_false_or_eq_true (isCode c) with hi | hi
  · exact h2 c (List.mem_filter.mpr ⟨hc, hi⟩)
  · simpa [hi] using h
set_option maxRecDepth 65536 in
theorem w_c0 : (Jvm.Cond.code x code maxLocals ret).before args0 about1 = true := code_word (m := ⟨1, 6⟩) (meth := k1m6) (c := k1c6) (by decide +kernel) rfl rfl rfl (by decide +kernel)
set_option maxRecDepth 65536 in
theorem w_c1 : (Jvm.Cond.code ({ cls := "org/vouchsafe/XsdWhitespaceCollapsePinLaw", name := "draw", desc := "(I)C" } : Jvm.MethodName) method_2_code (2 : Nat) (Option.some Jvm.ClassFile.FieldType.char)).before args0 about1 = true := code_word (m := ⟨1, 1⟩) (meth := k1m1) (c := k1c1) (by decide +kernel) rfl rfl rfl (by decide +kernel)
set_option maxRecDepth 65536 in
theorem w_c2 : (Jvm.Cond.code ({ cls := "java/lang/String", name := "<init>", desc := "([C)V" } : Jvm.MethodName) jdk_42_method_3_code (2 : Nat) (Option.none : Option Jvm.ClassFile.FieldType)).before args0 about1 = true := code_word (m := ⟨7, 1⟩) (meth := k7m1) (c := k7c1) (by decide +kernel) rfl rfl rfl (by decide +kernel)
set_option maxRecDepth 65536 in
theorem w_c3 : (Jvm.Cond.code ({ cls := "java/lang/String", name := "<init>", desc := "([CIILjava/lang/Void;)V" } : Jvm.MethodName) jdk_42_method_149_code (6 : Nat) (Option.none : Option Jvm.ClassFile.FieldType)).before args0 about1 = true := code_word (m := ⟨7, 5⟩) (meth := k7m5) (c := k7c5) (by decide +kernel) rfl rfl rfl (by decide +kernel)
set_option maxRecDepth 65536 in
theorem w_c4 : (Jvm.Cond.code ({ cls := "java/lang/Object", name := "<init>", desc := "()V" } : Jvm.MethodName) object_method_1_code (1 : Nat) (Option.none : Option Jvm.ClassFile.FieldType)).before args0 about1 = true := code_word (m := ⟨0, 0⟩) (meth := k0m0) (c := k0c0) (by decide +kernel) rfl rfl rfl (by decide +kernel)
set_option maxRecDepth 65536 in
theorem w_c5 : (Jvm.Cond.code ({ cls := "java/lang/StringUTF16", name := "compress", desc := "([CII)[B" } : Jvm.MethodName) jdk_52_method_16_code (6 : Nat) (Option.some (Jvm.ClassFile.FieldType.array Jvm.ClassFile.FieldType.byte))).before args0 about1 = true := code_word (m := ⟨8, 8⟩) (meth := k8m8) (c := k8c8) (by decide +kernel) rfl rfl rfl (by decide +kernel)
set_option maxRecDepth 65536 in
theorem w_c6 : (Jvm.Cond.code ({ cls := "java/lang/StringUTF16", name := "compress", desc := "([CI[BII)I" } : Jvm.MethodName) jdk_52_method_21_code (7 : Nat) (Option.some Jvm.ClassFile.FieldType.int)).before args0 about1 = true := code_word (m := ⟨8, 9⟩) (meth := k8m9) (c := k8c9) (by decide +kernel) rfl rfl rfl (by decide +kernel)
set_option maxRecDepth 65536 in
theorem w_c7 : (Jvm.Cond.code ({ cls := "java/lang/StringUTF16", name := "coderFromArrayLen", desc := "([BI)B" } : Jvm.MethodName) jdk_52_method_15_code (2 : Nat) (Option.some Jvm.ClassFile.FieldType.byte)).before args0 about1 = true := code_word (m := ⟨8, 7⟩) (meth := k8m7) (c := k8c7) (by decide +kernel) rfl rfl rfl (by decide +kernel)
set_option maxRecDepth 65536 in
theorem w_c8 : (Jvm.Cond.code ({ cls := "org/vouchsafe/XsdWhitespace", name := "collapse", desc := "(Ljava/lang/String;)Ljava/lang/String;" } : Jvm.MethodName) prog_50_method_2_code (5 : Nat) (Option.some (Jvm.ClassFile.FieldType.object "java/lang/String"))).before args0 about1 = true := code_word (m := ⟨9, 1⟩) (meth := k9m1) (c := k9c1) (by decide +kernel) rfl rfl rfl (by decide +kernel)
set_option maxRecDepth 65536 in
theorem w_c9 : (Jvm.Cond.code ({ cls := "java/lang/String", name := "length", desc := "()I" } : Jvm.MethodName) jdk_42_method_54_code (1 : Nat) (Option.some Jvm.ClassFile.FieldType.int)).before args0 about1 = true := code_word (m := ⟨7, 3⟩) (meth := k7m3) (c := k7c3) (by decide +kernel) rfl rfl rfl (by decide +kernel)
set_option maxRecDepth 65536 in
theorem w_c10 : (Jvm.Cond.code ({ cls := "java/lang/String", name := "coder", desc := "()B" } : Jvm.MethodName) jdk_42_method_152_code (1 : Nat) (Option.some Jvm.ClassFile.FieldType.byte)).before args0 about1 = true := code_word (m := ⟨7, 7⟩) (meth := k7m7) (c := k7c7) (by decide +kernel) rfl rfl rfl (by decide +kernel)
set_option maxRecDepth 65536 in
theorem w_c11 : (Jvm.Cond.code ({ cls := "java/lang/StringBuilder", name := "<init>", desc := "(I)V" } : Jvm.MethodName) jdk_67_method_2_code (2 : Nat) (Option.none : Option Jvm.ClassFile.FieldType)).before args0 about1 = true := code_word (m := ⟨12, 1⟩) (meth := k12m1) (c := k12c1) (by decide +kernel) rfl rfl rfl (by decide +kernel)
set_option maxRecDepth 65536 in
theorem w_c12 : (Jvm.Cond.code ({ cls := "java/lang/AbstractStringBuilder", name := "<init>", desc := "(I)V" } : Jvm.MethodName) jdk_68_method_2_code (2 : Nat) (Option.none : Option Jvm.ClassFile.FieldType)).before args0 about1 = true := code_word (m := ⟨11, 1⟩) (meth := k11m1) (c := k11c1) (by decide +kernel) rfl rfl rfl (by decide +kernel)
set_option maxRecDepth 65536 in
theorem w_c13 : (Jvm.Cond.code ({ cls := "java/lang/String", name := "charAt", desc := "(I)C" } : Jvm.MethodName) jdk_42_method_56_code (2 : Nat) (Option.some Jvm.ClassFile.FieldType.char)).before args0 about1 = true := code_word (m := ⟨7, 4⟩) (meth := k7m4) (c := k7c4) (by decide +kernel) rfl rfl rfl (by decide +kernel)
set_option maxRecDepth 65536 in
theorem w_c14 : (Jvm.Cond.code ({ cls := "java/lang/String", name := "isLatin1", desc := "()Z" } : Jvm.MethodName) jdk_42_method_154_code (1 : Nat) (Option.some Jvm.ClassFile.FieldType.boolean)).before args0 about1 = true := code_word (m := ⟨7, 8⟩) (meth := k7m8) (c := k7c8) (by decide +kernel) rfl rfl rfl (by decide +kernel)
set_option maxRecDepth 65536 in
theorem w_c15 : (Jvm.Cond.code ({ cls := "java/lang/StringLatin1", name := "charAt", desc := "([BI)C" } : Jvm.MethodName) jdk_43_method_2_code (2 : Nat) (Option.some Jvm.ClassFile.FieldType.char)).before args0 about1 = true := code_word (m := ⟨13, 1⟩) (meth := k13m1) (c := k13c1) (by decide +kernel) rfl rfl rfl (by decide +kernel)
set_option maxRecDepth 65536 in
theorem w_c16 : (Jvm.Cond.code ({ cls := "java/lang/String", name := "checkIndex", desc := "(II)V" } : Jvm.MethodName) jdk_42_method_155_code (2 : Nat) (Option.none : Option Jvm.ClassFile.FieldType)).before args0 about1 = true := code_word (m := ⟨7, 9⟩) (meth := k7m9) (c := k7c9) (by decide +kernel) rfl rfl rfl (by decide +kernel)
set_option maxRecDepth 65536 in
theorem w_c17 : (Jvm.Cond.code ({ cls := "jdk/internal/util/Preconditions", name := "checkIndex", desc := "(IILjava/util/function/BiFunction;)I" } : Jvm.MethodName) jdk_41_method_11_code (3 : Nat) (Option.some Jvm.ClassFile.FieldType.int)).before args0 about1 = true := code_word (m := ⟨14, 1⟩) (meth := k14m1) (c := k14c1) (by decide +kernel) rfl rfl rfl (by decide +kernel)
set_option maxRecDepth 65536 in
theorem w_c18 : (Jvm.Cond.code ({ cls := "org/vouchsafe/XsdWhitespace", name := "isWhitespace", desc := "(C)Z" } : Jvm.MethodName) prog_50_method_3_code (1 : Nat) (Option.some Jvm.ClassFile.FieldType.boolean)).before args0 about1 = true := code_word (m := ⟨9, 2⟩) (meth := k9m2) (c := k9c2) (by decide +kernel) rfl rfl rfl (by decide +kernel)
set_option maxRecDepth 65536 in
theorem w_c19 : (Jvm.Cond.code ({ cls := "java/lang/StringBuilder", name := "append", desc := "(C)Ljava/lang/StringBuilder;" } : Jvm.MethodName) jdk_67_method_14_code (2 : Nat) (Option.some (Jvm.ClassFile.FieldType.object "java/lang/StringBuilder"))).before args0 about1 = true := code_word (m := ⟨12, 2⟩) (meth := k12m2) (c := k12c2) (by decide +kernel) rfl rfl rfl (by decide +kernel)
set_option maxRecDepth 65536 in
theorem w_c20 : (Jvm.Cond.code ({ cls := "java/lang/AbstractStringBuilder", name := "append", desc := "(C)Ljava/lang/AbstractStringBuilder;" } : Jvm.MethodName) jdk_68_method_31_code (2 : Nat) (Option.some (Jvm.ClassFile.FieldType.object "java/lang/AbstractStringBuilder"))).before args0 about1 = true := code_word (m := ⟨11, 5⟩) (meth := k11m5) (c := k11c5) (by decide +kernel) rfl rfl rfl (by decide +kernel)
set_option maxRecDepth 65536 in
theorem w_c21 : (Jvm.Cond.code ({ cls := "java/lang/AbstractStringBuilder", name := "ensureCapacityInternal", desc := "(I)V" } : Jvm.MethodName) jdk_68_method_9_code (3 : Nat) (Option.none : Option Jvm.ClassFile.FieldType)).before args0 about1 = true := code_word (m := ⟨11, 3⟩) (meth := k11m3) (c := k11c3) (by decide +kernel) rfl rfl rfl (by decide +kernel)
set_option maxRecDepth 65536 in
theorem w_c22 : (Jvm.Cond.code ({ cls := "java/lang/AbstractStringBuilder", name := "isLatin1", desc := "()Z" } : Jvm.MethodName) jdk_68_method_68_code (1 : Nat) (Option.some Jvm.ClassFile.FieldType.boolean)).before args0 about1 = true := code_word (m := ⟨11, 7⟩) (meth := k11m7) (c := k11c7) (by decide +kernel) rfl rfl rfl (by decide +kernel)
set_option maxRecDepth 65536 in
theorem w_c23 : (Jvm.Cond.code ({ cls := "java/lang/StringLatin1", name := "canEncode", desc := "(C)Z" } : Jvm.MethodName) jdk_43_method_3_code (1 : Nat) (Option.some Jvm.ClassFile.FieldType.boolean)).before args0 about1 = true := code_word (m := ⟨13, 2⟩) (meth := k13m2) (c := k13c2) (by decide +kernel) rfl rfl rfl (by decide +kernel)
set_option maxRecDepth 65536 in
theorem w_c24 : (Jvm.Cond.code ({ cls := "java/lang/StringBuilder", name := "toString", desc := "()Ljava/lang/String;" } : Jvm.MethodName) jdk_67_method_42_code (1 : Nat) (Option.some (Jvm.ClassFile.FieldType.object "java/lang/String"))).before args0 about1 = true := code_word (m := ⟨12, 3⟩) (meth := k12m3) (c := k12c3) (by decide +kernel) rfl rfl rfl (by decide +kernel)
set_option maxRecDepth 65536 in
theorem w_c25 : (Jvm.Cond.code ({ cls := "java/lang/String", name := "<init>", desc := "(Ljava/lang/StringBuilder;)V" } : Jvm.MethodName) jdk_42_method_53_code (2 : Nat) (Option.none : Option Jvm.ClassFile.FieldType)).before args0 about1 = true := code_word (m := ⟨7, 2⟩) (meth := k7m2) (c := k7c2) (by decide +kernel) rfl rfl rfl (by decide +kernel)
set_option maxRecDepth 65536 in
theorem w_c26 : (Jvm.Cond.code ({ cls := "java/lang/String", name := "<init>", desc := "(Ljava/lang/AbstractStringBuilder;Ljava/lang/Void;)V" } : Jvm.MethodName) jdk_42_method_150_code (5 : Nat) (Option.none : Option Jvm.ClassFile.FieldType)).before args0 about1 = true := code_word (m := ⟨7, 6⟩) (meth := k7m6) (c := k7c6) (by decide +kernel) rfl rfl rfl (by decide +kernel)
set_option maxRecDepth 65536 in
theorem w_c27 : (Jvm.Cond.code ({ cls := "java/lang/AbstractStringBuilder", name := "getValue", desc := "()[B" } : Jvm.MethodName) jdk_68_method_64_code (1 : Nat) (Option.some (Jvm.ClassFile.FieldType.array Jvm.ClassFile.FieldType.byte))).before args0 about1 = true := code_word (m := ⟨11, 6⟩) (meth := k11m6) (c := k11c6) (by decide +kernel) rfl rfl rfl (by decide +kernel)
set_option maxRecDepth 65536 in
theorem w_c28 : (Jvm.Cond.code ({ cls := "java/lang/StringBuilder", name := "length", desc := "()I" } : Jvm.MethodName) jdk_67_method_93_code (1 : Nat) (Option.some Jvm.ClassFile.FieldType.int)).before args0 about1 = true := code_word (m := ⟨12, 4⟩) (meth := k12m4) (c := k12c4) (by decide +kernel) rfl rfl rfl (by decide +kernel)
set_option maxRecDepth 65536 in
theorem w_c29 : (Jvm.Cond.code ({ cls := "java/lang/AbstractStringBuilder", name := "length", desc := "()I" } : Jvm.MethodName) jdk_68_method_6_code (1 : Nat) (Option.some Jvm.ClassFile.FieldType.int)).before args0 about1 = true := code_word (m := ⟨11, 2⟩) (meth := k11m2) (c := k11c2) (by decide +kernel) rfl rfl rfl (by decide +kernel)
set_option maxRecDepth 65536 in
theorem w_c30 : (Jvm.Cond.code ({ cls := "java/util/Arrays", name := "copyOfRange", desc := "([BII)[B" } : Jvm.MethodName) jdk_65_method_132_code (3 : Nat) (Option.some (Jvm.ClassFile.FieldType.array Jvm.ClassFile.FieldType.byte))).before args0 about1 = true := code_word (m := ⟨15, 2⟩) (meth := k15m2) (c := k15c2) (by decide +kernel) rfl rfl rfl (by decide +kernel)
set_option maxRecDepth 65536 in
theorem w_c31 : (Jvm.Cond.code ({ cls := "org/vouchsafe/XsdWhitespaceCollapsePinLaw", name := "emit", desc := "([CIICI)I" } : Jvm.MethodName) method_4_code (6 : Nat) (Option.some Jvm.ClassFile.FieldType.int)).before args0 about1 = true := code_word (m := ⟨1, 3⟩) (meth := k1m3) (c := k1c3) (by decide +kernel) rfl rfl rfl (by decide +kernel)
set_option maxRecDepth 65536 in
theorem w_c32 : (Jvm.Cond.code ({ cls := "org/vouchsafe/XsdWhitespaceCollapsePinLaw", name := "ws", desc := "(C)Z" } : Jvm.MethodName) method_3_code (1 : Nat) (Option.some Jvm.ClassFile.FieldType.boolean)).before args0 about1 = true := code_word (m := ⟨1, 2⟩) (meth := k1m2) (c := k1c2) (by decide +kernel) rfl rfl rfl (by decide +kernel)
set_option maxRecDepth 65536 in
theorem w_c33 : (Jvm.Cond.code ({ cls := "org/vouchsafe/XsdWhitespaceCollapsePinLaw", name := "lastAfter", desc := "(ICI)I" } : Jvm.MethodName) method_5_code (3 : Nat) (Option.some Jvm.ClassFile.FieldType.int)).before args0 about1 = true := code_word (m := ⟨1, 4⟩) (meth := k1m4) (c := k1c4) (by decide +kernel) rfl rfl rfl (by decide +kernel)
set_option maxRecDepth 65536 in
theorem w_c34 : (Jvm.Cond.code ({ cls := "org/vouchsafe/XsdWhitespaceCollapsePinLaw", name := "at", desc := "(Ljava/lang/String;[CII)Z" } : Jvm.MethodName) method_6_code (4 : Nat) (Option.some Jvm.ClassFile.FieldType.boolean)).before args0 about1 = true := code_word (m := ⟨1, 5⟩) (meth := k1m5) (c := k1c5) (by decide +kernel) rfl rfl rfl (by decide +kernel)
set_option maxRecDepth 65536 in
theorem w_c35 : (Jvm.Cond.code ({ cls := "java/lang/StringUTF16", name := "toBytes", desc := "([CII)[B" } : Jvm.MethodName) jdk_52_method_14_code (5 : Nat) (Option.some (Jvm.ClassFile.FieldType.array Jvm.ClassFile.FieldType.byte))).before args0 about1 = true := code_word (m := ⟨8, 6⟩) (meth := k8m6) (c := k8c6) (by decide +kernel) rfl rfl rfl (by decide +kernel)
set_option maxRecDepth 65536 in
theorem w_c36 : (Jvm.Cond.code ({ cls := "java/lang/StringUTF16", name := "newBytesFor", desc := "(I)[B" } : Jvm.MethodName) jdk_52_method_2_code (1 : Nat) (Option.some (Jvm.ClassFile.FieldType.array Jvm.ClassFile.FieldType.byte))).before args0 about1 = true := code_word (m := ⟨8, 1⟩) (meth := k8m1) (c := k8c1) (by decide +kernel) rfl rfl rfl (by decide +kernel)
set_option maxRecDepth 65536 in
theorem w_c37 : (Jvm.Cond.code ({ cls := "java/lang/StringUTF16", name := "newBytesLength", desc := "(I)I" } : Jvm.MethodName) jdk_52_method_3_code (1 : Nat) (Option.some Jvm.ClassFile.FieldType.int)).before args0 about1 = true := code_word (m := ⟨8, 2⟩) (meth := k8m2) (c := k8c2) (by decide +kernel) rfl rfl rfl (by decide +kernel)
set_option maxRecDepth 65536 in
theorem w_c38 : (Jvm.Cond.code ({ cls := "java/lang/StringUTF16", name := "putChar", desc := "([BII)V" } : Jvm.MethodName) jdk_52_method_4_code (3 : Nat) (Option.none : Option Jvm.ClassFile.FieldType)).before args0 about1 = true := code_word (m := ⟨8, 3⟩) (meth := k8m3) (c := k8c3) (by decide +kernel) rfl rfl rfl (by decide +kernel)
set_option maxRecDepth 65536 in
theorem w_c39 : (Jvm.Cond.code ({ cls := "java/lang/StringUTF16", name := "getChar", desc := "([BI)C" } : Jvm.MethodName) jdk_52_method_5_code (2 : Nat) (Option.some Jvm.ClassFile.FieldType.char)).before args0 about1 = true := code_word (m := ⟨8, 4⟩) (meth := k8m4) (c := k8c4) (by decide +kernel) rfl rfl rfl (by decide +kernel)
set_option maxRecDepth 65536 in
theorem w_c40 : (Jvm.Cond.code ({ cls := "java/lang/StringUTF16", name := "charAt", desc := "([BI)C" } : Jvm.MethodName) jdk_52_method_83_code (2 : Nat) (Option.some Jvm.ClassFile.FieldType.char)).before args0 about1 = true := code_word (m := ⟨8, 11⟩) (meth := k8m11) (c := k8c11) (by decide +kernel) rfl rfl rfl (by decide +kernel)
set_option maxRecDepth 65536 in
theorem w_c41 : (Jvm.Cond.code ({ cls := "java/lang/StringUTF16", name := "checkIndex", desc := "(I[B)V" } : Jvm.MethodName) jdk_52_method_91_code (2 : Nat) (Option.none : Option Jvm.ClassFile.FieldType)).before args0 about1 = true := code_word (m := ⟨8, 13⟩) (meth := k8m13) (c := k8c13) (by decide +kernel) rfl rfl rfl (by decide +kernel)
set_option maxRecDepth 65536 in
theorem w_c42 : (Jvm.Cond.code ({ cls := "java/lang/StringUTF16", name := "length", desc := "([B)I" } : Jvm.MethodName) jdk_52_method_6_code (1 : Nat) (Option.some Jvm.ClassFile.FieldType.int)).before args0 about1 = true := code_word (m := ⟨8, 5⟩) (meth := k8m5) (c := k8c5) (by decide +kernel) rfl rfl rfl (by decide +kernel)
set_option maxRecDepth 65536 in
theorem w_c43 : (Jvm.Cond.code ({ cls := "java/lang/AbstractStringBuilder", name := "inflate", desc := "()V" } : Jvm.MethodName) jdk_68_method_11_code (2 : Nat) (Option.none : Option Jvm.ClassFile.FieldType)).before args0 about1 = true := code_word (m := ⟨11, 4⟩) (meth := k11m4) (c := k11c4) (by decide +kernel) rfl rfl rfl (by decide +kernel)
set_option maxRecDepth 65536 in
theorem w_c44 : (Jvm.Cond.code ({ cls := "java/lang/StringLatin1", name := "inflate", desc := "([BI[BII)V" } : Jvm.MethodName) jdk_43_method_50_code (5 : Nat) (Option.none : Option Jvm.ClassFile.FieldType)).before args0 about1 = true := code_word (m := ⟨13, 3⟩) (meth := k13m3) (c := k13c3) (by decide +kernel) rfl rfl rfl (by decide +kernel)
set_option maxRecDepth 65536 in
theorem w_c45 : (Jvm.Cond.code ({ cls := "java/lang/StringUTF16", name := "inflate", desc := "([BI[BII)V" } : Jvm.MethodName) jdk_52_method_86_code (6 : Nat) (Option.none : Option Jvm.ClassFile.FieldType)).before args0 about1 = true := code_word (m := ⟨8, 12⟩) (meth := k8m12) (c := k8c12) (by decide +kernel) rfl rfl rfl (by decide +kernel)
set_option maxRecDepth 65536 in
theorem w_c46 : (Jvm.Cond.code ({ cls := "java/lang/StringUTF16", name := "checkBoundsOffCount", desc := "(II[B)V" } : Jvm.MethodName) jdk_52_method_94_code (3 : Nat) (Option.none : Option Jvm.ClassFile.FieldType)).before args0 about1 = true := code_word (m := ⟨8, 14⟩) (meth := k8m14) (c := k8c14) (by decide +kernel) rfl rfl rfl (by decide +kernel)
set_option maxRecDepth 65536 in
theorem w_c47 : (Jvm.Cond.code ({ cls := "java/lang/String", name := "checkBoundsOffCount", desc := "(III)I" } : Jvm.MethodName) jdk_42_method_157_code (3 : Nat) (Option.some Jvm.ClassFile.FieldType.int)).before args0 about1 = true := code_word (m := ⟨7, 10⟩) (meth := k7m10) (c := k7c10) (by decide +kernel) rfl rfl rfl (by decide +kernel)
set_option maxRecDepth 65536 in
theorem w_c48 : (Jvm.Cond.code ({ cls := "jdk/internal/util/Preconditions", name := "checkFromIndexSize", desc := "(IIILjava/util/function/BiFunction;)I" } : Jvm.MethodName) jdk_41_method_13_code (4 : Nat) (Option.some Jvm.ClassFile.FieldType.int)).before args0 about1 = true := code_word (m := ⟨14, 2⟩) (meth := k14m2) (c := k14c2) (by decide +kernel) rfl rfl rfl (by decide +kernel)
set_option maxRecDepth 65536 in
theorem w_c49 : (Jvm.Cond.code ({ cls := "java/lang/StringUTF16", name := "putCharSB", desc := "([BII)V" } : Jvm.MethodName) jdk_52_method_71_code (3 : Nat) (Option.none : Option Jvm.ClassFile.FieldType)).before args0 about1 = true := code_word (m := ⟨8, 10⟩) (meth := k8m10) (c := k8c10) (by decide +kernel) rfl rfl rfl (by decide +kernel)
set_option maxRecDepth 65536 in
theorem w_c50 : (Jvm.Cond.code ({ cls := "java/util/Arrays", name := "copyOfRangeByte", desc := "([BII)[B" } : Jvm.MethodName) jdk_65_method_133_code (5 : Nat) (Option.some (Jvm.ClassFile.FieldType.array Jvm.ClassFile.FieldType.byte))).before args0 about1 = true := code_word (m := ⟨15, 3⟩) (meth := k15m3) (c := k15c3) (by decide +kernel) rfl rfl rfl (by decide +kernel)
set_option maxRecDepth 65536 in
theorem w_c51 : (Jvm.Cond.code ({ cls := "java/util/Arrays", name := "checkLength", desc := "(II)V" } : Jvm.MethodName) jdk_65_method_131_code (2 : Nat) (Option.none : Option Jvm.ClassFile.FieldType)).before args0 about1 = true := code_word (m := ⟨15, 1⟩) (meth := k15m1) (c := k15c1) (by decide +kernel) rfl rfl rfl (by decide +kernel)
set_option maxRecDepth 65536 in
theorem w_c52 : (Jvm.Cond.code ({ cls := "java/lang/Math", name := "min", desc := "(II)I" } : Jvm.MethodName) jdk_29_method_69_code (2 : Nat) (Option.some Jvm.ClassFile.FieldType.int)).before args0 about1 = true := code_word (m := ⟨17, 1⟩) (meth := k17m1) (c := k17c1) (by decide +kernel) rfl rfl rfl (by decide +kernel)
def codes1 : List Jvm.Cond := [Jvm.Cond.code x code maxLocals ret, Jvm.Cond.code ({ cls := "org/vouchsafe/XsdWhitespaceCollapsePinLaw", name := "draw", desc := "(I)C" } : Jvm.MethodName) method_2_code (2 : Nat) (Option.some Jvm.ClassFile.FieldType.char), Jvm.Cond.code ({ cls := "java/lang/String", name := "<init>", desc := "([C)V" } : Jvm.MethodName) jdk_42_method_3_code (2 : Nat) (Option.none : Option Jvm.ClassFile.FieldType), Jvm.Cond.code ({ cls := "java/lang/String", name := "<init>", desc := "([CIILjava/lang/Void;)V" } : Jvm.MethodName) jdk_42_method_149_code (6 : Nat) (Option.none : Option Jvm.ClassFile.FieldType), Jvm.Cond.code ({ cls := "java/lang/Object", name := "<init>", desc := "()V" } : Jvm.MethodName) object_method_1_code (1 : Nat) (Option.none : Option Jvm.ClassFile.FieldType), Jvm.Cond.code ({ cls := "java/lang/StringUTF16", name := "compress", desc := "([CII)[B" } : Jvm.MethodName) jdk_52_method_16_code (6 : Nat) (Option.some (Jvm.ClassFile.FieldType.array Jvm.ClassFile.FieldType.byte)), Jvm.Cond.code ({ cls := "java/lang/StringUTF16", name := "compress", desc := "([CI[BII)I" } : Jvm.MethodName) jdk_52_method_21_code (7 : Nat) (Option.some Jvm.ClassFile.FieldType.int), Jvm.Cond.code ({ cls := "java/lang/StringUTF16", name := "coderFromArrayLen", desc := "([BI)B" } : Jvm.MethodName) jdk_52_method_15_code (2 : Nat) (Option.some Jvm.ClassFile.FieldType.byte), Jvm.Cond.code ({ cls := "org/vouchsafe/XsdWhitespace", name := "collapse", desc := "(Ljava/lang/String;)Ljava/lang/String;" } : Jvm.MethodName) prog_50_method_2_code (5 : Nat) (Option.some (Jvm.ClassFile.FieldType.object "java/lang/String")), Jvm.Cond.code ({ cls := "java/lang/String", name := "length", desc := "()I" } : Jvm.MethodName) jdk_42_method_54_code (1 : Nat) (Option.some Jvm.ClassFile.FieldType.int), Jvm.Cond.code ({ cls := "java/lang/String", name := "coder", desc := "()B" } : Jvm.MethodName) jdk_42_method_152_code (1 : Nat) (Option.some Jvm.ClassFile.FieldType.byte), Jvm.Cond.code ({ cls := "java/lang/StringBuilder", name := "<init>", desc := "(I)V" } : Jvm.MethodName) jdk_67_method_2_code (2 : Nat) (Option.none : Option Jvm.ClassFile.FieldType), Jvm.Cond.code ({ cls := "java/lang/AbstractStringBuilder", name := "<init>", desc := "(I)V" } : Jvm.MethodName) jdk_68_method_2_code (2 : Nat) (Option.none : Option Jvm.ClassFile.FieldType), Jvm.Cond.code ({ cls := "java/lang/String", name := "charAt", desc := "(I)C" } : Jvm.MethodName) jdk_42_method_56_code (2 : Nat) (Option.some Jvm.ClassFile.FieldType.char), Jvm.Cond.code ({ cls := "java/lang/String", name := "isLatin1", desc := "()Z" } : Jvm.MethodName) jdk_42_method_154_code (1 : Nat) (Option.some Jvm.ClassFile.FieldType.boolean), Jvm.Cond.code ({ cls := "java/lang/StringLatin1", name := "charAt", desc := "([BI)C" } : Jvm.MethodName) jdk_43_method_2_code (2 : Nat) (Option.some Jvm.ClassFile.FieldType.char), Jvm.Cond.code ({ cls := "java/lang/String", name := "checkIndex", desc := "(II)V" } : Jvm.MethodName) jdk_42_method_155_code (2 : Nat) (Option.none : Option Jvm.ClassFile.FieldType), Jvm.Cond.code ({ cls := "jdk/internal/util/Preconditions", name := "checkIndex", desc := "(IILjava/util/function/BiFunction;)I" } : Jvm.MethodName) jdk_41_method_11_code (3 : Nat) (Option.some Jvm.ClassFile.FieldType.int), Jvm.Cond.code ({ cls := "org/vouchsafe/XsdWhitespace", name := "isWhitespace", desc := "(C)Z" } : Jvm.MethodName) prog_50_method_3_code (1 : Nat) (Option.some Jvm.ClassFile.FieldType.boolean), Jvm.Cond.code ({ cls := "java/lang/StringBuilder", name := "append", desc := "(C)Ljava/lang/StringBuilder;" } : Jvm.MethodName) jdk_67_method_14_code (2 : Nat) (Option.some (Jvm.ClassFile.FieldType.object "java/lang/StringBuilder")), Jvm.Cond.code ({ cls := "java/lang/AbstractStringBuilder", name := "append", desc := "(C)Ljava/lang/AbstractStringBuilder;" } : Jvm.MethodName) jdk_68_method_31_code (2 : Nat) (Option.some (Jvm.ClassFile.FieldType.object "java/lang/AbstractStringBuilder")), Jvm.Cond.code ({ cls := "java/lang/AbstractStringBuilder", name := "ensureCapacityInternal", desc := "(I)V" } : Jvm.MethodName) jdk_68_method_9_code (3 : Nat) (Option.none : Option Jvm.ClassFile.FieldType), Jvm.Cond.code ({ cls := "java/lang/AbstractStringBuilder", name := "isLatin1", desc := "()Z" } : Jvm.MethodName) jdk_68_method_68_code (1 : Nat) (Option.some Jvm.ClassFile.FieldType.boolean), Jvm.Cond.code ({ cls := "java/lang/StringLatin1", name := "canEncode", desc := "(C)Z" } : Jvm.MethodName) jdk_43_method_3_code (1 : Nat) (Option.some Jvm.ClassFile.FieldType.boolean), Jvm.Cond.code ({ cls := "java/lang/StringBuilder", name := "toString", desc := "()Ljava/lang/String;" } : Jvm.MethodName) jdk_67_method_42_code (1 : Nat) (Option.some (Jvm.ClassFile.FieldType.object "java/lang/String")), Jvm.Cond.code ({ cls := "java/lang/String", name := "<init>", desc := "(Ljava/lang/StringBuilder;)V" } : Jvm.MethodName) jdk_42_method_53_code (2 : Nat) (Option.none : Option Jvm.ClassFile.FieldType), Jvm.Cond.code ({ cls := "java/lang/String", name := "<init>", desc := "(Ljava/lang/AbstractStringBuilder;Ljava/lang/Void;)V" } : Jvm.MethodName) jdk_42_method_150_code (5 : Nat) (Option.none : Option Jvm.ClassFile.FieldType), Jvm.Cond.code ({ cls := "java/lang/AbstractStringBuilder", name := "getValue", desc := "()[B" } : Jvm.MethodName) jdk_68_method_64_code (1 : Nat) (Option.some (Jvm.ClassFile.FieldType.array Jvm.ClassFile.FieldType.byte)), Jvm.Cond.code ({ cls := "java/lang/StringBuilder", name := "length", desc := "()I" } : Jvm.MethodName) jdk_67_method_93_code (1 : Nat) (Option.some Jvm.ClassFile.FieldType.int), Jvm.Cond.code ({ cls := "java/lang/AbstractStringBuilder", name := "length", desc := "()I" } : Jvm.MethodName) jdk_68_method_6_code (1 : Nat) (Option.some Jvm.ClassFile.FieldType.int), Jvm.Cond.code ({ cls := "java/util/Arrays", name := "copyOfRange", desc := "([BII)[B" } : Jvm.MethodName) jdk_65_method_132_code (3 : Nat) (Option.some (Jvm.ClassFile.FieldType.array Jvm.ClassFile.FieldType.byte)), Jvm.Cond.code ({ cls := "org/vouchsafe/XsdWhitespaceCollapsePinLaw", name := "emit", desc := "([CIICI)I" } : Jvm.MethodName) method_4_code (6 : Nat) (Option.some Jvm.ClassFile.FieldType.int), Jvm.Cond.code ({ cls := "org/vouchsafe/XsdWhitespaceCollapsePinLaw", name := "ws", desc := "(C)Z" } : Jvm.MethodName) method_3_code (1 : Nat) (Option.some Jvm.ClassFile.FieldType.boolean), Jvm.Cond.code ({ cls := "org/vouchsafe/XsdWhitespaceCollapsePinLaw", name := "lastAfter", desc := "(ICI)I" } : Jvm.MethodName) method_5_code (3 : Nat) (Option.some Jvm.ClassFile.FieldType.int), Jvm.Cond.code ({ cls := "org/vouchsafe/XsdWhitespaceCollapsePinLaw", name := "at", desc := "(Ljava/lang/String;[CII)Z" } : Jvm.MethodName) method_6_code (4 : Nat) (Option.some Jvm.ClassFile.FieldType.boolean), Jvm.Cond.code ({ cls := "java/lang/StringUTF16", name := "toBytes", desc := "([CII)[B" } : Jvm.MethodName) jdk_52_method_14_code (5 : Nat) (Option.some (Jvm.ClassFile.FieldType.array Jvm.ClassFile.FieldType.byte)), Jvm.Cond.code ({ cls := "java/lang/StringUTF16", name := "newBytesFor", desc := "(I)[B" } : Jvm.MethodName) jdk_52_method_2_code (1 : Nat) (Option.some (Jvm.ClassFile.FieldType.array Jvm.ClassFile.FieldType.byte)), Jvm.Cond.code ({ cls := "java/lang/StringUTF16", name := "newBytesLength", desc := "(I)I" } : Jvm.MethodName) jdk_52_method_3_code (1 : Nat) (Option.some Jvm.ClassFile.FieldType.int), Jvm.Cond.code ({ cls := "java/lang/StringUTF16", name := "putChar", desc := "([BII)V" } : Jvm.MethodName) jdk_52_method_4_code (3 : Nat) (Option.none : Option Jvm.ClassFile.FieldType), Jvm.Cond.code ({ cls := "java/lang/StringUTF16", name := "getChar", desc := "([BI)C" } : Jvm.MethodName) jdk_52_method_5_code (2 : Nat) (Option.some Jvm.ClassFile.FieldType.char), Jvm.Cond.code ({ cls := "java/lang/StringUTF16", name := "charAt", desc := "([BI)C" } : Jvm.MethodName) jdk_52_method_83_code (2 : Nat) (Option.some Jvm.ClassFile.FieldType.char), Jvm.Cond.code ({ cls := "java/lang/StringUTF16", name := "checkIndex", desc := "(I[B)V" } : Jvm.MethodName) jdk_52_method_91_code (2 : Nat) (Option.none : Option Jvm.ClassFile.FieldType), Jvm.Cond.code ({ cls := "java/lang/StringUTF16", name := "length", desc := "([B)I" } : Jvm.MethodName) jdk_52_method_6_code (1 : Nat) (Option.some Jvm.ClassFile.FieldType.int), Jvm.Cond.code ({ cls := "java/lang/AbstractStringBuilder", name := "inflate", desc := "()V" } : Jvm.MethodName) jdk_68_method_11_code (2 : Nat) (Option.none : Option Jvm.ClassFile.FieldType), Jvm.Cond.code ({ cls := "java/lang/StringLatin1", name := "inflate", desc := "([BI[BII)V" } : Jvm.MethodName) jdk_43_method_50_code (5 : Nat) (Option.none : Option Jvm.ClassFile.FieldType), Jvm.Cond.code ({ cls := "java/lang/StringUTF16", name := "inflate", desc := "([BI[BII)V" } : Jvm.MethodName) jdk_52_method_86_code (6 : Nat) (Option.none : Option Jvm.ClassFile.FieldType), Jvm.Cond.code ({ cls := "java/lang/StringUTF16", name := "checkBoundsOffCount", desc := "(II[B)V" } : Jvm.MethodName) jdk_52_method_94_code (3 : Nat) (Option.none : Option Jvm.ClassFile.FieldType), Jvm.Cond.code ({ cls := "java/lang/String", name := "checkBoundsOffCount", desc := "(III)I" } : Jvm.MethodName) jdk_42_method_157_code (3 : Nat) (Option.some Jvm.ClassFile.FieldType.int), Jvm.Cond.code ({ cls := "jdk/internal/util/Preconditions", name := "checkFromIndexSize", desc := "(IIILjava/util/function/BiFunction;)I" } : Jvm.MethodName) jdk_41_method_13_code (4 : Nat) (Option.some Jvm.ClassFile.FieldType.int), Jvm.Cond.code ({ cls := "java/lang/StringUTF16", name := "putCharSB", desc := "([BII)V" } : Jvm.MethodName) jdk_52_method_71_code (3 : Nat) (Option.none : Option Jvm.ClassFile.FieldType), Jvm.Cond.code ({ cls := "java/util/Arrays", name := "copyOfRangeByte", desc := "([BII)[B" } : Jvm.MethodName) jdk_65_method_133_code (5 : Nat) (Option.some (Jvm.ClassFile.FieldType.array Jvm.ClassFile.FieldType.byte)), Jvm.Cond.code ({ cls := "java/util/Arrays", name := "checkLength", desc := "(II)V" } : Jvm.MethodName) jdk_65_method_131_code (2 : Nat) (Option.none : Option Jvm.ClassFile.FieldType), Jvm.Cond.code ({ cls := "java/lang/Math", name := "min", desc := "(II)I" } : Jvm.MethodName) jdk_29_method_69_code (2 : Nat) (Option.some Jvm.ClassFile.FieldType.int)]
set_option maxRecDepth 65536 in
theorem codes_eq : words1.filter isCode = codes1 := rfl
theorem w_codes : ∀ c ∈ words1.filter isCode, c.before args0 about1 = true := by
  rw [codes_eq]
  intro c hc
  simp only [codes1, List.mem_cons, List.not_mem_nil, or_false] at hc
  rcases hc with rfl | rfl | rfl | rfl | rfl | rfl | rfl | rfl | rfl | rfl | rfl | rfl | rfl | rfl | rfl | rfl | rfl | rfl | rfl | rfl | rfl | rfl | rfl | rfl | rfl | rfl | rfl | rfl | rfl | rfl | rfl | rfl | rfl | rfl | rfl | rfl | rfl | rfl | rfl | rfl | rfl | rfl | rfl | rfl | rfl | rfl | rfl | rfl | rfl | rfl | rfl | rfl | rfl
  · exact w_c0
  · exact w_c1
  · exact w_c2
  · exact w_c3
  · exact w_c4
  · exact w_c5
  · exact w_c6
  · exact w_c7
  · exact w_c8
  · exact w_c9
  · exact w_c10
  · exact w_c11
  · exact w_c12
  · exact w_c13
  · exact w_c14
  · exact w_c15
  · exact w_c16
  · exact w_c17
  · exact w_c18
  · exact w_c19
  · exact w_c20
  · exact w_c21
  · exact w_c22
  · exact w_c23
  · exact w_c24
  · exact w_c25
  · exact w_c26
  · exact w_c27
  · exact w_c28
  · exact w_c29
  · exact w_c30
  · exact w_c31
  · exact w_c32
  · exact w_c33
  · exact w_c34
  · exact w_c35
  · exact w_c36
  · exact w_c37
  · exact w_c38
  · exact w_c39
  · exact w_c40
  · exact w_c41
  · exact w_c42
  · exact w_c43
  · exact w_c44
  · exact w_c45
  · exact w_c46
  · exact w_c47
  · exact w_c48
  · exact w_c49
  · exact w_c50
  · exact w_c51
  · exact w_c52
set_option maxRecDepth 65536 in
theorem w_t1 : (words1.take 24).all (fun c => isCode c || c.before args0 about1) = true := by decide +kernel
set_option maxRecDepth 65536 in
theorem w_t2 : ((words1.drop 24).take 24).all (fun c => isCode c || c.before args0 about1) = true := by decide +kernel
set_option maxRecDepth 65536 in
theorem w_t3 : (((words1.drop 24).drop 24).take 24).all (fun c => isCode c || c.before args0 about1) = true := by decide +kernel
set_option maxRecDepth 65536 in
theorem w_t4 : ((((words1.drop 24).drop 24).drop 24).take 24).all (fun c => isCode c || c.before args0 about1) = true := by decide +kernel
set_option maxRecDepth 65536 in
theorem w_t5 : (((((words1.drop 24).drop 24).drop 24).drop 24).take 24).all (fun c => isCode c || c.before args0 about1) = true := by decide +kernel
set_option maxRecDepth 65536 in
theorem w_t6 : ((((((words1.drop 24).drop 24).drop 24).drop 24).drop 24).take 24).all (fun c => isCode c || c.before args0 about1) = true := by decide +kernel
set_option maxRecDepth 65536 in
theorem w_t7 : (((((((words1.drop 24).drop 24).drop 24).drop 24).drop 24).drop 24).take 24).all (fun c => isCode c || c.before args0 about1) = true := by decide +kernel
set_option maxRecDepth 65536 in
theorem w_t8 : ((((((((words1.drop 24).drop 24).drop 24).drop 24).drop 24).drop 24).drop 24).take 24).all (fun c => isCode c || c.before args0 about1) = true := by decide +kernel
set_option maxRecDepth 65536 in
theorem w_t9 : (((((((((words1.drop 24).drop 24).drop 24).drop 24).drop 24).drop 24).drop 24).drop 24).take 24).all (fun c => isCode c || c.before args0 about1) = true := by decide +kernel
set_option maxRecDepth 65536 in
theorem w_t10 : ((((((((((words1.drop 24).drop 24).drop 24).drop 24).drop 24).drop 24).drop 24).drop 24).drop 24).take 24).all (fun c => isCode c || c.before args0 about1) = true := by decide +kernel
set_option maxRecDepth 65536 in
theorem w_t11 : ((((((((((words1.drop 24).drop 24).drop 24).drop 24).drop 24).drop 24).drop 24).drop 24).drop 24).drop 24).all (fun c => isCode c || c.before args0 about1) = true := by decide +kernel
theorem w_tables : (allAtoms (Jvm.Cond.code x code maxLocals ret :: tables_1)).before args0 about1 = true := by
  rw [allAtoms_all]
  show words1.all (fun c => c.before args0 about1) = true
  refine all_split ?_ w_codes
  rw [← List.take_append_drop 24 words1, List.all_append, w_t1, ← List.take_append_drop 24 (words1.drop 24), List.all_append, w_t2, ← List.take_append_drop 24 ((words1.drop 24).drop 24), List.all_append, w_t3, ← List.take_append_drop 24 (((words1.drop 24).drop 24).drop 24), List.all_append, w_t4, ← List.take_append_drop 24 ((((words1.drop 24).drop 24).drop 24).drop 24), List.all_append, w_t5, ← List.take_append_drop 24 (((((words1.drop 24).drop 24).drop 24).drop 24).drop 24), List.all_append, w_t6, ← List.take_append_drop 24 ((((((words1.drop 24).drop 24).drop 24).drop 24).drop 24).drop 24), List.all_append, w_t7, ← List.take_append_drop 24 (((((((words1.drop 24).drop 24).drop 24).drop 24).drop 24).drop 24).drop 24), List.all_append, w_t8, ← List.take_append_drop 24 ((((((((words1.drop 24).drop 24).drop 24).drop 24).drop 24).drop 24).drop 24).drop 24), List.all_append, w_t9, ← List.take_append_drop 24 (((((((((words1.drop 24).drop 24).drop 24).drop 24).drop 24).drop 24).drop 24).drop 24).drop 24), List.all_append, w_t10, w_t11]
  rfl
set_option maxRecDepth 65536 in
theorem w_rest : rest_1_c.before args0 about1 = true := by decide +kernel
set_option maxRecDepth 65536 in
theorem w_case : (Jvm.Cond.and given_1 narrow_1).before args0 about1 = true := by decide +kernel
theorem w_applies : (headSpec (Jvm.Cond.code x code maxLocals ret :: tables_1) room_1).applies x e0.platform about1 = true :=
  (Spec.applies_iff w_frames).mpr ⟨w_running, w_runnable, w_alone, w_named, w_hears, w_ripe, w_room, w_tables⟩
theorem atStart : AtStart classFile x code maxLocals ret World_1 tables_1 room_1 Calls_1 rest_1 Pre_1 launch0 p0 e0 about1 theMethod args0 below0 :=
  ⟨lists_1, trivial, launch0.admits_env _ _ _, launch0.least_env, fairChoices_fair.cas, fairChoices_fair.clock, w_frames, w_args, w_heap, w_applies, trivial, w_rest, w_case⟩
end start1
theorem witness_1 : WitnessClaimed_1 := ⟨start1.p0, start1.e0, start1.about1, start1.theMethod, start1.args0, start1.below0, start1.atStart⟩
end Jvm.Pilot.@@N@@
