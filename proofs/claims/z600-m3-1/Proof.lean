import JvmDerived
import JvmDerived.Pilot.@@N@@Statement
import JvmDerived.Pilot.@@N@@Code
set_option linter.unusedVariables false
set_option linter.unusedSimpArgs false
namespace Jvm.Pilot.@@N@@
open Jvm Jvm.ClassFile Sem Op Lib Jvm.Free Jvm.Stand Jvm.LawKit Jvm.RoadKit Bundle Jvm.Pilot.@@N@@.Jvm.D
section OwnKit
variable {p : Program} {l : Launch} {e : Env} {R : Room} {s : State} {m : MethodId} {args : Array Value} {below : List Frame} {meth : Method} {c : Code} {T : State} {locs : List Loc} {cells slots : Nat} {Z : State} {a0 : Array Value} {h : Heap} {bs : ByteArray} {own mnm : String} {mx : Nat} {rt : Option FieldType} {G : Outcome → State → Prop} {pc pc' : Nat} {Ls Ls' : Array Slot} {st : List Value}
/-- from T the run comes to an end of which G holds -/
def Go (tb : Tables) (e : Env) (below : List Frame) (G : Outcome → State → Prop) (T : State) : Prop := ∃ s₂ o, Steps tb e below T s₂ ∧ s₂.status = .running ∧ Ended s₂ below o ∧ G o s₂
theorem Go.step {tb : Tables} {T T' : State} (g : Go tb e below G T') (h : ∀ t, Steps tb e below T' t → Steps tb e below T t) : Go tb e below G T := by
  obtain ⟨s₂, o, h1, h2⟩ := g
  exact ⟨s₂, o, h _ h1, h2⟩
/-- what a walk knows of its own body -/
def Cx (p : Program) (s : State) (m : MethodId) (meth : Method) (c : Code) (bs : ByteArray) (mx : Nat) (own mnm : String) (rt : Option FieldType) (Z : State) : Prop :=
  p.tables.exec = Jvm.exec ∧ c.code = bs ∧ c.maxLocals = mx ∧ s.vm.findClass own = some m.cls ∧ meth.name = mnm ∧ meth.sig.returnType = rt ∧ meth.locks = false ∧ Z.Warmed39 s.vm
theorem Cx.hown (C : Cx p s m meth c bs mx own mnm rt Z) : s.vm.findClass own = some m.cls := C.2.2.2.1
theorem Cx.nm (C : Cx p s m meth c bs mx own mnm rt Z) : meth.name = mnm := C.2.2.2.2.1
theorem Cx.ret (C : Cx p s m meth c bs mx own mnm rt Z) : meth.sig.returnType = rt := C.2.2.2.2.2.1
theorem Cx.locks (C : Cx p s m meth c bs mx own mnm rt Z) : meth.locks = false := C.2.2.2.2.2.2.1
theorem Cx.hZ (C : Cx p s m meth c bs mx own mnm rt Z) : Z.Warmed39 s.vm := C.2.2.2.2.2.2.2
/-- the end: returned, Q of the value, the heap and the places written; the frame -/
def End (s : State) (Q : Option Value → Heap → List Loc → Prop) (ce sl : Nat) (o : Outcome) (U' : State) : Prop := ∃ v L, o = .returned v ∧ Q v U'.heap L ∧ FrameEnd s o U' L ce sl
theorem met_of {y : MethodName} {ws : List Jvm.Cond} {rm : Room} {as' : Array Value} {Q : Option Value → Heap → List Loc → Prop} {ce sl : Nat} (hpn : plainFor y = true) (hef : ∀ m, entryFrame m as' mx = mkF m 0 Ls [])
    (hbody : ∀ (p : Program) (e : Env) (s : State) (m : MethodId) (below : List Frame) (meth : Method) (c : Code) (T : State), Cx p s m meth c bs mx y.cls y.name rt Z → Stand p l e rm s m as' below meth c T [] 0 0 → T.heap = h → Go p.tables e below (End s Q ce sl) (T.setTop (mkF m 0 Ls []))) :
    MetFree l y (head1 (Jvm.Cond.code y bs mx rt :: ws) rm) (fun a U => a = as' ∧ Z.Warmed39 U.vm ∧ U.heap = h) (fun _ _ _ _ _ => True) (fun _ U o U' => ∃ v L, o = .returned v ∧ Q v U'.heap L ∧ FrameEnd U o U' L ce sl) := by
  refine MetFree.of_bodySF hpn hisR ?_
  intro p e s m args below meth c s₁ Bd hml0 hP hK
  obtain ⟨rfl, hZ, hh⟩ := hP
  have X0 : Stand p l e rm s m _ below meth c s₁ [] 0 0 := Stand.of_body Bd
  have e0 : s₁.heap = h := by rw [← hh, Bd.state]; rfl
  obtain ⟨s₂, o, h1, h2, h3, h4⟩ := hbody p e s m below meth c s₁ ⟨Bd.exec, Bd.bytes, hml0, findClass_of_methodNamed Bd.named, (name_of_methodNamed Bd.named Bd.method).1, Bd.returns, Bd.notSynchronized, hZ⟩ X0 e0
  exact ⟨s₂, o, castTop (hef m) h1, h2, h3, h4⟩

theorem g_iloadN (C : Cx p s m meth c bs mx own mnm rt Z) (X : Stand p l e R s m args below meth c T locs cells slots) {k : Fin 4} {v : Int32} (hd : decode bs pc = .ok (.iload_n k, 1)) (hl : Ls[k.val]? = some (.val (.int v))) (hn : pc + 1 = pc')
    (hr : Go p.tables e below G (T.setTop (mkF m pc' Ls (.int v :: st)))) : Go p.tables e below G (T.setTop (mkF m pc Ls st)) := by
  subst hn; exact hr.step fun t k => XS.iloadN X.here C.1 rfl (hb C.2.1 hd) hl k
theorem g_iload (C : Cx p s m meth c bs mx own mnm rt Z) (X : Stand p l e R s m args below meth c T locs cells slots) {k : Nat} {v : Int32} (hd : decode bs pc = .ok (.iload k, 2)) (hl : Ls[k]? = some (.val (.int v))) (hn : pc + 2 = pc')
    (hr : Go p.tables e below G (T.setTop (mkF m pc' Ls (.int v :: st)))) : Go p.tables e below G (T.setTop (mkF m pc Ls st)) := by
  subst hn; exact hr.step fun t k => XS.iload X.here C.1 rfl (hb C.2.1 hd) hl k
theorem g_istoreN (C : Cx p s m meth c bs mx own mnm rt Z) (X : Stand p l e R s m args below meth c T locs cells slots) {k : Fin 4} {v : Int32} (hd : decode bs pc = .ok (.istore_n k, 1)) (hl : storeLocals Ls k.val (.int v) = some Ls') (hn : pc + 1 = pc')
    (hr : Go p.tables e below G (T.setTop (mkF m pc' Ls' st))) : Go p.tables e below G (T.setTop (mkF m pc Ls (.int v :: st))) := by
  subst hn; exact hr.step fun t k => XS.istoreN X.here C.1 rfl (hb C.2.1 hd) rfl hl k
theorem g_istore (C : Cx p s m meth c bs mx own mnm rt Z) (X : Stand p l e R s m args below meth c T locs cells slots) {k : Nat} {v : Int32} (hd : decode bs pc = .ok (.istore k, 2)) (hl : storeLocals Ls k (.int v) = some Ls') (hn : pc + 2 = pc')
    (hr : Go p.tables e below G (T.setTop (mkF m pc' Ls' st))) : Go p.tables e below G (T.setTop (mkF m pc Ls (.int v :: st))) := by
  subst hn; exact hr.step fun t k => XS.istore X.here C.1 rfl (hb C.2.1 hd) rfl hl k
theorem g_aloadN (C : Cx p s m meth c bs mx own mnm rt Z) (X : Stand p l e R s m args below meth c T locs cells slots) {k : Fin 4} {v : Value} (hd : decode bs pc = .ok (.aload_n k, 1)) (hl : Ls[k.val]? = some (.val v)) (hv : v.isRef = true) (hn : pc + 1 = pc')
    (hr : Go p.tables e below G (T.setTop (mkF m pc' Ls (v :: st)))) : Go p.tables e below G (T.setTop (mkF m pc Ls st)) := by
  subst hn; exact hr.step fun t k => XS.aloadN X.here C.1 rfl (hb C.2.1 hd) hl hv k
theorem g_aload (C : Cx p s m meth c bs mx own mnm rt Z) (X : Stand p l e R s m args below meth c T locs cells slots) {k : Nat} {v : Value} (hd : decode bs pc = .ok (.aload k, 2)) (hl : Ls[k]? = some (.val v)) (hv : v.isRef = true) (hn : pc + 2 = pc')
    (hr : Go p.tables e below G (T.setTop (mkF m pc' Ls (v :: st)))) : Go p.tables e below G (T.setTop (mkF m pc Ls st)) := by
  subst hn; exact hr.step fun t k => XS.aload X.here C.1 rfl (hb C.2.1 hd) hl hv k
theorem g_astoreN (C : Cx p s m meth c bs mx own mnm rt Z) (X : Stand p l e R s m args below meth c T locs cells slots) {k : Fin 4} {v : Value} (hd : decode bs pc = .ok (.astore_n k, 1)) (hv : v.isRef = true) (hl : storeLocals Ls k.val v = some Ls') (hn : pc + 1 = pc')
    (hr : Go p.tables e below G (T.setTop (mkF m pc' Ls' st))) : Go p.tables e below G (T.setTop (mkF m pc Ls (v :: st))) := by
  subst hn; exact hr.step fun t k => XS.astoreN X.here C.1 rfl (hb C.2.1 hd) rfl hv hl k
theorem g_astore (C : Cx p s m meth c bs mx own mnm rt Z) (X : Stand p l e R s m args below meth c T locs cells slots) {k : Nat} {v : Value} (hd : decode bs pc = .ok (.astore k, 2)) (hv : v.isRef = true) (hl : storeLocals Ls k v = some Ls') (hn : pc + 2 = pc')
    (hr : Go p.tables e below G (T.setTop (mkF m pc' Ls' st))) : Go p.tables e below G (T.setTop (mkF m pc Ls (v :: st))) := by
  subst hn; exact hr.step fun t k => XS.astore X.here C.1 rfl (hb C.2.1 hd) rfl hv hl k
theorem g_iconst (C : Cx p s m meth c bs mx own mnm rt Z) (X : Stand p l e R s m args below meth c T locs cells slots) {i : Int} {v : Int32} (hd : decode bs pc = .ok (.iconst i, 1)) (hv : Int32.ofInt i = v) (hn : pc + 1 = pc')
    (hr : Go p.tables e below G (T.setTop (mkF m pc' Ls (.int v :: st)))) : Go p.tables e below G (T.setTop (mkF m pc Ls st)) := by
  subst hn; exact hr.step fun t k => XS.iconst X.here C.1 rfl (hb C.2.1 hd) (by rw [hv]; exact k)
theorem g_bipush (C : Cx p s m meth c bs mx own mnm rt Z) (X : Stand p l e R s m args below meth c T locs cells slots) {i : Int} {v : Int32} (hd : decode bs pc = .ok (.bipush i, 2)) (hv : (Int8.ofInt i).toInt32 = v) (hn : pc + 2 = pc')
    (hr : Go p.tables e below G (T.setTop (mkF m pc' Ls (.int v :: st)))) : Go p.tables e below G (T.setTop (mkF m pc Ls st)) := by
  subst hn; exact hr.step fun t k => XS.bipush X.here C.1 rfl (hb C.2.1 hd) (by rw [hv]; exact k)
theorem g_sipush (C : Cx p s m meth c bs mx own mnm rt Z) (X : Stand p l e R s m args below meth c T locs cells slots) {i : Int} {v : Int32} (hd : decode bs pc = .ok (.sipush i, 3)) (hv : (Int16.ofInt i).toInt32 = v) (hn : pc + 3 = pc')
    (hr : Go p.tables e below G (T.setTop (mkF m pc' Ls (.int v :: st)))) : Go p.tables e below G (T.setTop (mkF m pc Ls st)) := by
  subst hn; exact hr.step fun t k => XS.sipush X.here C.1 rfl (hb C.2.1 hd) (by rw [hv]; exact k)
theorem g_null (C : Cx p s m meth c bs mx own mnm rt Z) (X : Stand p l e R s m args below meth c T locs cells slots)  (hd : decode bs pc = .ok (.aconst_null, 1)) (hn : pc + 1 = pc')
    (hr : Go p.tables e below G (T.setTop (mkF m pc' Ls (.null :: st)))) : Go p.tables e below G (T.setTop (mkF m pc Ls st)) := by
  subst hn; exact hr.step fun t k => XS.aconstNull X.here C.1 rfl (hb C.2.1 hd) k
theorem g_iadd (C : Cx p s m meth c bs mx own mnm rt Z) (X : Stand p l e R s m args below meth c T locs cells slots) {x y : Int32} (hd : decode bs pc = .ok (.iadd, 1)) (hn : pc + 1 = pc')
    (hr : Go p.tables e below G (T.setTop (mkF m pc' Ls (.int (x + y) :: st)))) : Go p.tables e below G (T.setTop (mkF m pc Ls (.int y :: .int x :: st))) := by
  subst hn; exact hr.step fun t k => XS.iadd X.here C.1 rfl (hb C.2.1 hd) rfl k
theorem g_isub (C : Cx p s m meth c bs mx own mnm rt Z) (X : Stand p l e R s m args below meth c T locs cells slots) {x y : Int32} (hd : decode bs pc = .ok (.isub, 1)) (hn : pc + 1 = pc')
    (hr : Go p.tables e below G (T.setTop (mkF m pc' Ls (.int (x - y) :: st)))) : Go p.tables e below G (T.setTop (mkF m pc Ls (.int y :: .int x :: st))) := by
  subst hn; exact hr.step fun t k => XS.isub X.here C.1 rfl (hb C.2.1 hd) rfl k
theorem g_iand (C : Cx p s m meth c bs mx own mnm rt Z) (X : Stand p l e R s m args below meth c T locs cells slots) {x y : Int32} (hd : decode bs pc = .ok (.iand, 1)) (hn : pc + 1 = pc')
    (hr : Go p.tables e below G (T.setTop (mkF m pc' Ls (.int (x &&& y) :: st)))) : Go p.tables e below G (T.setTop (mkF m pc Ls (.int y :: .int x :: st))) := by
  subst hn; exact hr.step fun t k => XS.iand X.here C.1 rfl (hb C.2.1 hd) rfl k
theorem g_ishr (C : Cx p s m meth c bs mx own mnm rt Z) (X : Stand p l e R s m args below meth c T locs cells slots) {x y : Int32} (hd : decode bs pc = .ok (.ishr, 1)) (hn : pc + 1 = pc')
    (hr : Go p.tables e below G (T.setTop (mkF m pc' Ls (.int (x >>> (y &&& 31)) :: st)))) : Go p.tables e below G (T.setTop (mkF m pc Ls (.int y :: .int x :: st))) := by
  subst hn; exact hr.step fun t k => XS.ishr X.here C.1 rfl (hb C.2.1 hd) rfl k
theorem g_iushr (C : Cx p s m meth c bs mx own mnm rt Z) (X : Stand p l e R s m args below meth c T locs cells slots) {x y : Int32} (hd : decode bs pc = .ok (.iushr, 1)) (hn : pc + 1 = pc')
    (hr : Go p.tables e below G (T.setTop (mkF m pc' Ls (.int ((x.toUInt32 >>> (y &&& 31).toUInt32).toInt32) :: st)))) : Go p.tables e below G (T.setTop (mkF m pc Ls (.int y :: .int x :: st))) := by
  subst hn; exact hr.step fun t k => XS.iushr X.here C.1 rfl (hb C.2.1 hd) rfl k
theorem g_i2b (C : Cx p s m meth c bs mx own mnm rt Z) (X : Stand p l e R s m args below meth c T locs cells slots) {x : Int32} (hd : decode bs pc = .ok (.i2b, 1)) (hn : pc + 1 = pc')
    (hr : Go p.tables e below G (T.setTop (mkF m pc' Ls (.int x.toInt8.toInt32 :: st)))) : Go p.tables e below G (T.setTop (mkF m pc Ls (.int x :: st))) := by
  subst hn; exact hr.step fun t k => XS.i2b X.here C.1 rfl (hb C.2.1 hd) rfl k
theorem g_i2c (C : Cx p s m meth c bs mx own mnm rt Z) (X : Stand p l e R s m args below meth c T locs cells slots) {x : Int32} (hd : decode bs pc = .ok (.i2c, 1)) (hn : pc + 1 = pc')
    (hr : Go p.tables e below G (T.setTop (mkF m pc' Ls (.int x.toUInt32.toUInt16.toUInt32.toInt32 :: st)))) : Go p.tables e below G (T.setTop (mkF m pc Ls (.int x :: st))) := by
  subst hn; exact hr.step fun t k => XS.i2c X.here C.1 rfl (hb C.2.1 hd) rfl k
theorem g_dup (C : Cx p s m meth c bs mx own mnm rt Z) (X : Stand p l e R s m args below meth c T locs cells slots) {x : Value} (hd : decode bs pc = .ok (.dup, 1)) (hc : x.category = 1) (hn : pc + 1 = pc')
    (hr : Go p.tables e below G (T.setTop (mkF m pc' Ls (x :: x :: st)))) : Go p.tables e below G (T.setTop (mkF m pc Ls (x :: st))) := by
  subst hn; exact hr.step fun t k => XS.dup X.here C.1 rfl (hb C.2.1 hd) rfl hc k
theorem g_pop (C : Cx p s m meth c bs mx own mnm rt Z) (X : Stand p l e R s m args below meth c T locs cells slots) {x : Value} (hd : decode bs pc = .ok (.pop, 1)) (hc : x.category = 1) (hn : pc + 1 = pc')
    (hr : Go p.tables e below G (T.setTop (mkF m pc' Ls st))) : Go p.tables e below G (T.setTop (mkF m pc Ls (x :: st))) := by
  subst hn; exact hr.step fun t k => XS.pop X.here C.1 rfl (hb C.2.1 hd) rfl hc k
theorem g_iinc (C : Cx p s m meth c bs mx own mnm rt Z) (X : Stand p l e R s m args below meth c T locs cells slots) {k : Nat} {i : Int} {x : Int32} (hd : decode bs pc = .ok (.iinc k i, 3)) (hl : Ls[k]? = some (.val (.int x))) (hl' : storeLocals Ls k (.int (x + Int32.ofInt i)) = some Ls') (hn : pc + 3 = pc')
    (hr : Go p.tables e below G (T.setTop (mkF m pc' Ls' st))) : Go p.tables e below G (T.setTop (mkF m pc Ls st)) := by
  subst hn; exact hr.step fun t k => XS.iinc X.here C.1 rfl (hb C.2.1 hd) hl hl' k
theorem g_goto (C : Cx p s m meth c bs mx own mnm rt Z) (X : Stand p l e R s m args below meth c T locs cells slots) {o : Int} (hd : decode bs pc = .ok (.goto o, 3)) (ho : 0 ≤ (pc : Int) + o) (hp : ((pc : Int) + o).toNat = pc')
    (hr : Go p.tables e below G (T.setTop (mkF m pc' Ls st))) : Go p.tables e below G (T.setTop (mkF m pc Ls st)) :=
  hr.step fun t k => XS.goto X.here C.1 rfl rfl (hb C.2.1 hd) ho hp k
theorem g_icmpY (C : Cx p s m meth c bs mx own mnm rt Z) (X : Stand p l e R s m args below meth c T locs cells slots) {cd : ClassFile.Cond} {x y : Int32} {o : Int} (hd : decode bs pc = .ok (.if_icmp cd o, 3)) (hc : if_icmp.holds cd x y = true) (ho : 0 ≤ (pc : Int) + o) (hp : ((pc : Int) + o).toNat = pc')
    (hr : Go p.tables e below G (T.setTop (mkF m pc' Ls st))) : Go p.tables e below G (T.setTop (mkF m pc Ls (.int y :: .int x :: st))) :=
  hr.step fun t k => XS.icmpYes X.here C.1 rfl rfl (hb C.2.1 hd) rfl hc ho hp k
theorem g_icmpN (C : Cx p s m meth c bs mx own mnm rt Z) (X : Stand p l e R s m args below meth c T locs cells slots) {cd : ClassFile.Cond} {x y : Int32} {o : Int} (hd : decode bs pc = .ok (.if_icmp cd o, 3)) (hc : if_icmp.holds cd x y = false) (hn : pc + 3 = pc')
    (hr : Go p.tables e below G (T.setTop (mkF m pc' Ls st))) : Go p.tables e below G (T.setTop (mkF m pc Ls (.int y :: .int x :: st))) := by
  subst hn; exact hr.step fun t k => XS.icmpNo X.here C.1 rfl (hb C.2.1 hd) rfl hc k
theorem g_ifY (C : Cx p s m meth c bs mx own mnm rt Z) (X : Stand p l e R s m args below meth c T locs cells slots) {cd : ClassFile.Cond} {x : Int32} {o : Int} (hd : decode bs pc = .ok (.ifCond cd o, 3)) (hc : if_icmp.holds cd x 0 = true) (ho : 0 ≤ (pc : Int) + o) (hp : ((pc : Int) + o).toNat = pc')
    (hr : Go p.tables e below G (T.setTop (mkF m pc' Ls st))) : Go p.tables e below G (T.setTop (mkF m pc Ls (.int x :: st))) :=
  hr.step fun t k => XS.ifYes X.here C.1 rfl rfl (hb C.2.1 hd) rfl ((if0 _ _).trans hc) ho hp k
theorem g_ifN (C : Cx p s m meth c bs mx own mnm rt Z) (X : Stand p l e R s m args below meth c T locs cells slots) {cd : ClassFile.Cond} {x : Int32} {o : Int} (hd : decode bs pc = .ok (.ifCond cd o, 3)) (hc : if_icmp.holds cd x 0 = false) (hn : pc + 3 = pc')
    (hr : Go p.tables e below G (T.setTop (mkF m pc' Ls st))) : Go p.tables e below G (T.setTop (mkF m pc Ls (.int x :: st))) := by
  subst hn; exact hr.step fun t k => XS.ifNo X.here C.1 rfl (hb C.2.1 hd) rfl ((if0 _ _).trans hc) k
theorem g_acmp (C : Cx p s m meth c bs mx own mnm rt Z) (X : Stand p l e R s m args below meth c T locs cells slots) {cd : ACond} {x y : Value} {o : Int} {same : Bool} (hd : decode bs pc = .ok (.if_acmp cd o, 3)) (h1 : x.isRef = true) (h2 : y.isRef = true) (hq : decide (x = y) = same) (ho : 0 ≤ (pc : Int) + o) (hp : pc' = if acV cd same = true then ((pc : Int) + o).toNat else pc + 3)
    (hr : Go p.tables e below G (T.setTop (mkF m pc' Ls st))) : Go p.tables e below G (T.setTop (mkF m pc Ls (y :: x :: st))) :=
  hr.step fun t k => Jvm.RoadKit.acmp X C.1 rfl h1 h2 rfl (hb C.2.1 hd) rfl hq ho hp k
theorem g_ifnonnullY (C : Cx p s m meth c bs mx own mnm rt Z) (X : Stand p l e R s m args below meth c T locs cells slots) {b : Addr} {o : Int} (hd : decode bs pc = .ok (.ifnonnull o, 3)) (ho : 0 ≤ (pc : Int) + o) (hp : ((pc : Int) + o).toNat = pc')
    (hr : Go p.tables e below G (T.setTop (mkF m pc' Ls st))) : Go p.tables e below G (T.setTop (mkF m pc Ls (.ref b :: st))) :=
  hr.step fun t k => XS.ifnonnullYes X.here C.1 rfl rfl (hb C.2.1 hd) rfl ho hp k
theorem g_getS (C : Cx p s m meth c bs mx own mnm rt Z) (X : Stand p l e R s m args below meth c T locs cells slots) {O n d R0 host : String} {i : Nat} {v : Value} (hd : decode bs pc = .ok (.getstatic i, 3)) (w : (Jvm.Cond.fieldLink own i R0 n d).before a0 Z = true ∨ (Jvm.Cond.fieldLinkNest own i R0 n d host).before a0 Z = true) (via : Via Z R0 O n d) (eT : T.heap = h) (F : Sta Z h O n d v) (hn : pc + 3 = pc')
    (hr : ∀ T', Stand p l e R s m args below meth c T' locs cells slots → T'.heap = h → Go p.tables e below G (T'.setTop (mkF m pc' Ls (v :: st)))) : Go p.tables e below G (T.setTop (mkF m pc Ls st)) := by
  subst hn
  obtain ⟨T', X', e', st'⟩ := getS2 X C.1 C.hZ C.hown w via eT F (g := mkF m pc Ls st) rfl (hb C.2.1 hd)
  exact (hr T' X' e').step st'
theorem g_getF (C : Cx p s m meth c bs mx own mnm rt Z) (X : Stand p l e R s m args below meth c T locs cells slots) {O n d R0 host : String} {i : Nat} {a : Addr} {v : Value} (hd : decode bs pc = .ok (.getfield i, 3)) (w : (Jvm.Cond.fieldLink own i R0 n d).before a0 Z = true ∨ (Jvm.Cond.fieldLinkNest own i R0 n d host).before a0 Z = true) (via : Via Z R0 O n d) (eT : T.heap = h) (F : Fld Z h a O n d v) (hn : pc + 3 = pc')
    (hr : ∀ T', Stand p l e R s m args below meth c T' locs cells slots → T'.heap = h → Go p.tables e below G (T'.setTop (mkF m pc' Ls (v :: st)))) : Go p.tables e below G (T.setTop (mkF m pc Ls (.ref a :: st))) := by
  subst hn
  obtain ⟨T', X', e', st'⟩ := getF X C.1 C.hZ C.hown w via eT F (g := mkF m pc Ls (.ref a :: st)) rfl rfl (hb C.2.1 hd)
  exact (hr T' X' e').step st'
theorem g_callS (C : Cx p s m meth c bs mx own mnm rt Z) (X : Stand p l e R s m args below meth c T locs cells slots) {rm : Room} {as' : Array Value} {Q : Option Value → Heap → List Loc → Prop} {ml : Nat} {yb : ByteArray} {yr : Option FieldType} {ce sl W : Nat} {argsL : List Value} {ps : List FieldType} {pr : Option FieldType} {y : MethodName} {i : Nat} (hd : decode bs pc = .ok (.invokestatic i, 3)) (w1 : (Jvm.Cond.methodLink own i y).before a0 Z = true) (w2 : (Jvm.Cond.static y).before a0 Z = true) (w3 : (Jvm.Cond.initialized y.cls).before a0 Z = true) (w4 : (Jvm.Cond.code y yb ml yr).before a0 Z = true) (hy : y.cls ≠ "java/lang/invoke/MethodHandle" ∧ y.cls ≠ "java/lang/invoke/VarHandle")
    (hM : MetFree l y (head1 [Jvm.Cond.code y yb ml yr] rm) (fun a U => a = as' ∧ Z.Warmed39 U.vm ∧ U.heap = h) (fun _ _ _ _ _ => True) (fun _ U o U' => ∃ v L, o = .returned v ∧ Q v U'.heap L ∧ FrameEnd U o U' L rm.cells rm.slots)) (hf : rm.frames + 1 ≤ R.frames) (hlo : W + (ml + 11) + rm.locals ≤ R.locals) (hce : cells + rm.cells = ce) (hsl : slots + rm.slots = sl) (hce' : ce ≤ R.cells) (hsl' : sl ≤ R.slots) (has : argsL.toArray = as') (eT : T.heap = h) (hsz : Ls.size = mx) (hpd : parseMethodDescriptor y.desc = some ⟨ps, pr⟩) (hln : argsL.length = ps.length) (hW : (st.map fun v => v.category).sum ≤ W) (hn : pc + 3 = pc')
    (hr : ∀ v T' L, Stand p l e R s m args below meth c T' (locs ++ L) ce sl → Q v T'.heap L → Go p.tables e below G (T'.setTop (mkF m pc' Ls (v.toList ++ st)))) : Go p.tables e below G (T.setTop (mkF m pc Ls (argsL.reverse ++ st))) := by
  subst hn hce hsl has
  obtain ⟨v, vm1, ⟨T', L', k', n'⟩, -, X', ⟨Lc, hQ, l', y', z'⟩, st'⟩ := Jvm.LawKit.callS X C.1 (y := y) C.hown (mvT C.hZ w1) (mvT C.hZ w2) (mvT C.hZ w3) (mvT C.hZ w4) hy (backOf (W := W) hM C.hZ w4 w3 hf hlo) (g := mkF m pc Ls (argsL.reverse ++ st)) rfl (hsz.trans C.2.2.1.symm) (argsL := argsL) (rest := st) (lenOf hpd hln) rfl (by show 2 * 0 + _ ≤ _; omega) (hb C.2.1 hd) (fun _ _ => ⟨rfl, eT, hce', hsl'⟩)
  dsimp only [Pt.U, Pt.locs, Pt.cells, Pt.slots] at X' l' y' z' st' hQ
  subst l' y' z'
  exact (hr v T' Lc X' hQ).step st'
theorem g_callV (C : Cx p s m meth c bs mx own mnm rt Z) (X : Stand p l e R s m args below meth c T locs cells slots) {rm : Room} {as' : Array Value} {Q : Option Value → Heap → List Loc → Prop} {ml : Nat} {yb : ByteArray} {yr : Option FieldType} {ce sl W : Nat} {argsL : List Value} {ps : List FieldType} {pr : Option FieldType} {K : String} {y z : MethodName} {i : Nat} {b : Addr} (hd : decode bs pc = .ok (.invokevirtual i, 3)) (w1 : (Jvm.Cond.methodLink own i y).before a0 Z = true) (w2 : (Jvm.Cond.declares y).before a0 Z = true) (hnf : NotFace s y) (w3 : (Jvm.Cond.selects K y z).before a0 Z = true) (w4 : (Jvm.Cond.instanceMethod z).before a0 Z = true) (w5 : (Jvm.Cond.initialized z.cls).before a0 Z = true) (w6 : (Jvm.Cond.code z yb ml yr).before a0 Z = true) (hy : y.cls ≠ "java/lang/invoke/MethodHandle" ∧ y.cls ≠ "java/lang/invoke/VarHandle")
    (hM : MetFree l z (head1 [Jvm.Cond.code z yb ml yr] rm) (fun a U => a = as' ∧ Z.Warmed39 U.vm ∧ U.heap = h) (fun _ _ _ _ _ => True) (fun _ U o U' => ∃ v L, o = .returned v ∧ Q v U'.heap L ∧ FrameEnd U o U' L rm.cells rm.slots)) (hf : rm.frames + 1 ≤ R.frames) (hlo : W + (ml + 11) + rm.locals ≤ R.locals) (hce : cells + rm.cells = ce) (hsl : slots + rm.slots = sl) (hce' : ce ≤ R.cells) (hsl' : sl ≤ R.slots) (has : (.ref b :: argsL).toArray = as') (E : Exa Z h b K) (eT : T.heap = h) (hsz : Ls.size = mx) (hpd : parseMethodDescriptor y.desc = some ⟨ps, pr⟩) (hln : argsL.length = ps.length) (hW : (st.map fun v => v.category).sum ≤ W) (hn : pc + 3 = pc')
    (hr : ∀ v T' L, Stand p l e R s m args below meth c T' (locs ++ L) ce sl → Q v T'.heap L → Go p.tables e below G (T'.setTop (mkF m pc' Ls (v.toList ++ st)))) : Go p.tables e below G (T.setTop (mkF m pc Ls (argsL.reverse ++ .ref b :: st))) := by
  subst hn hce hsl has
  obtain ⟨cq, kq, qa, qb, qc⟩ := isOf C.hZ eT E
  obtain ⟨v, vm1, ⟨T', L', k', n'⟩, -, X', ⟨Lc, hQ, l', y', z'⟩, st'⟩ := X.virtualBack C.1 (y := y) (z := z) C.hown (mvT C.hZ w1) (mvT C.hZ w2) hnf (mvT C.hZ w3) (mvT C.hZ w4) hy (backOf (W := W) hM C.hZ w6 w5 hf hlo) qa qc (g := mkF m pc Ls (argsL.reverse ++ .ref b :: st)) rfl (hsz.trans C.2.2.1.symm) (Steps.refl _) (argsL := argsL) (rest := st) (lenOf hpd hln) rfl (by show 2 * 0 + _ ≤ _; omega) (hb C.2.1 hd) (fun _ _ => ⟨rfl, eT, hce', hsl'⟩)
  dsimp only [Pt.U, Pt.locs, Pt.cells, Pt.slots] at X' l' y' z' st' hQ
  subst l' y' z'
  exact (hr v T' Lc X' hQ).step fun t k => st'.trans k
theorem g_callI (C : Cx p s m meth c bs mx own mnm rt Z) (X : Stand p l e R s m args below meth c T locs cells slots) {rm : Room} {as' : Array Value} {Q : Option Value → Heap → List Loc → Prop} {ml : Nat} {yb : ByteArray} {ce sl W : Nat} {argsL : List Value} {ps : List FieldType} {pr : Option FieldType} {y : MethodName} {i : Nat} {b : Addr} (hy1 : y.name = "<init>") (hd : decode bs pc = .ok (.invokespecial i, 3)) (w1 : (Jvm.Cond.methodLink own i y).before a0 Z = true) (w2 : (Jvm.Cond.instanceMethod y).before a0 Z = true) (w3 : (Jvm.Cond.initialized y.cls).before a0 Z = true) (w4 : (Jvm.Cond.code y yb ml none).before a0 Z = true) (hy : y.cls ≠ "java/lang/invoke/MethodHandle" ∧ y.cls ≠ "java/lang/invoke/VarHandle")
    (hM : MetFree l y (head1 [Jvm.Cond.code y yb ml none] rm) (fun a U => a = as' ∧ Z.Warmed39 U.vm ∧ U.heap = h) (fun _ _ _ _ _ => True) (fun _ U o U' => ∃ v L, o = .returned v ∧ Q v U'.heap L ∧ FrameEnd U o U' L rm.cells rm.slots)) (hf : rm.frames + 1 ≤ R.frames) (hlo : W + (ml + 11) + rm.locals ≤ R.locals) (hce : cells + rm.cells = ce) (hsl : slots + rm.slots = sl) (hce' : ce ≤ R.cells) (hsl' : sl ≤ R.slots) (has : (.ref b :: argsL).toArray = as') (eT : T.heap = h) (hsz : Ls.size = mx) (hpd : parseMethodDescriptor y.desc = some ⟨ps, pr⟩) (hln : argsL.length = ps.length) (hW : (st.map fun v => v.category).sum ≤ W) (hn : pc + 3 = pc')
    (hr : ∀ v T' L, Stand p l e R s m args below meth c T' (locs ++ L) ce sl → Q v T'.heap L → Go p.tables e below G (T'.setTop (mkF m pc' Ls (v.toList ++ st)))) : Go p.tables e below G (T.setTop (mkF m pc Ls (argsL.reverse ++ .ref b :: st))) := by
  subst hn hce hsl has
  obtain ⟨v, vm1, ⟨T', L', k', n'⟩, -, X', ⟨Lc, hQ, l', y', z'⟩, st'⟩ := X.specialBack C.1 (y := y) hy1 C.hown (mvT C.hZ w1) (mvT C.hZ w2) (mvT C.hZ w4) hy (backOf (W := W) hM C.hZ w4 w3 hf hlo) (g := mkF m pc Ls (argsL.reverse ++ .ref b :: st)) rfl (hsz.trans C.2.2.1.symm) (Steps.refl _) (a := b) (argsL := argsL) (rest := st) (lenOf hpd hln) rfl (by show 2 * 0 + _ ≤ _; omega) (hb C.2.1 hd) (fun _ _ => ⟨rfl, eT, hce', hsl'⟩)
  dsimp only [Pt.U, Pt.locs, Pt.cells, Pt.slots] at X' l' y' z' st' hQ
  subst l' y' z'
  exact (hr v T' Lc X' hQ).step fun t k => st'.trans k
theorem g_retI (C : Cx p s m meth c bs mx own mnm (some .int) Z) (X : Stand p l e R s m args below meth c T locs cells slots) {Q : Option Value → Heap → List Loc → Prop} {ce sl : Nat} {z : Int32} (hd : decode bs pc = .ok (.ireturn, 1)) (hc : cells ≤ ce) (hs : slots ≤ sl) (hQ : Q (some (.int z)) T.heap locs) : Go p.tables e below (End s Q ce sl) (T.setTop (mkF m pc Ls (.int z :: st))) := by
  obtain ⟨fs, hr, hrun, hended, hW, hsame⟩ := X.leave (v := (some (.int z))) (fun h => by rw [C.ret] at h; cases h) C.locks
  exact ⟨_, _, retOut X C.1 C.ret rfl (Or.inl ⟨rfl, Or.inl rfl, _, rfl⟩) (hb C.2.1 hd) hr, hrun, hended, _, _, rfl, hQ, ⟨_, rfl⟩, hW, hsame.mono hc hs⟩
theorem g_retA {t : FieldType} (C : Cx p s m meth c bs mx own mnm (some t) Z) (X : Stand p l e R s m args below meth c T locs cells slots) {Q : Option Value → Heap → List Loc → Prop} {ce sl : Nat} {v : Value} (ht : t.isReference = true) (hnw : narrow t v = v) (hv : v.isRef = true) (hd : decode bs pc = .ok (.areturn, 1)) (hc : cells ≤ ce) (hs : slots ≤ sl) (hQ : Q (some v) T.heap locs) : Go p.tables e below (End s Q ce sl) (T.setTop (mkF m pc Ls (v :: st))) := by
  obtain ⟨fs, hr, hrun, hended, hW, hsame⟩ := X.leave (v := (some v)) (fun h => by rw [C.ret] at h; cases h) C.locks
  exact ⟨_, _, retOut X C.1 C.ret hnw (Or.inr (Or.inr (Or.inr (Or.inr ⟨rfl, ht, hv⟩)))) (hb C.2.1 hd) hr, hrun, hended, _, _, rfl, hQ, ⟨_, rfl⟩, hW, hsame.mono hc hs⟩
theorem g_retN {t : FieldType} (C : Cx p s m meth c bs mx own mnm (some t) Z) (X : Stand p l e R s m args below meth c T locs cells slots) {Q : Option Value → Heap → List Loc → Prop} {ce sl : Nat} {z : Int32} (ht : t = .boolean ∨ t = .byte ∨ t = .char ∨ t = .short) (hd : decode bs pc = .ok (.ireturn, 1)) (hc : cells ≤ ce) (hs : slots ≤ sl) (hQ : Q (some (.int (nar t z))) T.heap locs) : Go p.tables e below (End s Q ce sl) (T.setTop (mkF m pc Ls (.int z :: st))) := by
  obtain ⟨fs, hr, hrun, hended, hW, hsame⟩ := X.leave (v := (some (.int (nar t z)))) (fun h => by rw [C.ret] at h; cases h) C.locks
  exact ⟨_, _, retN X C.1 C.ret ht (hb C.2.1 hd) hr, hrun, hended, _, _, rfl, hQ, ⟨_, rfl⟩, hW, hsame.mono hc hs⟩
theorem g_retV (C : Cx p s m meth c bs mx own mnm none Z) (X : Stand p l e R s m args below meth c T locs cells slots) {Q : Option Value → Heap → List Loc → Prop} {ce sl : Nat}  (hd : decode bs pc = .ok (.return_, 1)) (hc : cells ≤ ce) (hs : slots ≤ sl) (hQ : Q none T.heap locs) : Go p.tables e below (End s Q ce sl) (T.setTop (mkF m pc Ls [])) := by
  obtain ⟨fs, hr, hrun, hended, hW, hsame⟩ := X.leave (v := none) (fun _ => rfl) C.locks
  exact ⟨_, _, X.returnOut C.1 C.ret (hb C.2.1 hd) hr, hrun, hended, _, _, rfl, hQ, ⟨_, rfl⟩, hW, hsame.mono hc hs⟩
theorem g_new (C : Cx p s m meth c bs mx own mnm rt Z) (X : Stand p l e R s m args below meth c T locs cells slots) {K : String} {i n ce sl : Nat} (hd : decode bs pc = .ok (.new i, 3)) (w : (Jvm.Cond.classLink own i K).before a0 Z = true) (wi : (Jvm.Cond.instantiable K n).before a0 Z = true) (wz : (Jvm.Cond.initialized K).before a0 Z = true) (eT : T.heap = h) (hce : cells + 1 = ce) (hsl : slots + n = sl) (hce' : ce ≤ R.cells) (hsl' : sl ≤ R.slots) (hn : pc + 3 = pc')
    (hr : ∀ T' h' b, b = h.size → Stand p l e R s m args below meth c T' locs ce sl → T'.heap = h' → Ext h h' → Exa Z h' b K → (∀ {O nm d : String} {ty : FieldType}, Laid Z a0 K O nm d → parseFieldDescriptor d = some ty → Fld Z h' b O nm d (defaultValue ty)) → Go p.tables e below G (T'.setTop (mkF m pc' Ls (.ref b :: st)))) : Go p.tables e below G (T.setTop (mkF m pc Ls st)) := by
  subst hn hce hsl
  obtain ⟨T', h', X', e', E', A', D', -, st'⟩ := newO X C.1 C.hZ C.hown w wi wz eT (g := mkF m pc Ls st) rfl (hb C.2.1 hd) hce' hsl'
  exact (hr T' h' _ rfl X' e' E' A' D').step st'
theorem g_initO (C : Cx p s m meth c bs mx own mnm rt Z) (X : Stand p l e R s m args below meth c T locs cells slots) {i W : Nat} {a : Addr} (hd : decode bs pc = .ok (.invokespecial i, 3)) (w1 : (Jvm.Cond.methodLink own i Lib.objectInit).before a0 Z = true) (w2 : (Jvm.Cond.instanceMethod Lib.objectInit).before a0 Z = true) (w3 : (Jvm.Cond.code Lib.objectInit object_method_1_code 1 none).before a0 Z = true) (eT : T.heap = h) (hsz : Ls.size = mx) (hf : 1 ≤ R.frames) (hW : (st.map fun v => v.category).sum ≤ W) (hl : W + 12 ≤ R.locals) (hn : pc + 3 = pc')
    (hr : ∀ T', Stand p l e R s m args below meth c T' locs cells slots → T'.heap = h → Go p.tables e below G (T'.setTop (mkF m pc' Ls st))) : Go p.tables e below G (T.setTop (mkF m pc Ls (.ref a :: st))) := by
  subst hn
  obtain ⟨T', X', e', st'⟩ := initO X C.1 C.hZ C.hown w1 w2 w3 eT (g := mkF m pc Ls (.ref a :: st)) rfl (hsz.trans C.2.2.1.symm) rfl (hb C.2.1 hd) hf (W := W) (by show 2 * 0 + _ ≤ _; omega) hl
  exact (hr T' X' e').step st'
theorem g_putF (C : Cx p s m meth c bs mx own mnm rt Z) (X : Stand p l e R s m args below meth c T locs cells slots) {O n d R0 host K : String} {i kk : Nat} {ty : FieldType} {a : Addr} {v old : Value} (hd : decode bs pc = .ok (.putfield i, 3)) (w : (Jvm.Cond.fieldLink own i R0 n d).before a0 Z = true ∨ (Jvm.Cond.fieldLinkNest own i R0 n d host).before a0 Z = true) (via : Via Z R0 O n d) (eT : T.heap = h) (F : Fld Z h a O n d old) (E : Exa Z h a K) (L : (Jvm.Cond.lays K O n d).before a0 Z = true ∨ ((Jvm.Cond.laysFinal K O n d).before a0 Z = true ∧ own = O ∧ mnm = "<init>")) (wi : (Jvm.Cond.instantiable K kk).before a0 Z = true) (hty : parseFieldDescriptor d = some ty) (hnw : narrow ty v = v) (hf : fits ty v = true) (hn : pc + 3 = pc')
    (hr : ∀ T' h', Stand p l e R s m args below meth c T' (locs ++ [⟨a, Jvm.RoadKit.slotOf Z O n d⟩]) cells slots → T'.heap = h' → Wr h h' a (Jvm.RoadKit.slotOf Z O n d) v → Go p.tables e below G (T'.setTop (mkF m pc' Ls st))) : Go p.tables e below G (T.setTop (mkF m pc Ls (v :: .ref a :: st))) := by
  subst hn
  obtain ⟨T', h', X', e', W', st'⟩ := putF X C.1 C.hZ C.hown w via eT F E (L.imp id fun q => ⟨q.1, q.2.1, C.nm.trans q.2.2⟩) wi hty hnw hf (g := mkF m pc Ls (v :: .ref a :: st)) rfl rfl (hb C.2.1 hd)
  exact (hr T' h' X' e' W').step st'
theorem g_putFN (C : Cx p s m meth c bs mx own mnm rt Z) (X : Stand p l e R s m args below meth c T locs cells slots) {O n d R0 K : String} {i kk : Nat} {ty : FieldType} {a : Addr} {v v' old : Value} (hd : decode bs pc = .ok (.putfield i, 3)) (w : (Jvm.Cond.fieldLink own i R0 n d).before a0 Z = true) (via : Via Z R0 O n d) (eT : T.heap = h) (F : Fld Z h a O n d old) (E : Exa Z h a K) (L : (Jvm.Cond.lays K O n d).before a0 Z = true ∨ ((Jvm.Cond.laysFinal K O n d).before a0 Z = true ∧ own = O ∧ mnm = "<init>")) (wi : (Jvm.Cond.instantiable K kk).before a0 Z = true) (hty : parseFieldDescriptor d = some ty) (hnw : narrow ty v = v') (hf : fits ty v' = true) (hn : pc + 3 = pc')
    (hr : ∀ T' h', Stand p l e R s m args below meth c T' (locs ++ [⟨a, Jvm.RoadKit.slotOf Z O n d⟩]) cells slots → T'.heap = h' → Wr h h' a (Jvm.RoadKit.slotOf Z O n d) v' → Go p.tables e below G (T'.setTop (mkF m pc' Ls st))) : Go p.tables e below G (T.setTop (mkF m pc Ls (v :: .ref a :: st))) := by
  subst hn
  obtain ⟨T', h', X', e', W', st'⟩ := putFN X C.1 C.hZ C.hown w via eT F E (L.imp id fun q => ⟨q.1, q.2.1, C.nm.trans q.2.2⟩) wi hty hnw hf (g := mkF m pc Ls (v :: .ref a :: st)) rfl rfl (hb C.2.1 hd)
  exact (hr T' h' X' e' W').step st'
theorem g_newP (C : Cx p s m meth c bs mx own mnm rt Z) (X : Stand p l e R s m args below meth c T locs cells slots) {aty : ArrayType} {n : Int32} {cap ce sl : Nat} (hd : decode bs pc = .ok (.newarray aty, 2)) (w : (Jvm.Cond.arrayClass (newarray.typeOf aty)).before a0 Z = true) (eT : T.heap = h) (hn0 : ¬ n < 0) (hcap : n.toNatClampNeg ≤ cap) (hb8 : cap * 8 ≤ 536870912) (hce : cells + 1 = ce) (hsl : slots + cap = sl) (hce' : ce ≤ R.cells) (hsl' : sl ≤ R.slots) (hn : pc + 2 = pc')
    (hr : ∀ T' h' b k, b = h.size → Stand p l e R s m args below meth c T' locs ce sl → T'.heap = h' → Ext h h' → Arv Z h' b k (newarray.typeOf aty) n [] (defaultValue (newarray.typeOf aty)) → Go p.tables e below G (T'.setTop (mkF m pc' Ls (.ref b :: st)))) : Go p.tables e below G (T.setTop (mkF m pc Ls (.int n :: st))) := by
  subst hn hce hsl
  obtain ⟨T', h', k', X', e', E', A', st'⟩ := newP X C.1 C.hZ w eT (g := mkF m pc Ls (.int n :: st)) rfl (hb C.2.1 hd) rfl hn0 hcap hb8 hce' hsl'
  exact (hr T' h' _ k' rfl X' e' E' (Arv.new A' hn0)).step st'
theorem g_stB (C : Cx p s m meth c bs mx own mnm rt Z) (X : Stand p l e R s m args below meth c T locs cells slots) {a : Addr} {k : ClassId} {n j : Int32} {x : Int32} {vs : List Value} {dv : Value} {i : Nat} (hd : decode bs pc = .ok (.bastore, 1)) (eT : T.heap = h) (F : Arv Z h a k .byte n vs dv) (hj : ¬ j < 0 ∧ j < n) (hji : j.toNatClampNeg = i) (hi : i < vs.length) (hn : pc + 1 = pc')
    (hr : ∀ T' h', Stand p l e R s m args below meth c T' (locs ++ [⟨a, j.toNatClampNeg⟩]) cells slots → T'.heap = h' → Wr h h' a j.toNatClampNeg (.int (nar .byte x)) → Arv Z h' a k .byte n (vs.set i (.int (nar .byte x))) dv → Go p.tables e below G (T'.setTop (mkF m pc' Ls st))) : Go p.tables e below G (T.setTop (mkF m pc Ls (.int x :: .int j :: .ref a :: st))) := by
  subst hn
  obtain ⟨cl, A, q, Sz, N, H, Gf⟩ := F
  obtain ⟨T', h', X', e', W', st'⟩ := stB X C.1 C.hZ eT A (j := j) (inb_of Sz hj) (g := mkF m pc Ls (.int x :: .int j :: .ref a :: st)) rfl rfl (hb C.2.1 hd)
  exact (hr T' h' X' e' W' (Arv.set A q Sz N H Gf (fits_nar_byte _) W' i hji hi)).step st'
theorem g_stC (C : Cx p s m meth c bs mx own mnm rt Z) (X : Stand p l e R s m args below meth c T locs cells slots) {a : Addr} {k : ClassId} {n j : Int32} {x : Int32} {vs : List Value} {dv : Value} {i : Nat} (hd : decode bs pc = .ok (.castore, 1)) (eT : T.heap = h) (F : Arv Z h a k .char n vs dv) (hj : ¬ j < 0 ∧ j < n) (hji : j.toNatClampNeg = i) (hi : i < vs.length) (hn : pc + 1 = pc')
    (hr : ∀ T' h', Stand p l e R s m args below meth c T' (locs ++ [⟨a, j.toNatClampNeg⟩]) cells slots → T'.heap = h' → Wr h h' a j.toNatClampNeg (.int (nar .char x)) → Arv Z h' a k .char n (vs.set i (.int (nar .char x))) dv → Go p.tables e below G (T'.setTop (mkF m pc' Ls st))) : Go p.tables e below G (T.setTop (mkF m pc Ls (.int x :: .int j :: .ref a :: st))) := by
  subst hn
  obtain ⟨cl, A, q, Sz, N, H, Gf⟩ := F
  obtain ⟨T', h', X', e', W', st'⟩ := stC X C.1 C.hZ eT A (j := j) (inb_of Sz hj) (g := mkF m pc Ls (.int x :: .int j :: .ref a :: st)) rfl rfl (hb C.2.1 hd)
  exact (hr T' h' X' e' W' (Arv.set A q Sz N H Gf (fits_nar_char _) W' i hji hi)).step st'
theorem g_ldB (C : Cx p s m meth c bs mx own mnm rt Z) (X : Stand p l e R s m args below meth c T locs cells slots) {a : Addr} {k : ClassId} {n j : Int32} {vs : List Value} {dv v : Value} (hd : decode bs pc = .ok (.baload, 1)) (eT : T.heap = h) (F : Arv Z h a k .byte n vs dv) (hj : ¬ j < 0 ∧ j < n) (hv : vs.getD j.toNatClampNeg dv = v) (hn : pc + 1 = pc')
    (hr : Go p.tables e below G (T.setTop (mkF m pc' Ls (v :: st)))) : Go p.tables e below G (T.setTop (mkF m pc Ls (.int j :: .ref a :: st))) := by
  subst hn
  obtain ⟨cl, A, q, Sz, N, H, Gf⟩ := F
  have hin := inb_of Sz hj
  exact hr.step fun t k => X.baloadBytes C.1 (j := j) (by rw [eT]; exact A.1) (State.isArrayOf_alike C.hZ.alike A.2.1) A.2.2 hin ((H _ (Nat.lt_of_not_le fun q => hin (Or.inr q))).trans (congrArg some hv)) (g := mkF m pc Ls (.int j :: .ref a :: st)) rfl rfl (hb C.2.1 hd) _ k
theorem g_ldC (C : Cx p s m meth c bs mx own mnm rt Z) (X : Stand p l e R s m args below meth c T locs cells slots) {a : Addr} {k : ClassId} {n j : Int32} {vs : List Value} {dv v : Value} (hd : decode bs pc = .ok (.caload, 1)) (eT : T.heap = h) (F : Arv Z h a k .char n vs dv) (hj : ¬ j < 0 ∧ j < n) (hv : vs.getD j.toNatClampNeg dv = v) (hn : pc + 1 = pc')
    (hr : Go p.tables e below G (T.setTop (mkF m pc' Ls (v :: st)))) : Go p.tables e below G (T.setTop (mkF m pc Ls (.int j :: .ref a :: st))) := by
  subst hn
  obtain ⟨cl, A, q, Sz, N, H, Gf⟩ := F
  have hin := inb_of Sz hj
  exact hr.step fun t k => X.caload C.1 (j := j) (by rw [eT]; exact A.1) (State.isArrayOf_alike C.hZ.alike A.2.1) A.2.2 hin ((H _ (Nat.lt_of_not_le fun q => hin (Or.inr q))).trans (congrArg some hv)) (g := mkF m pc Ls (.int j :: .ref a :: st)) rfl rfl (hb C.2.1 hd) _ k
theorem g_len (C : Cx p s m meth c bs mx own mnm rt Z) (X : Stand p l e R s m args below meth c T locs cells slots) {a : Addr} {k : ClassId} {n : Int32} {ty : FieldType} {vs : List Value} {dv : Value} (hd : decode bs pc = .ok (.arraylength, 1)) (eT : T.heap = h) (F : Arv Z h a k ty n vs dv) (hn : pc + 1 = pc')
    (hr : Go p.tables e below G (T.setTop (mkF m pc' Ls (.int n :: st)))) : Go p.tables e below G (T.setTop (mkF m pc Ls (.ref a :: st))) := by
  subst hn
  obtain ⟨cl, A, q, Sz, N, H, Gf⟩ := F
  exact hr.step fun t k => X.arraylength C.1 (by rw [eT]; exact A.1) (State.isArrayOf_alike C.hZ.alike A.2.1) (g := mkF m pc Ls (.ref a :: st)) rfl rfl (hb C.2.1 hd) _ (by rw [len_of Sz N]; exact k)
theorem own_sta_keep {h' : Heap} {ws : List Addr} {K n d : String} {v : Value} (F : Sta Z h K n d v) (Kp : Keep h h' ws) (q : ∀ a ∈ ws, ∃ c : Cell, h[a]? = some c ∧ c.vm.isStatics = false) : Sta Z h' K n d v := by
  obtain ⟨cf, i, k, f, st, cell, h1, h2, h3, h4, h5, h6, h7⟩ := F
  refine ⟨cf, i, k, f, st, cell, h1, h2, h3, h4, Kp.2.1 st cell h5 (fun hm => ?_), h6, h7⟩
  obtain ⟨c', e1, e2⟩ := q st hm
  cases h5.symm.trans e1
  rw [h6] at e2
  cases e2
theorem own_fin (n : Nat) (x : Int32) (h0 : 0 ≤ x.toInt) (h1 : x.toInt < n) : ∃ i : Fin n, x = Int32.ofNat i.val :=
  ⟨⟨x.toNatClampNeg, by show x.toInt.toNat < n; omega⟩, (back32 (by rw [Int32.lt_iff_toInt_lt]; show ¬ x.toInt < 0; omega)).1.symm⟩
theorem g_castY (C : Cx p s m meth c bs mx own mnm rt Z) (X : Stand p l e R s m args below meth c T locs cells slots) {i : Nat} {K : String} {a : Addr} (hd : decode bs pc = .ok (.checkcast i, 3)) (w : (Jvm.Cond.classLink own i K).before a0 Z = true) (eT : T.heap = h) (Iy : Ins Z h a K true) (hn : pc + 3 = pc')
    (hr : ∀ T', Stand p l e R s m args below meth c T' locs cells slots → T'.heap = h → Go p.tables e below G (T'.setTop (mkF m pc' Ls (.ref a :: st)))) : Go p.tables e below G (T.setTop (mkF m pc Ls (.ref a :: st))) := by
  subst hn
  obtain ⟨T', X', e', st'⟩ := castY X C.1 C.hZ C.hown w eT Iy (g := mkF m pc Ls (.ref a :: st)) rfl rfl (hb C.2.1 hd)
  exact (hr T' X' e').step st'
theorem g_instY (C : Cx p s m meth c bs mx own mnm rt Z) (X : Stand p l e R s m args below meth c T locs cells slots) {i : Nat} {K : String} {a : Addr} (hd : decode bs pc = .ok (.instanceof i, 3)) (w : (Jvm.Cond.classLink own i K).before a0 Z = true) (eT : T.heap = h) (Iy : Ins Z h a K true) (hn : pc + 3 = pc')
    (hr : ∀ T', Stand p l e R s m args below meth c T' locs cells slots → T'.heap = h → Go p.tables e below G (T'.setTop (mkF m pc' Ls (.int 1 :: st)))) : Go p.tables e below G (T.setTop (mkF m pc Ls (.ref a :: st))) := by
  subst hn
  obtain ⟨T', X', e', st'⟩ := instY X C.1 C.hZ C.hown w eT Iy (g := mkF m pc Ls (.ref a :: st)) rfl rfl (hb C.2.1 hd)
  exact (hr T' X' e').step st'
theorem own_join {tb : Tables} {S S' : State} (f : Go tb e below G S' → Go tb e below G S) (a : Go tb e below G S') : Go tb e below G S := f a
theorem g_instNull (C : Cx p s m meth c bs mx own mnm rt Z) (X : Stand p l e R s m args below meth c T locs cells slots) {i : Nat} (hd : decode bs pc = .ok (.instanceof i, 3)) (hn : pc + 3 = pc')
    (hr : Go p.tables e below G (T.setTop (mkF m pc' Ls (.int 0 :: st)))) : Go p.tables e below G (T.setTop (mkF m pc Ls (.null :: st))) := by
  subst hn
  exact hr.step fun t k => X.instanceofNull C.1 (g := mkF m pc Ls (.null :: st)) rfl rfl (hb C.2.1 hd) _ k
theorem g_instNo (C : Cx p s m meth c bs mx own mnm rt Z) (X : Stand p l e R s m args below meth c T locs cells slots) {i : Nat} {K Ca : String} {a : Addr} (hd : decode bs pc = .ok (.instanceof i, 3)) (w : (Jvm.Cond.classLink own i K).before a0 Z = true) (eT : T.heap = h) (E : Exa Z h a Ca) (F : ∃ c t, Z.vm.findClass Ca = some c ∧ Z.vm.findClass K = some t ∧ Z.vm.assignable c t = false) (hn : pc + 3 = pc')
    (hr : ∀ T', Stand p l e R s m args below meth c T' locs cells slots → T'.heap = h → Go p.tables e below G (T'.setTop (mkF m pc' Ls (.int 0 :: st)))) : Go p.tables e below G (T.setTop (mkF m pc Ls (.ref a :: st))) := by
  subst hn
  obtain ⟨T', X', e', st'⟩ := instNo X C.1 C.hZ C.hown w eT E F (g := mkF m pc Ls (.ref a :: st)) rfl rfl (hb C.2.1 hd)
  exact (hr T' X' e').step st'
theorem own_cast {tb : Tables} {S S' : State} (q : S = S') (g : Go tb e below G S') : Go tb e below G S := q ▸ g
/-- the end of a body that may intern -/
def EndW (s : State) (Q : Option Value → Heap → List Loc → Prop) (ce sl : Nat) (o : Outcome) (U' : State) : Prop := ∃ v L, o = .returned v ∧ Q v U'.heap L ∧ ReturnedEndW s o U' L ce sl
theorem met_ofW {y : MethodName} {ws : List Jvm.Cond} {rm : Room} {as' : Array Value} {Q : Option Value → Heap → List Loc → Prop} {ce sl : Nat} {Px : State → Prop} (hpn : plainFor y = true) (hef : ∀ m, entryFrame m as' mx = mkF m 0 Ls [])
    (hbody : ∀ (p : Program) (e : Env) (s : State) (m : MethodId) (below : List Frame) (meth : Method) (c : Code) (T : State), Px s → Cx p (s.setVm s.vm) m meth c bs mx y.cls y.name rt Z → Stand p l e rm (s.setVm s.vm) m as' below meth c T [] 0 0 → s.Since s.vm 0 → T.heap = h → Go p.tables e below (EndW s Q ce sl) (T.setTop (mkF m 0 Ls []))) :
    MetFree l y (head1 (Jvm.Cond.code y bs mx rt :: ws) rm) (fun a U => a = as' ∧ Z.Warmed39 U.vm ∧ U.heap = h ∧ Px U) (fun _ _ _ _ _ => True) (fun _ U o U' => ∃ v L, o = .returned v ∧ Q v U'.heap L ∧ ReturnedEndW U o U' L ce sl) := by
  refine MetFree.of_bodySF hpn hisR ?_
  intro p e s m args below meth c s₁ Bd hml0 hP hK
  obtain ⟨rfl, hZ, hh, hpx⟩ := hP
  have X0 : Stand p l e rm s m _ below meth c s₁ [] 0 0 := Stand.of_body Bd
  have e0 : s₁.heap = h := by rw [← hh, Bd.state]; rfl
  obtain ⟨s₂, o, h1, h2, h3, h4⟩ := hbody p e s m below meth c s₁ hpx ⟨Bd.exec, Bd.bytes, hml0, findClass_of_methodNamed Bd.named, (name_of_methodNamed Bd.named Bd.method).1, Bd.returns, Bd.notSynchronized, hZ⟩ X0 ((State.WarmedH.refl s).since 0) e0
  exact ⟨s₂, o, castTop (hef m) h1, h2, h3, h4⟩
theorem met_ofW0 {y : MethodName} {ws : List Jvm.Cond} {rm : Room} {as' : Array Value} {Q : Option Value → Heap → List Loc → Prop} {ce sl : Nat} (hpn : plainFor y = true) (hef : ∀ m, entryFrame m as' mx = mkF m 0 Ls [])
    (hbody : ∀ (p : Program) (e : Env) (s : State) (m : MethodId) (below : List Frame) (meth : Method) (c : Code) (T : State), Cx p (s.setVm s.vm) m meth c bs mx y.cls y.name rt Z → Stand p l e rm (s.setVm s.vm) m as' below meth c T [] 0 0 → s.Since s.vm 0 → T.heap = h → Go p.tables e below (EndW s Q ce sl) (T.setTop (mkF m 0 Ls []))) :
    MetFree l y (head1 (Jvm.Cond.code y bs mx rt :: ws) rm) (fun a U => a = as' ∧ Z.Warmed39 U.vm ∧ U.heap = h) (fun _ _ _ _ _ => True) (fun _ U o U' => ∃ v L, o = .returned v ∧ Q v U'.heap L ∧ ReturnedEndW U o U' L ce sl) := by
  refine MetFree.of_bodySF hpn hisR ?_
  intro p e s m args below meth c s₁ Bd hml0 hP hK
  obtain ⟨rfl, hZ, hh⟩ := hP
  have X0 : Stand p l e rm s m _ below meth c s₁ [] 0 0 := Stand.of_body Bd
  have e0 : s₁.heap = h := by rw [← hh, Bd.state]; rfl
  obtain ⟨s₂, o, h1, h2, h3, h4⟩ := hbody p e s m below meth c s₁ ⟨Bd.exec, Bd.bytes, hml0, findClass_of_methodNamed Bd.named, (name_of_methodNamed Bd.named Bd.method).1, Bd.returns, Bd.notSynchronized, hZ⟩ X0 ((State.WarmedH.refl s).since 0) e0
  exact ⟨s₂, o, castTop (hef m) h1, h2, h3, h4⟩
theorem Cx.reb {s' : State} (C : Cx p s m meth c bs mx own mnm rt Z) (hZ : Z.Warmed39 s'.vm) (ho : s'.vm.findClass own = some m.cls) : Cx p s' m meth c bs mx own mnm rt Z := ⟨C.1, C.2.1, C.2.2.1, ho, C.nm, C.ret, C.locks, hZ⟩
theorem g_ldcS {vm0 : Vm} {k0 : Nat} (C : Cx p (s.setVm vm0) m meth c bs mx own mnm rt Z) (X : Stand p l e R (s.setVm vm0) m args below meth c T locs cells slots) (hS : s.Since vm0 k0) (hk : k0 ≤ h.size) {i n ce sl : Nat} {text : String} (hd : decode bs pc = .ok (.ldc i, 2)) (w : (Jvm.Cond.stringLink own i text).before a0 Z = true) (wS : ∀ a ∈ Bundle.stringAtoms, a.before a0 Z = true) (eT : T.heap = h) (hn4 : 4 * text.toList.length ≤ n) (hbig : n ≤ 536870912) (hce : cells + 2 = ce) (hsl : slots + (n + 4) = sl) (hce' : ce ≤ R.cells) (hsl' : sl ≤ R.slots) (hn : pc + 2 = pc')
    (hr : ∀ a T' h' k1, Cx p (s.setVm T'.vm) m meth c bs mx own mnm rt Z → Stand p l e R (s.setVm T'.vm) m args below meth c T' locs ce sl → T'.heap = h' → Ext h h' → s.Since T'.vm k1 → k1 ≤ h'.size → Go p.tables e below G (T'.setTop (mkF m pc' Ls (.ref a :: st)))) : Go p.tables e below G (T.setTop (mkF m pc Ls st)) := by
  subst hn hce hsl
  obtain ⟨a, T', h', k1, X', e', E', hS', hk', hZ', ho', st'⟩ := ldcS X C.1 C.hZ C.hown w wS eT hS hk (g := mkF m pc Ls st) rfl (hb C.2.1 hd) hn4 hbig hce' hsl'
  exact (hr a T' h' k1 (C.reb hZ' ho') X' e' E' hS' hk').step st'
theorem g_callIW {vm0 : Vm} {k0 : Nat} (C : Cx p (s.setVm vm0) m meth c bs mx own mnm rt Z) (X : Stand p l e R (s.setVm vm0) m args below meth c T locs cells slots) (hS : s.Since vm0 k0) (hk : k0 ≤ h.size) {rm : Room} {as' : Array Value} {Q : Option Value → Heap → List Loc → Prop} {ml : Nat} {yb : ByteArray} {ce sl W : Nat} {argsL : List Value} {ps : List FieldType} {pr : Option FieldType} {y : MethodName} {i : Nat} {b : Addr} (hy1 : y.name = "<init>") (hd : decode bs pc = .ok (.invokespecial i, 3)) (w1 : (Jvm.Cond.methodLink own i y).before a0 Z = true) (w2 : (Jvm.Cond.instanceMethod y).before a0 Z = true) (w3 : (Jvm.Cond.initialized y.cls).before a0 Z = true) (w4 : (Jvm.Cond.code y yb ml none).before a0 Z = true) (hy : y.cls ≠ "java/lang/invoke/MethodHandle" ∧ y.cls ≠ "java/lang/invoke/VarHandle")
    (hM : MetFree l y (head1 [Jvm.Cond.code y yb ml none] rm) (fun a U => a = as' ∧ Z.Warmed39 U.vm ∧ U.heap = h) (fun _ _ _ _ _ => True) (fun _ U o U' => ∃ v L, o = .returned v ∧ Q v U'.heap L ∧ ReturnedEndW U o U' L rm.cells rm.slots)) (hf : rm.frames + 1 ≤ R.frames) (hlo : W + (ml + 11) + rm.locals ≤ R.locals) (hce : cells + rm.cells = ce) (hsl : slots + rm.slots = sl) (hce' : ce ≤ R.cells) (hsl' : sl ≤ R.slots) (has : (.ref b :: argsL).toArray = as') (eT : T.heap = h) (hsz : Ls.size = mx) (hpd : parseMethodDescriptor y.desc = some ⟨ps, pr⟩) (hln : argsL.length = ps.length) (hW : (st.map fun v => v.category).sum ≤ W) (hn : pc + 3 = pc')
    (hr : ∀ v T' L, Cx p (s.setVm T'.vm) m meth c bs mx own mnm rt Z → Stand p l e R (s.setVm T'.vm) m args below meth c T' (locs ++ L) ce sl → s.Since T'.vm T'.heap.size → Q v T'.heap L → Go p.tables e below G (T'.setTop (mkF m pc' Ls (v.toList ++ st)))) : Go p.tables e below G (T.setTop (mkF m pc Ls (argsL.reverse ++ .ref b :: st))) := by
  subst hn hce hsl has
  obtain ⟨v, vm1, ⟨T', L', k', n'⟩, -, X', hS1, hg1, ⟨Lc, hQ, l', y', z'⟩, st'⟩ := X.specialBackS C.1 (y := y) hy1 C.hown (mvT C.hZ w1) (mvT C.hZ w2) (mvT C.hZ w4) hy (backOfS (W := W) hM C.hZ w4 w3 hf hlo) (g := mkF m pc Ls (argsL.reverse ++ .ref b :: st)) rfl (hsz.trans C.2.2.1.symm) (Steps.refl _) (a := b) (argsL := argsL) (rest := st) (lenOf hpd hln) rfl (by show 2 * 0 + _ ≤ _; omega) (hb C.2.1 hd) (fun _ _ => ⟨rfl, eT, hce', hsl'⟩)
  dsimp only [Pt.U, Pt.locs, Pt.cells, Pt.slots] at X' hS1 hg1 l' y' z' st' hQ
  subst l' y' z'
  obtain ⟨X2, S2, hZ2, ho2⟩ := rebS hS (Nat.le_trans hk (Nat.le_of_eq (congrArg Array.size eT).symm)) X' hS1 hg1 C.hZ C.hown
  exact (hr v T' Lc (C.reb hZ2 ho2) X2 S2 hQ).step fun t k => st'.trans k
theorem g_retNW {vm0 : Vm} {k0 : Nat} {t : FieldType} (C : Cx p (s.setVm vm0) m meth c bs mx own mnm (some t) Z) (X : Stand p l e R (s.setVm vm0) m args below meth c T locs cells slots) (hS : s.Since vm0 k0) (hk : k0 ≤ T.heap.size) {Q : Option Value → Heap → List Loc → Prop} {ce sl : Nat} {z : Int32} (ht : t = .boolean ∨ t = .byte ∨ t = .char ∨ t = .short) (hd : decode bs pc = .ok (.ireturn, 1)) (hc : cells ≤ ce) (hs : slots ≤ sl) (hQ : Q (some (.int (nar t z))) T.heap locs) : Go p.tables e below (EndW s Q ce sl) (T.setTop (mkF m pc Ls (.int z :: st))) := by
  obtain ⟨fs, hr, hrun, hended, q1, q2, q3, q4⟩ := X.leaveW hS hk (v := (some (.int (nar t z)))) (fun h => by rw [C.ret] at h; cases h) C.locks
  exact ⟨_, _, retN X C.1 C.ret ht (hb C.2.1 hd) hr, hrun, hended, _, _, rfl, hQ, q1, q2, q3, q4.mono hc hs⟩
theorem g_retVW {vm0 : Vm} {k0 : Nat} (C : Cx p (s.setVm vm0) m meth c bs mx own mnm none Z) (X : Stand p l e R (s.setVm vm0) m args below meth c T locs cells slots) (hS : s.Since vm0 k0) (hk : k0 ≤ T.heap.size) {Q : Option Value → Heap → List Loc → Prop} {ce sl : Nat}  (hd : decode bs pc = .ok (.return_, 1)) (hc : cells ≤ ce) (hs : slots ≤ sl) (hQ : Q none T.heap locs) : Go p.tables e below (EndW s Q ce sl) (T.setTop (mkF m pc Ls [])) := by
  obtain ⟨fs, hr, hrun, hended, q1, q2, q3, q4⟩ := X.leaveW hS hk (v := none) (fun _ => rfl) C.locks
  exact ⟨_, _, X.returnOut C.1 C.ret (hb C.2.1 hd) hr, hrun, hended, _, _, rfl, hQ, q1, q2, q3, q4.mono hc hs⟩
end OwnKit
theorem own_neqi {args : Array Value} {s : State} {t : Term} {x v : Int32} (ht : t.eval args s none [] s = some (.int x)) (h : (Jvm.Cond.not (Jvm.Cond.eq t (.int v))).value args s none s [] = some true) : ¬ (x = v) := by
  have q := not_v h
  intro e
  subst e
  simp [Cond.value, Term.eval, ht] at q
theorem own_arv_ne {Z : State} {h : Heap} {a b : Addr} {k k' : ClassId} {ty ty' : FieldType} {n n' : Int32} {vs vs' : List Value} {d d' : Value} (A : Arv Z h a k ty n vs d) (B : Arv Z h b k' ty' n' vs' d') (q : ¬ (n.toNatClampNeg = n'.toNatClampNeg)) : ¬ (a = b) := by
  rintro rfl
  obtain ⟨c, A1, -, S1, -⟩ := A
  obtain ⟨c', B1, -, S2, -⟩ := B
  cases A1.1.symm.trans B1.1
  exact q (S1.symm.trans S2)
theorem own_wS {a0 : Array Value} {Z : State} (hw : ∀ d ∈ tables_1, d.before a0 Z = true) : ∀ a ∈ Bundle.stringAtoms, a.before a0 Z = true := by
  intro a ha
  simp only [Bundle.stringAtoms, Bundle.sN, List.mem_cons, List.not_mem_nil, or_false] at ha
  rcases ha with rfl | rfl | rfl | rfl | rfl | rfl | rfl
  · exact (hw _ (List.mem_of_getElem? (i := 6) rfl))
  · exact (hw _ (List.mem_of_getElem? (i := 14) rfl))
  · exact (hw _ (List.mem_of_getElem? (i := 18) rfl))
  · exact (hw _ (List.mem_of_getElem? (i := 27) rfl))
  · exact (hw _ (List.mem_of_getElem? (i := 29) rfl))
  · exact (hw _ (List.mem_of_getElem? (i := 38) rfl))
  · exact (hw _ (List.mem_of_getElem? (i := 39) rfl))
def own_vl (cs : List Int32) : List Value := cs.map fun x => Value.int x
def own_B (x : Int32) : Int32 := nar .byte x.toInt8.toInt32
def own_cs (l c d : Int32) : List Int32 := if l = (1 : Int32) then [own_B c] else [own_B (nar .char c), own_B (nar .char d)]
def own_n (l : Int32) : Int32 := if l = (1 : Int32) then 1 else 2
def own_sh (n : Int32) (cs : List Int32) : Prop := (n = (1 : Int32) ∧ ∃ x, cs = [x]) ∨ (n = (2 : Int32) ∧ ∃ x y, cs = [x, y])
theorem own_shape (l c d : Int32) : own_sh (own_n l) (own_cs l c d) := by
  unfold own_sh own_n own_cs
  by_cases h : l = (1 : Int32)
  · rw [if_pos h, if_pos h]; exact Or.inl ⟨rfl, _, rfl⟩
  · rw [if_neg h, if_neg h]; exact Or.inr ⟨rfl, _, _, rfl⟩
theorem own_n12 (l : Int32) : own_n l = (1 : Int32) ∨ own_n l = (2 : Int32) := by
  unfold own_n
  by_cases h : l = (1 : Int32)
  · rw [if_pos h]; exact Or.inl rfl
  · rw [if_neg h]; exact Or.inr rfl
def own_eq (a b : List Int32) : Int32 := if a = b then 1 else 0
def FX (Z : State) (h : Heap) (cs : Int32) : Prop := (Sta Z h "java/lang/String" "COMPACT_STRINGS" "Z" (.int cs))
theorem d22_0 : decode jdk_52_method_21_code 0 = .ok (.iconst 0, 1) := by decide +kernel
theorem d22_1 : decode jdk_52_method_21_code 1 = .ok (.istore 5, 2) := by decide +kernel
theorem d22_3 : decode jdk_52_method_21_code 3 = .ok (.iload 5, 2) := by decide +kernel
theorem d22_5 : decode jdk_52_method_21_code 5 = .ok (.iload 4, 2) := by decide +kernel
theorem d22_7 : decode jdk_52_method_21_code 7 = .ok (.if_icmp .ge 37, 3) := by decide +kernel
theorem d22_10 : decode jdk_52_method_21_code 10 = .ok (.aload_n 0, 1) := by decide +kernel
theorem d22_11 : decode jdk_52_method_21_code 11 = .ok (.iload_n 1, 1) := by decide +kernel
theorem d22_12 : decode jdk_52_method_21_code 12 = .ok (.caload, 1) := by decide +kernel
theorem d22_13 : decode jdk_52_method_21_code 13 = .ok (.istore 6, 2) := by decide +kernel
theorem d22_15 : decode jdk_52_method_21_code 15 = .ok (.iload 6, 2) := by decide +kernel
theorem d22_17 : decode jdk_52_method_21_code 17 = .ok (.sipush 255, 3) := by decide +kernel
theorem d22_20 : decode jdk_52_method_21_code 20 = .ok (.if_icmp .le 6, 3) := by decide +kernel
theorem d22_26 : decode jdk_52_method_21_code 26 = .ok (.aload_n 2, 1) := by decide +kernel
theorem d22_27 : decode jdk_52_method_21_code 27 = .ok (.iload_n 3, 1) := by decide +kernel
theorem d22_28 : decode jdk_52_method_21_code 28 = .ok (.iload 6, 2) := by decide +kernel
theorem d22_30 : decode jdk_52_method_21_code 30 = .ok (.i2b, 1) := by decide +kernel
theorem d22_31 : decode jdk_52_method_21_code 31 = .ok (.bastore, 1) := by decide +kernel
theorem d22_32 : decode jdk_52_method_21_code 32 = .ok (.iinc 1 1, 3) := by decide +kernel
theorem d22_35 : decode jdk_52_method_21_code 35 = .ok (.iinc 3 1, 3) := by decide +kernel
theorem d22_38 : decode jdk_52_method_21_code 38 = .ok (.iinc 5 1, 3) := by decide +kernel
theorem d22_41 : decode jdk_52_method_21_code 41 = .ok (.goto (-38), 3) := by decide +kernel
theorem d22_44 : decode jdk_52_method_21_code 44 = .ok (.iload 4, 2) := by decide +kernel
theorem d22_46 : decode jdk_52_method_21_code 46 = .ok (.ireturn, 1) := by decide +kernel
def Fc5  : Int32 := (2 : Int32)
theorem Fc5_l0   : Fc5  = (2 : Int32) := rfl
theorem ef_c5 (m : MethodId) (a1 : Addr) (a3 : Addr) : entryFrame m #[(.ref a1), (.int (0 : Int32)), (.ref a3), (.int (0 : Int32)), (.int (2 : Int32))] 7 = mkF m 0 #[.val (.ref a1), .val (.int (0 : Int32)), .val (.ref a3), .val (.int (0 : Int32)), .val (.int (2 : Int32)), .unset, .unset] [] := by first | (simp [entryFrame, mkF, argsToLocals, Value.category]; done) | rfl
def Q_c5 (Z : State) (a1 : Addr) (a3 : Addr) (kc : ClassId) (kb : ClassId) (x0 : Int32) (x1 : Int32) (cs : Int32) (h0 : Heap) (n0 : Nat) (vr : Option Value) (h : Heap) (L : List Loc) : Prop := (vr = some (.int (Fc5 ))) ∧ (Fr n0 L) ∧ (Keep h0 h [a3]) ∧ (Arv Z h a3 kb .byte (2 : Int32) [(.int (nar .byte x0.toInt8.toInt32)), (.int (nar .byte x1.toInt8.toInt32))] (.int (0 : Int32)))
set_option maxRecDepth 65536 in
set_option maxHeartbeats 40000000 in
theorem rmc5 (l : Launch) (Z : State) (a0 : Array Value) (hw : ∀ d ∈ tables_1, d.before a0 Z = true) (ws : List Jvm.Cond) (a1 : Addr) (a3 : Addr) (kc : ClassId) (kb : ClassId) (x0 : Int32) (x1 : Int32) (cs : Int32) (h0 : Heap) (n0 : Nat) (Z0 : n0 ≤ h0.size) (hF : FX Z h0 cs) (V_c : Arv Z h0 a1 kc .char (2 : Int32) [(.int x0), (.int x1)] (.int (0 : Int32))) (V_b : Arv Z h0 a3 kb .byte (2 : Int32) [(.int (0 : Int32)), (.int (0 : Int32))] (.int (0 : Int32))) (hx0 : ¬ ((255 : Int32) < x0)) (hx1 : ¬ ((255 : Int32) < x1)) (gn_a3 : n0 ≤ a3) (ne13 : ¬ (a1 = a3)) :
    MetFree l (⟨"java/lang/StringUTF16", "compress", "([CI[BII)I"⟩ : MethodName) (head1 (Jvm.Cond.code (⟨"java/lang/StringUTF16", "compress", "([CI[BII)I"⟩ : MethodName) jdk_52_method_21_code 7 (some .int) :: ws) ({ frames := 0, cells := 0, slots := 0, locals := 0 } : Room)) (fun a U => a = #[(.ref a1), (.int (0 : Int32)), (.ref a3), (.int (0 : Int32)), (.int (2 : Int32))] ∧ Z.Warmed39 U.vm ∧ U.heap = h0) (fun _ _ _ _ _ => True) (fun _ U o U' => ∃ v L, o = .returned v ∧ Q_c5 Z a1 a3 kc kb x0 x1 cs h0 n0 v U'.heap L ∧ FrameEnd U o U' L ({ frames := 0, cells := 0, slots := 0, locals := 0 } : Room).cells ({ frames := 0, cells := 0, slots := 0, locals := 0 } : Room).slots) := by
  refine met_of (Ls := #[.val (.ref a1), .val (.int (0 : Int32)), .val (.ref a3), .val (.int (0 : Int32)), .val (.int (2 : Int32)), .unset, .unset]) (plainFor_of_name (by first | (simp [plainName, overriddenIn]; done) | decide +kernel)) (fun m => ef_c5 m a1 a3) ?_
  intro p e s m below meth c T0 C X0 e0
  have S_cs := hF
  have N0 := Fr.nil n0
  have K0 : Keep h0 h0 [a3] := Keep.refl h0 _
  refine g_iconst (pc' := 1) (v := (0 : Int32)) C X0 d22_0 rfl rfl ?_
  refine g_istore (pc' := 3) (Ls' := #[.val (.ref a1), .val (.int (0 : Int32)), .val (.ref a3), .val (.int (0 : Int32)), .val (.int (2 : Int32)), .val (.int (0 : Int32)), .unset]) C X0 d22_1 rfl rfl ?_
  refine g_iload (pc' := 5) C X0 d22_3 rfl rfl ?_
  refine g_iload (pc' := 7) C X0 d22_5 rfl rfl ?_
  refine g_icmpN (pc' := 10) C X0 d22_7 (tlt (show (0 : Int32) < (2 : Int32) from (by decide))).2.1 rfl ?_
  refine g_aloadN (pc' := 11) C X0 d22_10 rfl rfl rfl ?_
  refine g_iloadN (pc' := 12) C X0 d22_11 rfl rfl ?_
  refine g_ldC (pc' := 13) (v := (.int x0)) C X0 d22_12 e0 V_c ⟨by decide, by decide⟩ rfl rfl ?_
  refine g_istore (pc' := 15) (Ls' := #[.val (.ref a1), .val (.int (0 : Int32)), .val (.ref a3), .val (.int (0 : Int32)), .val (.int (2 : Int32)), .val (.int (0 : Int32)), .val (.int x0)]) C X0 d22_13 rfl rfl ?_
  refine g_iload (pc' := 17) C X0 d22_15 rfl rfl ?_
  refine g_sipush (pc' := 20) (v := (255 : Int32)) C X0 d22_17 rfl rfl ?_
  refine g_icmpY (pc' := 26) C X0 d22_20 (flt hx0).2.2.2 (by decide) (by decide) ?_
  refine g_aloadN (pc' := 27) C X0 d22_26 rfl rfl rfl ?_
  refine g_iloadN (pc' := 28) C X0 d22_27 rfl rfl ?_
  refine g_iload (pc' := 30) C X0 d22_28 rfl rfl ?_
  refine g_i2b (pc' := 31) C X0 d22_30 rfl ?_
  refine g_stB (pc' := 32) (i := 0) C X0 d22_31 e0 V_b ⟨by decide, by decide⟩ rfl (show (0 : Nat) < 2 from by decide) rfl (fun T1 h1 X1 e1 W1 V1q => ?_)
  have V1 : Arv Z h1 a3 kb .byte (2 : Int32) [(.int (nar .byte x0.toInt8.toInt32)), (.int (0 : Int32))] (.int (0 : Int32)) := V1q
  have S_cs_1 := S_cs.wr W1
  have V_c_1 := V_c.other W1 ne13
  have Z1 := Nat.le_trans Z0 (Nat.le_of_eq W1.size.symm)
  have N1 := Fr.snoc X1 N0 gn_a3
  have K1 := K0.wr W1 (Or.inl (List.mem_of_getElem? (i := 0) rfl))
  refine g_iinc (pc' := 35) (Ls' := #[.val (.ref a1), .val (.int ((0 : Int32) + (1 : Int32))), .val (.ref a3), .val (.int (0 : Int32)), .val (.int (2 : Int32)), .val (.int (0 : Int32)), .val (.int x0)]) C X1 d22_32 rfl rfl rfl ?_
  refine g_iinc (pc' := 38) (Ls' := #[.val (.ref a1), .val (.int ((0 : Int32) + (1 : Int32))), .val (.ref a3), .val (.int ((0 : Int32) + (1 : Int32))), .val (.int (2 : Int32)), .val (.int (0 : Int32)), .val (.int x0)]) C X1 d22_35 rfl rfl rfl ?_
  refine g_iinc (pc' := 41) (Ls' := #[.val (.ref a1), .val (.int ((0 : Int32) + (1 : Int32))), .val (.ref a3), .val (.int ((0 : Int32) + (1 : Int32))), .val (.int (2 : Int32)), .val (.int ((0 : Int32) + (1 : Int32))), .val (.int x0)]) C X1 d22_38 rfl rfl rfl ?_
  refine g_goto (pc' := 3) C X1 d22_41 (by decide) (by decide) ?_
  refine g_iload (pc' := 5) C X1 d22_3 rfl rfl ?_
  refine g_iload (pc' := 7) C X1 d22_5 rfl rfl ?_
  refine g_icmpN (pc' := 10) C X1 d22_7 (tlt (show ((0 : Int32) + (1 : Int32)) < (2 : Int32) from (by decide))).2.1 rfl ?_
  refine g_aloadN (pc' := 11) C X1 d22_10 rfl rfl rfl ?_
  refine g_iloadN (pc' := 12) C X1 d22_11 rfl rfl ?_
  refine g_ldC (pc' := 13) (v := (.int x1)) C X1 d22_12 e1 V_c_1 ⟨by decide, by decide⟩ rfl rfl ?_
  refine g_istore (pc' := 15) (Ls' := #[.val (.ref a1), .val (.int ((0 : Int32) + (1 : Int32))), .val (.ref a3), .val (.int ((0 : Int32) + (1 : Int32))), .val (.int (2 : Int32)), .val (.int ((0 : Int32) + (1 : Int32))), .val (.int x1)]) C X1 d22_13 rfl rfl ?_
  refine g_iload (pc' := 17) C X1 d22_15 rfl rfl ?_
  refine g_sipush (pc' := 20) (v := (255 : Int32)) C X1 d22_17 rfl rfl ?_
  refine g_icmpY (pc' := 26) C X1 d22_20 (flt hx1).2.2.2 (by decide) (by decide) ?_
  refine g_aloadN (pc' := 27) C X1 d22_26 rfl rfl rfl ?_
  refine g_iloadN (pc' := 28) C X1 d22_27 rfl rfl ?_
  refine g_iload (pc' := 30) C X1 d22_28 rfl rfl ?_
  refine g_i2b (pc' := 31) C X1 d22_30 rfl ?_
  refine g_stB (pc' := 32) (i := 1) C X1 d22_31 e1 V1 ⟨by decide, by decide⟩ rfl (show (1 : Nat) < 2 from by decide) rfl (fun T2 h2 X2 e2 W2 V2q => ?_)
  have V2 : Arv Z h2 a3 kb .byte (2 : Int32) [(.int (nar .byte x0.toInt8.toInt32)), (.int (nar .byte x1.toInt8.toInt32))] (.int (0 : Int32)) := V2q
  have S_cs_2 := S_cs_1.wr W2
  have V_c_2 := V_c_1.other W2 ne13
  have Z2 := Nat.le_trans Z1 (Nat.le_of_eq W2.size.symm)
  have N2 := Fr.snoc X2 N1 gn_a3
  have K2 := K1.wr W2 (Or.inl (List.mem_of_getElem? (i := 0) rfl))
  refine g_iinc (pc' := 35) (Ls' := #[.val (.ref a1), .val (.int (((0 : Int32) + (1 : Int32)) + (1 : Int32))), .val (.ref a3), .val (.int ((0 : Int32) + (1 : Int32))), .val (.int (2 : Int32)), .val (.int ((0 : Int32) + (1 : Int32))), .val (.int x1)]) C X2 d22_32 rfl rfl rfl ?_
  refine g_iinc (pc' := 38) (Ls' := #[.val (.ref a1), .val (.int (((0 : Int32) + (1 : Int32)) + (1 : Int32))), .val (.ref a3), .val (.int (((0 : Int32) + (1 : Int32)) + (1 : Int32))), .val (.int (2 : Int32)), .val (.int ((0 : Int32) + (1 : Int32))), .val (.int x1)]) C X2 d22_35 rfl rfl rfl ?_
  refine g_iinc (pc' := 41) (Ls' := #[.val (.ref a1), .val (.int (((0 : Int32) + (1 : Int32)) + (1 : Int32))), .val (.ref a3), .val (.int (((0 : Int32) + (1 : Int32)) + (1 : Int32))), .val (.int (2 : Int32)), .val (.int (((0 : Int32) + (1 : Int32)) + (1 : Int32))), .val (.int x1)]) C X2 d22_38 rfl rfl rfl ?_
  refine g_goto (pc' := 3) C X2 d22_41 (by decide) (by decide) ?_
  refine g_iload (pc' := 5) C X2 d22_3 rfl rfl ?_
  refine g_iload (pc' := 7) C X2 d22_5 rfl rfl ?_
  refine g_icmpY (pc' := 44) C X2 d22_7 (flt (show ¬ ((((0 : Int32) + (1 : Int32)) + (1 : Int32)) < (2 : Int32)) from (by decide))).2.1 (by decide) (by decide) ?_
  refine g_iload (pc' := 46) C X2 d22_44 rfl rfl ?_
  exact g_retI C X2 d22_46 (by decide) (by decide) ⟨congrArg (fun z => some (Value.int z)) (Fc5_l0  ).symm, N2, (by rw [e2]; exact K2), (by rw [e2]; exact V2)⟩
theorem d21_0 : decode jdk_52_method_16_code 0 = .ok (.iload_n 2, 1) := by decide +kernel
theorem d21_1 : decode jdk_52_method_16_code 1 = .ok (.newarray .byte, 2) := by decide +kernel
theorem d21_3 : decode jdk_52_method_16_code 3 = .ok (.astore_n 3, 1) := by decide +kernel
theorem d21_4 : decode jdk_52_method_16_code 4 = .ok (.aload_n 0, 1) := by decide +kernel
theorem d21_5 : decode jdk_52_method_16_code 5 = .ok (.iload_n 1, 1) := by decide +kernel
theorem d21_6 : decode jdk_52_method_16_code 6 = .ok (.aload_n 3, 1) := by decide +kernel
theorem d21_7 : decode jdk_52_method_16_code 7 = .ok (.iconst 0, 1) := by decide +kernel
theorem d21_8 : decode jdk_52_method_16_code 8 = .ok (.iload_n 2, 1) := by decide +kernel
theorem d21_9 : decode jdk_52_method_16_code 9 = .ok (.invokestatic 115, 3) := by decide +kernel
theorem pd_0 : parseMethodDescriptor "([CI[BII)I" = some ⟨[(.array .char), .int, (.array .byte), .int, .int], some .int⟩ := by decide +kernel
theorem d21_12 : decode jdk_52_method_16_code 12 = .ok (.istore 4, 2) := by decide +kernel
theorem d21_14 : decode jdk_52_method_16_code 14 = .ok (.iload 4, 2) := by decide +kernel
theorem d21_16 : decode jdk_52_method_16_code 16 = .ok (.iload_n 2, 1) := by decide +kernel
theorem d21_17 : decode jdk_52_method_16_code 17 = .ok (.if_icmp .eq 40, 3) := by decide +kernel
theorem d21_57 : decode jdk_52_method_16_code 57 = .ok (.aload_n 3, 1) := by decide +kernel
theorem d21_58 : decode jdk_52_method_16_code 58 = .ok (.areturn, 1) := by decide +kernel
theorem ef_c3 (m : MethodId) (a1 : Addr) : entryFrame m #[(.ref a1), (.int (0 : Int32)), (.int (2 : Int32))] 6 = mkF m 0 #[.val (.ref a1), .val (.int (0 : Int32)), .val (.int (2 : Int32)), .unset, .unset, .unset] [] := by first | (simp [entryFrame, mkF, argsToLocals, Value.category]; done) | rfl
def Q_c3 (Z : State) (a1 : Addr) (kc : ClassId) (x0 : Int32) (x1 : Int32) (cs : Int32) (h0 : Heap) (n0 : Nat) (vr : Option Value) (h : Heap) (L : List Loc) : Prop := ∃ r : Addr, ∃ kb : ClassId, (vr = some (.ref r)) ∧ (Fr n0 L) ∧ (Keep h0 h []) ∧ (h0.size ≤ r) ∧ (n0 ≤ r) ∧ (Arv Z h r kb .byte (2 : Int32) [(.int (nar .byte x0.toInt8.toInt32)), (.int (nar .byte x1.toInt8.toInt32))] (.int (0 : Int32)))
set_option maxRecDepth 65536 in
set_option maxHeartbeats 40000000 in
theorem rmc3 (l : Launch) (Z : State) (a0 : Array Value) (hw : ∀ d ∈ tables_1, d.before a0 Z = true) (ws : List Jvm.Cond) (a1 : Addr) (kc : ClassId) (x0 : Int32) (x1 : Int32) (cs : Int32) (h0 : Heap) (n0 : Nat) (Z0 : n0 ≤ h0.size) (hF : FX Z h0 cs) (V_c : Arv Z h0 a1 kc .char (2 : Int32) [(.int x0), (.int x1)] (.int (0 : Int32))) (hx0 : ¬ ((255 : Int32) < x0)) (hx1 : ¬ ((255 : Int32) < x1)) :
    MetFree l (⟨"java/lang/StringUTF16", "compress", "([CII)[B"⟩ : MethodName) (head1 (Jvm.Cond.code (⟨"java/lang/StringUTF16", "compress", "([CII)[B"⟩ : MethodName) jdk_52_method_16_code 6 (some (.array .byte)) :: ws) ({ frames := 1, cells := 1, slots := 2, locals := 18 } : Room)) (fun a U => a = #[(.ref a1), (.int (0 : Int32)), (.int (2 : Int32))] ∧ Z.Warmed39 U.vm ∧ U.heap = h0) (fun _ _ _ _ _ => True) (fun _ U o U' => ∃ v L, o = .returned v ∧ Q_c3 Z a1 kc x0 x1 cs h0 n0 v U'.heap L ∧ FrameEnd U o U' L ({ frames := 1, cells := 1, slots := 2, locals := 18 } : Room).cells ({ frames := 1, cells := 1, slots := 2, locals := 18 } : Room).slots) := by
  refine met_of (Ls := #[.val (.ref a1), .val (.int (0 : Int32)), .val (.int (2 : Int32)), .unset, .unset, .unset]) (plainFor_of_name (by first | (simp [plainName, overriddenIn]; done) | decide +kernel)) (fun m => ef_c3 m a1) ?_
  intro p e s m below meth c T0 C X0 e0
  have S_cs := hF
  have N0 := Fr.nil n0
  have K0 : Keep h0 h0 [] := Keep.refl h0 _
  refine g_iloadN (pc' := 1) C X0 d21_0 rfl rfl ?_
  refine g_newP (pc' := 3) (cap := 2) C X0 d21_1 (hw _ (List.mem_of_getElem? (i := 18) rfl)) e0 (by decide) (by decide) (by decide) (ce := 1) (sl := 2) rfl rfl (by decide) (by decide) rfl (fun T1 h1 b1 ck1 g1 X1 e1 E1 A1 => ?_)
  have ne1_2 : ¬ (a1 = b1) := Nat.ne_of_lt (Nat.lt_of_lt_of_le V_c.lt (Nat.le_of_eq g1.symm))
  have S_cs_1 := S_cs.ext E1
  have V_c_1 := V_c.ext E1
  have gn_b1 : n0 ≤ b1 := Nat.le_trans Z0 (Nat.le_of_eq g1.symm)
  have Z1 := Nat.le_trans Z0 E1.1
  have sz_b1 : h0.size ≤ b1 := Nat.le_trans K0.1 (Nat.le_of_eq g1.symm)
  have K1 := K0.ext E1
  have V1 : Arv Z h1 b1 ck1 .byte (2 : Int32) [(.int (0 : Int32)), (.int (0 : Int32))] (.int (0 : Int32)) := A1.pad (pad_rep [] (.int (0 : Int32)) 2)
  refine g_astoreN (pc' := 4) (Ls' := #[.val (.ref a1), .val (.int (0 : Int32)), .val (.int (2 : Int32)), .val (.ref b1), .unset, .unset]) C X1 d21_3 rfl rfl rfl ?_
  refine g_aloadN (pc' := 5) C X1 d21_4 rfl rfl rfl ?_
  refine g_iloadN (pc' := 6) C X1 d21_5 rfl rfl ?_
  refine g_aloadN (pc' := 7) C X1 d21_6 rfl rfl rfl ?_
  refine g_iconst (pc' := 8) (v := (0 : Int32)) C X1 d21_7 rfl rfl ?_
  refine g_iloadN (pc' := 9) C X1 d21_8 rfl rfl ?_
  refine g_callS (y := (⟨"java/lang/StringUTF16", "compress", "([CI[BII)I"⟩ : MethodName)) (argsL := [(.ref a1), (.int (0 : Int32)), (.ref b1), (.int (0 : Int32)), (.int (2 : Int32))]) (st := []) (pc' := 12) C X1 d21_9 (hw _ (List.mem_of_getElem? (i := 111) rfl)) (hw _ (List.mem_of_getElem? (i := 112) rfl)) (hw _ (List.mem_of_getElem? (i := 109) rfl)) (hw _ (List.mem_of_getElem? (i := 113) rfl)) (by decide) (rmc5 l Z a0 hw [] a1 b1 kc ck1 x0 x1 cs h1 n0 Z1 S_cs_1 V_c_1 V1 hx0 hx1 gn_b1 ne1_2) (W := 0) (by decide) (by decide) (ce := 1) (sl := 2) rfl rfl (by decide) (by decide) rfl e1 rfl pd_0 rfl (Nat.le_refl _) rfl (fun rv3 T3 L3 X3 Q3 => ?_)
  obtain ⟨q3, Nq3, Kq3, P3_0⟩ := Q3
  have N3 := Fr.app N0 Nq3
  have S_cs_3 := own_sta_keep S_cs_1 Kq3 ((allS (by obtain ⟨c_, A_, _⟩ := V1; exact ⟨c_, A_.1, A_.plain⟩) all0))
  have V_c_3 := V_c_1.keep Kq3 (ninS ne1_2 nin0)
  have Z3 := Nat.le_trans Z1 Kq3.1
  have K3 := K1.trans Kq3 (allS (Or.inr sz_b1) all0)
  rw [Fc5_l0 ] at q3
  subst q3
  show Go p.tables e below _ (T3.setTop (mkF m 12 #[.val (.ref a1), .val (.int (0 : Int32)), .val (.int (2 : Int32)), .val (.ref b1), .unset, .unset] [(.int (2 : Int32))]))
  refine g_istore (pc' := 14) (Ls' := #[.val (.ref a1), .val (.int (0 : Int32)), .val (.int (2 : Int32)), .val (.ref b1), .val (.int (2 : Int32)), .unset]) C X3 d21_12 rfl rfl ?_
  refine g_iload (pc' := 16) C X3 d21_14 rfl rfl ?_
  refine g_iloadN (pc' := 17) C X3 d21_16 rfl rfl ?_
  refine g_icmpY (pc' := 57) C X3 d21_17 (teq (show (2 : Int32) = (2 : Int32) from (by decide))).1 (by decide) (by decide) ?_
  refine g_aloadN (pc' := 58) C X3 d21_57 rfl rfl rfl ?_
  exact g_retA C X3 rfl rfl rfl d21_58 (by decide) (by decide) ⟨b1, ck1, rfl, N3, K3, sz_b1, gn_b1, P3_0⟩
theorem d23_0 : decode jdk_52_method_15_code 0 = .ok (.iload_n 1, 1) := by decide +kernel
theorem d23_1 : decode jdk_52_method_15_code 1 = .ok (.aload_n 0, 1) := by decide +kernel
theorem d23_2 : decode jdk_52_method_15_code 2 = .ok (.arraylength, 1) := by decide +kernel
theorem d23_3 : decode jdk_52_method_15_code 3 = .ok (.isub, 1) := by decide +kernel
theorem d23_4 : decode jdk_52_method_15_code 4 = .ok (.bipush 31, 2) := by decide +kernel
theorem d23_6 : decode jdk_52_method_15_code 6 = .ok (.iushr, 1) := by decide +kernel
theorem d23_7 : decode jdk_52_method_15_code 7 = .ok (.i2b, 1) := by decide +kernel
theorem d23_8 : decode jdk_52_method_15_code 8 = .ok (.ireturn, 1) := by decide +kernel
def Fcf  : Int32 := (0 : Int32)
theorem Fcf_l0   : Fcf  = (0 : Int32) := rfl
theorem ef_cf (m : MethodId) (a1 : Addr) : entryFrame m #[(.ref a1), (.int (2 : Int32))] 2 = mkF m 0 #[.val (.ref a1), .val (.int (2 : Int32))] [] := by first | (simp [entryFrame, mkF, argsToLocals, Value.category]; done) | rfl
def Q_cf (Z : State) (a1 : Addr) (kb : ClassId) (x0 : Int32) (x1 : Int32) (cs : Int32) (h0 : Heap) (n0 : Nat) (v : Option Value) (h : Heap) (L : List Loc) : Prop := v = some (.int (Fcf )) ∧ Fr n0 L ∧ h = h0
set_option maxRecDepth 65536 in
set_option maxHeartbeats 40000000 in
theorem rmcf (l : Launch) (Z : State) (a0 : Array Value) (hw : ∀ d ∈ tables_1, d.before a0 Z = true) (ws : List Jvm.Cond) (a1 : Addr) (kb : ClassId) (x0 : Int32) (x1 : Int32) (cs : Int32) (h0 : Heap) (n0 : Nat) (hF : FX Z h0 cs) (V_b : Arv Z h0 a1 kb .byte (2 : Int32) [(.int x0), (.int x1)] (.int (0 : Int32))) :
    MetFree l (⟨"java/lang/StringUTF16", "coderFromArrayLen", "([BI)B"⟩ : MethodName) (head1 (Jvm.Cond.code (⟨"java/lang/StringUTF16", "coderFromArrayLen", "([BI)B"⟩ : MethodName) jdk_52_method_15_code 2 (some .byte) :: ws) ({ frames := 0, cells := 0, slots := 0, locals := 0 } : Room)) (fun a U => a = #[(.ref a1), (.int (2 : Int32))] ∧ Z.Warmed39 U.vm ∧ U.heap = h0) (fun _ _ _ _ _ => True) (fun _ U o U' => ∃ v L, o = .returned v ∧ Q_cf Z a1 kb x0 x1 cs h0 n0 v U'.heap L ∧ FrameEnd U o U' L ({ frames := 0, cells := 0, slots := 0, locals := 0 } : Room).cells ({ frames := 0, cells := 0, slots := 0, locals := 0 } : Room).slots) := by
  refine met_of (Ls := #[.val (.ref a1), .val (.int (2 : Int32))]) (plainFor_of_name (by first | (simp [plainName, overriddenIn]; done) | decide +kernel)) (fun m => ef_cf m a1) ?_
  intro p e s m below meth c T0 C X0 e0
  have S_cs := hF
  have N0 := Fr.nil n0
  refine g_iloadN (pc' := 1) C X0 d23_0 rfl rfl ?_
  refine g_aloadN (pc' := 2) C X0 d23_1 rfl rfl rfl ?_
  refine g_len (pc' := 3) C X0 d23_2 e0 V_b rfl ?_
  refine g_isub (pc' := 4) C X0 d23_3 rfl ?_
  refine own_cast (congrArg (fun z => T0.setTop (mkF m 4 #[.val (.ref a1), .val (.int (2 : Int32))] (.int z :: []))) (show ((2 : Int32) - (2 : Int32)) = (0 : Int32) from by decide)) ?_
  refine g_bipush (pc' := 6) (v := (31 : Int32)) C X0 d23_4 rfl rfl ?_
  refine g_iushr (pc' := 7) C X0 d23_6 rfl ?_
  refine own_cast (congrArg (fun z => T0.setTop (mkF m 7 #[.val (.ref a1), .val (.int (2 : Int32))] (.int z :: []))) (show (((0 : Int32).toUInt32 >>> ((31 : Int32) &&& 31).toUInt32).toInt32) = (0 : Int32) from by decide)) ?_
  refine g_i2b (pc' := 8) C X0 d23_7 rfl ?_
  refine own_cast (congrArg (fun z => T0.setTop (mkF m 8 #[.val (.ref a1), .val (.int (2 : Int32))] (.int z :: []))) (show (0 : Int32).toInt8.toInt32 = (0 : Int32) from by decide)) ?_
  exact g_retN C X0 (by simp) d23_8 (by decide) (by decide) ⟨congrArg (fun z => some (Value.int z)) (Fcf_l0  ).symm, N0, e0⟩
theorem d20_0 : decode jdk_42_method_149_code 0 = .ok (.aload_n 0, 1) := by decide +kernel
theorem d20_1 : decode jdk_42_method_149_code 1 = .ok (.invokespecial 1, 3) := by decide +kernel
theorem d20_4 : decode jdk_42_method_149_code 4 = .ok (.iload_n 3, 1) := by decide +kernel
theorem d20_5 : decode jdk_42_method_149_code 5 = .ok (.ifCond .ne 22, 3) := by decide +kernel
theorem d20_27 : decode jdk_42_method_149_code 27 = .ok (.getstatic 38, 3) := by decide +kernel
theorem d20_30 : decode jdk_42_method_149_code 30 = .ok (.ifCond .eq 28, 3) := by decide +kernel
theorem d20_33 : decode jdk_42_method_149_code 33 = .ok (.aload_n 1, 1) := by decide +kernel
theorem d20_34 : decode jdk_42_method_149_code 34 = .ok (.iload_n 2, 1) := by decide +kernel
theorem d20_35 : decode jdk_42_method_149_code 35 = .ok (.iload_n 3, 1) := by decide +kernel
theorem d20_36 : decode jdk_42_method_149_code 36 = .ok (.invokestatic 177, 3) := by decide +kernel
theorem pd_1 : parseMethodDescriptor "([CII)[B" = some ⟨[(.array .char), .int, .int], some (.array .byte)⟩ := by decide +kernel
theorem d20_39 : decode jdk_42_method_149_code 39 = .ok (.astore 5, 2) := by decide +kernel
theorem d20_41 : decode jdk_42_method_149_code 41 = .ok (.aload_n 0, 1) := by decide +kernel
theorem d20_42 : decode jdk_42_method_149_code 42 = .ok (.aload 5, 2) := by decide +kernel
theorem d20_44 : decode jdk_42_method_149_code 44 = .ok (.iload_n 3, 1) := by decide +kernel
theorem d20_45 : decode jdk_42_method_149_code 45 = .ok (.invokestatic 47, 3) := by decide +kernel
theorem pd_2 : parseMethodDescriptor "([BI)B" = some ⟨[(.array .byte), .int], some .byte⟩ := by decide +kernel
theorem d20_48 : decode jdk_42_method_149_code 48 = .ok (.putfield 15, 3) := by decide +kernel
theorem d20_51 : decode jdk_42_method_149_code 51 = .ok (.aload_n 0, 1) := by decide +kernel
theorem d20_52 : decode jdk_42_method_149_code 52 = .ok (.aload 5, 2) := by decide +kernel
theorem d20_54 : decode jdk_42_method_149_code 54 = .ok (.putfield 9, 3) := by decide +kernel
theorem d20_57 : decode jdk_42_method_149_code 57 = .ok (.return_, 1) := by decide +kernel
theorem ef_i5 (m : MethodId) (a1 : Addr) (a2 : Addr) : entryFrame m #[(.ref a1), (.ref a2), (.int (0 : Int32)), (.int (2 : Int32)), .null] 6 = mkF m 0 #[.val (.ref a1), .val (.ref a2), .val (.int (0 : Int32)), .val (.int (2 : Int32)), .val .null, .unset] [] := by first | (simp [entryFrame, mkF, argsToLocals, Value.category]; done) | rfl
def Q_i5 (Z : State) (a1 : Addr) (a2 : Addr) (kc : ClassId) (x0 : Int32) (x1 : Int32) (cs : Int32) (h0 : Heap) (n0 : Nat) (vr : Option Value) (h : Heap) (L : List Loc) : Prop := ∃ v : Addr, ∃ kb : ClassId, (vr = none) ∧ (Fr n0 L) ∧ (Keep h0 h [a1]) ∧ (h0.size ≤ v) ∧ (n0 ≤ v) ∧ (Exa Z h a1 "java/lang/String") ∧ (Fld Z h a1 "java/lang/String" "coder" "B" (.int (0 : Int32))) ∧ (Fld Z h a1 "java/lang/String" "value" "[B" (.ref v)) ∧ (Arv Z h v kb .byte (2 : Int32) [(.int (nar .byte x0.toInt8.toInt32)), (.int (nar .byte x1.toInt8.toInt32))] (.int (0 : Int32)))
set_option maxRecDepth 65536 in
set_option maxHeartbeats 40000000 in
theorem rmi5 (l : Launch) (Z : State) (a0 : Array Value) (hw : ∀ d ∈ tables_1, d.before a0 Z = true) (ws : List Jvm.Cond) (a1 : Addr) (a2 : Addr) (kc : ClassId) (x0 : Int32) (x1 : Int32) (cs : Int32) (h0 : Heap) (n0 : Nat) (Z0 : n0 ≤ h0.size) (hF : FX Z h0 cs) (E_a1 : Exa Z h0 a1 "java/lang/String") (Fc_a1 : Fld Z h0 a1 "java/lang/String" "coder" "B" (.int (0 : Int32))) (Fv_a1 : Fld Z h0 a1 "java/lang/String" "value" "[B" .null) (V_c : Arv Z h0 a2 kc .char (2 : Int32) [(.int x0), (.int x1)] (.int (0 : Int32))) (hcs : ¬ (cs = (0 : Int32))) (hx0 : ¬ ((255 : Int32) < x0)) (hx1 : ¬ ((255 : Int32) < x1)) (gn_a1 : n0 ≤ a1) (ne21 : ¬ (a2 = a1)) :
    MetFree l (⟨"java/lang/String", "<init>", "([CIILjava/lang/Void;)V"⟩ : MethodName) (head1 (Jvm.Cond.code (⟨"java/lang/String", "<init>", "([CIILjava/lang/Void;)V"⟩ : MethodName) jdk_42_method_149_code 6 none :: ws) ({ frames := 2, cells := 1, slots := 2, locals := 35 } : Room)) (fun a U => a = #[(.ref a1), (.ref a2), (.int (0 : Int32)), (.int (2 : Int32)), .null] ∧ Z.Warmed39 U.vm ∧ U.heap = h0) (fun _ _ _ _ _ => True) (fun _ U o U' => ∃ v L, o = .returned v ∧ Q_i5 Z a1 a2 kc x0 x1 cs h0 n0 v U'.heap L ∧ FrameEnd U o U' L ({ frames := 2, cells := 1, slots := 2, locals := 35 } : Room).cells ({ frames := 2, cells := 1, slots := 2, locals := 35 } : Room).slots) := by
  refine met_of (Ls := #[.val (.ref a1), .val (.ref a2), .val (.int (0 : Int32)), .val (.int (2 : Int32)), .val .null, .unset]) (plainFor_of_name (by first | (simp [plainName, overriddenIn]; done) | decide +kernel)) (fun m => ef_i5 m a1 a2) ?_
  intro p e s m below meth c T0 C X0 e0
  have S_cs := hF
  have N0 := Fr.nil n0
  have K0 : Keep h0 h0 [a1] := Keep.refl h0 _
  refine g_aloadN (pc' := 1) C X0 d20_0 rfl rfl rfl ?_
  refine g_initO (W := 0) (pc' := 4) C X0 d20_1 (hw _ (List.mem_of_getElem? (i := 23) rfl)) (hw _ (List.mem_of_getElem? (i := 24) rfl)) (hw _ (List.mem_of_getElem? (i := 25) rfl)) e0 rfl (by decide) (Nat.le_refl _) (by decide) rfl (fun T1 X1 e1 => ?_)
  refine g_iloadN (pc' := 5) C X1 d20_4 rfl rfl ?_
  refine g_ifY (pc' := 27) C X1 d20_5 (feq (show ¬ ((2 : Int32) = (0 : Int32)) from (by decide))).2 (by decide) (by decide) ?_
  refine g_getS (pc' := 30) C X1 d20_27 (host := "") (Or.inl (hw _ (List.mem_of_getElem? (i := 8) rfl))) Via.refl e1 S_cs rfl (fun T2 X2 e2 => ?_)
  refine g_ifN (pc' := 33) C X2 d20_30 (feq hcs).1 rfl ?_
  refine g_aloadN (pc' := 34) C X2 d20_33 rfl rfl rfl ?_
  refine g_iloadN (pc' := 35) C X2 d20_34 rfl rfl ?_
  refine g_iloadN (pc' := 36) C X2 d20_35 rfl rfl ?_
  refine g_callS (y := (⟨"java/lang/StringUTF16", "compress", "([CII)[B"⟩ : MethodName)) (argsL := [(.ref a2), (.int (0 : Int32)), (.int (2 : Int32))]) (st := []) (pc' := 39) C X2 d20_36 (hw _ (List.mem_of_getElem? (i := 107) rfl)) (hw _ (List.mem_of_getElem? (i := 108) rfl)) (hw _ (List.mem_of_getElem? (i := 109) rfl)) (hw _ (List.mem_of_getElem? (i := 110) rfl)) (by decide) (rmc3 l Z a0 hw [] a2 kc x0 x1 cs h0 n0 Z0 hF V_c hx0 hx1) (W := 0) (by decide) (by decide) (ce := 1) (sl := 2) rfl rfl (by decide) (by decide) rfl e2 rfl pd_1 rfl (Nat.le_refl _) rfl (fun rv3 T3 L3 X3 Q3 => ?_)
  obtain ⟨r3, kb3, q3, Nq3, Kq3, sz3_r, gn_r3, P3_0⟩ := Q3
  have N3 := Fr.app N0 Nq3
  have ne3_4 : ¬ (a1 = r3) := Nat.ne_of_lt (Nat.lt_of_lt_of_le E_a1.lt sz3_r)
  have ne3_5 : ¬ (a2 = r3) := Nat.ne_of_lt (Nat.lt_of_lt_of_le V_c.lt sz3_r)
  have S_cs_3 := own_sta_keep S_cs Kq3 (fun _ q => nomatch q)
  have E_a1_3 := E_a1.keep Kq3
  have Fc_a1_3 := Fc_a1.keep Kq3 nin0
  have Fv_a1_3 := Fv_a1.keep Kq3 nin0
  have V_c_3 := V_c.keep Kq3 nin0
  have Z3 := Nat.le_trans Z0 Kq3.1
  have sz_r3 := Nat.le_trans K0.1 sz3_r
  have K3 := K0.trans Kq3 all0
  subst q3
  show Go p.tables e below _ (T3.setTop (mkF m 39 #[.val (.ref a1), .val (.ref a2), .val (.int (0 : Int32)), .val (.int (2 : Int32)), .val .null, .unset] [(.ref r3)]))
  refine g_astore (pc' := 41) (Ls' := #[.val (.ref a1), .val (.ref a2), .val (.int (0 : Int32)), .val (.int (2 : Int32)), .val .null, .val (.ref r3)]) C X3 d20_39 rfl rfl rfl ?_
  refine g_aloadN (pc' := 42) C X3 d20_41 rfl rfl rfl ?_
  refine g_aload (pc' := 44) C X3 d20_42 rfl rfl rfl ?_
  refine g_iloadN (pc' := 45) C X3 d20_44 rfl rfl ?_
  refine g_callS (y := (⟨"java/lang/StringUTF16", "coderFromArrayLen", "([BI)B"⟩ : MethodName)) (argsL := [(.ref r3), (.int (2 : Int32))]) (st := [(.ref a1)]) (pc' := 48) C X3 d20_45 (hw _ (List.mem_of_getElem? (i := 114) rfl)) (hw _ (List.mem_of_getElem? (i := 115) rfl)) (hw _ (List.mem_of_getElem? (i := 109) rfl)) (hw _ (List.mem_of_getElem? (i := 116) rfl)) (by decide) (rmcf l Z a0 hw [] r3 kb3 (nar .byte x0.toInt8.toInt32) (nar .byte x1.toInt8.toInt32) cs T3.heap n0 S_cs_3 P3_0) (W := 1) (by decide) (by decide) (ce := 1) (sl := 2) rfl rfl (by decide) (by decide) rfl rfl rfl pd_2 rfl (Nat.le_refl _) rfl (fun rv6 T6 L6 X6 Q6 => ?_)
  obtain ⟨q6, Nq6, e6⟩ := Q6
  have N6 := Fr.app N3 Nq6
  rw [Fcf_l0 ] at q6
  subst q6
  show Go p.tables e below _ (T6.setTop (mkF m 48 #[.val (.ref a1), .val (.ref a2), .val (.int (0 : Int32)), .val (.int (2 : Int32)), .val .null, .val (.ref r3)] [(.int (0 : Int32)), (.ref a1)]))
  refine g_putFN (pc' := 51) (v' := (.int (0 : Int32))) C X6 d20_48 (hw _ (List.mem_of_getElem? (i := 28) rfl)) Via.refl e6 Fc_a1_3 E_a1_3 (Or.inr ⟨(hw _ (List.mem_of_getElem? (i := 29) rfl)), rfl, rfl⟩) (hw _ (List.mem_of_getElem? (i := 14) rfl)) (ty := .byte) (by decide) rfl (by decide) rfl (fun T7 h7 X7 e7 W7 => ?_)
  have F7 := Fc_a1_3.same W7
  have S_cs_7 := S_cs_3.wr W7
  have E_a1_7 := E_a1_3.wr W7
  have Fv_a1_7 := Fv_a1_3.other W7 (Or.inr (slot_ne (Or.inr (hw _ (List.mem_of_getElem? (i := 27) rfl))) (Or.inr (hw _ (List.mem_of_getElem? (i := 29) rfl))) (by decide) (t := (.array .byte)) (t' := .byte) (by decide) (by decide)))
  have V_c_7 := V_c_3.other W7 ne21
  have P3_0_7 := P3_0.other W7 (Ne.symm ne3_4)
  have Z7 := Nat.le_trans Z3 (Nat.le_of_eq W7.size.symm)
  have N7 := Fr.snoc X7 N6 gn_a1
  have K7 := K3.wr W7 (Or.inl (List.mem_of_getElem? (i := 0) rfl))
  refine g_aloadN (pc' := 52) C X7 d20_51 rfl rfl rfl ?_
  refine g_aload (pc' := 54) C X7 d20_52 rfl rfl rfl ?_
  refine g_putF (pc' := 57) C X7 d20_54 (host := "") (Or.inl (hw _ (List.mem_of_getElem? (i := 26) rfl))) Via.refl e7 Fv_a1_7 E_a1_7 (Or.inr ⟨(hw _ (List.mem_of_getElem? (i := 27) rfl)), rfl, rfl⟩) (hw _ (List.mem_of_getElem? (i := 14) rfl)) (ty := (.array .byte)) (by decide) rfl rfl rfl (fun T8 h8 X8 e8 W8 => ?_)
  have F8 := Fv_a1_7.same W8
  have S_cs_8 := S_cs_7.wr W8
  have E_a1_8 := E_a1_7.wr W8
  have V_c_8 := V_c_7.other W8 ne21
  have P3_0_8 := P3_0_7.other W8 (Ne.symm ne3_4)
  have F7_8 := F7.other W8 (Or.inr (slot_ne (Or.inr (hw _ (List.mem_of_getElem? (i := 29) rfl))) (Or.inr (hw _ (List.mem_of_getElem? (i := 27) rfl))) (by decide) (t := .byte) (t' := (.array .byte)) (by decide) (by decide)))
  have Z8 := Nat.le_trans Z7 (Nat.le_of_eq W8.size.symm)
  have N8 := Fr.snoc X8 N7 gn_a1
  have K8 := K7.wr W8 (Or.inl (List.mem_of_getElem? (i := 0) rfl))
  exact g_retV C X8 d20_57 (by decide) (by decide) ⟨r3, kb3, rfl, N8, (by rw [e8]; exact K8), sz_r3, gn_r3, (by rw [e8]; exact E_a1_8), (by rw [e8]; exact F7_8), (by rw [e8]; exact F8), (by rw [e8]; exact P3_0_8)⟩
theorem d19_0 : decode jdk_42_method_3_code 0 = .ok (.aload_n 0, 1) := by decide +kernel
theorem d19_1 : decode jdk_42_method_3_code 1 = .ok (.aload_n 1, 1) := by decide +kernel
theorem d19_2 : decode jdk_42_method_3_code 2 = .ok (.iconst 0, 1) := by decide +kernel
theorem d19_3 : decode jdk_42_method_3_code 3 = .ok (.aload_n 1, 1) := by decide +kernel
theorem d19_4 : decode jdk_42_method_3_code 4 = .ok (.arraylength, 1) := by decide +kernel
theorem d19_5 : decode jdk_42_method_3_code 5 = .ok (.aconst_null, 1) := by decide +kernel
theorem d19_6 : decode jdk_42_method_3_code 6 = .ok (.invokespecial 27, 3) := by decide +kernel
theorem pd_3 : parseMethodDescriptor "([CIILjava/lang/Void;)V" = some ⟨[(.array .char), .int, .int, (.object "java/lang/Void")], none⟩ := by decide +kernel
theorem d19_9 : decode jdk_42_method_3_code 9 = .ok (.return_, 1) := by decide +kernel
theorem ef_i1 (m : MethodId) (a1 : Addr) (a2 : Addr) : entryFrame m #[(.ref a1), (.ref a2)] 2 = mkF m 0 #[.val (.ref a1), .val (.ref a2)] [] := by first | (simp [entryFrame, mkF, argsToLocals, Value.category]; done) | rfl
def Q_i1 (Z : State) (a1 : Addr) (a2 : Addr) (kc : ClassId) (x0 : Int32) (x1 : Int32) (cs : Int32) (h0 : Heap) (n0 : Nat) (vr : Option Value) (h : Heap) (L : List Loc) : Prop := ∃ v : Addr, ∃ kb : ClassId, (vr = none) ∧ (Fr n0 L) ∧ (Keep h0 h [a1]) ∧ (h0.size ≤ v) ∧ (n0 ≤ v) ∧ (Exa Z h a1 "java/lang/String") ∧ (Fld Z h a1 "java/lang/String" "coder" "B" (.int (0 : Int32))) ∧ (Fld Z h a1 "java/lang/String" "value" "[B" (.ref v)) ∧ (Arv Z h v kb .byte (2 : Int32) [(.int (nar .byte x0.toInt8.toInt32)), (.int (nar .byte x1.toInt8.toInt32))] (.int (0 : Int32)))
set_option maxRecDepth 65536 in
set_option maxHeartbeats 40000000 in
theorem rmi1 (l : Launch) (Z : State) (a0 : Array Value) (hw : ∀ d ∈ tables_1, d.before a0 Z = true) (ws : List Jvm.Cond) (a1 : Addr) (a2 : Addr) (kc : ClassId) (x0 : Int32) (x1 : Int32) (cs : Int32) (h0 : Heap) (n0 : Nat) (Z0 : n0 ≤ h0.size) (hF : FX Z h0 cs) (E_a1 : Exa Z h0 a1 "java/lang/String") (Fc_a1 : Fld Z h0 a1 "java/lang/String" "coder" "B" (.int (0 : Int32))) (Fv_a1 : Fld Z h0 a1 "java/lang/String" "value" "[B" .null) (V_c : Arv Z h0 a2 kc .char (2 : Int32) [(.int x0), (.int x1)] (.int (0 : Int32))) (hcs : ¬ (cs = (0 : Int32))) (hx0 : ¬ ((255 : Int32) < x0)) (hx1 : ¬ ((255 : Int32) < x1)) (gn_a1 : n0 ≤ a1) (ne21 : ¬ (a2 = a1)) :
    MetFree l (⟨"java/lang/String", "<init>", "([C)V"⟩ : MethodName) (head1 (Jvm.Cond.code (⟨"java/lang/String", "<init>", "([C)V"⟩ : MethodName) jdk_42_method_3_code 2 none :: ws) ({ frames := 3, cells := 1, slots := 2, locals := 52 } : Room)) (fun a U => a = #[(.ref a1), (.ref a2)] ∧ Z.Warmed39 U.vm ∧ U.heap = h0) (fun _ _ _ _ _ => True) (fun _ U o U' => ∃ v L, o = .returned v ∧ Q_i1 Z a1 a2 kc x0 x1 cs h0 n0 v U'.heap L ∧ FrameEnd U o U' L ({ frames := 3, cells := 1, slots := 2, locals := 52 } : Room).cells ({ frames := 3, cells := 1, slots := 2, locals := 52 } : Room).slots) := by
  refine met_of (Ls := #[.val (.ref a1), .val (.ref a2)]) (plainFor_of_name (by first | (simp [plainName, overriddenIn]; done) | decide +kernel)) (fun m => ef_i1 m a1 a2) ?_
  intro p e s m below meth c T0 C X0 e0
  have S_cs := hF
  have N0 := Fr.nil n0
  have K0 : Keep h0 h0 [a1] := Keep.refl h0 _
  refine g_aloadN (pc' := 1) C X0 d19_0 rfl rfl rfl ?_
  refine g_aloadN (pc' := 2) C X0 d19_1 rfl rfl rfl ?_
  refine g_iconst (pc' := 3) (v := (0 : Int32)) C X0 d19_2 rfl rfl ?_
  refine g_aloadN (pc' := 4) C X0 d19_3 rfl rfl rfl ?_
  refine g_len (pc' := 5) C X0 d19_4 e0 V_c rfl ?_
  refine g_null (pc' := 6) C X0 d19_5 rfl ?_
  refine g_callI (b := a1) (y := (⟨"java/lang/String", "<init>", "([CIILjava/lang/Void;)V"⟩ : MethodName)) (argsL := [(.ref a2), (.int (0 : Int32)), (.int (2 : Int32)), .null]) (st := []) (pc' := 9) C X0 rfl d19_6 (hw _ (List.mem_of_getElem? (i := 104) rfl)) (hw _ (List.mem_of_getElem? (i := 105) rfl)) (hw _ (List.mem_of_getElem? (i := 6) rfl)) (hw _ (List.mem_of_getElem? (i := 106) rfl)) (by decide) (rmi5 l Z a0 hw [] a1 a2 kc x0 x1 cs h0 n0 Z0 hF E_a1 Fc_a1 Fv_a1 V_c hcs hx0 hx1 gn_a1 ne21) (W := 0) (by decide) (by decide) (ce := 1) (sl := 2) rfl rfl (by decide) (by decide) rfl e0 rfl pd_3 rfl (Nat.le_refl _) rfl (fun rv1 T1 L1 X1 Q1 => ?_)
  obtain ⟨v1, kb1, q1, Nq1, Kq1, sz1_v, gn_v1, P1_0, P1_1, P1_2, P1_3⟩ := Q1
  have N1 := Fr.app N0 Nq1
  have ne1_2 : ¬ (a1 = v1) := Nat.ne_of_lt (Nat.lt_of_lt_of_le E_a1.lt sz1_v)
  have ne1_3 : ¬ (a2 = v1) := Nat.ne_of_lt (Nat.lt_of_lt_of_le V_c.lt sz1_v)
  have S_cs_1 := own_sta_keep S_cs Kq1 ((allS (by obtain ⟨c_, _, h1_, _, _, h2_, _⟩ := E_a1; exact ⟨c_, h1_, h2_⟩) all0))
  have V_c_1 := V_c.keep Kq1 (ninS ne21 nin0)
  have Z1 := Nat.le_trans Z0 Kq1.1
  have sz_v1 := Nat.le_trans K0.1 sz1_v
  have K1 := K0.trans Kq1 (allS (Or.inl (List.mem_of_getElem? (i := 0) rfl)) all0)
  subst q1
  show Go p.tables e below _ (T1.setTop (mkF m 9 #[.val (.ref a1), .val (.ref a2)] []))
  exact g_retV C X1 d19_9 (by decide) (by decide) ⟨v1, kb1, rfl, N1, K1, sz_v1, gn_v1, P1_0, P1_1, P1_2, P1_3⟩
theorem d3_0 : decode jdk_43_method_3_code 0 = .ok (.iload_n 0, 1) := by decide +kernel
theorem d3_1 : decode jdk_43_method_3_code 1 = .ok (.sipush 255, 3) := by decide +kernel
theorem d3_4 : decode jdk_43_method_3_code 4 = .ok (.if_icmp .gt 7, 3) := by decide +kernel
theorem d3_11 : decode jdk_43_method_3_code 11 = .ok (.iconst 0, 1) := by decide +kernel
theorem d3_12 : decode jdk_43_method_3_code 12 = .ok (.ireturn, 1) := by decide +kernel
theorem d3_7 : decode jdk_43_method_3_code 7 = .ok (.iconst 1, 1) := by decide +kernel
theorem d3_8 : decode jdk_43_method_3_code 8 = .ok (.goto 4, 3) := by decide +kernel
def Fce (p1 : Int32) : Int32 := (if (255 : Int32) < p1 then (0 : Int32) else (1 : Int32))
theorem Fce_l0 (p1 : Int32) (h0 : (255 : Int32) < p1) : Fce p1 = (0 : Int32) := by
  unfold Fce; rw [if_pos h0]
theorem Fce_l1 (p1 : Int32) (h0 : ¬ ((255 : Int32) < p1)) : Fce p1 = (1 : Int32) := by
  unfold Fce; rw [if_neg h0]
theorem ef_ce (m : MethodId) (p1 : Int32) : entryFrame m #[(.int p1)] 1 = mkF m 0 #[.val (.int p1)] [] := by first | (simp [entryFrame, mkF, argsToLocals, Value.category]; done) | rfl
def Q_ce (Z : State) (p1 : Int32) (cs : Int32) (h0 : Heap) (n0 : Nat) (v : Option Value) (h : Heap) (L : List Loc) : Prop := v = some (.int (Fce p1)) ∧ Fr n0 L ∧ h = h0
set_option maxRecDepth 65536 in
set_option maxHeartbeats 40000000 in
theorem rmce (l : Launch) (Z : State) (a0 : Array Value) (hw : ∀ d ∈ tables_1, d.before a0 Z = true) (ws : List Jvm.Cond) (p1 : Int32) (cs : Int32) (h0 : Heap) (n0 : Nat) (hF : FX Z h0 cs) :
    MetFree l (⟨"java/lang/StringLatin1", "canEncode", "(C)Z"⟩ : MethodName) (head1 (Jvm.Cond.code (⟨"java/lang/StringLatin1", "canEncode", "(C)Z"⟩ : MethodName) jdk_43_method_3_code 1 (some .boolean) :: ws) ({ frames := 0, cells := 0, slots := 0, locals := 0 } : Room)) (fun a U => a = #[(.int p1)] ∧ Z.Warmed39 U.vm ∧ U.heap = h0) (fun _ _ _ _ _ => True) (fun _ U o U' => ∃ v L, o = .returned v ∧ Q_ce Z p1 cs h0 n0 v U'.heap L ∧ FrameEnd U o U' L ({ frames := 0, cells := 0, slots := 0, locals := 0 } : Room).cells ({ frames := 0, cells := 0, slots := 0, locals := 0 } : Room).slots) := by
  refine met_of (Ls := #[.val (.int p1)]) (plainFor_of_name (by first | (simp [plainName, overriddenIn]; done) | decide +kernel)) (fun m => ef_ce m p1) ?_
  intro p e s m below meth c T0 C X0 e0
  have S_cs := hF
  have N0 := Fr.nil n0
  refine g_iloadN (pc' := 1) C X0 d3_0 rfl rfl ?_
  refine g_sipush (pc' := 4) (v := (255 : Int32)) C X0 d3_1 rfl rfl ?_
  by_cases c1 : (255 : Int32) < p1
  · refine g_icmpY (pc' := 11) C X0 d3_4 (tlt c1).2.2.1 (by decide) (by decide) ?_
    refine g_iconst (pc' := 12) (v := (0 : Int32)) C X0 d3_11 rfl rfl ?_
    exact g_retN C X0 (by simp) d3_12 (by decide) (by decide) ⟨congrArg (fun z => some (Value.int z)) (Fce_l0 p1 c1).symm, N0, e0⟩
  · refine g_icmpN (pc' := 7) C X0 d3_4 (flt c1).2.2.1 rfl ?_
    refine g_iconst (pc' := 8) (v := (1 : Int32)) C X0 d3_7 rfl rfl ?_
    refine g_goto (pc' := 12) C X0 d3_8 (by decide) (by decide) ?_
    exact g_retN C X0 (by simp) d3_12 (by decide) (by decide) ⟨congrArg (fun z => some (Value.int z)) (Fce_l1 p1 c1).symm, N0, e0⟩
theorem d4_0 : decode jdk_43_method_46_code 0 = .ok (.iconst 1, 1) := by decide +kernel
theorem d4_1 : decode jdk_43_method_46_code 1 = .ok (.newarray .byte, 2) := by decide +kernel
theorem d4_3 : decode jdk_43_method_46_code 3 = .ok (.dup, 1) := by decide +kernel
theorem d4_4 : decode jdk_43_method_46_code 4 = .ok (.iconst 0, 1) := by decide +kernel
theorem d4_5 : decode jdk_43_method_46_code 5 = .ok (.iload_n 0, 1) := by decide +kernel
theorem d4_6 : decode jdk_43_method_46_code 6 = .ok (.i2b, 1) := by decide +kernel
theorem d4_7 : decode jdk_43_method_46_code 7 = .ok (.bastore, 1) := by decide +kernel
theorem d4_8 : decode jdk_43_method_46_code 8 = .ok (.areturn, 1) := by decide +kernel
theorem ef_tb (m : MethodId) (p1 : Int32) : entryFrame m #[(.int p1)] 1 = mkF m 0 #[.val (.int p1)] [] := by first | (simp [entryFrame, mkF, argsToLocals, Value.category]; done) | rfl
def Q_tb (Z : State) (p1 : Int32) (cs : Int32) (h0 : Heap) (n0 : Nat) (vr : Option Value) (h : Heap) (L : List Loc) : Prop := ∃ r : Addr, ∃ kb : ClassId, (vr = some (.ref r)) ∧ (Fr n0 L) ∧ (Keep h0 h []) ∧ (h0.size ≤ r) ∧ (n0 ≤ r) ∧ (Arv Z h r kb .byte (1 : Int32) [(.int (nar .byte p1.toInt8.toInt32))] (.int (0 : Int32)))
set_option maxRecDepth 65536 in
set_option maxHeartbeats 40000000 in
theorem rmtb (l : Launch) (Z : State) (a0 : Array Value) (hw : ∀ d ∈ tables_1, d.before a0 Z = true) (ws : List Jvm.Cond) (p1 : Int32) (cs : Int32) (h0 : Heap) (n0 : Nat) (Z0 : n0 ≤ h0.size) (hF : FX Z h0 cs) :
    MetFree l (⟨"java/lang/StringLatin1", "toBytes", "(C)[B"⟩ : MethodName) (head1 (Jvm.Cond.code (⟨"java/lang/StringLatin1", "toBytes", "(C)[B"⟩ : MethodName) jdk_43_method_46_code 1 (some (.array .byte)) :: ws) ({ frames := 0, cells := 1, slots := 1, locals := 0 } : Room)) (fun a U => a = #[(.int p1)] ∧ Z.Warmed39 U.vm ∧ U.heap = h0) (fun _ _ _ _ _ => True) (fun _ U o U' => ∃ v L, o = .returned v ∧ Q_tb Z p1 cs h0 n0 v U'.heap L ∧ FrameEnd U o U' L ({ frames := 0, cells := 1, slots := 1, locals := 0 } : Room).cells ({ frames := 0, cells := 1, slots := 1, locals := 0 } : Room).slots) := by
  refine met_of (Ls := #[.val (.int p1)]) (plainFor_of_name (by first | (simp [plainName, overriddenIn]; done) | decide +kernel)) (fun m => ef_tb m p1) ?_
  intro p e s m below meth c T0 C X0 e0
  have S_cs := hF
  have N0 := Fr.nil n0
  have K0 : Keep h0 h0 [] := Keep.refl h0 _
  refine g_iconst (pc' := 1) (v := (1 : Int32)) C X0 d4_0 rfl rfl ?_
  refine g_newP (pc' := 3) (cap := 1) C X0 d4_1 (hw _ (List.mem_of_getElem? (i := 18) rfl)) e0 (by decide) (by decide) (by decide) (ce := 1) (sl := 1) rfl rfl (by decide) (by decide) rfl (fun T1 h1 b1 ck1 g1 X1 e1 E1 A1 => ?_)
  have S_cs_1 := S_cs.ext E1
  have gn_b1 : n0 ≤ b1 := Nat.le_trans Z0 (Nat.le_of_eq g1.symm)
  have Z1 := Nat.le_trans Z0 E1.1
  have sz_b1 : h0.size ≤ b1 := Nat.le_trans K0.1 (Nat.le_of_eq g1.symm)
  have K1 := K0.ext E1
  have V1 : Arv Z h1 b1 ck1 .byte (1 : Int32) [(.int (0 : Int32))] (.int (0 : Int32)) := A1.pad (pad_rep [] (.int (0 : Int32)) 1)
  refine g_dup (pc' := 4) C X1 d4_3 rfl rfl ?_
  refine g_iconst (pc' := 5) (v := (0 : Int32)) C X1 d4_4 rfl rfl ?_
  refine g_iloadN (pc' := 6) C X1 d4_5 rfl rfl ?_
  refine g_i2b (pc' := 7) C X1 d4_6 rfl ?_
  refine g_stB (pc' := 8) (i := 0) C X1 d4_7 e1 V1 ⟨by decide, by decide⟩ rfl (show (0 : Nat) < 1 from by decide) rfl (fun T2 h2 X2 e2 W2 V2q => ?_)
  have V2 : Arv Z h2 b1 ck1 .byte (1 : Int32) [(.int (nar .byte p1.toInt8.toInt32))] (.int (0 : Int32)) := V2q
  have S_cs_2 := S_cs_1.wr W2
  have Z2 := Nat.le_trans Z1 (Nat.le_of_eq W2.size.symm)
  have N2 := Fr.snoc X2 N0 gn_b1
  have K2 := K1.wr W2 (Or.inr sz_b1)
  exact g_retA C X2 rfl rfl rfl d4_8 (by decide) (by decide) ⟨b1, ck1, rfl, N2, (by rw [e2]; exact K2), sz_b1, gn_b1, (by rw [e2]; exact V2)⟩
theorem d5_0 : decode jdk_42_method_151_code 0 = .ok (.aload_n 0, 1) := by decide +kernel
theorem d5_1 : decode jdk_42_method_151_code 1 = .ok (.invokespecial 1, 3) := by decide +kernel
theorem d5_4 : decode jdk_42_method_151_code 4 = .ok (.aload_n 0, 1) := by decide +kernel
theorem d5_5 : decode jdk_42_method_151_code 5 = .ok (.aload_n 1, 1) := by decide +kernel
theorem d5_6 : decode jdk_42_method_151_code 6 = .ok (.putfield 9, 3) := by decide +kernel
theorem d5_9 : decode jdk_42_method_151_code 9 = .ok (.aload_n 0, 1) := by decide +kernel
theorem d5_10 : decode jdk_42_method_151_code 10 = .ok (.iload_n 2, 1) := by decide +kernel
theorem d5_11 : decode jdk_42_method_151_code 11 = .ok (.putfield 15, 3) := by decide +kernel
theorem d5_14 : decode jdk_42_method_151_code 14 = .ok (.return_, 1) := by decide +kernel
theorem ef_ib (m : MethodId) (a1 : Addr) (a2 : Addr) : entryFrame m #[(.ref a1), (.ref a2), (.int (0 : Int32))] 3 = mkF m 0 #[.val (.ref a1), .val (.ref a2), .val (.int (0 : Int32))] [] := by first | (simp [entryFrame, mkF, argsToLocals, Value.category]; done) | rfl
def Q_ib (Z : State) (a1 : Addr) (a2 : Addr) (cs : Int32) (h0 : Heap) (n0 : Nat) (vr : Option Value) (h : Heap) (L : List Loc) : Prop := (vr = none) ∧ (Fr n0 L) ∧ (Keep h0 h [a1]) ∧ (Exa Z h a1 "java/lang/String") ∧ (Fld Z h a1 "java/lang/String" "coder" "B" (.int (0 : Int32))) ∧ (Fld Z h a1 "java/lang/String" "value" "[B" (.ref a2))
set_option maxRecDepth 65536 in
set_option maxHeartbeats 40000000 in
theorem rmib (l : Launch) (Z : State) (a0 : Array Value) (hw : ∀ d ∈ tables_1, d.before a0 Z = true) (ws : List Jvm.Cond) (a1 : Addr) (a2 : Addr) (cs : Int32) (h0 : Heap) (n0 : Nat) (Z0 : n0 ≤ h0.size) (hF : FX Z h0 cs) (E_a1 : Exa Z h0 a1 "java/lang/String") (Fc_a1 : Fld Z h0 a1 "java/lang/String" "coder" "B" (.int (0 : Int32))) (Fv_a1 : Fld Z h0 a1 "java/lang/String" "value" "[B" .null) (gn_a1 : n0 ≤ a1) :
    MetFree l (⟨"java/lang/String", "<init>", "([BB)V"⟩ : MethodName) (head1 (Jvm.Cond.code (⟨"java/lang/String", "<init>", "([BB)V"⟩ : MethodName) jdk_42_method_151_code 3 none :: ws) ({ frames := 1, cells := 0, slots := 0, locals := 12 } : Room)) (fun a U => a = #[(.ref a1), (.ref a2), (.int (0 : Int32))] ∧ Z.Warmed39 U.vm ∧ U.heap = h0) (fun _ _ _ _ _ => True) (fun _ U o U' => ∃ v L, o = .returned v ∧ Q_ib Z a1 a2 cs h0 n0 v U'.heap L ∧ FrameEnd U o U' L ({ frames := 1, cells := 0, slots := 0, locals := 12 } : Room).cells ({ frames := 1, cells := 0, slots := 0, locals := 12 } : Room).slots) := by
  refine met_of (Ls := #[.val (.ref a1), .val (.ref a2), .val (.int (0 : Int32))]) (plainFor_of_name (by first | (simp [plainName, overriddenIn]; done) | decide +kernel)) (fun m => ef_ib m a1 a2) ?_
  intro p e s m below meth c T0 C X0 e0
  have S_cs := hF
  have N0 := Fr.nil n0
  have K0 : Keep h0 h0 [a1] := Keep.refl h0 _
  refine g_aloadN (pc' := 1) C X0 d5_0 rfl rfl rfl ?_
  refine g_initO (W := 0) (pc' := 4) C X0 d5_1 (hw _ (List.mem_of_getElem? (i := 23) rfl)) (hw _ (List.mem_of_getElem? (i := 24) rfl)) (hw _ (List.mem_of_getElem? (i := 25) rfl)) e0 rfl (by decide) (Nat.le_refl _) (by decide) rfl (fun T1 X1 e1 => ?_)
  refine g_aloadN (pc' := 5) C X1 d5_4 rfl rfl rfl ?_
  refine g_aloadN (pc' := 6) C X1 d5_5 rfl rfl rfl ?_
  refine g_putF (pc' := 9) C X1 d5_6 (host := "") (Or.inl (hw _ (List.mem_of_getElem? (i := 26) rfl))) Via.refl e1 Fv_a1 E_a1 (Or.inr ⟨(hw _ (List.mem_of_getElem? (i := 27) rfl)), rfl, rfl⟩) (hw _ (List.mem_of_getElem? (i := 14) rfl)) (ty := (.array .byte)) (by decide) rfl rfl rfl (fun T2 h2 X2 e2 W2 => ?_)
  have F2 := Fv_a1.same W2
  have S_cs_2 := S_cs.wr W2
  have E_a1_2 := E_a1.wr W2
  have Fc_a1_2 := Fc_a1.other W2 (Or.inr (slot_ne (Or.inr (hw _ (List.mem_of_getElem? (i := 29) rfl))) (Or.inr (hw _ (List.mem_of_getElem? (i := 27) rfl))) (by decide) (t := .byte) (t' := (.array .byte)) (by decide) (by decide)))
  have Z2 := Nat.le_trans Z0 (Nat.le_of_eq W2.size.symm)
  have N2 := Fr.snoc X2 N0 gn_a1
  have K2 := K0.wr W2 (Or.inl (List.mem_of_getElem? (i := 0) rfl))
  refine g_aloadN (pc' := 10) C X2 d5_9 rfl rfl rfl ?_
  refine g_iloadN (pc' := 11) C X2 d5_10 rfl rfl ?_
  refine g_putFN (pc' := 14) (v' := (.int (0 : Int32))) C X2 d5_11 (hw _ (List.mem_of_getElem? (i := 28) rfl)) Via.refl e2 Fc_a1_2 E_a1_2 (Or.inr ⟨(hw _ (List.mem_of_getElem? (i := 29) rfl)), rfl, rfl⟩) (hw _ (List.mem_of_getElem? (i := 14) rfl)) (ty := .byte) (by decide) rfl (by decide) rfl (fun T3 h3 X3 e3 W3 => ?_)
  have F3 := Fc_a1_2.same W3
  have S_cs_3 := S_cs_2.wr W3
  have E_a1_3 := E_a1_2.wr W3
  have F2_3 := F2.other W3 (Or.inr (slot_ne (Or.inr (hw _ (List.mem_of_getElem? (i := 27) rfl))) (Or.inr (hw _ (List.mem_of_getElem? (i := 29) rfl))) (by decide) (t := (.array .byte)) (t' := .byte) (by decide) (by decide)))
  have Z3 := Nat.le_trans Z2 (Nat.le_of_eq W3.size.symm)
  have N3 := Fr.snoc X3 N2 gn_a1
  have K3 := K2.wr W3 (Or.inl (List.mem_of_getElem? (i := 0) rfl))
  exact g_retV C X3 d5_14 (by decide) (by decide) ⟨rfl, N3, (by rw [e3]; exact K3), (by rw [e3]; exact E_a1_3), (by rw [e3]; exact F3), (by rw [e3]; exact F2_3)⟩
theorem d2_0 : decode jdk_42_method_139_code 0 = .ok (.getstatic 38, 3) := by decide +kernel
theorem d2_3 : decode jdk_42_method_139_code 3 = .ok (.ifCond .eq 23, 3) := by decide +kernel
theorem d2_6 : decode jdk_42_method_139_code 6 = .ok (.iload_n 0, 1) := by decide +kernel
theorem d2_7 : decode jdk_42_method_139_code 7 = .ok (.invokestatic 1015, 3) := by decide +kernel
theorem pd_4 : parseMethodDescriptor "(C)Z" = some ⟨[.char], some .boolean⟩ := by decide +kernel
theorem d2_10 : decode jdk_42_method_139_code 10 = .ok (.ifCond .eq 16, 3) := by decide +kernel
theorem d2_13 : decode jdk_42_method_139_code 13 = .ok (.new 10, 3) := by decide +kernel
theorem d2_16 : decode jdk_42_method_139_code 16 = .ok (.dup, 1) := by decide +kernel
theorem d2_17 : decode jdk_42_method_139_code 17 = .ok (.iload_n 0, 1) := by decide +kernel
theorem d2_18 : decode jdk_42_method_139_code 18 = .ok (.invokestatic 1018, 3) := by decide +kernel
theorem pd_5 : parseMethodDescriptor "(C)[B" = some ⟨[.char], some (.array .byte)⟩ := by decide +kernel
theorem d2_21 : decode jdk_42_method_139_code 21 = .ok (.iconst 0, 1) := by decide +kernel
theorem d2_22 : decode jdk_42_method_139_code 22 = .ok (.invokespecial 209, 3) := by decide +kernel
theorem pd_6 : parseMethodDescriptor "([BB)V" = some ⟨[(.array .byte), .byte], none⟩ := by decide +kernel
theorem d2_25 : decode jdk_42_method_139_code 25 = .ok (.areturn, 1) := by decide +kernel
theorem ef_vo (m : MethodId) (p1 : Int32) : entryFrame m #[(.int p1)] 1 = mkF m 0 #[.val (.int p1)] [] := by first | (simp [entryFrame, mkF, argsToLocals, Value.category]; done) | rfl
def Q_vo (Z : State) (p1 : Int32) (cs : Int32) (h0 : Heap) (n0 : Nat) (vr : Option Value) (h : Heap) (L : List Loc) : Prop := ∃ r : Addr, ∃ v : Addr, ∃ kb : ClassId, (vr = some (.ref r)) ∧ (Fr n0 L) ∧ (Keep h0 h []) ∧ (h0.size ≤ r) ∧ (h0.size ≤ v) ∧ (n0 ≤ r) ∧ (n0 ≤ v) ∧ (Exa Z h r "java/lang/String") ∧ (Fld Z h r "java/lang/String" "coder" "B" (.int (0 : Int32))) ∧ (Fld Z h r "java/lang/String" "value" "[B" (.ref v)) ∧ (Arv Z h v kb .byte (1 : Int32) [(.int (nar .byte p1.toInt8.toInt32))] (.int (0 : Int32)))
set_option maxRecDepth 65536 in
set_option maxHeartbeats 40000000 in
theorem rmvo (l : Launch) (Z : State) (a0 : Array Value) (hw : ∀ d ∈ tables_1, d.before a0 Z = true) (ws : List Jvm.Cond) (p1 : Int32) (cs : Int32) (h0 : Heap) (n0 : Nat) (Z0 : n0 ≤ h0.size) (hF : FX Z h0 cs) (hcs : ¬ (cs = (0 : Int32))) (hp1 : ¬ ((255 : Int32) < p1)) :
    MetFree l (⟨"java/lang/String", "valueOf", "(C)Ljava/lang/String;"⟩ : MethodName) (head1 (Jvm.Cond.code (⟨"java/lang/String", "valueOf", "(C)Ljava/lang/String;"⟩ : MethodName) jdk_42_method_139_code 1 (some (.object "java/lang/String")) :: ws) ({ frames := 2, cells := 2, slots := 5, locals := 27 } : Room)) (fun a U => a = #[(.int p1)] ∧ Z.Warmed39 U.vm ∧ U.heap = h0) (fun _ _ _ _ _ => True) (fun _ U o U' => ∃ v L, o = .returned v ∧ Q_vo Z p1 cs h0 n0 v U'.heap L ∧ FrameEnd U o U' L ({ frames := 2, cells := 2, slots := 5, locals := 27 } : Room).cells ({ frames := 2, cells := 2, slots := 5, locals := 27 } : Room).slots) := by
  refine met_of (Ls := #[.val (.int p1)]) (plainFor_of_name (by first | (simp [plainName, overriddenIn]; done) | decide +kernel)) (fun m => ef_vo m p1) ?_
  intro p e s m below meth c T0 C X0 e0
  have S_cs := hF
  have N0 := Fr.nil n0
  have K0 : Keep h0 h0 [] := Keep.refl h0 _
  refine g_getS (pc' := 3) C X0 d2_0 (host := "") (Or.inl (hw _ (List.mem_of_getElem? (i := 8) rfl))) Via.refl e0 S_cs rfl (fun T1 X1 e1 => ?_)
  refine g_ifN (pc' := 6) C X1 d2_3 (feq hcs).1 rfl ?_
  refine g_iloadN (pc' := 7) C X1 d2_6 rfl rfl ?_
  refine g_callS (y := (⟨"java/lang/StringLatin1", "canEncode", "(C)Z"⟩ : MethodName)) (argsL := [(.int p1)]) (st := []) (pc' := 10) C X1 d2_7 (hw _ (List.mem_of_getElem? (i := 9) rfl)) (hw _ (List.mem_of_getElem? (i := 10) rfl)) (hw _ (List.mem_of_getElem? (i := 11) rfl)) (hw _ (List.mem_of_getElem? (i := 12) rfl)) (by decide) (rmce l Z a0 hw [] p1 cs h0 n0 hF) (W := 0) (by decide) (by decide) (ce := 0) (sl := 0) rfl rfl (by decide) (by decide) rfl e1 rfl pd_4 rfl (Nat.le_refl _) rfl (fun rv2 T2 L2 X2 Q2 => ?_)
  obtain ⟨q2, Nq2, e2⟩ := Q2
  have N2 := Fr.app N0 Nq2
  rw [Fce_l1 p1 hp1] at q2
  subst q2
  show Go p.tables e below _ (T2.setTop (mkF m 10 #[.val (.int p1)] [(.int (1 : Int32))]))
  refine g_ifN (pc' := 13) C X2 d2_10 (feq (show ¬ ((1 : Int32) = (0 : Int32)) from (by decide))).1 rfl ?_
  refine g_new (pc' := 16) C X2 d2_13 (hw _ (List.mem_of_getElem? (i := 13) rfl)) (hw _ (List.mem_of_getElem? (i := 14) rfl)) (hw _ (List.mem_of_getElem? (i := 6) rfl)) e2 (ce := 1) (sl := 4) rfl rfl (by decide) (by decide) rfl (fun T3 h3 b3 g3 X3 e3 E3 A3 D3 => ?_)
  have S_cs_3 := S_cs.ext E3
  have gn_b3 : n0 ≤ b3 := Nat.le_trans Z0 (Nat.le_of_eq g3.symm)
  have Z3 := Nat.le_trans Z0 E3.1
  have sz_b3 : h0.size ≤ b3 := Nat.le_trans K0.1 (Nat.le_of_eq g3.symm)
  have K3 := K0.ext E3
  have F3_value : Fld Z h3 b3 "java/lang/String" "value" "[B" .null := D3 (Or.inr (hw _ (List.mem_of_getElem? (i := 27) rfl))) (ty := (.array .byte)) (by decide)
  have F3_coder : Fld Z h3 b3 "java/lang/String" "coder" "B" (.int (0 : Int32)) := D3 (Or.inr (hw _ (List.mem_of_getElem? (i := 29) rfl))) (ty := .byte) (by decide)
  refine g_dup (pc' := 17) C X3 d2_16 rfl rfl ?_
  refine g_iloadN (pc' := 18) C X3 d2_17 rfl rfl ?_
  refine g_callS (y := (⟨"java/lang/StringLatin1", "toBytes", "(C)[B"⟩ : MethodName)) (argsL := [(.int p1)]) (st := [(.ref b3), (.ref b3)]) (pc' := 21) C X3 d2_18 (hw _ (List.mem_of_getElem? (i := 15) rfl)) (hw _ (List.mem_of_getElem? (i := 16) rfl)) (hw _ (List.mem_of_getElem? (i := 11) rfl)) (hw _ (List.mem_of_getElem? (i := 17) rfl)) (by decide) (rmtb l Z a0 hw [] p1 cs h3 n0 Z3 S_cs_3) (W := 2) (by decide) (by decide) (ce := 2) (sl := 5) rfl rfl (by decide) (by decide) rfl e3 rfl pd_5 rfl (Nat.le_refl _) rfl (fun rv4 T4 L4 X4 Q4 => ?_)
  obtain ⟨r4, kb4, q4, Nq4, Kq4, sz4_r, gn_r4, P4_0⟩ := Q4
  have N4 := Fr.app N2 Nq4
  have ne4_5 : ¬ (b3 = r4) := Nat.ne_of_lt (Nat.lt_of_lt_of_le A3.lt sz4_r)
  have S_cs_4 := own_sta_keep S_cs_3 Kq4 (fun _ q => nomatch q)
  have A3_4 := A3.keep Kq4
  have F3_value_4 := F3_value.keep Kq4 nin0
  have F3_coder_4 := F3_coder.keep Kq4 nin0
  have Z4 := Nat.le_trans Z3 Kq4.1
  have sz_r4 := Nat.le_trans K3.1 sz4_r
  have K4 := K3.trans Kq4 all0
  subst q4
  show Go p.tables e below _ (T4.setTop (mkF m 21 #[.val (.int p1)] [(.ref r4), (.ref b3), (.ref b3)]))
  refine g_iconst (pc' := 22) (v := (0 : Int32)) C X4 d2_21 rfl rfl ?_
  refine g_callI (b := b3) (y := (⟨"java/lang/String", "<init>", "([BB)V"⟩ : MethodName)) (argsL := [(.ref r4), (.int (0 : Int32))]) (st := [(.ref b3)]) (pc' := 25) C X4 rfl d2_22 (hw _ (List.mem_of_getElem? (i := 19) rfl)) (hw _ (List.mem_of_getElem? (i := 20) rfl)) (hw _ (List.mem_of_getElem? (i := 6) rfl)) (hw _ (List.mem_of_getElem? (i := 22) rfl)) (by decide) (rmib l Z a0 hw [] b3 r4 cs T4.heap n0 Z4 S_cs_4 A3_4 F3_coder_4 F3_value_4 gn_b3) (W := 1) (by decide) (by decide) (ce := 2) (sl := 5) rfl rfl (by decide) (by decide) rfl rfl rfl pd_6 rfl (Nat.le_refl _) rfl (fun rv6 T6 L6 X6 Q6 => ?_)
  obtain ⟨q6, Nq6, Kq6, P6_0, P6_1, P6_2⟩ := Q6
  have N6 := Fr.app N4 Nq6
  have S_cs_6 := own_sta_keep S_cs_4 Kq6 ((allS (by obtain ⟨c_, _, h1_, _, _, h2_, _⟩ := A3_4; exact ⟨c_, h1_, h2_⟩) all0))
  have P4_0_6 := P4_0.keep Kq6 (ninS (Ne.symm ne4_5) nin0)
  have Z6 := Nat.le_trans Z4 Kq6.1
  have K6 := K4.trans Kq6 (allS (Or.inr sz_b3) all0)
  subst q6
  show Go p.tables e below _ (T6.setTop (mkF m 25 #[.val (.int p1)] [(.ref b3)]))
  exact g_retA C X6 rfl rfl rfl d2_25 (by decide) (by decide) ⟨b3, r4, kb4, rfl, N6, K6, sz_b3, sz_r4, gn_b3, gn_r4, P6_0, P6_1, P6_2, P4_0_6⟩
theorem own_ncs1 {l c d : Int32} (h : l = (1 : Int32)) : own_n l = 1 ∧ own_vl (own_cs l c d) = [Value.int (nar .byte c.toInt8.toInt32)] := by
  unfold own_n own_cs; rw [if_pos h, if_pos h]; exact ⟨rfl, rfl⟩
theorem own_ncs2 {l c d : Int32} (h : ¬ (l = (1 : Int32))) : own_n l = 2 ∧ own_vl (own_cs l c d) = [Value.int (nar .byte (nar .char c).toInt8.toInt32), Value.int (nar .byte (nar .char d).toInt8.toInt32)] := by
  unfold own_n own_cs; rw [if_neg h, if_neg h]; exact ⟨rfl, rfl⟩
theorem own_nch {c : Int32} (h : ¬ ((255 : Int32) < c)) (h0 : ¬ (c < (0 : Int32))) : ¬ ((255 : Int32) < (nar .char c)) := by
  have a := c_i2c c
  have q : (nar .char c).toInt = c.toUInt32.toUInt16.toUInt32.toInt32.toInt := rfl
  have z : (255 : Int32).toInt = 255 := by decide
  have z0 : (0 : Int32).toInt = 0 := by decide
  rw [Int32.lt_iff_toInt_lt] at h h0 ⊢
  omega
theorem d1_0 : decode method_3_code 0 = .ok (.iload_n 0, 1) := by decide +kernel
theorem d1_1 : decode method_3_code 1 = .ok (.iconst 1, 1) := by decide +kernel
theorem d1_2 : decode method_3_code 2 = .ok (.if_icmp .ne 8, 3) := by decide +kernel
theorem d1_5 : decode method_3_code 5 = .ok (.iload_n 1, 1) := by decide +kernel
theorem d1_6 : decode method_3_code 6 = .ok (.invokestatic 22, 3) := by decide +kernel
theorem pd_7 : parseMethodDescriptor "(C)Ljava/lang/String;" = some ⟨[.char], some (.object "java/lang/String")⟩ := by decide +kernel
theorem d1_9 : decode method_3_code 9 = .ok (.areturn, 1) := by decide +kernel
theorem d1_10 : decode method_3_code 10 = .ok (.iconst 2, 1) := by decide +kernel
theorem d1_11 : decode method_3_code 11 = .ok (.newarray .char, 2) := by decide +kernel
theorem d1_13 : decode method_3_code 13 = .ok (.astore_n 3, 1) := by decide +kernel
theorem d1_14 : decode method_3_code 14 = .ok (.aload_n 3, 1) := by decide +kernel
theorem d1_15 : decode method_3_code 15 = .ok (.iconst 0, 1) := by decide +kernel
theorem d1_16 : decode method_3_code 16 = .ok (.iload_n 1, 1) := by decide +kernel
theorem d1_17 : decode method_3_code 17 = .ok (.castore, 1) := by decide +kernel
theorem d1_18 : decode method_3_code 18 = .ok (.aload_n 3, 1) := by decide +kernel
theorem d1_19 : decode method_3_code 19 = .ok (.iconst 1, 1) := by decide +kernel
theorem d1_20 : decode method_3_code 20 = .ok (.iload_n 2, 1) := by decide +kernel
theorem d1_21 : decode method_3_code 21 = .ok (.castore, 1) := by decide +kernel
theorem d1_22 : decode method_3_code 22 = .ok (.new 23, 3) := by decide +kernel
theorem d1_25 : decode method_3_code 25 = .ok (.dup, 1) := by decide +kernel
theorem d1_26 : decode method_3_code 26 = .ok (.aload_n 3, 1) := by decide +kernel
theorem d1_27 : decode method_3_code 27 = .ok (.invokespecial 28, 3) := by decide +kernel
theorem pd_8 : parseMethodDescriptor "([C)V" = some ⟨[(.array .char)], none⟩ := by decide +kernel
theorem d1_30 : decode method_3_code 30 = .ok (.areturn, 1) := by decide +kernel
theorem ef_st (m : MethodId) (p1 : Int32) (p2 : Int32) (p3 : Int32) : entryFrame m #[(.int p1), (.int p2), (.int p3)] 4 = mkF m 0 #[.val (.int p1), .val (.int p2), .val (.int p3), .unset] [] := by first | (simp [entryFrame, mkF, argsToLocals, Value.category]; done) | rfl
def Q_st (Z : State) (p1 : Int32) (p2 : Int32) (p3 : Int32) (cs : Int32) (h0 : Heap) (n0 : Nat) (vr : Option Value) (h : Heap) (L : List Loc) : Prop := ∃ r : Addr, ∃ v : Addr, ∃ kb : ClassId, (vr = some (.ref r)) ∧ (Fr n0 L) ∧ (Keep h0 h []) ∧ (h0.size ≤ r) ∧ (h0.size ≤ v) ∧ (n0 ≤ r) ∧ (n0 ≤ v) ∧ (Exa Z h r "java/lang/String") ∧ (Fld Z h r "java/lang/String" "coder" "B" (.int (0 : Int32))) ∧ (Fld Z h r "java/lang/String" "value" "[B" (.ref v)) ∧ (Arv Z h v kb .byte (own_n p1) (own_vl (own_cs p1 p2 p3)) (.int (0 : Int32)))
set_option maxRecDepth 65536 in
set_option maxHeartbeats 40000000 in
theorem rmst (l : Launch) (Z : State) (a0 : Array Value) (hw : ∀ d ∈ tables_1, d.before a0 Z = true) (ws : List Jvm.Cond) (p1 : Int32) (p2 : Int32) (p3 : Int32) (cs : Int32) (h0 : Heap) (n0 : Nat) (Z0 : n0 ≤ h0.size) (hF : FX Z h0 cs) (hcs : ¬ (cs = (0 : Int32))) (hp2 : ¬ ((255 : Int32) < p2)) (hp3 : ¬ ((255 : Int32) < p3)) (hq2 : ¬ (p2 < (0 : Int32))) (hq3 : ¬ (p3 < (0 : Int32))) :
    MetFree l (⟨"com/example/wenshai/wenshai/model/KeywordEqualsPinLaw", "str", "(ICC)Ljava/lang/String;"⟩ : MethodName) (head1 (Jvm.Cond.code (⟨"com/example/wenshai/wenshai/model/KeywordEqualsPinLaw", "str", "(ICC)Ljava/lang/String;"⟩ : MethodName) method_3_code 4 (some (.object "java/lang/String")) :: ws) ({ frames := 4, cells := 3, slots := 8, locals := 66 } : Room)) (fun a U => a = #[(.int p1), (.int p2), (.int p3)] ∧ Z.Warmed39 U.vm ∧ U.heap = h0) (fun _ _ _ _ _ => True) (fun _ U o U' => ∃ v L, o = .returned v ∧ Q_st Z p1 p2 p3 cs h0 n0 v U'.heap L ∧ FrameEnd U o U' L ({ frames := 4, cells := 3, slots := 8, locals := 66 } : Room).cells ({ frames := 4, cells := 3, slots := 8, locals := 66 } : Room).slots) := by
  refine met_of (Ls := #[.val (.int p1), .val (.int p2), .val (.int p3), .unset]) (plainFor_of_name (by first | (simp [plainName, overriddenIn]; done) | decide +kernel)) (fun m => ef_st m p1 p2 p3) ?_
  intro p e s m below meth c T0 C X0 e0
  have S_cs := hF
  have N0 := Fr.nil n0
  have K0 : Keep h0 h0 [] := Keep.refl h0 _
  refine g_iloadN (pc' := 1) C X0 d1_0 rfl rfl ?_
  refine g_iconst (pc' := 2) (v := (1 : Int32)) C X0 d1_1 rfl rfl ?_
  by_cases c1 : p1 = (1 : Int32)
  · refine g_icmpN (pc' := 5) C X0 d1_2 (teq c1).2 rfl ?_
    refine g_iloadN (pc' := 6) C X0 d1_5 rfl rfl ?_
    refine g_callS (y := (⟨"java/lang/String", "valueOf", "(C)Ljava/lang/String;"⟩ : MethodName)) (argsL := [(.int p2)]) (st := []) (pc' := 9) C X0 d1_6 (hw _ (List.mem_of_getElem? (i := 4) rfl)) (hw _ (List.mem_of_getElem? (i := 5) rfl)) (hw _ (List.mem_of_getElem? (i := 6) rfl)) (hw _ (List.mem_of_getElem? (i := 7) rfl)) (by decide) (rmvo l Z a0 hw [] p2 cs h0 n0 Z0 hF hcs hp2) (W := 0) (by decide) (by decide) (ce := 2) (sl := 5) rfl rfl (by decide) (by decide) rfl e0 rfl pd_7 rfl (Nat.le_refl _) rfl (fun rv2 T2 L2 X2 Q2 => ?_)
    obtain ⟨r2, v2, kb2, q2, Nq2, Kq2, sz2_r, sz2_v, gn_r2, gn_v2, P2_0, P2_1, P2_2, P2_3⟩ := Q2
    have N2 := Fr.app N0 Nq2
    have S_cs_2 := own_sta_keep S_cs Kq2 (fun _ q => nomatch q)
    have Z2 := Nat.le_trans Z0 Kq2.1
    have sz_r2 := Nat.le_trans K0.1 sz2_r
    have sz_v2 := Nat.le_trans K0.1 sz2_v
    have K2 := K0.trans Kq2 all0
    subst q2
    show Go p.tables e below _ (T2.setTop (mkF m 9 #[.val (.int p1), .val (.int p2), .val (.int p3), .unset] [(.ref r2)]))
    exact g_retA C X2 rfl rfl rfl d1_9 (by decide) (by decide) ⟨r2, v2, kb2, rfl, N2, K2, sz_r2, sz_v2, gn_r2, gn_v2, P2_0, P2_1, P2_2, (by rw [(own_ncs1 c1 (c := p2) (d := p3)).1, (own_ncs1 c1 (c := p2) (d := p3)).2]; exact P2_3)⟩
  · refine g_icmpY (pc' := 10) C X0 d1_2 (feq c1).2 (by decide) (by decide) ?_
    refine g_iconst (pc' := 11) (v := (2 : Int32)) C X0 d1_10 rfl rfl ?_
    refine g_newP (pc' := 13) (cap := 2) C X0 d1_11 (hw _ (List.mem_of_getElem? (i := 99) rfl)) e0 (by decide) (by decide) (by decide) (ce := 1) (sl := 2) rfl rfl (by decide) (by decide) rfl (fun T3 h3 b3 ck3 g3 X3 e3 E3 A3 => ?_)
    have S_cs_3 := S_cs.ext E3
    have gn_b3 : n0 ≤ b3 := Nat.le_trans Z0 (Nat.le_of_eq g3.symm)
    have Z3 := Nat.le_trans Z0 E3.1
    have sz_b3 : h0.size ≤ b3 := Nat.le_trans K0.1 (Nat.le_of_eq g3.symm)
    have K3 := K0.ext E3
    have V3 : Arv Z h3 b3 ck3 .char (2 : Int32) [(.int (0 : Int32)), (.int (0 : Int32))] (.int (0 : Int32)) := A3.pad (pad_rep [] (.int (0 : Int32)) 2)
    refine g_astoreN (pc' := 14) (Ls' := #[.val (.int p1), .val (.int p2), .val (.int p3), .val (.ref b3)]) C X3 d1_13 rfl rfl rfl ?_
    refine g_aloadN (pc' := 15) C X3 d1_14 rfl rfl rfl ?_
    refine g_iconst (pc' := 16) (v := (0 : Int32)) C X3 d1_15 rfl rfl ?_
    refine g_iloadN (pc' := 17) C X3 d1_16 rfl rfl ?_
    refine g_stC (pc' := 18) (i := 0) C X3 d1_17 e3 V3 ⟨by decide, by decide⟩ rfl (show (0 : Nat) < 2 from by decide) rfl (fun T4 h4 X4 e4 W4 V4q => ?_)
    have V4 : Arv Z h4 b3 ck3 .char (2 : Int32) [(.int (nar .char p2)), (.int (0 : Int32))] (.int (0 : Int32)) := V4q
    have S_cs_4 := S_cs_3.wr W4
    have Z4 := Nat.le_trans Z3 (Nat.le_of_eq W4.size.symm)
    have N4 := Fr.snoc X4 N0 gn_b3
    have K4 := K3.wr W4 (Or.inr sz_b3)
    refine g_aloadN (pc' := 19) C X4 d1_18 rfl rfl rfl ?_
    refine g_iconst (pc' := 20) (v := (1 : Int32)) C X4 d1_19 rfl rfl ?_
    refine g_iloadN (pc' := 21) C X4 d1_20 rfl rfl ?_
    refine g_stC (pc' := 22) (i := 1) C X4 d1_21 e4 V4 ⟨by decide, by decide⟩ rfl (show (1 : Nat) < 2 from by decide) rfl (fun T5 h5 X5 e5 W5 V5q => ?_)
    have V5 : Arv Z h5 b3 ck3 .char (2 : Int32) [(.int (nar .char p2)), (.int (nar .char p3))] (.int (0 : Int32)) := V5q
    have S_cs_5 := S_cs_4.wr W5
    have Z5 := Nat.le_trans Z4 (Nat.le_of_eq W5.size.symm)
    have N5 := Fr.snoc X5 N4 gn_b3
    have K5 := K4.wr W5 (Or.inr sz_b3)
    refine g_new (pc' := 25) C X5 d1_22 (hw _ (List.mem_of_getElem? (i := 100) rfl)) (hw _ (List.mem_of_getElem? (i := 14) rfl)) (hw _ (List.mem_of_getElem? (i := 6) rfl)) e5 (ce := 2) (sl := 6) rfl rfl (by decide) (by decide) rfl (fun T6 h6 b6 g6 X6 e6 E6 A6 D6 => ?_)
    have ne6_7 : ¬ (b3 = b6) := Nat.ne_of_lt (Nat.lt_of_lt_of_le V5.lt (Nat.le_of_eq g6.symm))
    have S_cs_6 := S_cs_5.ext E6
    have V5_6 := V5.ext E6
    have gn_b6 : n0 ≤ b6 := Nat.le_trans Z5 (Nat.le_of_eq g6.symm)
    have Z6 := Nat.le_trans Z5 E6.1
    have sz_b6 : h0.size ≤ b6 := Nat.le_trans K5.1 (Nat.le_of_eq g6.symm)
    have K6 := K5.ext E6
    have F6_value : Fld Z h6 b6 "java/lang/String" "value" "[B" .null := D6 (Or.inr (hw _ (List.mem_of_getElem? (i := 27) rfl))) (ty := (.array .byte)) (by decide)
    have F6_coder : Fld Z h6 b6 "java/lang/String" "coder" "B" (.int (0 : Int32)) := D6 (Or.inr (hw _ (List.mem_of_getElem? (i := 29) rfl))) (ty := .byte) (by decide)
    refine g_dup (pc' := 26) C X6 d1_25 rfl rfl ?_
    refine g_aloadN (pc' := 27) C X6 d1_26 rfl rfl rfl ?_
    refine g_callI (b := b6) (y := (⟨"java/lang/String", "<init>", "([C)V"⟩ : MethodName)) (argsL := [(.ref b3)]) (st := [(.ref b6)]) (pc' := 30) C X6 rfl d1_27 (hw _ (List.mem_of_getElem? (i := 101) rfl)) (hw _ (List.mem_of_getElem? (i := 102) rfl)) (hw _ (List.mem_of_getElem? (i := 6) rfl)) (hw _ (List.mem_of_getElem? (i := 103) rfl)) (by decide) (rmi1 l Z a0 hw [] b6 b3 ck3 (nar .char p2) (nar .char p3) cs h6 n0 Z6 S_cs_6 A6 F6_coder F6_value V5_6 hcs (own_nch hp2 hq2) (own_nch hp3 hq3) gn_b6 ne6_7) (W := 1) (by decide) (by decide) (ce := 3) (sl := 8) rfl rfl (by decide) (by decide) rfl e6 rfl pd_8 rfl (Nat.le_refl _) rfl (fun rv8 T8 L8 X8 Q8 => ?_)
    obtain ⟨v8, kb8, q8, Nq8, Kq8, sz8_v, gn_v8, P8_0, P8_1, P8_2, P8_3⟩ := Q8
    have N8 := Fr.app N5 Nq8
    have ne8_9 : ¬ (b3 = v8) := Nat.ne_of_lt (Nat.lt_of_lt_of_le V5_6.lt sz8_v)
    have ne8_10 : ¬ (b6 = v8) := Nat.ne_of_lt (Nat.lt_of_lt_of_le A6.lt sz8_v)
    have S_cs_8 := own_sta_keep S_cs_6 Kq8 ((allS (by obtain ⟨c_, _, h1_, _, _, h2_, _⟩ := A6; exact ⟨c_, h1_, h2_⟩) all0))
    have V5_8 := V5_6.keep Kq8 (ninS ne6_7 nin0)
    have Z8 := Nat.le_trans Z6 Kq8.1
    have sz_v8 := Nat.le_trans K6.1 sz8_v
    have K8 := K6.trans Kq8 (allS (Or.inr sz_b6) all0)
    subst q8
    show Go p.tables e below _ (T8.setTop (mkF m 30 #[.val (.int p1), .val (.int p2), .val (.int p3), .val (.ref b3)] [(.ref b6)]))
    exact g_retA C X8 rfl rfl rfl d1_30 (by decide) (by decide) ⟨b6, v8, kb8, rfl, N8, K8, sz_b6, sz_v8, gn_b6, gn_v8, P8_0, P8_1, P8_2, (by rw [(own_ncs2 c1 (c := p2) (d := p3)).1, (own_ncs2 c1 (c := p2) (d := p3)).2]; exact P8_3)⟩
theorem d8_0 : decode jdk_31_method_11_code 0 = .ok (.aload_n 0, 1) := by decide +kernel
theorem d8_1 : decode jdk_31_method_11_code 1 = .ok (.ifnonnull 12, 3) := by decide +kernel
theorem d8_13 : decode jdk_31_method_11_code 13 = .ok (.aload_n 0, 1) := by decide +kernel
theorem d8_14 : decode jdk_31_method_11_code 14 = .ok (.areturn, 1) := by decide +kernel
def Frn (a1 : Addr) : Addr := a1
theorem Frn_l0 (a1 : Addr)  : Frn a1 = a1 := rfl
theorem ef_rn (m : MethodId) (a1 : Addr) (a2 : Addr) : entryFrame m #[(.ref a1), (.ref a2)] 2 = mkF m 0 #[.val (.ref a1), .val (.ref a2)] [] := by first | (simp [entryFrame, mkF, argsToLocals, Value.category]; done) | rfl
def Q_rn (Z : State) (a1 : Addr) (a2 : Addr) (cs : Int32) (h0 : Heap) (n0 : Nat) (v : Option Value) (h : Heap) (L : List Loc) : Prop := v = some (.ref (Frn a1)) ∧ Fr n0 L ∧ h = h0
set_option maxRecDepth 65536 in
set_option maxHeartbeats 40000000 in
theorem rmrn (l : Launch) (Z : State) (a0 : Array Value) (hw : ∀ d ∈ tables_1, d.before a0 Z = true) (ws : List Jvm.Cond) (a1 : Addr) (a2 : Addr) (cs : Int32) (h0 : Heap) (n0 : Nat) (hF : FX Z h0 cs) :
    MetFree l (⟨"java/util/Objects", "requireNonNull", "(Ljava/lang/Object;Ljava/lang/String;)Ljava/lang/Object;"⟩ : MethodName) (head1 (Jvm.Cond.code (⟨"java/util/Objects", "requireNonNull", "(Ljava/lang/Object;Ljava/lang/String;)Ljava/lang/Object;"⟩ : MethodName) jdk_31_method_11_code 2 (some (.object "java/lang/Object")) :: ws) ({ frames := 0, cells := 0, slots := 0, locals := 0 } : Room)) (fun a U => a = #[(.ref a1), (.ref a2)] ∧ Z.Warmed39 U.vm ∧ U.heap = h0) (fun _ _ _ _ _ => True) (fun _ U o U' => ∃ v L, o = .returned v ∧ Q_rn Z a1 a2 cs h0 n0 v U'.heap L ∧ FrameEnd U o U' L ({ frames := 0, cells := 0, slots := 0, locals := 0 } : Room).cells ({ frames := 0, cells := 0, slots := 0, locals := 0 } : Room).slots) := by
  refine met_of (Ls := #[.val (.ref a1), .val (.ref a2)]) (plainFor_of_name (by first | (simp [plainName, overriddenIn]; done) | decide +kernel)) (fun m => ef_rn m a1 a2) ?_
  intro p e s m below meth c T0 C X0 e0
  have S_cs := hF
  have N0 := Fr.nil n0
  refine g_aloadN (pc' := 1) C X0 d8_0 rfl rfl rfl ?_
  refine g_ifnonnullY (pc' := 13) C X0 d8_1 (by decide) (by decide) ?_
  refine g_aloadN (pc' := 14) C X0 d8_13 rfl rfl rfl ?_
  exact g_retA C X0 rfl rfl rfl d8_14 (by decide) (by decide) ⟨congrArg (fun z => some (Value.ref z)) (Frn_l0 a1 ).symm, N0, e0⟩
theorem d10_0 : decode jdk_42_method_152_code 0 = .ok (.getstatic 38, 3) := by decide +kernel
theorem d10_3 : decode jdk_42_method_152_code 3 = .ok (.ifCond .eq 10, 3) := by decide +kernel
theorem d10_6 : decode jdk_42_method_152_code 6 = .ok (.aload_n 0, 1) := by decide +kernel
theorem d10_7 : decode jdk_42_method_152_code 7 = .ok (.getfield 15, 3) := by decide +kernel
theorem d10_10 : decode jdk_42_method_152_code 10 = .ok (.goto 4, 3) := by decide +kernel
theorem d10_14 : decode jdk_42_method_152_code 14 = .ok (.ireturn, 1) := by decide +kernel
def Fcd  : Int32 := (0 : Int32)
theorem Fcd_l0   : Fcd  = (0 : Int32) := rfl
theorem ef_cd (m : MethodId) (a1 : Addr) : entryFrame m #[(.ref a1)] 1 = mkF m 0 #[.val (.ref a1)] [] := by first | (simp [entryFrame, mkF, argsToLocals, Value.category]; done) | rfl
def Q_cd (Z : State) (a1 : Addr) (cs : Int32) (h0 : Heap) (n0 : Nat) (v : Option Value) (h : Heap) (L : List Loc) : Prop := v = some (.int (Fcd )) ∧ Fr n0 L ∧ h = h0
set_option maxRecDepth 65536 in
set_option maxHeartbeats 40000000 in
theorem rmcd (l : Launch) (Z : State) (a0 : Array Value) (hw : ∀ d ∈ tables_1, d.before a0 Z = true) (ws : List Jvm.Cond) (a1 : Addr) (cs : Int32) (h0 : Heap) (n0 : Nat) (hF : FX Z h0 cs) (Fc_a1 : Fld Z h0 a1 "java/lang/String" "coder" "B" (.int (0 : Int32))) (hcs : ¬ (cs = (0 : Int32))) :
    MetFree l (⟨"java/lang/String", "coder", "()B"⟩ : MethodName) (head1 (Jvm.Cond.code (⟨"java/lang/String", "coder", "()B"⟩ : MethodName) jdk_42_method_152_code 1 (some .byte) :: ws) ({ frames := 0, cells := 0, slots := 0, locals := 0 } : Room)) (fun a U => a = #[(.ref a1)] ∧ Z.Warmed39 U.vm ∧ U.heap = h0) (fun _ _ _ _ _ => True) (fun _ U o U' => ∃ v L, o = .returned v ∧ Q_cd Z a1 cs h0 n0 v U'.heap L ∧ FrameEnd U o U' L ({ frames := 0, cells := 0, slots := 0, locals := 0 } : Room).cells ({ frames := 0, cells := 0, slots := 0, locals := 0 } : Room).slots) := by
  refine met_of (Ls := #[.val (.ref a1)]) (plainFor_of_name (by first | (simp [plainName, overriddenIn]; done) | decide +kernel)) (fun m => ef_cd m a1) ?_
  intro p e s m below meth c T0 C X0 e0
  have S_cs := hF
  have N0 := Fr.nil n0
  refine g_getS (pc' := 3) C X0 d10_0 (host := "") (Or.inl (hw _ (List.mem_of_getElem? (i := 8) rfl))) Via.refl e0 S_cs rfl (fun T1 X1 e1 => ?_)
  refine g_ifN (pc' := 6) C X1 d10_3 (feq hcs).1 rfl ?_
  refine g_aloadN (pc' := 7) C X1 d10_6 rfl rfl rfl ?_
  refine g_getF (pc' := 10) C X1 d10_7 (host := "") (Or.inl (hw _ (List.mem_of_getElem? (i := 28) rfl))) Via.refl e1 Fc_a1 rfl (fun T2 X2 e2 => ?_)
  refine g_goto (pc' := 14) C X2 d10_10 (by decide) (by decide) ?_
  exact g_retN C X2 (by simp) d10_14 (by decide) (by decide) ⟨congrArg (fun z => some (Value.int z)) (Fcd_l0  ).symm, N0, e2⟩
theorem d9_0 : decode jdk_42_method_54_code 0 = .ok (.aload_n 0, 1) := by decide +kernel
theorem d9_1 : decode jdk_42_method_54_code 1 = .ok (.getfield 9, 3) := by decide +kernel
theorem d9_4 : decode jdk_42_method_54_code 4 = .ok (.arraylength, 1) := by decide +kernel
theorem d9_5 : decode jdk_42_method_54_code 5 = .ok (.aload_n 0, 1) := by decide +kernel
theorem d9_6 : decode jdk_42_method_54_code 6 = .ok (.invokevirtual 335, 3) := by decide +kernel
theorem pd_9 : parseMethodDescriptor "()B" = some ⟨[], some .byte⟩ := by decide +kernel
theorem d9_9 : decode jdk_42_method_54_code 9 = .ok (.ishr, 1) := by decide +kernel
theorem d9_10 : decode jdk_42_method_54_code 10 = .ok (.ireturn, 1) := by decide +kernel
def Fle1  : Int32 := (1 : Int32)
theorem Fle1_l0   : Fle1  = (1 : Int32) := rfl
theorem ef_le1 (m : MethodId) (a1 : Addr) : entryFrame m #[(.ref a1)] 1 = mkF m 0 #[.val (.ref a1)] [] := by first | (simp [entryFrame, mkF, argsToLocals, Value.category]; done) | rfl
def Q_le1 (Z : State) (a1 : Addr) (v1 : Addr) (k1 : ClassId) (ds : List Int32) (cs : Int32) (h0 : Heap) (n0 : Nat) (v : Option Value) (h : Heap) (L : List Loc) : Prop := v = some (.int (Fle1 )) ∧ Fr n0 L ∧ h = h0
set_option maxRecDepth 65536 in
set_option maxHeartbeats 40000000 in
theorem rmle1 (l : Launch) (Z : State) (a0 : Array Value) (hw : ∀ d ∈ tables_1, d.before a0 Z = true) (ws : List Jvm.Cond) (a1 : Addr) (v1 : Addr) (k1 : ClassId) (ds : List Int32) (cs : Int32) (h0 : Heap) (n0 : Nat) (hF : FX Z h0 cs) (E_a1 : Exa Z h0 a1 "java/lang/String") (Fc_a1 : Fld Z h0 a1 "java/lang/String" "coder" "B" (.int (0 : Int32))) (Fv_a1 : Fld Z h0 a1 "java/lang/String" "value" "[B" (.ref v1)) (V_v1 : Arv Z h0 v1 k1 .byte (1 : Int32) (own_vl ds) (.int (0 : Int32))) (hcs : ¬ (cs = (0 : Int32))) :
    MetFree l (⟨"java/lang/String", "length", "()I"⟩ : MethodName) (head1 (Jvm.Cond.code (⟨"java/lang/String", "length", "()I"⟩ : MethodName) jdk_42_method_54_code 1 (some .int) :: ws) ({ frames := 1, cells := 0, slots := 0, locals := 13 } : Room)) (fun a U => a = #[(.ref a1)] ∧ Z.Warmed39 U.vm ∧ U.heap = h0) (fun _ _ _ _ _ => True) (fun _ U o U' => ∃ v L, o = .returned v ∧ Q_le1 Z a1 v1 k1 ds cs h0 n0 v U'.heap L ∧ FrameEnd U o U' L ({ frames := 1, cells := 0, slots := 0, locals := 13 } : Room).cells ({ frames := 1, cells := 0, slots := 0, locals := 13 } : Room).slots) := by
  refine met_of (Ls := #[.val (.ref a1)]) (plainFor_of_name (by first | (simp [plainName, overriddenIn]; done) | decide +kernel)) (fun m => ef_le1 m a1) ?_
  intro p e s m below meth c T0 C X0 e0
  have S_cs := hF
  have N0 := Fr.nil n0
  refine g_aloadN (pc' := 1) C X0 d9_0 rfl rfl rfl ?_
  refine g_getF (pc' := 4) C X0 d9_1 (host := "") (Or.inl (hw _ (List.mem_of_getElem? (i := 26) rfl))) Via.refl e0 Fv_a1 rfl (fun T1 X1 e1 => ?_)
  refine g_len (pc' := 5) C X1 d9_4 e1 V_v1 rfl ?_
  refine g_aloadN (pc' := 6) C X1 d9_5 rfl rfl rfl ?_
  refine g_callV (b := a1) (z := (⟨"java/lang/String", "coder", "()B"⟩ : MethodName)) (y := (⟨"java/lang/String", "coder", "()B"⟩ : MethodName)) (argsL := []) (st := [(.int (1 : Int32))]) (pc' := 9) C X1 d9_6 (hw _ (List.mem_of_getElem? (i := 50) rfl)) (hw _ (List.mem_of_getElem? (i := 51) rfl)) (notFace_of_selects (args := #[]) (mvT C.hZ (hw _ (List.mem_of_getElem? (i := 53) rfl)))) (hw _ (List.mem_of_getElem? (i := 53) rfl)) (hw _ (List.mem_of_getElem? (i := 52) rfl)) (hw _ (List.mem_of_getElem? (i := 6) rfl)) (hw _ (List.mem_of_getElem? (i := 54) rfl)) (by decide) (rmcd l Z a0 hw [] a1 cs h0 n0 hF Fc_a1 hcs) (W := 1) (by decide) (by decide) (ce := 0) (sl := 0) rfl rfl (by decide) (by decide) rfl E_a1 e1 rfl pd_9 rfl (Nat.le_refl _) rfl (fun rv2 T2 L2 X2 Q2 => ?_)
  obtain ⟨q2, Nq2, e2⟩ := Q2
  have N2 := Fr.app N0 Nq2
  rw [Fcd_l0 ] at q2
  subst q2
  show Go p.tables e below _ (T2.setTop (mkF m 9 #[.val (.ref a1)] [(.int (0 : Int32)), (.int (1 : Int32))]))
  refine g_ishr (pc' := 10) C X2 d9_9 rfl ?_
  refine own_cast (congrArg (fun z => T2.setTop (mkF m 10 #[.val (.ref a1)] (.int z :: []))) (show ((1 : Int32) >>> ((0 : Int32) &&& 31)) = (1 : Int32) from by decide)) ?_
  exact g_retI C X2 d9_10 (by decide) (by decide) ⟨congrArg (fun z => some (Value.int z)) (Fle1_l0  ).symm, N2, e2⟩
theorem d15_0 : decode jdk_42_method_55_code 0 = .ok (.aload_n 0, 1) := by decide +kernel
theorem d15_1 : decode jdk_42_method_55_code 1 = .ok (.getfield 9, 3) := by decide +kernel
theorem d15_4 : decode jdk_42_method_55_code 4 = .ok (.arraylength, 1) := by decide +kernel
theorem d15_5 : decode jdk_42_method_55_code 5 = .ok (.ifCond .ne 7, 3) := by decide +kernel
theorem d15_12 : decode jdk_42_method_55_code 12 = .ok (.iconst 0, 1) := by decide +kernel
theorem d15_13 : decode jdk_42_method_55_code 13 = .ok (.ireturn, 1) := by decide +kernel
def Fem1  : Int32 := (0 : Int32)
theorem Fem1_l0   : Fem1  = (0 : Int32) := rfl
theorem ef_em1 (m : MethodId) (a1 : Addr) : entryFrame m #[(.ref a1)] 1 = mkF m 0 #[.val (.ref a1)] [] := by first | (simp [entryFrame, mkF, argsToLocals, Value.category]; done) | rfl
def Q_em1 (Z : State) (a1 : Addr) (v1 : Addr) (k1 : ClassId) (ds : List Int32) (cs : Int32) (h0 : Heap) (n0 : Nat) (v : Option Value) (h : Heap) (L : List Loc) : Prop := v = some (.int (Fem1 )) ∧ Fr n0 L ∧ h = h0
set_option maxRecDepth 65536 in
set_option maxHeartbeats 40000000 in
theorem rmem1 (l : Launch) (Z : State) (a0 : Array Value) (hw : ∀ d ∈ tables_1, d.before a0 Z = true) (ws : List Jvm.Cond) (a1 : Addr) (v1 : Addr) (k1 : ClassId) (ds : List Int32) (cs : Int32) (h0 : Heap) (n0 : Nat) (hF : FX Z h0 cs) (E_a1 : Exa Z h0 a1 "java/lang/String") (Fc_a1 : Fld Z h0 a1 "java/lang/String" "coder" "B" (.int (0 : Int32))) (Fv_a1 : Fld Z h0 a1 "java/lang/String" "value" "[B" (.ref v1)) (V_v1 : Arv Z h0 v1 k1 .byte (1 : Int32) (own_vl ds) (.int (0 : Int32))) :
    MetFree l (⟨"java/lang/String", "isEmpty", "()Z"⟩ : MethodName) (head1 (Jvm.Cond.code (⟨"java/lang/String", "isEmpty", "()Z"⟩ : MethodName) jdk_42_method_55_code 1 (some .boolean) :: ws) ({ frames := 0, cells := 0, slots := 0, locals := 0 } : Room)) (fun a U => a = #[(.ref a1)] ∧ Z.Warmed39 U.vm ∧ U.heap = h0) (fun _ _ _ _ _ => True) (fun _ U o U' => ∃ v L, o = .returned v ∧ Q_em1 Z a1 v1 k1 ds cs h0 n0 v U'.heap L ∧ FrameEnd U o U' L ({ frames := 0, cells := 0, slots := 0, locals := 0 } : Room).cells ({ frames := 0, cells := 0, slots := 0, locals := 0 } : Room).slots) := by
  refine met_of (Ls := #[.val (.ref a1)]) (plainFor_of_name (by first | (simp [plainName, overriddenIn]; done) | decide +kernel)) (fun m => ef_em1 m a1) ?_
  intro p e s m below meth c T0 C X0 e0
  have S_cs := hF
  have N0 := Fr.nil n0
  refine g_aloadN (pc' := 1) C X0 d15_0 rfl rfl rfl ?_
  refine g_getF (pc' := 4) C X0 d15_1 (host := "") (Or.inl (hw _ (List.mem_of_getElem? (i := 26) rfl))) Via.refl e0 Fv_a1 rfl (fun T1 X1 e1 => ?_)
  refine g_len (pc' := 5) C X1 d15_4 e1 V_v1 rfl ?_
  refine g_ifY (pc' := 12) C X1 d15_5 (feq (show ¬ ((1 : Int32) = (0 : Int32)) from (by decide))).2 (by decide) (by decide) ?_
  refine g_iconst (pc' := 13) (v := (0 : Int32)) C X1 d15_12 rfl rfl ?_
  exact g_retN C X1 (by simp) d15_13 (by decide) (by decide) ⟨congrArg (fun z => some (Value.int z)) (Fem1_l0  ).symm, N0, e1⟩
theorem d13_0 : decode jdk_41_method_12_code 0 = .ok (.iload_n 0, 1) := by decide +kernel
theorem d13_1 : decode jdk_41_method_12_code 1 = .ok (.ifCond .lt 13, 3) := by decide +kernel
theorem d13_4 : decode jdk_41_method_12_code 4 = .ok (.iload_n 0, 1) := by decide +kernel
theorem d13_5 : decode jdk_41_method_12_code 5 = .ok (.iload_n 1, 1) := by decide +kernel
theorem d13_6 : decode jdk_41_method_12_code 6 = .ok (.if_icmp .gt 8, 3) := by decide +kernel
theorem d13_9 : decode jdk_41_method_12_code 9 = .ok (.iload_n 1, 1) := by decide +kernel
theorem d13_10 : decode jdk_41_method_12_code 10 = .ok (.iload_n 2, 1) := by decide +kernel
theorem d13_11 : decode jdk_41_method_12_code 11 = .ok (.if_icmp .le 11, 3) := by decide +kernel
theorem d13_22 : decode jdk_41_method_12_code 22 = .ok (.iload_n 0, 1) := by decide +kernel
theorem d13_23 : decode jdk_41_method_12_code 23 = .ok (.ireturn, 1) := by decide +kernel
def Fpf1  : Int32 := (0 : Int32)
theorem Fpf1_l0   : Fpf1  = (0 : Int32) := rfl
theorem ef_pf1 (m : MethodId)  : entryFrame m #[(.int (0 : Int32)), (.int (1 : Int32)), (.int (1 : Int32)), .null] 4 = mkF m 0 #[.val (.int (0 : Int32)), .val (.int (1 : Int32)), .val (.int (1 : Int32)), .val .null] [] := by first | (simp [entryFrame, mkF, argsToLocals, Value.category]; done) | rfl
def Q_pf1 (Z : State) (cs : Int32) (h0 : Heap) (n0 : Nat) (v : Option Value) (h : Heap) (L : List Loc) : Prop := v = some (.int (Fpf1 )) ∧ Fr n0 L ∧ h = h0
set_option maxRecDepth 65536 in
set_option maxHeartbeats 40000000 in
theorem rmpf1 (l : Launch) (Z : State) (a0 : Array Value) (hw : ∀ d ∈ tables_1, d.before a0 Z = true) (ws : List Jvm.Cond) (cs : Int32) (h0 : Heap) (n0 : Nat) (hF : FX Z h0 cs) :
    MetFree l (⟨"jdk/internal/util/Preconditions", "checkFromToIndex", "(IIILjava/util/function/BiFunction;)I"⟩ : MethodName) (head1 (Jvm.Cond.code (⟨"jdk/internal/util/Preconditions", "checkFromToIndex", "(IIILjava/util/function/BiFunction;)I"⟩ : MethodName) jdk_41_method_12_code 4 (some .int) :: ws) ({ frames := 0, cells := 0, slots := 0, locals := 0 } : Room)) (fun a U => a = #[(.int (0 : Int32)), (.int (1 : Int32)), (.int (1 : Int32)), .null] ∧ Z.Warmed39 U.vm ∧ U.heap = h0) (fun _ _ _ _ _ => True) (fun _ U o U' => ∃ v L, o = .returned v ∧ Q_pf1 Z cs h0 n0 v U'.heap L ∧ FrameEnd U o U' L ({ frames := 0, cells := 0, slots := 0, locals := 0 } : Room).cells ({ frames := 0, cells := 0, slots := 0, locals := 0 } : Room).slots) := by
  refine met_of (Ls := #[.val (.int (0 : Int32)), .val (.int (1 : Int32)), .val (.int (1 : Int32)), .val .null]) (plainFor_of_name (by first | (simp [plainName, overriddenIn]; done) | decide +kernel)) (fun m => ef_pf1 m ) ?_
  intro p e s m below meth c T0 C X0 e0
  have S_cs := hF
  have N0 := Fr.nil n0
  refine g_iloadN (pc' := 1) C X0 d13_0 rfl rfl ?_
  refine g_ifN (pc' := 4) C X0 d13_1 (flt (show ¬ ((0 : Int32) < (0 : Int32)) from (by decide))).1 rfl ?_
  refine g_iloadN (pc' := 5) C X0 d13_4 rfl rfl ?_
  refine g_iloadN (pc' := 6) C X0 d13_5 rfl rfl ?_
  refine g_icmpN (pc' := 9) C X0 d13_6 (flt (show ¬ ((1 : Int32) < (0 : Int32)) from (by decide))).2.2.1 rfl ?_
  refine g_iloadN (pc' := 10) C X0 d13_9 rfl rfl ?_
  refine g_iloadN (pc' := 11) C X0 d13_10 rfl rfl ?_
  refine g_icmpY (pc' := 22) C X0 d13_11 (flt (show ¬ ((1 : Int32) < (1 : Int32)) from (by decide))).2.2.2 (by decide) (by decide) ?_
  refine g_iloadN (pc' := 23) C X0 d13_22 rfl rfl ?_
  exact g_retI C X0 d13_23 (by decide) (by decide) ⟨congrArg (fun z => some (Value.int z)) (Fpf1_l0  ).symm, N0, e0⟩
theorem d12_0 : decode jdk_31_method_18_code 0 = .ok (.iload_n 0, 1) := by decide +kernel
theorem d12_1 : decode jdk_31_method_18_code 1 = .ok (.iload_n 1, 1) := by decide +kernel
theorem d12_2 : decode jdk_31_method_18_code 2 = .ok (.iload_n 2, 1) := by decide +kernel
theorem d12_3 : decode jdk_31_method_18_code 3 = .ok (.aconst_null, 1) := by decide +kernel
theorem d12_4 : decode jdk_31_method_18_code 4 = .ok (.invokestatic 111, 3) := by decide +kernel
theorem pd_10 : parseMethodDescriptor "(IIILjava/util/function/BiFunction;)I" = some ⟨[.int, .int, .int, (.object "java/util/function/BiFunction")], some .int⟩ := by decide +kernel
theorem d12_7 : decode jdk_31_method_18_code 7 = .ok (.ireturn, 1) := by decide +kernel
def Fof1  : Int32 := (0 : Int32)
theorem Fof1_l0   : Fof1  = (0 : Int32) := rfl
theorem ef_of1 (m : MethodId)  : entryFrame m #[(.int (0 : Int32)), (.int (1 : Int32)), (.int (1 : Int32))] 3 = mkF m 0 #[.val (.int (0 : Int32)), .val (.int (1 : Int32)), .val (.int (1 : Int32))] [] := by first | (simp [entryFrame, mkF, argsToLocals, Value.category]; done) | rfl
def Q_of1 (Z : State) (cs : Int32) (h0 : Heap) (n0 : Nat) (v : Option Value) (h : Heap) (L : List Loc) : Prop := v = some (.int (Fof1 )) ∧ Fr n0 L ∧ h = h0
set_option maxRecDepth 65536 in
set_option maxHeartbeats 40000000 in
theorem rmof1 (l : Launch) (Z : State) (a0 : Array Value) (hw : ∀ d ∈ tables_1, d.before a0 Z = true) (ws : List Jvm.Cond) (cs : Int32) (h0 : Heap) (n0 : Nat) (hF : FX Z h0 cs) :
    MetFree l (⟨"java/util/Objects", "checkFromToIndex", "(III)I"⟩ : MethodName) (head1 (Jvm.Cond.code (⟨"java/util/Objects", "checkFromToIndex", "(III)I"⟩ : MethodName) jdk_31_method_18_code 3 (some .int) :: ws) ({ frames := 1, cells := 0, slots := 0, locals := 15 } : Room)) (fun a U => a = #[(.int (0 : Int32)), (.int (1 : Int32)), (.int (1 : Int32))] ∧ Z.Warmed39 U.vm ∧ U.heap = h0) (fun _ _ _ _ _ => True) (fun _ U o U' => ∃ v L, o = .returned v ∧ Q_of1 Z cs h0 n0 v U'.heap L ∧ FrameEnd U o U' L ({ frames := 1, cells := 0, slots := 0, locals := 15 } : Room).cells ({ frames := 1, cells := 0, slots := 0, locals := 15 } : Room).slots) := by
  refine met_of (Ls := #[.val (.int (0 : Int32)), .val (.int (1 : Int32)), .val (.int (1 : Int32))]) (plainFor_of_name (by first | (simp [plainName, overriddenIn]; done) | decide +kernel)) (fun m => ef_of1 m ) ?_
  intro p e s m below meth c T0 C X0 e0
  have S_cs := hF
  have N0 := Fr.nil n0
  refine g_iloadN (pc' := 1) C X0 d12_0 rfl rfl ?_
  refine g_iloadN (pc' := 2) C X0 d12_1 rfl rfl ?_
  refine g_iloadN (pc' := 3) C X0 d12_2 rfl rfl ?_
  refine g_null (pc' := 4) C X0 d12_3 rfl ?_
  refine g_callS (y := (⟨"jdk/internal/util/Preconditions", "checkFromToIndex", "(IIILjava/util/function/BiFunction;)I"⟩ : MethodName)) (argsL := [(.int (0 : Int32)), (.int (1 : Int32)), (.int (1 : Int32)), .null]) (st := []) (pc' := 7) C X0 d12_4 (hw _ (List.mem_of_getElem? (i := 64) rfl)) (hw _ (List.mem_of_getElem? (i := 65) rfl)) (hw _ (List.mem_of_getElem? (i := 66) rfl)) (hw _ (List.mem_of_getElem? (i := 67) rfl)) (by decide) (rmpf1 l Z a0 hw [] cs h0 n0 hF) (W := 0) (by decide) (by decide) (ce := 0) (sl := 0) rfl rfl (by decide) (by decide) rfl e0 rfl pd_10 rfl (Nat.le_refl _) rfl (fun rv1 T1 L1 X1 Q1 => ?_)
  obtain ⟨q1, Nq1, e1⟩ := Q1
  have N1 := Fr.app N0 Nq1
  rw [Fpf1_l0 ] at q1
  subst q1
  show Go p.tables e below _ (T1.setTop (mkF m 7 #[.val (.int (0 : Int32)), .val (.int (1 : Int32)), .val (.int (1 : Int32))] [(.int (0 : Int32))]))
  exact g_retI C X1 d12_7 (by decide) (by decide) ⟨congrArg (fun z => some (Value.int z)) (Fof1_l0  ).symm, N1, e1⟩
def Fle2  : Int32 := (2 : Int32)
theorem Fle2_l0   : Fle2  = (2 : Int32) := rfl
theorem ef_le2 (m : MethodId) (a1 : Addr) : entryFrame m #[(.ref a1)] 1 = mkF m 0 #[.val (.ref a1)] [] := by first | (simp [entryFrame, mkF, argsToLocals, Value.category]; done) | rfl
def Q_le2 (Z : State) (a1 : Addr) (v1 : Addr) (k1 : ClassId) (ds : List Int32) (cs : Int32) (h0 : Heap) (n0 : Nat) (v : Option Value) (h : Heap) (L : List Loc) : Prop := v = some (.int (Fle2 )) ∧ Fr n0 L ∧ h = h0
set_option maxRecDepth 65536 in
set_option maxHeartbeats 40000000 in
theorem rmle2 (l : Launch) (Z : State) (a0 : Array Value) (hw : ∀ d ∈ tables_1, d.before a0 Z = true) (ws : List Jvm.Cond) (a1 : Addr) (v1 : Addr) (k1 : ClassId) (ds : List Int32) (cs : Int32) (h0 : Heap) (n0 : Nat) (hF : FX Z h0 cs) (E_a1 : Exa Z h0 a1 "java/lang/String") (Fc_a1 : Fld Z h0 a1 "java/lang/String" "coder" "B" (.int (0 : Int32))) (Fv_a1 : Fld Z h0 a1 "java/lang/String" "value" "[B" (.ref v1)) (V_v1 : Arv Z h0 v1 k1 .byte (2 : Int32) (own_vl ds) (.int (0 : Int32))) (hcs : ¬ (cs = (0 : Int32))) :
    MetFree l (⟨"java/lang/String", "length", "()I"⟩ : MethodName) (head1 (Jvm.Cond.code (⟨"java/lang/String", "length", "()I"⟩ : MethodName) jdk_42_method_54_code 1 (some .int) :: ws) ({ frames := 1, cells := 0, slots := 0, locals := 13 } : Room)) (fun a U => a = #[(.ref a1)] ∧ Z.Warmed39 U.vm ∧ U.heap = h0) (fun _ _ _ _ _ => True) (fun _ U o U' => ∃ v L, o = .returned v ∧ Q_le2 Z a1 v1 k1 ds cs h0 n0 v U'.heap L ∧ FrameEnd U o U' L ({ frames := 1, cells := 0, slots := 0, locals := 13 } : Room).cells ({ frames := 1, cells := 0, slots := 0, locals := 13 } : Room).slots) := by
  refine met_of (Ls := #[.val (.ref a1)]) (plainFor_of_name (by first | (simp [plainName, overriddenIn]; done) | decide +kernel)) (fun m => ef_le2 m a1) ?_
  intro p e s m below meth c T0 C X0 e0
  have S_cs := hF
  have N0 := Fr.nil n0
  refine g_aloadN (pc' := 1) C X0 d9_0 rfl rfl rfl ?_
  refine g_getF (pc' := 4) C X0 d9_1 (host := "") (Or.inl (hw _ (List.mem_of_getElem? (i := 26) rfl))) Via.refl e0 Fv_a1 rfl (fun T1 X1 e1 => ?_)
  refine g_len (pc' := 5) C X1 d9_4 e1 V_v1 rfl ?_
  refine g_aloadN (pc' := 6) C X1 d9_5 rfl rfl rfl ?_
  refine g_callV (b := a1) (z := (⟨"java/lang/String", "coder", "()B"⟩ : MethodName)) (y := (⟨"java/lang/String", "coder", "()B"⟩ : MethodName)) (argsL := []) (st := [(.int (2 : Int32))]) (pc' := 9) C X1 d9_6 (hw _ (List.mem_of_getElem? (i := 50) rfl)) (hw _ (List.mem_of_getElem? (i := 51) rfl)) (notFace_of_selects (args := #[]) (mvT C.hZ (hw _ (List.mem_of_getElem? (i := 53) rfl)))) (hw _ (List.mem_of_getElem? (i := 53) rfl)) (hw _ (List.mem_of_getElem? (i := 52) rfl)) (hw _ (List.mem_of_getElem? (i := 6) rfl)) (hw _ (List.mem_of_getElem? (i := 54) rfl)) (by decide) (rmcd l Z a0 hw [] a1 cs h0 n0 hF Fc_a1 hcs) (W := 1) (by decide) (by decide) (ce := 0) (sl := 0) rfl rfl (by decide) (by decide) rfl E_a1 e1 rfl pd_9 rfl (Nat.le_refl _) rfl (fun rv2 T2 L2 X2 Q2 => ?_)
  obtain ⟨q2, Nq2, e2⟩ := Q2
  have N2 := Fr.app N0 Nq2
  rw [Fcd_l0 ] at q2
  subst q2
  show Go p.tables e below _ (T2.setTop (mkF m 9 #[.val (.ref a1)] [(.int (0 : Int32)), (.int (2 : Int32))]))
  refine g_ishr (pc' := 10) C X2 d9_9 rfl ?_
  refine own_cast (congrArg (fun z => T2.setTop (mkF m 10 #[.val (.ref a1)] (.int z :: []))) (show ((2 : Int32) >>> ((0 : Int32) &&& 31)) = (2 : Int32) from by decide)) ?_
  exact g_retI C X2 d9_10 (by decide) (by decide) ⟨congrArg (fun z => some (Value.int z)) (Fle2_l0  ).symm, N2, e2⟩
def Fem2  : Int32 := (0 : Int32)
theorem Fem2_l0   : Fem2  = (0 : Int32) := rfl
theorem ef_em2 (m : MethodId) (a1 : Addr) : entryFrame m #[(.ref a1)] 1 = mkF m 0 #[.val (.ref a1)] [] := by first | (simp [entryFrame, mkF, argsToLocals, Value.category]; done) | rfl
def Q_em2 (Z : State) (a1 : Addr) (v1 : Addr) (k1 : ClassId) (ds : List Int32) (cs : Int32) (h0 : Heap) (n0 : Nat) (v : Option Value) (h : Heap) (L : List Loc) : Prop := v = some (.int (Fem2 )) ∧ Fr n0 L ∧ h = h0
set_option maxRecDepth 65536 in
set_option maxHeartbeats 40000000 in
theorem rmem2 (l : Launch) (Z : State) (a0 : Array Value) (hw : ∀ d ∈ tables_1, d.before a0 Z = true) (ws : List Jvm.Cond) (a1 : Addr) (v1 : Addr) (k1 : ClassId) (ds : List Int32) (cs : Int32) (h0 : Heap) (n0 : Nat) (hF : FX Z h0 cs) (E_a1 : Exa Z h0 a1 "java/lang/String") (Fc_a1 : Fld Z h0 a1 "java/lang/String" "coder" "B" (.int (0 : Int32))) (Fv_a1 : Fld Z h0 a1 "java/lang/String" "value" "[B" (.ref v1)) (V_v1 : Arv Z h0 v1 k1 .byte (2 : Int32) (own_vl ds) (.int (0 : Int32))) :
    MetFree l (⟨"java/lang/String", "isEmpty", "()Z"⟩ : MethodName) (head1 (Jvm.Cond.code (⟨"java/lang/String", "isEmpty", "()Z"⟩ : MethodName) jdk_42_method_55_code 1 (some .boolean) :: ws) ({ frames := 0, cells := 0, slots := 0, locals := 0 } : Room)) (fun a U => a = #[(.ref a1)] ∧ Z.Warmed39 U.vm ∧ U.heap = h0) (fun _ _ _ _ _ => True) (fun _ U o U' => ∃ v L, o = .returned v ∧ Q_em2 Z a1 v1 k1 ds cs h0 n0 v U'.heap L ∧ FrameEnd U o U' L ({ frames := 0, cells := 0, slots := 0, locals := 0 } : Room).cells ({ frames := 0, cells := 0, slots := 0, locals := 0 } : Room).slots) := by
  refine met_of (Ls := #[.val (.ref a1)]) (plainFor_of_name (by first | (simp [plainName, overriddenIn]; done) | decide +kernel)) (fun m => ef_em2 m a1) ?_
  intro p e s m below meth c T0 C X0 e0
  have S_cs := hF
  have N0 := Fr.nil n0
  refine g_aloadN (pc' := 1) C X0 d15_0 rfl rfl rfl ?_
  refine g_getF (pc' := 4) C X0 d15_1 (host := "") (Or.inl (hw _ (List.mem_of_getElem? (i := 26) rfl))) Via.refl e0 Fv_a1 rfl (fun T1 X1 e1 => ?_)
  refine g_len (pc' := 5) C X1 d15_4 e1 V_v1 rfl ?_
  refine g_ifY (pc' := 12) C X1 d15_5 (feq (show ¬ ((2 : Int32) = (0 : Int32)) from (by decide))).2 (by decide) (by decide) ?_
  refine g_iconst (pc' := 13) (v := (0 : Int32)) C X1 d15_12 rfl rfl ?_
  exact g_retN C X1 (by simp) d15_13 (by decide) (by decide) ⟨congrArg (fun z => some (Value.int z)) (Fem2_l0  ).symm, N0, e1⟩
def Fpf2  : Int32 := (0 : Int32)
theorem Fpf2_l0   : Fpf2  = (0 : Int32) := rfl
theorem ef_pf2 (m : MethodId)  : entryFrame m #[(.int (0 : Int32)), (.int (2 : Int32)), (.int (2 : Int32)), .null] 4 = mkF m 0 #[.val (.int (0 : Int32)), .val (.int (2 : Int32)), .val (.int (2 : Int32)), .val .null] [] := by first | (simp [entryFrame, mkF, argsToLocals, Value.category]; done) | rfl
def Q_pf2 (Z : State) (cs : Int32) (h0 : Heap) (n0 : Nat) (v : Option Value) (h : Heap) (L : List Loc) : Prop := v = some (.int (Fpf2 )) ∧ Fr n0 L ∧ h = h0
set_option maxRecDepth 65536 in
set_option maxHeartbeats 40000000 in
theorem rmpf2 (l : Launch) (Z : State) (a0 : Array Value) (hw : ∀ d ∈ tables_1, d.before a0 Z = true) (ws : List Jvm.Cond) (cs : Int32) (h0 : Heap) (n0 : Nat) (hF : FX Z h0 cs) :
    MetFree l (⟨"jdk/internal/util/Preconditions", "checkFromToIndex", "(IIILjava/util/function/BiFunction;)I"⟩ : MethodName) (head1 (Jvm.Cond.code (⟨"jdk/internal/util/Preconditions", "checkFromToIndex", "(IIILjava/util/function/BiFunction;)I"⟩ : MethodName) jdk_41_method_12_code 4 (some .int) :: ws) ({ frames := 0, cells := 0, slots := 0, locals := 0 } : Room)) (fun a U => a = #[(.int (0 : Int32)), (.int (2 : Int32)), (.int (2 : Int32)), .null] ∧ Z.Warmed39 U.vm ∧ U.heap = h0) (fun _ _ _ _ _ => True) (fun _ U o U' => ∃ v L, o = .returned v ∧ Q_pf2 Z cs h0 n0 v U'.heap L ∧ FrameEnd U o U' L ({ frames := 0, cells := 0, slots := 0, locals := 0 } : Room).cells ({ frames := 0, cells := 0, slots := 0, locals := 0 } : Room).slots) := by
  refine met_of (Ls := #[.val (.int (0 : Int32)), .val (.int (2 : Int32)), .val (.int (2 : Int32)), .val .null]) (plainFor_of_name (by first | (simp [plainName, overriddenIn]; done) | decide +kernel)) (fun m => ef_pf2 m ) ?_
  intro p e s m below meth c T0 C X0 e0
  have S_cs := hF
  have N0 := Fr.nil n0
  refine g_iloadN (pc' := 1) C X0 d13_0 rfl rfl ?_
  refine g_ifN (pc' := 4) C X0 d13_1 (flt (show ¬ ((0 : Int32) < (0 : Int32)) from (by decide))).1 rfl ?_
  refine g_iloadN (pc' := 5) C X0 d13_4 rfl rfl ?_
  refine g_iloadN (pc' := 6) C X0 d13_5 rfl rfl ?_
  refine g_icmpN (pc' := 9) C X0 d13_6 (flt (show ¬ ((2 : Int32) < (0 : Int32)) from (by decide))).2.2.1 rfl ?_
  refine g_iloadN (pc' := 10) C X0 d13_9 rfl rfl ?_
  refine g_iloadN (pc' := 11) C X0 d13_10 rfl rfl ?_
  refine g_icmpY (pc' := 22) C X0 d13_11 (flt (show ¬ ((2 : Int32) < (2 : Int32)) from (by decide))).2.2.2 (by decide) (by decide) ?_
  refine g_iloadN (pc' := 23) C X0 d13_22 rfl rfl ?_
  exact g_retI C X0 d13_23 (by decide) (by decide) ⟨congrArg (fun z => some (Value.int z)) (Fpf2_l0  ).symm, N0, e0⟩
def Fof2  : Int32 := (0 : Int32)
theorem Fof2_l0   : Fof2  = (0 : Int32) := rfl
theorem ef_of2 (m : MethodId)  : entryFrame m #[(.int (0 : Int32)), (.int (2 : Int32)), (.int (2 : Int32))] 3 = mkF m 0 #[.val (.int (0 : Int32)), .val (.int (2 : Int32)), .val (.int (2 : Int32))] [] := by first | (simp [entryFrame, mkF, argsToLocals, Value.category]; done) | rfl
def Q_of2 (Z : State) (cs : Int32) (h0 : Heap) (n0 : Nat) (v : Option Value) (h : Heap) (L : List Loc) : Prop := v = some (.int (Fof2 )) ∧ Fr n0 L ∧ h = h0
set_option maxRecDepth 65536 in
set_option maxHeartbeats 40000000 in
theorem rmof2 (l : Launch) (Z : State) (a0 : Array Value) (hw : ∀ d ∈ tables_1, d.before a0 Z = true) (ws : List Jvm.Cond) (cs : Int32) (h0 : Heap) (n0 : Nat) (hF : FX Z h0 cs) :
    MetFree l (⟨"java/util/Objects", "checkFromToIndex", "(III)I"⟩ : MethodName) (head1 (Jvm.Cond.code (⟨"java/util/Objects", "checkFromToIndex", "(III)I"⟩ : MethodName) jdk_31_method_18_code 3 (some .int) :: ws) ({ frames := 1, cells := 0, slots := 0, locals := 15 } : Room)) (fun a U => a = #[(.int (0 : Int32)), (.int (2 : Int32)), (.int (2 : Int32))] ∧ Z.Warmed39 U.vm ∧ U.heap = h0) (fun _ _ _ _ _ => True) (fun _ U o U' => ∃ v L, o = .returned v ∧ Q_of2 Z cs h0 n0 v U'.heap L ∧ FrameEnd U o U' L ({ frames := 1, cells := 0, slots := 0, locals := 15 } : Room).cells ({ frames := 1, cells := 0, slots := 0, locals := 15 } : Room).slots) := by
  refine met_of (Ls := #[.val (.int (0 : Int32)), .val (.int (2 : Int32)), .val (.int (2 : Int32))]) (plainFor_of_name (by first | (simp [plainName, overriddenIn]; done) | decide +kernel)) (fun m => ef_of2 m ) ?_
  intro p e s m below meth c T0 C X0 e0
  have S_cs := hF
  have N0 := Fr.nil n0
  refine g_iloadN (pc' := 1) C X0 d12_0 rfl rfl ?_
  refine g_iloadN (pc' := 2) C X0 d12_1 rfl rfl ?_
  refine g_iloadN (pc' := 3) C X0 d12_2 rfl rfl ?_
  refine g_null (pc' := 4) C X0 d12_3 rfl ?_
  refine g_callS (y := (⟨"jdk/internal/util/Preconditions", "checkFromToIndex", "(IIILjava/util/function/BiFunction;)I"⟩ : MethodName)) (argsL := [(.int (0 : Int32)), (.int (2 : Int32)), (.int (2 : Int32)), .null]) (st := []) (pc' := 7) C X0 d12_4 (hw _ (List.mem_of_getElem? (i := 64) rfl)) (hw _ (List.mem_of_getElem? (i := 65) rfl)) (hw _ (List.mem_of_getElem? (i := 66) rfl)) (hw _ (List.mem_of_getElem? (i := 67) rfl)) (by decide) (rmpf2 l Z a0 hw [] cs h0 n0 hF) (W := 0) (by decide) (by decide) (ce := 0) (sl := 0) rfl rfl (by decide) (by decide) rfl e0 rfl pd_10 rfl (Nat.le_refl _) rfl (fun rv1 T1 L1 X1 Q1 => ?_)
  obtain ⟨q1, Nq1, e1⟩ := Q1
  have N1 := Fr.app N0 Nq1
  rw [Fpf2_l0 ] at q1
  subst q1
  show Go p.tables e below _ (T1.setTop (mkF m 7 #[.val (.int (0 : Int32)), .val (.int (2 : Int32)), .val (.int (2 : Int32))] [(.int (0 : Int32))]))
  exact g_retI C X1 d12_7 (by decide) (by decide) ⟨congrArg (fun z => some (Value.int z)) (Fof2_l0  ).symm, N1, e1⟩
theorem d14_0 : decode jdk_42_method_154_code 0 = .ok (.getstatic 38, 3) := by decide +kernel
theorem d14_3 : decode jdk_42_method_154_code 3 = .ok (.ifCond .eq 14, 3) := by decide +kernel
theorem d14_6 : decode jdk_42_method_154_code 6 = .ok (.aload_n 0, 1) := by decide +kernel
theorem d14_7 : decode jdk_42_method_154_code 7 = .ok (.getfield 15, 3) := by decide +kernel
theorem d14_10 : decode jdk_42_method_154_code 10 = .ok (.ifCond .ne 7, 3) := by decide +kernel
theorem d14_13 : decode jdk_42_method_154_code 13 = .ok (.iconst 1, 1) := by decide +kernel
theorem d14_14 : decode jdk_42_method_154_code 14 = .ok (.goto 4, 3) := by decide +kernel
theorem d14_18 : decode jdk_42_method_154_code 18 = .ok (.ireturn, 1) := by decide +kernel
def Fil  : Int32 := (1 : Int32)
theorem Fil_l0   : Fil  = (1 : Int32) := rfl
theorem ef_il (m : MethodId) (a1 : Addr) : entryFrame m #[(.ref a1)] 1 = mkF m 0 #[.val (.ref a1)] [] := by first | (simp [entryFrame, mkF, argsToLocals, Value.category]; done) | rfl
def Q_il (Z : State) (a1 : Addr) (cs : Int32) (h0 : Heap) (n0 : Nat) (v : Option Value) (h : Heap) (L : List Loc) : Prop := v = some (.int (Fil )) ∧ Fr n0 L ∧ h = h0
set_option maxRecDepth 65536 in
set_option maxHeartbeats 40000000 in
theorem rmil (l : Launch) (Z : State) (a0 : Array Value) (hw : ∀ d ∈ tables_1, d.before a0 Z = true) (ws : List Jvm.Cond) (a1 : Addr) (cs : Int32) (h0 : Heap) (n0 : Nat) (hF : FX Z h0 cs) (Fc_a1 : Fld Z h0 a1 "java/lang/String" "coder" "B" (.int (0 : Int32))) (hcs : ¬ (cs = (0 : Int32))) :
    MetFree l (⟨"java/lang/String", "isLatin1", "()Z"⟩ : MethodName) (head1 (Jvm.Cond.code (⟨"java/lang/String", "isLatin1", "()Z"⟩ : MethodName) jdk_42_method_154_code 1 (some .boolean) :: ws) ({ frames := 0, cells := 0, slots := 0, locals := 0 } : Room)) (fun a U => a = #[(.ref a1)] ∧ Z.Warmed39 U.vm ∧ U.heap = h0) (fun _ _ _ _ _ => True) (fun _ U o U' => ∃ v L, o = .returned v ∧ Q_il Z a1 cs h0 n0 v U'.heap L ∧ FrameEnd U o U' L ({ frames := 0, cells := 0, slots := 0, locals := 0 } : Room).cells ({ frames := 0, cells := 0, slots := 0, locals := 0 } : Room).slots) := by
  refine met_of (Ls := #[.val (.ref a1)]) (plainFor_of_name (by first | (simp [plainName, overriddenIn]; done) | decide +kernel)) (fun m => ef_il m a1) ?_
  intro p e s m below meth c T0 C X0 e0
  have S_cs := hF
  have N0 := Fr.nil n0
  refine g_getS (pc' := 3) C X0 d14_0 (host := "") (Or.inl (hw _ (List.mem_of_getElem? (i := 8) rfl))) Via.refl e0 S_cs rfl (fun T1 X1 e1 => ?_)
  refine g_ifN (pc' := 6) C X1 d14_3 (feq hcs).1 rfl ?_
  refine g_aloadN (pc' := 7) C X1 d14_6 rfl rfl rfl ?_
  refine g_getF (pc' := 10) C X1 d14_7 (host := "") (Or.inl (hw _ (List.mem_of_getElem? (i := 28) rfl))) Via.refl e1 Fc_a1 rfl (fun T2 X2 e2 => ?_)
  refine g_ifN (pc' := 13) C X2 d14_10 (teq (show (0 : Int32) = (0 : Int32) from (by decide))).2 rfl ?_
  refine g_iconst (pc' := 14) (v := (1 : Int32)) C X2 d14_13 rfl rfl ?_
  refine g_goto (pc' := 18) C X2 d14_14 (by decide) (by decide) ?_
  exact g_retN C X2 (by simp) d14_18 (by decide) (by decide) ⟨congrArg (fun z => some (Value.int z)) (Fil_l0  ).symm, N0, e2⟩
theorem d11_0 : decode jdk_42_method_59_code 0 = .ok (.iload_n 1, 1) := by decide +kernel
theorem d11_1 : decode jdk_42_method_59_code 1 = .ok (.iload_n 2, 1) := by decide +kernel
theorem d11_2 : decode jdk_42_method_59_code 2 = .ok (.aload_n 0, 1) := by decide +kernel
theorem d11_3 : decode jdk_42_method_59_code 3 = .ok (.invokevirtual 505, 3) := by decide +kernel
theorem pd_11 : parseMethodDescriptor "()I" = some ⟨[], some .int⟩ := by decide +kernel
theorem d11_6 : decode jdk_42_method_59_code 6 = .ok (.invokestatic 511, 3) := by decide +kernel
theorem pd_12 : parseMethodDescriptor "(III)I" = some ⟨[.int, .int, .int], some .int⟩ := by decide +kernel
theorem d11_9 : decode jdk_42_method_59_code 9 = .ok (.pop, 1) := by decide +kernel
theorem d11_10 : decode jdk_42_method_59_code 10 = .ok (.aload_n 0, 1) := by decide +kernel
theorem d11_11 : decode jdk_42_method_59_code 11 = .ok (.invokevirtual 492, 3) := by decide +kernel
theorem pd_13 : parseMethodDescriptor "()Z" = some ⟨[], some .boolean⟩ := by decide +kernel
theorem d11_14 : decode jdk_42_method_59_code 14 = .ok (.ifCond .eq 7, 3) := by decide +kernel
theorem d11_17 : decode jdk_42_method_59_code 17 = .ok (.iload_n 2, 1) := by decide +kernel
theorem d11_18 : decode jdk_42_method_59_code 18 = .ok (.iload_n 1, 1) := by decide +kernel
theorem d11_19 : decode jdk_42_method_59_code 19 = .ok (.isub, 1) := by decide +kernel
theorem d11_20 : decode jdk_42_method_59_code 20 = .ok (.ireturn, 1) := by decide +kernel
def Fcp1  : Int32 := (1 : Int32)
theorem Fcp1_l0   : Fcp1  = (1 : Int32) := rfl
theorem ef_cp1 (m : MethodId) (a1 : Addr) : entryFrame m #[(.ref a1), (.int (0 : Int32)), (.int (1 : Int32))] 3 = mkF m 0 #[.val (.ref a1), .val (.int (0 : Int32)), .val (.int (1 : Int32))] [] := by first | (simp [entryFrame, mkF, argsToLocals, Value.category]; done) | rfl
def Q_cp1 (Z : State) (a1 : Addr) (v1 : Addr) (k1 : ClassId) (ds : List Int32) (cs : Int32) (h0 : Heap) (n0 : Nat) (v : Option Value) (h : Heap) (L : List Loc) : Prop := v = some (.int (Fcp1 )) ∧ Fr n0 L ∧ h = h0
set_option maxRecDepth 65536 in
set_option maxHeartbeats 40000000 in
theorem rmcp1 (l : Launch) (Z : State) (a0 : Array Value) (hw : ∀ d ∈ tables_1, d.before a0 Z = true) (ws : List Jvm.Cond) (a1 : Addr) (v1 : Addr) (k1 : ClassId) (ds : List Int32) (cs : Int32) (h0 : Heap) (n0 : Nat) (hF : FX Z h0 cs) (E_a1 : Exa Z h0 a1 "java/lang/String") (Fc_a1 : Fld Z h0 a1 "java/lang/String" "coder" "B" (.int (0 : Int32))) (Fv_a1 : Fld Z h0 a1 "java/lang/String" "value" "[B" (.ref v1)) (V_v1 : Arv Z h0 v1 k1 .byte (1 : Int32) (own_vl ds) (.int (0 : Int32))) (hcs : ¬ (cs = (0 : Int32))) :
    MetFree l (⟨"java/lang/String", "codePointCount", "(II)I"⟩ : MethodName) (head1 (Jvm.Cond.code (⟨"java/lang/String", "codePointCount", "(II)I"⟩ : MethodName) jdk_42_method_59_code 3 (some .int) :: ws) ({ frames := 2, cells := 0, slots := 0, locals := 29 } : Room)) (fun a U => a = #[(.ref a1), (.int (0 : Int32)), (.int (1 : Int32))] ∧ Z.Warmed39 U.vm ∧ U.heap = h0) (fun _ _ _ _ _ => True) (fun _ U o U' => ∃ v L, o = .returned v ∧ Q_cp1 Z a1 v1 k1 ds cs h0 n0 v U'.heap L ∧ FrameEnd U o U' L ({ frames := 2, cells := 0, slots := 0, locals := 29 } : Room).cells ({ frames := 2, cells := 0, slots := 0, locals := 29 } : Room).slots) := by
  refine met_of (Ls := #[.val (.ref a1), .val (.int (0 : Int32)), .val (.int (1 : Int32))]) (plainFor_of_name (by first | (simp [plainName, overriddenIn]; done) | decide +kernel)) (fun m => ef_cp1 m a1) ?_
  intro p e s m below meth c T0 C X0 e0
  have S_cs := hF
  have N0 := Fr.nil n0
  refine g_iloadN (pc' := 1) C X0 d11_0 rfl rfl ?_
  refine g_iloadN (pc' := 2) C X0 d11_1 rfl rfl ?_
  refine g_aloadN (pc' := 3) C X0 d11_2 rfl rfl rfl ?_
  refine g_callV (b := a1) (z := (⟨"java/lang/String", "length", "()I"⟩ : MethodName)) (y := (⟨"java/lang/String", "length", "()I"⟩ : MethodName)) (argsL := []) (st := [(.int (1 : Int32)), (.int (0 : Int32))]) (pc' := 6) C X0 d11_3 (hw _ (List.mem_of_getElem? (i := 60) rfl)) (hw _ (List.mem_of_getElem? (i := 46) rfl)) (notFace_of_selects (args := #[]) (mvT C.hZ (hw _ (List.mem_of_getElem? (i := 48) rfl)))) (hw _ (List.mem_of_getElem? (i := 48) rfl)) (hw _ (List.mem_of_getElem? (i := 47) rfl)) (hw _ (List.mem_of_getElem? (i := 6) rfl)) (hw _ (List.mem_of_getElem? (i := 49) rfl)) (by decide) (rmle1 l Z a0 hw [] a1 v1 k1 ds cs h0 n0 hF E_a1 Fc_a1 Fv_a1 V_v1 hcs) (W := 2) (by decide) (by decide) (ce := 0) (sl := 0) rfl rfl (by decide) (by decide) rfl E_a1 e0 rfl pd_11 rfl (Nat.le_refl _) rfl (fun rv1 T1 L1 X1 Q1 => ?_)
  obtain ⟨q1, Nq1, e1⟩ := Q1
  have N1 := Fr.app N0 Nq1
  rw [Fle1_l0 ] at q1
  subst q1
  show Go p.tables e below _ (T1.setTop (mkF m 6 #[.val (.ref a1), .val (.int (0 : Int32)), .val (.int (1 : Int32))] [(.int (1 : Int32)), (.int (1 : Int32)), (.int (0 : Int32))]))
  refine g_callS (y := (⟨"java/util/Objects", "checkFromToIndex", "(III)I"⟩ : MethodName)) (argsL := [(.int (0 : Int32)), (.int (1 : Int32)), (.int (1 : Int32))]) (st := []) (pc' := 9) C X1 d11_6 (hw _ (List.mem_of_getElem? (i := 61) rfl)) (hw _ (List.mem_of_getElem? (i := 62) rfl)) (hw _ (List.mem_of_getElem? (i := 42) rfl)) (hw _ (List.mem_of_getElem? (i := 63) rfl)) (by decide) (rmof1 l Z a0 hw [] cs h0 n0 hF) (W := 0) (by decide) (by decide) (ce := 0) (sl := 0) rfl rfl (by decide) (by decide) rfl e1 rfl pd_12 rfl (Nat.le_refl _) rfl (fun rv2 T2 L2 X2 Q2 => ?_)
  obtain ⟨q2, Nq2, e2⟩ := Q2
  have N2 := Fr.app N1 Nq2
  rw [Fof1_l0 ] at q2
  subst q2
  show Go p.tables e below _ (T2.setTop (mkF m 9 #[.val (.ref a1), .val (.int (0 : Int32)), .val (.int (1 : Int32))] [(.int (0 : Int32))]))
  refine g_pop (pc' := 10) C X2 d11_9 rfl rfl ?_
  refine g_aloadN (pc' := 11) C X2 d11_10 rfl rfl rfl ?_
  refine g_callV (b := a1) (z := (⟨"java/lang/String", "isLatin1", "()Z"⟩ : MethodName)) (y := (⟨"java/lang/String", "isLatin1", "()Z"⟩ : MethodName)) (argsL := []) (st := []) (pc' := 14) C X2 d11_11 (hw _ (List.mem_of_getElem? (i := 68) rfl)) (hw _ (List.mem_of_getElem? (i := 69) rfl)) (notFace_of_selects (args := #[]) (mvT C.hZ (hw _ (List.mem_of_getElem? (i := 71) rfl)))) (hw _ (List.mem_of_getElem? (i := 71) rfl)) (hw _ (List.mem_of_getElem? (i := 70) rfl)) (hw _ (List.mem_of_getElem? (i := 6) rfl)) (hw _ (List.mem_of_getElem? (i := 72) rfl)) (by decide) (rmil l Z a0 hw [] a1 cs h0 n0 hF Fc_a1 hcs) (W := 0) (by decide) (by decide) (ce := 0) (sl := 0) rfl rfl (by decide) (by decide) rfl E_a1 e2 rfl pd_13 rfl (Nat.le_refl _) rfl (fun rv3 T3 L3 X3 Q3 => ?_)
  obtain ⟨q3, Nq3, e3⟩ := Q3
  have N3 := Fr.app N2 Nq3
  rw [Fil_l0 ] at q3
  subst q3
  show Go p.tables e below _ (T3.setTop (mkF m 14 #[.val (.ref a1), .val (.int (0 : Int32)), .val (.int (1 : Int32))] [(.int (1 : Int32))]))
  refine g_ifN (pc' := 17) C X3 d11_14 (feq (show ¬ ((1 : Int32) = (0 : Int32)) from (by decide))).1 rfl ?_
  refine g_iloadN (pc' := 18) C X3 d11_17 rfl rfl ?_
  refine g_iloadN (pc' := 19) C X3 d11_18 rfl rfl ?_
  refine g_isub (pc' := 20) C X3 d11_19 rfl ?_
  refine own_cast (congrArg (fun z => T3.setTop (mkF m 20 #[.val (.ref a1), .val (.int (0 : Int32)), .val (.int (1 : Int32))] (.int z :: []))) (show ((1 : Int32) - (0 : Int32)) = (1 : Int32) from by decide)) ?_
  exact g_retI C X3 d11_20 (by decide) (by decide) ⟨congrArg (fun z => some (Value.int z)) (Fcp1_l0  ).symm, N3, e3⟩
def Fcp2  : Int32 := (2 : Int32)
theorem Fcp2_l0   : Fcp2  = (2 : Int32) := rfl
theorem ef_cp2 (m : MethodId) (a1 : Addr) : entryFrame m #[(.ref a1), (.int (0 : Int32)), (.int (2 : Int32))] 3 = mkF m 0 #[.val (.ref a1), .val (.int (0 : Int32)), .val (.int (2 : Int32))] [] := by first | (simp [entryFrame, mkF, argsToLocals, Value.category]; done) | rfl
def Q_cp2 (Z : State) (a1 : Addr) (v1 : Addr) (k1 : ClassId) (ds : List Int32) (cs : Int32) (h0 : Heap) (n0 : Nat) (v : Option Value) (h : Heap) (L : List Loc) : Prop := v = some (.int (Fcp2 )) ∧ Fr n0 L ∧ h = h0
set_option maxRecDepth 65536 in
set_option maxHeartbeats 40000000 in
theorem rmcp2 (l : Launch) (Z : State) (a0 : Array Value) (hw : ∀ d ∈ tables_1, d.before a0 Z = true) (ws : List Jvm.Cond) (a1 : Addr) (v1 : Addr) (k1 : ClassId) (ds : List Int32) (cs : Int32) (h0 : Heap) (n0 : Nat) (hF : FX Z h0 cs) (E_a1 : Exa Z h0 a1 "java/lang/String") (Fc_a1 : Fld Z h0 a1 "java/lang/String" "coder" "B" (.int (0 : Int32))) (Fv_a1 : Fld Z h0 a1 "java/lang/String" "value" "[B" (.ref v1)) (V_v1 : Arv Z h0 v1 k1 .byte (2 : Int32) (own_vl ds) (.int (0 : Int32))) (hcs : ¬ (cs = (0 : Int32))) :
    MetFree l (⟨"java/lang/String", "codePointCount", "(II)I"⟩ : MethodName) (head1 (Jvm.Cond.code (⟨"java/lang/String", "codePointCount", "(II)I"⟩ : MethodName) jdk_42_method_59_code 3 (some .int) :: ws) ({ frames := 2, cells := 0, slots := 0, locals := 29 } : Room)) (fun a U => a = #[(.ref a1), (.int (0 : Int32)), (.int (2 : Int32))] ∧ Z.Warmed39 U.vm ∧ U.heap = h0) (fun _ _ _ _ _ => True) (fun _ U o U' => ∃ v L, o = .returned v ∧ Q_cp2 Z a1 v1 k1 ds cs h0 n0 v U'.heap L ∧ FrameEnd U o U' L ({ frames := 2, cells := 0, slots := 0, locals := 29 } : Room).cells ({ frames := 2, cells := 0, slots := 0, locals := 29 } : Room).slots) := by
  refine met_of (Ls := #[.val (.ref a1), .val (.int (0 : Int32)), .val (.int (2 : Int32))]) (plainFor_of_name (by first | (simp [plainName, overriddenIn]; done) | decide +kernel)) (fun m => ef_cp2 m a1) ?_
  intro p e s m below meth c T0 C X0 e0
  have S_cs := hF
  have N0 := Fr.nil n0
  refine g_iloadN (pc' := 1) C X0 d11_0 rfl rfl ?_
  refine g_iloadN (pc' := 2) C X0 d11_1 rfl rfl ?_
  refine g_aloadN (pc' := 3) C X0 d11_2 rfl rfl rfl ?_
  refine g_callV (b := a1) (z := (⟨"java/lang/String", "length", "()I"⟩ : MethodName)) (y := (⟨"java/lang/String", "length", "()I"⟩ : MethodName)) (argsL := []) (st := [(.int (2 : Int32)), (.int (0 : Int32))]) (pc' := 6) C X0 d11_3 (hw _ (List.mem_of_getElem? (i := 60) rfl)) (hw _ (List.mem_of_getElem? (i := 46) rfl)) (notFace_of_selects (args := #[]) (mvT C.hZ (hw _ (List.mem_of_getElem? (i := 48) rfl)))) (hw _ (List.mem_of_getElem? (i := 48) rfl)) (hw _ (List.mem_of_getElem? (i := 47) rfl)) (hw _ (List.mem_of_getElem? (i := 6) rfl)) (hw _ (List.mem_of_getElem? (i := 49) rfl)) (by decide) (rmle2 l Z a0 hw [] a1 v1 k1 ds cs h0 n0 hF E_a1 Fc_a1 Fv_a1 V_v1 hcs) (W := 2) (by decide) (by decide) (ce := 0) (sl := 0) rfl rfl (by decide) (by decide) rfl E_a1 e0 rfl pd_11 rfl (Nat.le_refl _) rfl (fun rv1 T1 L1 X1 Q1 => ?_)
  obtain ⟨q1, Nq1, e1⟩ := Q1
  have N1 := Fr.app N0 Nq1
  rw [Fle2_l0 ] at q1
  subst q1
  show Go p.tables e below _ (T1.setTop (mkF m 6 #[.val (.ref a1), .val (.int (0 : Int32)), .val (.int (2 : Int32))] [(.int (2 : Int32)), (.int (2 : Int32)), (.int (0 : Int32))]))
  refine g_callS (y := (⟨"java/util/Objects", "checkFromToIndex", "(III)I"⟩ : MethodName)) (argsL := [(.int (0 : Int32)), (.int (2 : Int32)), (.int (2 : Int32))]) (st := []) (pc' := 9) C X1 d11_6 (hw _ (List.mem_of_getElem? (i := 61) rfl)) (hw _ (List.mem_of_getElem? (i := 62) rfl)) (hw _ (List.mem_of_getElem? (i := 42) rfl)) (hw _ (List.mem_of_getElem? (i := 63) rfl)) (by decide) (rmof2 l Z a0 hw [] cs h0 n0 hF) (W := 0) (by decide) (by decide) (ce := 0) (sl := 0) rfl rfl (by decide) (by decide) rfl e1 rfl pd_12 rfl (Nat.le_refl _) rfl (fun rv2 T2 L2 X2 Q2 => ?_)
  obtain ⟨q2, Nq2, e2⟩ := Q2
  have N2 := Fr.app N1 Nq2
  rw [Fof2_l0 ] at q2
  subst q2
  show Go p.tables e below _ (T2.setTop (mkF m 9 #[.val (.ref a1), .val (.int (0 : Int32)), .val (.int (2 : Int32))] [(.int (0 : Int32))]))
  refine g_pop (pc' := 10) C X2 d11_9 rfl rfl ?_
  refine g_aloadN (pc' := 11) C X2 d11_10 rfl rfl rfl ?_
  refine g_callV (b := a1) (z := (⟨"java/lang/String", "isLatin1", "()Z"⟩ : MethodName)) (y := (⟨"java/lang/String", "isLatin1", "()Z"⟩ : MethodName)) (argsL := []) (st := []) (pc' := 14) C X2 d11_11 (hw _ (List.mem_of_getElem? (i := 68) rfl)) (hw _ (List.mem_of_getElem? (i := 69) rfl)) (notFace_of_selects (args := #[]) (mvT C.hZ (hw _ (List.mem_of_getElem? (i := 71) rfl)))) (hw _ (List.mem_of_getElem? (i := 71) rfl)) (hw _ (List.mem_of_getElem? (i := 70) rfl)) (hw _ (List.mem_of_getElem? (i := 6) rfl)) (hw _ (List.mem_of_getElem? (i := 72) rfl)) (by decide) (rmil l Z a0 hw [] a1 cs h0 n0 hF Fc_a1 hcs) (W := 0) (by decide) (by decide) (ce := 0) (sl := 0) rfl rfl (by decide) (by decide) rfl E_a1 e2 rfl pd_13 rfl (Nat.le_refl _) rfl (fun rv3 T3 L3 X3 Q3 => ?_)
  obtain ⟨q3, Nq3, e3⟩ := Q3
  have N3 := Fr.app N2 Nq3
  rw [Fil_l0 ] at q3
  subst q3
  show Go p.tables e below _ (T3.setTop (mkF m 14 #[.val (.ref a1), .val (.int (0 : Int32)), .val (.int (2 : Int32))] [(.int (1 : Int32))]))
  refine g_ifN (pc' := 17) C X3 d11_14 (feq (show ¬ ((1 : Int32) = (0 : Int32)) from (by decide))).1 rfl ?_
  refine g_iloadN (pc' := 18) C X3 d11_17 rfl rfl ?_
  refine g_iloadN (pc' := 19) C X3 d11_18 rfl rfl ?_
  refine g_isub (pc' := 20) C X3 d11_19 rfl ?_
  refine own_cast (congrArg (fun z => T3.setTop (mkF m 20 #[.val (.ref a1), .val (.int (0 : Int32)), .val (.int (2 : Int32))] (.int z :: []))) (show ((2 : Int32) - (0 : Int32)) = (2 : Int32) from by decide)) ?_
  exact g_retI C X3 d11_20 (by decide) (by decide) ⟨congrArg (fun z => some (Value.int z)) (Fcp2_l0  ).symm, N3, e3⟩
theorem d7_0 : decode prog_19_method_1_code 0 = .ok (.aload_n 0, 1) := by decide +kernel
theorem d7_1 : decode prog_19_method_1_code 1 = .ok (.invokespecial 1, 3) := by decide +kernel
theorem d7_4 : decode prog_19_method_1_code 4 = .ok (.aload_n 1, 1) := by decide +kernel
theorem d7_5 : decode prog_19_method_1_code 5 = .ok (.ldc 7, 2) := by decide +kernel
theorem d7_7 : decode prog_19_method_1_code 7 = .ok (.invokestatic 9, 3) := by decide +kernel
theorem pd_14 : parseMethodDescriptor "(Ljava/lang/Object;Ljava/lang/String;)Ljava/lang/Object;" = some ⟨[(.object "java/lang/Object"), (.object "java/lang/String")], some (.object "java/lang/Object")⟩ := by decide +kernel
theorem d7_10 : decode prog_19_method_1_code 10 = .ok (.pop, 1) := by decide +kernel
theorem d7_11 : decode prog_19_method_1_code 11 = .ok (.aload_n 2, 1) := by decide +kernel
theorem d7_12 : decode prog_19_method_1_code 12 = .ok (.ldc 15, 2) := by decide +kernel
theorem d7_14 : decode prog_19_method_1_code 14 = .ok (.invokestatic 9, 3) := by decide +kernel
theorem d7_17 : decode prog_19_method_1_code 17 = .ok (.pop, 1) := by decide +kernel
theorem d7_18 : decode prog_19_method_1_code 18 = .ok (.aload_n 1, 1) := by decide +kernel
theorem d7_19 : decode prog_19_method_1_code 19 = .ok (.iconst 0, 1) := by decide +kernel
theorem d7_20 : decode prog_19_method_1_code 20 = .ok (.aload_n 1, 1) := by decide +kernel
theorem d7_21 : decode prog_19_method_1_code 21 = .ok (.invokevirtual 17, 3) := by decide +kernel
theorem d7_24 : decode prog_19_method_1_code 24 = .ok (.invokevirtual 23, 3) := by decide +kernel
theorem pd_15 : parseMethodDescriptor "(II)I" = some ⟨[.int, .int], some .int⟩ := by decide +kernel
theorem d7_27 : decode prog_19_method_1_code 27 = .ok (.istore_n 3, 1) := by decide +kernel
theorem d7_28 : decode prog_19_method_1_code 28 = .ok (.iload_n 3, 1) := by decide +kernel
theorem d7_29 : decode prog_19_method_1_code 29 = .ok (.iconst 1, 1) := by decide +kernel
theorem d7_30 : decode prog_19_method_1_code 30 = .ok (.if_icmp .lt 9, 3) := by decide +kernel
theorem d7_33 : decode prog_19_method_1_code 33 = .ok (.iload_n 3, 1) := by decide +kernel
theorem d7_34 : decode prog_19_method_1_code 34 = .ok (.bipush 50, 2) := by decide +kernel
theorem d7_36 : decode prog_19_method_1_code 36 = .ok (.if_icmp .le 17, 3) := by decide +kernel
theorem d7_53 : decode prog_19_method_1_code 53 = .ok (.aload_n 2, 1) := by decide +kernel
theorem d7_54 : decode prog_19_method_1_code 54 = .ok (.invokevirtual 38, 3) := by decide +kernel
theorem d7_57 : decode prog_19_method_1_code 57 = .ok (.ifCond .eq 17, 3) := by decide +kernel
theorem d7_74 : decode prog_19_method_1_code 74 = .ok (.aload_n 0, 1) := by decide +kernel
theorem d7_75 : decode prog_19_method_1_code 75 = .ok (.aload_n 1, 1) := by decide +kernel
theorem d7_76 : decode prog_19_method_1_code 76 = .ok (.putfield 45, 3) := by decide +kernel
theorem d7_79 : decode prog_19_method_1_code 79 = .ok (.aload_n 0, 1) := by decide +kernel
theorem d7_80 : decode prog_19_method_1_code 80 = .ok (.aload_n 2, 1) := by decide +kernel
theorem d7_81 : decode prog_19_method_1_code 81 = .ok (.putfield 48, 3) := by decide +kernel
theorem d7_84 : decode prog_19_method_1_code 84 = .ok (.return_, 1) := by decide +kernel
theorem ef_ki (m : MethodId) (a1 : Addr) (a2 : Addr) (a3 : Addr) : entryFrame m #[(.ref a1), (.ref a2), (.ref a3)] 4 = mkF m 0 #[.val (.ref a1), .val (.ref a2), .val (.ref a3), .unset] [] := by first | (simp [entryFrame, mkF, argsToLocals, Value.category]; done) | rfl
def Q_ki (Z : State) (a1 : Addr) (a2 : Addr) (a3 : Addr) (v2 : Addr) (k2 : ClassId) (n2 : Int32) (ds2 : List Int32) (v3 : Addr) (k3 : ClassId) (n3 : Int32) (ds3 : List Int32) (cs : Int32) (h0 : Heap) (n0 : Nat) (vr : Option Value) (h : Heap) (L : List Loc) : Prop := (vr = none) ∧ (Fr n0 L) ∧ (Keep h0 h [a1]) ∧ (Exa Z h a1 "com/example/wenshai/wenshai/model/Keyword") ∧ (Fld Z h a1 "com/example/wenshai/wenshai/model/Keyword" "text" "Ljava/lang/String;" (.ref a2)) ∧ (Fld Z h a1 "com/example/wenshai/wenshai/model/Keyword" "category" "Ljava/lang/String;" (.ref a3))
set_option maxRecDepth 65536 in
set_option maxHeartbeats 40000000 in
theorem rmki (l : Launch) (Z : State) (a0 : Array Value) (hw : ∀ d ∈ tables_1, d.before a0 Z = true) (ws : List Jvm.Cond) (a1 : Addr) (a2 : Addr) (a3 : Addr) (v2 : Addr) (k2 : ClassId) (n2 : Int32) (ds2 : List Int32) (v3 : Addr) (k3 : ClassId) (n3 : Int32) (ds3 : List Int32) (cs : Int32) (h0 : Heap) (n0 : Nat) (Z0 : n0 ≤ h0.size) (hF : FX Z h0 cs) (E_a1 : Exa Z h0 a1 "com/example/wenshai/wenshai/model/Keyword") (F_text_a1 : Fld Z h0 a1 "com/example/wenshai/wenshai/model/Keyword" "text" "Ljava/lang/String;" .null) (F_category_a1 : Fld Z h0 a1 "com/example/wenshai/wenshai/model/Keyword" "category" "Ljava/lang/String;" .null) (E_a2 : Exa Z h0 a2 "java/lang/String") (Fc_a2 : Fld Z h0 a2 "java/lang/String" "coder" "B" (.int (0 : Int32))) (Fv_a2 : Fld Z h0 a2 "java/lang/String" "value" "[B" (.ref v2)) (V_v2 : Arv Z h0 v2 k2 .byte n2 (own_vl ds2) (.int (0 : Int32))) (E_a3 : Exa Z h0 a3 "java/lang/String") (Fc_a3 : Fld Z h0 a3 "java/lang/String" "coder" "B" (.int (0 : Int32))) (Fv_a3 : Fld Z h0 a3 "java/lang/String" "value" "[B" (.ref v3)) (V_v3 : Arv Z h0 v3 k3 .byte n3 (own_vl ds3) (.int (0 : Int32))) (hcs : ¬ (cs = (0 : Int32))) (gn_a1 : n0 ≤ a1) (hn2 : n2 = (1 : Int32) ∨ n2 = (2 : Int32)) (hn3 : n3 = (1 : Int32) ∨ n3 = (2 : Int32)) (nea2a1 : ¬ (a2 = a1)) (nea3a1 : ¬ (a3 = a1)) (nev2a1 : ¬ (v2 = a1)) (nev3a1 : ¬ (v3 = a1)) :
    MetFree l (⟨"com/example/wenshai/wenshai/model/Keyword", "<init>", "(Ljava/lang/String;Ljava/lang/String;)V"⟩ : MethodName) (head1 (Jvm.Cond.code (⟨"com/example/wenshai/wenshai/model/Keyword", "<init>", "(Ljava/lang/String;Ljava/lang/String;)V"⟩ : MethodName) prog_19_method_1_code 4 none :: ws) ({ frames := 3, cells := 4, slots := 56, locals := 43 } : Room)) (fun a U => a = #[(.ref a1), (.ref a2), (.ref a3)] ∧ Z.Warmed39 U.vm ∧ U.heap = h0) (fun _ _ _ _ _ => True) (fun _ U o U' => ∃ v L, o = .returned v ∧ Q_ki Z a1 a2 a3 v2 k2 n2 ds2 v3 k3 n3 ds3 cs h0 n0 v U'.heap L ∧ ReturnedEndW U o U' L ({ frames := 3, cells := 4, slots := 56, locals := 43 } : Room).cells ({ frames := 3, cells := 4, slots := 56, locals := 43 } : Room).slots) := by
  refine met_ofW0 (Ls := #[.val (.ref a1), .val (.ref a2), .val (.ref a3), .unset]) (plainFor_of_name (by first | (simp [plainName, overriddenIn]; done) | decide +kernel)) (fun m => ef_ki m a1 a2 a3) ?_
  intro p e s m below meth c T0 C X0 hS e0
  have S_cs := hF
  have N0 := Fr.nil n0
  have K0 : Keep h0 h0 [a1] := Keep.refl h0 _
  rcases hn2 with rfl | rfl
  · have _q := trivial
    rcases hn3 with rfl | rfl
    · have _q := trivial
      refine g_aloadN (pc' := 1) C X0 d7_0 rfl rfl rfl ?_
      refine g_initO (W := 0) (pc' := 4) C X0 d7_1 (hw _ (List.mem_of_getElem? (i := 36) rfl)) (hw _ (List.mem_of_getElem? (i := 24) rfl)) (hw _ (List.mem_of_getElem? (i := 25) rfl)) e0 rfl (by decide) (Nat.le_refl _) (by decide) rfl (fun T1 X1 e1 => ?_)
      refine g_aloadN (pc' := 5) C X1 d7_4 rfl rfl rfl ?_
      refine g_ldcS (pc' := 7) (n := 16) C X1 hS (Nat.zero_le _) d7_5 (hw _ (List.mem_of_getElem? (i := 37) rfl)) (own_wS hw) e1 (by decide) (by decide) (ce := 2) (sl := 20) rfl rfl (by decide) (by decide) rfl (fun b2 T2 h2 ck2 C X2 e2 E2 hS Kz2 => ?_)
      have S_cs_2 := S_cs.ext E2
      have E_a1_2 := E_a1.ext E2
      have F_text_a1_2 := F_text_a1.ext E2
      have F_category_a1_2 := F_category_a1.ext E2
      have E_a2_2 := E_a2.ext E2
      have Fc_a2_2 := Fc_a2.ext E2
      have Fv_a2_2 := Fv_a2.ext E2
      have V_v2_2 := V_v2.ext E2
      have E_a3_2 := E_a3.ext E2
      have Fc_a3_2 := Fc_a3.ext E2
      have Fv_a3_2 := Fv_a3.ext E2
      have V_v3_2 := V_v3.ext E2
      have Z2 := Nat.le_trans Z0 E2.1
      have K2 := K0.ext E2
      refine g_callS (y := (⟨"java/util/Objects", "requireNonNull", "(Ljava/lang/Object;Ljava/lang/String;)Ljava/lang/Object;"⟩ : MethodName)) (argsL := [(.ref a2), (.ref b2)]) (st := []) (pc' := 10) C X2 d7_7 (hw _ (List.mem_of_getElem? (i := 40) rfl)) (hw _ (List.mem_of_getElem? (i := 41) rfl)) (hw _ (List.mem_of_getElem? (i := 42) rfl)) (hw _ (List.mem_of_getElem? (i := 43) rfl)) (by decide) (rmrn l Z a0 hw [] a2 b2 cs h2 n0 S_cs_2) (W := 0) (by decide) (by decide) (ce := 2) (sl := 20) rfl rfl (by decide) (by decide) rfl e2 rfl pd_14 rfl (Nat.le_refl _) rfl (fun rv3 T3 L3 X3 Q3 => ?_)
      obtain ⟨q3, Nq3, e3⟩ := Q3
      have N3 := Fr.app N0 Nq3
      rw [Frn_l0 a2] at q3
      subst q3
      show Go p.tables e below _ (T3.setTop (mkF m 10 #[.val (.ref a1), .val (.ref a2), .val (.ref a3), .unset] [(.ref a2)]))
      refine g_pop (pc' := 11) C X3 d7_10 rfl rfl ?_
      refine g_aloadN (pc' := 12) C X3 d7_11 rfl rfl rfl ?_
      refine g_ldcS (pc' := 14) (n := 32) C X3 hS Kz2 d7_12 (hw _ (List.mem_of_getElem? (i := 44) rfl)) (own_wS hw) e3 (by decide) (by decide) (ce := 4) (sl := 56) rfl rfl (by decide) (by decide) rfl (fun b4 T4 h4 ck4 C X4 e4 E4 hS Kz4 => ?_)
      have S_cs_4 := S_cs_2.ext E4
      have E_a1_4 := E_a1_2.ext E4
      have F_text_a1_4 := F_text_a1_2.ext E4
      have F_category_a1_4 := F_category_a1_2.ext E4
      have E_a2_4 := E_a2_2.ext E4
      have Fc_a2_4 := Fc_a2_2.ext E4
      have Fv_a2_4 := Fv_a2_2.ext E4
      have V_v2_4 := V_v2_2.ext E4
      have E_a3_4 := E_a3_2.ext E4
      have Fc_a3_4 := Fc_a3_2.ext E4
      have Fv_a3_4 := Fv_a3_2.ext E4
      have V_v3_4 := V_v3_2.ext E4
      have Z4 := Nat.le_trans Z2 E4.1
      have K4 := K2.ext E4
      refine g_callS (y := (⟨"java/util/Objects", "requireNonNull", "(Ljava/lang/Object;Ljava/lang/String;)Ljava/lang/Object;"⟩ : MethodName)) (argsL := [(.ref a3), (.ref b4)]) (st := []) (pc' := 17) C X4 d7_14 (hw _ (List.mem_of_getElem? (i := 40) rfl)) (hw _ (List.mem_of_getElem? (i := 41) rfl)) (hw _ (List.mem_of_getElem? (i := 42) rfl)) (hw _ (List.mem_of_getElem? (i := 43) rfl)) (by decide) (rmrn l Z a0 hw [] a3 b4 cs h4 n0 S_cs_4) (W := 0) (by decide) (by decide) (ce := 4) (sl := 56) rfl rfl (by decide) (by decide) rfl e4 rfl pd_14 rfl (Nat.le_refl _) rfl (fun rv5 T5 L5 X5 Q5 => ?_)
      obtain ⟨q5, Nq5, e5⟩ := Q5
      have N5 := Fr.app N3 Nq5
      rw [Frn_l0 a3] at q5
      subst q5
      show Go p.tables e below _ (T5.setTop (mkF m 17 #[.val (.ref a1), .val (.ref a2), .val (.ref a3), .unset] [(.ref a3)]))
      refine g_pop (pc' := 18) C X5 d7_17 rfl rfl ?_
      refine g_aloadN (pc' := 19) C X5 d7_18 rfl rfl rfl ?_
      refine g_iconst (pc' := 20) (v := (0 : Int32)) C X5 d7_19 rfl rfl ?_
      refine g_aloadN (pc' := 21) C X5 d7_20 rfl rfl rfl ?_
      refine g_callV (b := a2) (z := (⟨"java/lang/String", "length", "()I"⟩ : MethodName)) (y := (⟨"java/lang/String", "length", "()I"⟩ : MethodName)) (argsL := []) (st := [(.int (0 : Int32)), (.ref a2)]) (pc' := 24) C X5 d7_21 (hw _ (List.mem_of_getElem? (i := 45) rfl)) (hw _ (List.mem_of_getElem? (i := 46) rfl)) (notFace_of_selects (args := #[]) (mvT C.hZ (hw _ (List.mem_of_getElem? (i := 48) rfl)))) (hw _ (List.mem_of_getElem? (i := 48) rfl)) (hw _ (List.mem_of_getElem? (i := 47) rfl)) (hw _ (List.mem_of_getElem? (i := 6) rfl)) (hw _ (List.mem_of_getElem? (i := 49) rfl)) (by decide) (rmle1 l Z a0 hw [] a2 v2 k2 ds2 cs h4 n0 S_cs_4 E_a2_4 Fc_a2_4 Fv_a2_4 V_v2_4 hcs) (W := 2) (by decide) (by decide) (ce := 4) (sl := 56) rfl rfl (by decide) (by decide) rfl E_a2_4 e5 rfl pd_11 rfl (Nat.le_refl _) rfl (fun rv6 T6 L6 X6 Q6 => ?_)
      obtain ⟨q6, Nq6, e6⟩ := Q6
      have N6 := Fr.app N5 Nq6
      rw [Fle1_l0 ] at q6
      subst q6
      show Go p.tables e below _ (T6.setTop (mkF m 24 #[.val (.ref a1), .val (.ref a2), .val (.ref a3), .unset] [(.int (1 : Int32)), (.int (0 : Int32)), (.ref a2)]))
      refine g_callV (b := a2) (z := (⟨"java/lang/String", "codePointCount", "(II)I"⟩ : MethodName)) (y := (⟨"java/lang/String", "codePointCount", "(II)I"⟩ : MethodName)) (argsL := [(.int (0 : Int32)), (.int (1 : Int32))]) (st := []) (pc' := 27) C X6 d7_24 (hw _ (List.mem_of_getElem? (i := 55) rfl)) (hw _ (List.mem_of_getElem? (i := 56) rfl)) (notFace_of_selects (args := #[]) (mvT C.hZ (hw _ (List.mem_of_getElem? (i := 58) rfl)))) (hw _ (List.mem_of_getElem? (i := 58) rfl)) (hw _ (List.mem_of_getElem? (i := 57) rfl)) (hw _ (List.mem_of_getElem? (i := 6) rfl)) (hw _ (List.mem_of_getElem? (i := 59) rfl)) (by decide) (rmcp1 l Z a0 hw [] a2 v2 k2 ds2 cs h4 n0 S_cs_4 E_a2_4 Fc_a2_4 Fv_a2_4 V_v2_4 hcs) (W := 0) (by decide) (by decide) (ce := 4) (sl := 56) rfl rfl (by decide) (by decide) rfl E_a2_4 e6 rfl pd_15 rfl (Nat.le_refl _) rfl (fun rv7 T7 L7 X7 Q7 => ?_)
      obtain ⟨q7, Nq7, e7⟩ := Q7
      have N7 := Fr.app N6 Nq7
      rw [Fcp1_l0 ] at q7
      subst q7
      show Go p.tables e below _ (T7.setTop (mkF m 27 #[.val (.ref a1), .val (.ref a2), .val (.ref a3), .unset] [(.int (1 : Int32))]))
      refine g_istoreN (pc' := 28) (Ls' := #[.val (.ref a1), .val (.ref a2), .val (.ref a3), .val (.int (1 : Int32))]) C X7 d7_27 rfl rfl ?_
      refine g_iloadN (pc' := 29) C X7 d7_28 rfl rfl ?_
      refine g_iconst (pc' := 30) (v := (1 : Int32)) C X7 d7_29 rfl rfl ?_
      refine g_icmpN (pc' := 33) C X7 d7_30 (flt (show ¬ ((1 : Int32) < (1 : Int32)) from (by decide))).1 rfl ?_
      refine g_iloadN (pc' := 34) C X7 d7_33 rfl rfl ?_
      refine g_bipush (pc' := 36) (v := (50 : Int32)) C X7 d7_34 rfl rfl ?_
      refine g_icmpY (pc' := 53) C X7 d7_36 (flt (show ¬ ((50 : Int32) < (1 : Int32)) from (by decide))).2.2.2 (by decide) (by decide) ?_
      refine g_aloadN (pc' := 54) C X7 d7_53 rfl rfl rfl ?_
      refine g_callV (b := a3) (z := (⟨"java/lang/String", "isEmpty", "()Z"⟩ : MethodName)) (y := (⟨"java/lang/String", "isEmpty", "()Z"⟩ : MethodName)) (argsL := []) (st := []) (pc' := 57) C X7 d7_54 (hw _ (List.mem_of_getElem? (i := 73) rfl)) (hw _ (List.mem_of_getElem? (i := 74) rfl)) (notFace_of_selects (args := #[]) (mvT C.hZ (hw _ (List.mem_of_getElem? (i := 76) rfl)))) (hw _ (List.mem_of_getElem? (i := 76) rfl)) (hw _ (List.mem_of_getElem? (i := 75) rfl)) (hw _ (List.mem_of_getElem? (i := 6) rfl)) (hw _ (List.mem_of_getElem? (i := 77) rfl)) (by decide) (rmem1 l Z a0 hw [] a3 v3 k3 ds3 cs h4 n0 S_cs_4 E_a3_4 Fc_a3_4 Fv_a3_4 V_v3_4) (W := 0) (by decide) (by decide) (ce := 4) (sl := 56) rfl rfl (by decide) (by decide) rfl E_a3_4 e7 rfl pd_13 rfl (Nat.le_refl _) rfl (fun rv8 T8 L8 X8 Q8 => ?_)
      obtain ⟨q8, Nq8, e8⟩ := Q8
      have N8 := Fr.app N7 Nq8
      rw [Fem1_l0 ] at q8
      subst q8
      show Go p.tables e below _ (T8.setTop (mkF m 57 #[.val (.ref a1), .val (.ref a2), .val (.ref a3), .val (.int (1 : Int32))] [(.int (0 : Int32))]))
      refine g_ifY (pc' := 74) C X8 d7_57 (teq (show (0 : Int32) = (0 : Int32) from (by decide))).1 (by decide) (by decide) ?_
      refine g_aloadN (pc' := 75) C X8 d7_74 rfl rfl rfl ?_
      refine g_aloadN (pc' := 76) C X8 d7_75 rfl rfl rfl ?_
      refine g_putF (pc' := 79) C X8 d7_76 (host := "") (Or.inl (hw _ (List.mem_of_getElem? (i := 78) rfl))) Via.refl e8 F_text_a1_4 E_a1_4 (Or.inr ⟨(hw _ (List.mem_of_getElem? (i := 79) rfl)), rfl, rfl⟩) (hw _ (List.mem_of_getElem? (i := 31) rfl)) (ty := (.object "java/lang/String")) (by decide) rfl rfl rfl (fun T9 h9 X9 e9 W9 => ?_)
      have F9 := F_text_a1_4.same W9
      have S_cs_9 := S_cs_4.wr W9
      have E_a1_9 := E_a1_4.wr W9
      have F_category_a1_9 := F_category_a1_4.other W9 (Or.inr (slot_ne (Or.inr (hw _ (List.mem_of_getElem? (i := 81) rfl))) (Or.inr (hw _ (List.mem_of_getElem? (i := 79) rfl))) (by decide) (t := (.object "java/lang/String")) (t' := (.object "java/lang/String")) (by decide) (by decide)))
      have E_a2_9 := E_a2_4.wr W9
      have Fc_a2_9 := Fc_a2_4.other W9 (Or.inl nea2a1)
      have Fv_a2_9 := Fv_a2_4.other W9 (Or.inl nea2a1)
      have V_v2_9 := V_v2_4.other W9 nev2a1
      have E_a3_9 := E_a3_4.wr W9
      have Fc_a3_9 := Fc_a3_4.other W9 (Or.inl nea3a1)
      have Fv_a3_9 := Fv_a3_4.other W9 (Or.inl nea3a1)
      have V_v3_9 := V_v3_4.other W9 nev3a1
      have Z9 := Nat.le_trans Z4 (Nat.le_of_eq W9.size.symm)
      have Kz9 := Nat.le_trans Kz4 (Nat.le_of_eq W9.size.symm)
      have N9 := Fr.snoc X9 N8 gn_a1
      have K9 := K4.wr W9 (Or.inl (List.mem_of_getElem? (i := 0) rfl))
      refine g_aloadN (pc' := 80) C X9 d7_79 rfl rfl rfl ?_
      refine g_aloadN (pc' := 81) C X9 d7_80 rfl rfl rfl ?_
      refine g_putF (pc' := 84) C X9 d7_81 (host := "") (Or.inl (hw _ (List.mem_of_getElem? (i := 80) rfl))) Via.refl e9 F_category_a1_9 E_a1_9 (Or.inr ⟨(hw _ (List.mem_of_getElem? (i := 81) rfl)), rfl, rfl⟩) (hw _ (List.mem_of_getElem? (i := 31) rfl)) (ty := (.object "java/lang/String")) (by decide) rfl rfl rfl (fun T10 h10 X10 e10 W10 => ?_)
      have F10 := F_category_a1_9.same W10
      have S_cs_10 := S_cs_9.wr W10
      have E_a1_10 := E_a1_9.wr W10
      have E_a2_10 := E_a2_9.wr W10
      have Fc_a2_10 := Fc_a2_9.other W10 (Or.inl nea2a1)
      have Fv_a2_10 := Fv_a2_9.other W10 (Or.inl nea2a1)
      have V_v2_10 := V_v2_9.other W10 nev2a1
      have E_a3_10 := E_a3_9.wr W10
      have Fc_a3_10 := Fc_a3_9.other W10 (Or.inl nea3a1)
      have Fv_a3_10 := Fv_a3_9.other W10 (Or.inl nea3a1)
      have V_v3_10 := V_v3_9.other W10 nev3a1
      have F9_10 := F9.other W10 (Or.inr (slot_ne (Or.inr (hw _ (List.mem_of_getElem? (i := 79) rfl))) (Or.inr (hw _ (List.mem_of_getElem? (i := 81) rfl))) (by decide) (t := (.object "java/lang/String")) (t' := (.object "java/lang/String")) (by decide) (by decide)))
      have Z10 := Nat.le_trans Z9 (Nat.le_of_eq W10.size.symm)
      have Kz10 := Nat.le_trans Kz9 (Nat.le_of_eq W10.size.symm)
      have N10 := Fr.snoc X10 N9 gn_a1
      have K10 := K9.wr W10 (Or.inl (List.mem_of_getElem? (i := 0) rfl))
      exact g_retVW C X10 hS (by rw [e10]; exact Kz10) d7_84 (by decide) (by decide) ⟨rfl, N10, (by rw [e10]; exact K10), (by rw [e10]; exact E_a1_10), (by rw [e10]; exact F9_10), (by rw [e10]; exact F10)⟩
    · have _q := trivial
      refine g_aloadN (pc' := 1) C X0 d7_0 rfl rfl rfl ?_
      refine g_initO (W := 0) (pc' := 4) C X0 d7_1 (hw _ (List.mem_of_getElem? (i := 36) rfl)) (hw _ (List.mem_of_getElem? (i := 24) rfl)) (hw _ (List.mem_of_getElem? (i := 25) rfl)) e0 rfl (by decide) (Nat.le_refl _) (by decide) rfl (fun T11 X11 e11 => ?_)
      refine g_aloadN (pc' := 5) C X11 d7_4 rfl rfl rfl ?_
      refine g_ldcS (pc' := 7) (n := 16) C X11 hS (Nat.zero_le _) d7_5 (hw _ (List.mem_of_getElem? (i := 37) rfl)) (own_wS hw) e11 (by decide) (by decide) (ce := 2) (sl := 20) rfl rfl (by decide) (by decide) rfl (fun b12 T12 h12 ck12 C X12 e12 E12 hS Kz12 => ?_)
      have S_cs_12 := S_cs.ext E12
      have E_a1_12 := E_a1.ext E12
      have F_text_a1_12 := F_text_a1.ext E12
      have F_category_a1_12 := F_category_a1.ext E12
      have E_a2_12 := E_a2.ext E12
      have Fc_a2_12 := Fc_a2.ext E12
      have Fv_a2_12 := Fv_a2.ext E12
      have V_v2_12 := V_v2.ext E12
      have E_a3_12 := E_a3.ext E12
      have Fc_a3_12 := Fc_a3.ext E12
      have Fv_a3_12 := Fv_a3.ext E12
      have V_v3_12 := V_v3.ext E12
      have Z12 := Nat.le_trans Z0 E12.1
      have K12 := K0.ext E12
      refine g_callS (y := (⟨"java/util/Objects", "requireNonNull", "(Ljava/lang/Object;Ljava/lang/String;)Ljava/lang/Object;"⟩ : MethodName)) (argsL := [(.ref a2), (.ref b12)]) (st := []) (pc' := 10) C X12 d7_7 (hw _ (List.mem_of_getElem? (i := 40) rfl)) (hw _ (List.mem_of_getElem? (i := 41) rfl)) (hw _ (List.mem_of_getElem? (i := 42) rfl)) (hw _ (List.mem_of_getElem? (i := 43) rfl)) (by decide) (rmrn l Z a0 hw [] a2 b12 cs h12 n0 S_cs_12) (W := 0) (by decide) (by decide) (ce := 2) (sl := 20) rfl rfl (by decide) (by decide) rfl e12 rfl pd_14 rfl (Nat.le_refl _) rfl (fun rv13 T13 L13 X13 Q13 => ?_)
      obtain ⟨q13, Nq13, e13⟩ := Q13
      have N13 := Fr.app N0 Nq13
      rw [Frn_l0 a2] at q13
      subst q13
      show Go p.tables e below _ (T13.setTop (mkF m 10 #[.val (.ref a1), .val (.ref a2), .val (.ref a3), .unset] [(.ref a2)]))
      refine g_pop (pc' := 11) C X13 d7_10 rfl rfl ?_
      refine g_aloadN (pc' := 12) C X13 d7_11 rfl rfl rfl ?_
      refine g_ldcS (pc' := 14) (n := 32) C X13 hS Kz12 d7_12 (hw _ (List.mem_of_getElem? (i := 44) rfl)) (own_wS hw) e13 (by decide) (by decide) (ce := 4) (sl := 56) rfl rfl (by decide) (by decide) rfl (fun b14 T14 h14 ck14 C X14 e14 E14 hS Kz14 => ?_)
      have S_cs_14 := S_cs_12.ext E14
      have E_a1_14 := E_a1_12.ext E14
      have F_text_a1_14 := F_text_a1_12.ext E14
      have F_category_a1_14 := F_category_a1_12.ext E14
      have E_a2_14 := E_a2_12.ext E14
      have Fc_a2_14 := Fc_a2_12.ext E14
      have Fv_a2_14 := Fv_a2_12.ext E14
      have V_v2_14 := V_v2_12.ext E14
      have E_a3_14 := E_a3_12.ext E14
      have Fc_a3_14 := Fc_a3_12.ext E14
      have Fv_a3_14 := Fv_a3_12.ext E14
      have V_v3_14 := V_v3_12.ext E14
      have Z14 := Nat.le_trans Z12 E14.1
      have K14 := K12.ext E14
      refine g_callS (y := (⟨"java/util/Objects", "requireNonNull", "(Ljava/lang/Object;Ljava/lang/String;)Ljava/lang/Object;"⟩ : MethodName)) (argsL := [(.ref a3), (.ref b14)]) (st := []) (pc' := 17) C X14 d7_14 (hw _ (List.mem_of_getElem? (i := 40) rfl)) (hw _ (List.mem_of_getElem? (i := 41) rfl)) (hw _ (List.mem_of_getElem? (i := 42) rfl)) (hw _ (List.mem_of_getElem? (i := 43) rfl)) (by decide) (rmrn l Z a0 hw [] a3 b14 cs h14 n0 S_cs_14) (W := 0) (by decide) (by decide) (ce := 4) (sl := 56) rfl rfl (by decide) (by decide) rfl e14 rfl pd_14 rfl (Nat.le_refl _) rfl (fun rv15 T15 L15 X15 Q15 => ?_)
      obtain ⟨q15, Nq15, e15⟩ := Q15
      have N15 := Fr.app N13 Nq15
      rw [Frn_l0 a3] at q15
      subst q15
      show Go p.tables e below _ (T15.setTop (mkF m 17 #[.val (.ref a1), .val (.ref a2), .val (.ref a3), .unset] [(.ref a3)]))
      refine g_pop (pc' := 18) C X15 d7_17 rfl rfl ?_
      refine g_aloadN (pc' := 19) C X15 d7_18 rfl rfl rfl ?_
      refine g_iconst (pc' := 20) (v := (0 : Int32)) C X15 d7_19 rfl rfl ?_
      refine g_aloadN (pc' := 21) C X15 d7_20 rfl rfl rfl ?_
      refine g_callV (b := a2) (z := (⟨"java/lang/String", "length", "()I"⟩ : MethodName)) (y := (⟨"java/lang/String", "length", "()I"⟩ : MethodName)) (argsL := []) (st := [(.int (0 : Int32)), (.ref a2)]) (pc' := 24) C X15 d7_21 (hw _ (List.mem_of_getElem? (i := 45) rfl)) (hw _ (List.mem_of_getElem? (i := 46) rfl)) (notFace_of_selects (args := #[]) (mvT C.hZ (hw _ (List.mem_of_getElem? (i := 48) rfl)))) (hw _ (List.mem_of_getElem? (i := 48) rfl)) (hw _ (List.mem_of_getElem? (i := 47) rfl)) (hw _ (List.mem_of_getElem? (i := 6) rfl)) (hw _ (List.mem_of_getElem? (i := 49) rfl)) (by decide) (rmle1 l Z a0 hw [] a2 v2 k2 ds2 cs h14 n0 S_cs_14 E_a2_14 Fc_a2_14 Fv_a2_14 V_v2_14 hcs) (W := 2) (by decide) (by decide) (ce := 4) (sl := 56) rfl rfl (by decide) (by decide) rfl E_a2_14 e15 rfl pd_11 rfl (Nat.le_refl _) rfl (fun rv16 T16 L16 X16 Q16 => ?_)
      obtain ⟨q16, Nq16, e16⟩ := Q16
      have N16 := Fr.app N15 Nq16
      rw [Fle1_l0 ] at q16
      subst q16
      show Go p.tables e below _ (T16.setTop (mkF m 24 #[.val (.ref a1), .val (.ref a2), .val (.ref a3), .unset] [(.int (1 : Int32)), (.int (0 : Int32)), (.ref a2)]))
      refine g_callV (b := a2) (z := (⟨"java/lang/String", "codePointCount", "(II)I"⟩ : MethodName)) (y := (⟨"java/lang/String", "codePointCount", "(II)I"⟩ : MethodName)) (argsL := [(.int (0 : Int32)), (.int (1 : Int32))]) (st := []) (pc' := 27) C X16 d7_24 (hw _ (List.mem_of_getElem? (i := 55) rfl)) (hw _ (List.mem_of_getElem? (i := 56) rfl)) (notFace_of_selects (args := #[]) (mvT C.hZ (hw _ (List.mem_of_getElem? (i := 58) rfl)))) (hw _ (List.mem_of_getElem? (i := 58) rfl)) (hw _ (List.mem_of_getElem? (i := 57) rfl)) (hw _ (List.mem_of_getElem? (i := 6) rfl)) (hw _ (List.mem_of_getElem? (i := 59) rfl)) (by decide) (rmcp1 l Z a0 hw [] a2 v2 k2 ds2 cs h14 n0 S_cs_14 E_a2_14 Fc_a2_14 Fv_a2_14 V_v2_14 hcs) (W := 0) (by decide) (by decide) (ce := 4) (sl := 56) rfl rfl (by decide) (by decide) rfl E_a2_14 e16 rfl pd_15 rfl (Nat.le_refl _) rfl (fun rv17 T17 L17 X17 Q17 => ?_)
      obtain ⟨q17, Nq17, e17⟩ := Q17
      have N17 := Fr.app N16 Nq17
      rw [Fcp1_l0 ] at q17
      subst q17
      show Go p.tables e below _ (T17.setTop (mkF m 27 #[.val (.ref a1), .val (.ref a2), .val (.ref a3), .unset] [(.int (1 : Int32))]))
      refine g_istoreN (pc' := 28) (Ls' := #[.val (.ref a1), .val (.ref a2), .val (.ref a3), .val (.int (1 : Int32))]) C X17 d7_27 rfl rfl ?_
      refine g_iloadN (pc' := 29) C X17 d7_28 rfl rfl ?_
      refine g_iconst (pc' := 30) (v := (1 : Int32)) C X17 d7_29 rfl rfl ?_
      refine g_icmpN (pc' := 33) C X17 d7_30 (flt (show ¬ ((1 : Int32) < (1 : Int32)) from (by decide))).1 rfl ?_
      refine g_iloadN (pc' := 34) C X17 d7_33 rfl rfl ?_
      refine g_bipush (pc' := 36) (v := (50 : Int32)) C X17 d7_34 rfl rfl ?_
      refine g_icmpY (pc' := 53) C X17 d7_36 (flt (show ¬ ((50 : Int32) < (1 : Int32)) from (by decide))).2.2.2 (by decide) (by decide) ?_
      refine g_aloadN (pc' := 54) C X17 d7_53 rfl rfl rfl ?_
      refine g_callV (b := a3) (z := (⟨"java/lang/String", "isEmpty", "()Z"⟩ : MethodName)) (y := (⟨"java/lang/String", "isEmpty", "()Z"⟩ : MethodName)) (argsL := []) (st := []) (pc' := 57) C X17 d7_54 (hw _ (List.mem_of_getElem? (i := 73) rfl)) (hw _ (List.mem_of_getElem? (i := 74) rfl)) (notFace_of_selects (args := #[]) (mvT C.hZ (hw _ (List.mem_of_getElem? (i := 76) rfl)))) (hw _ (List.mem_of_getElem? (i := 76) rfl)) (hw _ (List.mem_of_getElem? (i := 75) rfl)) (hw _ (List.mem_of_getElem? (i := 6) rfl)) (hw _ (List.mem_of_getElem? (i := 77) rfl)) (by decide) (rmem2 l Z a0 hw [] a3 v3 k3 ds3 cs h14 n0 S_cs_14 E_a3_14 Fc_a3_14 Fv_a3_14 V_v3_14) (W := 0) (by decide) (by decide) (ce := 4) (sl := 56) rfl rfl (by decide) (by decide) rfl E_a3_14 e17 rfl pd_13 rfl (Nat.le_refl _) rfl (fun rv18 T18 L18 X18 Q18 => ?_)
      obtain ⟨q18, Nq18, e18⟩ := Q18
      have N18 := Fr.app N17 Nq18
      rw [Fem2_l0 ] at q18
      subst q18
      show Go p.tables e below _ (T18.setTop (mkF m 57 #[.val (.ref a1), .val (.ref a2), .val (.ref a3), .val (.int (1 : Int32))] [(.int (0 : Int32))]))
      refine g_ifY (pc' := 74) C X18 d7_57 (teq (show (0 : Int32) = (0 : Int32) from (by decide))).1 (by decide) (by decide) ?_
      refine g_aloadN (pc' := 75) C X18 d7_74 rfl rfl rfl ?_
      refine g_aloadN (pc' := 76) C X18 d7_75 rfl rfl rfl ?_
      refine g_putF (pc' := 79) C X18 d7_76 (host := "") (Or.inl (hw _ (List.mem_of_getElem? (i := 78) rfl))) Via.refl e18 F_text_a1_14 E_a1_14 (Or.inr ⟨(hw _ (List.mem_of_getElem? (i := 79) rfl)), rfl, rfl⟩) (hw _ (List.mem_of_getElem? (i := 31) rfl)) (ty := (.object "java/lang/String")) (by decide) rfl rfl rfl (fun T19 h19 X19 e19 W19 => ?_)
      have F19 := F_text_a1_14.same W19
      have S_cs_19 := S_cs_14.wr W19
      have E_a1_19 := E_a1_14.wr W19
      have F_category_a1_19 := F_category_a1_14.other W19 (Or.inr (slot_ne (Or.inr (hw _ (List.mem_of_getElem? (i := 81) rfl))) (Or.inr (hw _ (List.mem_of_getElem? (i := 79) rfl))) (by decide) (t := (.object "java/lang/String")) (t' := (.object "java/lang/String")) (by decide) (by decide)))
      have E_a2_19 := E_a2_14.wr W19
      have Fc_a2_19 := Fc_a2_14.other W19 (Or.inl nea2a1)
      have Fv_a2_19 := Fv_a2_14.other W19 (Or.inl nea2a1)
      have V_v2_19 := V_v2_14.other W19 nev2a1
      have E_a3_19 := E_a3_14.wr W19
      have Fc_a3_19 := Fc_a3_14.other W19 (Or.inl nea3a1)
      have Fv_a3_19 := Fv_a3_14.other W19 (Or.inl nea3a1)
      have V_v3_19 := V_v3_14.other W19 nev3a1
      have Z19 := Nat.le_trans Z14 (Nat.le_of_eq W19.size.symm)
      have Kz19 := Nat.le_trans Kz14 (Nat.le_of_eq W19.size.symm)
      have N19 := Fr.snoc X19 N18 gn_a1
      have K19 := K14.wr W19 (Or.inl (List.mem_of_getElem? (i := 0) rfl))
      refine g_aloadN (pc' := 80) C X19 d7_79 rfl rfl rfl ?_
      refine g_aloadN (pc' := 81) C X19 d7_80 rfl rfl rfl ?_
      refine g_putF (pc' := 84) C X19 d7_81 (host := "") (Or.inl (hw _ (List.mem_of_getElem? (i := 80) rfl))) Via.refl e19 F_category_a1_19 E_a1_19 (Or.inr ⟨(hw _ (List.mem_of_getElem? (i := 81) rfl)), rfl, rfl⟩) (hw _ (List.mem_of_getElem? (i := 31) rfl)) (ty := (.object "java/lang/String")) (by decide) rfl rfl rfl (fun T20 h20 X20 e20 W20 => ?_)
      have F20 := F_category_a1_19.same W20
      have S_cs_20 := S_cs_19.wr W20
      have E_a1_20 := E_a1_19.wr W20
      have E_a2_20 := E_a2_19.wr W20
      have Fc_a2_20 := Fc_a2_19.other W20 (Or.inl nea2a1)
      have Fv_a2_20 := Fv_a2_19.other W20 (Or.inl nea2a1)
      have V_v2_20 := V_v2_19.other W20 nev2a1
      have E_a3_20 := E_a3_19.wr W20
      have Fc_a3_20 := Fc_a3_19.other W20 (Or.inl nea3a1)
      have Fv_a3_20 := Fv_a3_19.other W20 (Or.inl nea3a1)
      have V_v3_20 := V_v3_19.other W20 nev3a1
      have F19_20 := F19.other W20 (Or.inr (slot_ne (Or.inr (hw _ (List.mem_of_getElem? (i := 79) rfl))) (Or.inr (hw _ (List.mem_of_getElem? (i := 81) rfl))) (by decide) (t := (.object "java/lang/String")) (t' := (.object "java/lang/String")) (by decide) (by decide)))
      have Z20 := Nat.le_trans Z19 (Nat.le_of_eq W20.size.symm)
      have Kz20 := Nat.le_trans Kz19 (Nat.le_of_eq W20.size.symm)
      have N20 := Fr.snoc X20 N19 gn_a1
      have K20 := K19.wr W20 (Or.inl (List.mem_of_getElem? (i := 0) rfl))
      exact g_retVW C X20 hS (by rw [e20]; exact Kz20) d7_84 (by decide) (by decide) ⟨rfl, N20, (by rw [e20]; exact K20), (by rw [e20]; exact E_a1_20), (by rw [e20]; exact F19_20), (by rw [e20]; exact F20)⟩
  · have _q := trivial
    rcases hn3 with rfl | rfl
    · have _q := trivial
      refine g_aloadN (pc' := 1) C X0 d7_0 rfl rfl rfl ?_
      refine g_initO (W := 0) (pc' := 4) C X0 d7_1 (hw _ (List.mem_of_getElem? (i := 36) rfl)) (hw _ (List.mem_of_getElem? (i := 24) rfl)) (hw _ (List.mem_of_getElem? (i := 25) rfl)) e0 rfl (by decide) (Nat.le_refl _) (by decide) rfl (fun T21 X21 e21 => ?_)
      refine g_aloadN (pc' := 5) C X21 d7_4 rfl rfl rfl ?_
      refine g_ldcS (pc' := 7) (n := 16) C X21 hS (Nat.zero_le _) d7_5 (hw _ (List.mem_of_getElem? (i := 37) rfl)) (own_wS hw) e21 (by decide) (by decide) (ce := 2) (sl := 20) rfl rfl (by decide) (by decide) rfl (fun b22 T22 h22 ck22 C X22 e22 E22 hS Kz22 => ?_)
      have S_cs_22 := S_cs.ext E22
      have E_a1_22 := E_a1.ext E22
      have F_text_a1_22 := F_text_a1.ext E22
      have F_category_a1_22 := F_category_a1.ext E22
      have E_a2_22 := E_a2.ext E22
      have Fc_a2_22 := Fc_a2.ext E22
      have Fv_a2_22 := Fv_a2.ext E22
      have V_v2_22 := V_v2.ext E22
      have E_a3_22 := E_a3.ext E22
      have Fc_a3_22 := Fc_a3.ext E22
      have Fv_a3_22 := Fv_a3.ext E22
      have V_v3_22 := V_v3.ext E22
      have Z22 := Nat.le_trans Z0 E22.1
      have K22 := K0.ext E22
      refine g_callS (y := (⟨"java/util/Objects", "requireNonNull", "(Ljava/lang/Object;Ljava/lang/String;)Ljava/lang/Object;"⟩ : MethodName)) (argsL := [(.ref a2), (.ref b22)]) (st := []) (pc' := 10) C X22 d7_7 (hw _ (List.mem_of_getElem? (i := 40) rfl)) (hw _ (List.mem_of_getElem? (i := 41) rfl)) (hw _ (List.mem_of_getElem? (i := 42) rfl)) (hw _ (List.mem_of_getElem? (i := 43) rfl)) (by decide) (rmrn l Z a0 hw [] a2 b22 cs h22 n0 S_cs_22) (W := 0) (by decide) (by decide) (ce := 2) (sl := 20) rfl rfl (by decide) (by decide) rfl e22 rfl pd_14 rfl (Nat.le_refl _) rfl (fun rv23 T23 L23 X23 Q23 => ?_)
      obtain ⟨q23, Nq23, e23⟩ := Q23
      have N23 := Fr.app N0 Nq23
      rw [Frn_l0 a2] at q23
      subst q23
      show Go p.tables e below _ (T23.setTop (mkF m 10 #[.val (.ref a1), .val (.ref a2), .val (.ref a3), .unset] [(.ref a2)]))
      refine g_pop (pc' := 11) C X23 d7_10 rfl rfl ?_
      refine g_aloadN (pc' := 12) C X23 d7_11 rfl rfl rfl ?_
      refine g_ldcS (pc' := 14) (n := 32) C X23 hS Kz22 d7_12 (hw _ (List.mem_of_getElem? (i := 44) rfl)) (own_wS hw) e23 (by decide) (by decide) (ce := 4) (sl := 56) rfl rfl (by decide) (by decide) rfl (fun b24 T24 h24 ck24 C X24 e24 E24 hS Kz24 => ?_)
      have S_cs_24 := S_cs_22.ext E24
      have E_a1_24 := E_a1_22.ext E24
      have F_text_a1_24 := F_text_a1_22.ext E24
      have F_category_a1_24 := F_category_a1_22.ext E24
      have E_a2_24 := E_a2_22.ext E24
      have Fc_a2_24 := Fc_a2_22.ext E24
      have Fv_a2_24 := Fv_a2_22.ext E24
      have V_v2_24 := V_v2_22.ext E24
      have E_a3_24 := E_a3_22.ext E24
      have Fc_a3_24 := Fc_a3_22.ext E24
      have Fv_a3_24 := Fv_a3_22.ext E24
      have V_v3_24 := V_v3_22.ext E24
      have Z24 := Nat.le_trans Z22 E24.1
      have K24 := K22.ext E24
      refine g_callS (y := (⟨"java/util/Objects", "requireNonNull", "(Ljava/lang/Object;Ljava/lang/String;)Ljava/lang/Object;"⟩ : MethodName)) (argsL := [(.ref a3), (.ref b24)]) (st := []) (pc' := 17) C X24 d7_14 (hw _ (List.mem_of_getElem? (i := 40) rfl)) (hw _ (List.mem_of_getElem? (i := 41) rfl)) (hw _ (List.mem_of_getElem? (i := 42) rfl)) (hw _ (List.mem_of_getElem? (i := 43) rfl)) (by decide) (rmrn l Z a0 hw [] a3 b24 cs h24 n0 S_cs_24) (W := 0) (by decide) (by decide) (ce := 4) (sl := 56) rfl rfl (by decide) (by decide) rfl e24 rfl pd_14 rfl (Nat.le_refl _) rfl (fun rv25 T25 L25 X25 Q25 => ?_)
      obtain ⟨q25, Nq25, e25⟩ := Q25
      have N25 := Fr.app N23 Nq25
      rw [Frn_l0 a3] at q25
      subst q25
      show Go p.tables e below _ (T25.setTop (mkF m 17 #[.val (.ref a1), .val (.ref a2), .val (.ref a3), .unset] [(.ref a3)]))
      refine g_pop (pc' := 18) C X25 d7_17 rfl rfl ?_
      refine g_aloadN (pc' := 19) C X25 d7_18 rfl rfl rfl ?_
      refine g_iconst (pc' := 20) (v := (0 : Int32)) C X25 d7_19 rfl rfl ?_
      refine g_aloadN (pc' := 21) C X25 d7_20 rfl rfl rfl ?_
      refine g_callV (b := a2) (z := (⟨"java/lang/String", "length", "()I"⟩ : MethodName)) (y := (⟨"java/lang/String", "length", "()I"⟩ : MethodName)) (argsL := []) (st := [(.int (0 : Int32)), (.ref a2)]) (pc' := 24) C X25 d7_21 (hw _ (List.mem_of_getElem? (i := 45) rfl)) (hw _ (List.mem_of_getElem? (i := 46) rfl)) (notFace_of_selects (args := #[]) (mvT C.hZ (hw _ (List.mem_of_getElem? (i := 48) rfl)))) (hw _ (List.mem_of_getElem? (i := 48) rfl)) (hw _ (List.mem_of_getElem? (i := 47) rfl)) (hw _ (List.mem_of_getElem? (i := 6) rfl)) (hw _ (List.mem_of_getElem? (i := 49) rfl)) (by decide) (rmle2 l Z a0 hw [] a2 v2 k2 ds2 cs h24 n0 S_cs_24 E_a2_24 Fc_a2_24 Fv_a2_24 V_v2_24 hcs) (W := 2) (by decide) (by decide) (ce := 4) (sl := 56) rfl rfl (by decide) (by decide) rfl E_a2_24 e25 rfl pd_11 rfl (Nat.le_refl _) rfl (fun rv26 T26 L26 X26 Q26 => ?_)
      obtain ⟨q26, Nq26, e26⟩ := Q26
      have N26 := Fr.app N25 Nq26
      rw [Fle2_l0 ] at q26
      subst q26
      show Go p.tables e below _ (T26.setTop (mkF m 24 #[.val (.ref a1), .val (.ref a2), .val (.ref a3), .unset] [(.int (2 : Int32)), (.int (0 : Int32)), (.ref a2)]))
      refine g_callV (b := a2) (z := (⟨"java/lang/String", "codePointCount", "(II)I"⟩ : MethodName)) (y := (⟨"java/lang/String", "codePointCount", "(II)I"⟩ : MethodName)) (argsL := [(.int (0 : Int32)), (.int (2 : Int32))]) (st := []) (pc' := 27) C X26 d7_24 (hw _ (List.mem_of_getElem? (i := 55) rfl)) (hw _ (List.mem_of_getElem? (i := 56) rfl)) (notFace_of_selects (args := #[]) (mvT C.hZ (hw _ (List.mem_of_getElem? (i := 58) rfl)))) (hw _ (List.mem_of_getElem? (i := 58) rfl)) (hw _ (List.mem_of_getElem? (i := 57) rfl)) (hw _ (List.mem_of_getElem? (i := 6) rfl)) (hw _ (List.mem_of_getElem? (i := 59) rfl)) (by decide) (rmcp2 l Z a0 hw [] a2 v2 k2 ds2 cs h24 n0 S_cs_24 E_a2_24 Fc_a2_24 Fv_a2_24 V_v2_24 hcs) (W := 0) (by decide) (by decide) (ce := 4) (sl := 56) rfl rfl (by decide) (by decide) rfl E_a2_24 e26 rfl pd_15 rfl (Nat.le_refl _) rfl (fun rv27 T27 L27 X27 Q27 => ?_)
      obtain ⟨q27, Nq27, e27⟩ := Q27
      have N27 := Fr.app N26 Nq27
      rw [Fcp2_l0 ] at q27
      subst q27
      show Go p.tables e below _ (T27.setTop (mkF m 27 #[.val (.ref a1), .val (.ref a2), .val (.ref a3), .unset] [(.int (2 : Int32))]))
      refine g_istoreN (pc' := 28) (Ls' := #[.val (.ref a1), .val (.ref a2), .val (.ref a3), .val (.int (2 : Int32))]) C X27 d7_27 rfl rfl ?_
      refine g_iloadN (pc' := 29) C X27 d7_28 rfl rfl ?_
      refine g_iconst (pc' := 30) (v := (1 : Int32)) C X27 d7_29 rfl rfl ?_
      refine g_icmpN (pc' := 33) C X27 d7_30 (flt (show ¬ ((2 : Int32) < (1 : Int32)) from (by decide))).1 rfl ?_
      refine g_iloadN (pc' := 34) C X27 d7_33 rfl rfl ?_
      refine g_bipush (pc' := 36) (v := (50 : Int32)) C X27 d7_34 rfl rfl ?_
      refine g_icmpY (pc' := 53) C X27 d7_36 (flt (show ¬ ((50 : Int32) < (2 : Int32)) from (by decide))).2.2.2 (by decide) (by decide) ?_
      refine g_aloadN (pc' := 54) C X27 d7_53 rfl rfl rfl ?_
      refine g_callV (b := a3) (z := (⟨"java/lang/String", "isEmpty", "()Z"⟩ : MethodName)) (y := (⟨"java/lang/String", "isEmpty", "()Z"⟩ : MethodName)) (argsL := []) (st := []) (pc' := 57) C X27 d7_54 (hw _ (List.mem_of_getElem? (i := 73) rfl)) (hw _ (List.mem_of_getElem? (i := 74) rfl)) (notFace_of_selects (args := #[]) (mvT C.hZ (hw _ (List.mem_of_getElem? (i := 76) rfl)))) (hw _ (List.mem_of_getElem? (i := 76) rfl)) (hw _ (List.mem_of_getElem? (i := 75) rfl)) (hw _ (List.mem_of_getElem? (i := 6) rfl)) (hw _ (List.mem_of_getElem? (i := 77) rfl)) (by decide) (rmem1 l Z a0 hw [] a3 v3 k3 ds3 cs h24 n0 S_cs_24 E_a3_24 Fc_a3_24 Fv_a3_24 V_v3_24) (W := 0) (by decide) (by decide) (ce := 4) (sl := 56) rfl rfl (by decide) (by decide) rfl E_a3_24 e27 rfl pd_13 rfl (Nat.le_refl _) rfl (fun rv28 T28 L28 X28 Q28 => ?_)
      obtain ⟨q28, Nq28, e28⟩ := Q28
      have N28 := Fr.app N27 Nq28
      rw [Fem1_l0 ] at q28
      subst q28
      show Go p.tables e below _ (T28.setTop (mkF m 57 #[.val (.ref a1), .val (.ref a2), .val (.ref a3), .val (.int (2 : Int32))] [(.int (0 : Int32))]))
      refine g_ifY (pc' := 74) C X28 d7_57 (teq (show (0 : Int32) = (0 : Int32) from (by decide))).1 (by decide) (by decide) ?_
      refine g_aloadN (pc' := 75) C X28 d7_74 rfl rfl rfl ?_
      refine g_aloadN (pc' := 76) C X28 d7_75 rfl rfl rfl ?_
      refine g_putF (pc' := 79) C X28 d7_76 (host := "") (Or.inl (hw _ (List.mem_of_getElem? (i := 78) rfl))) Via.refl e28 F_text_a1_24 E_a1_24 (Or.inr ⟨(hw _ (List.mem_of_getElem? (i := 79) rfl)), rfl, rfl⟩) (hw _ (List.mem_of_getElem? (i := 31) rfl)) (ty := (.object "java/lang/String")) (by decide) rfl rfl rfl (fun T29 h29 X29 e29 W29 => ?_)
      have F29 := F_text_a1_24.same W29
      have S_cs_29 := S_cs_24.wr W29
      have E_a1_29 := E_a1_24.wr W29
      have F_category_a1_29 := F_category_a1_24.other W29 (Or.inr (slot_ne (Or.inr (hw _ (List.mem_of_getElem? (i := 81) rfl))) (Or.inr (hw _ (List.mem_of_getElem? (i := 79) rfl))) (by decide) (t := (.object "java/lang/String")) (t' := (.object "java/lang/String")) (by decide) (by decide)))
      have E_a2_29 := E_a2_24.wr W29
      have Fc_a2_29 := Fc_a2_24.other W29 (Or.inl nea2a1)
      have Fv_a2_29 := Fv_a2_24.other W29 (Or.inl nea2a1)
      have V_v2_29 := V_v2_24.other W29 nev2a1
      have E_a3_29 := E_a3_24.wr W29
      have Fc_a3_29 := Fc_a3_24.other W29 (Or.inl nea3a1)
      have Fv_a3_29 := Fv_a3_24.other W29 (Or.inl nea3a1)
      have V_v3_29 := V_v3_24.other W29 nev3a1
      have Z29 := Nat.le_trans Z24 (Nat.le_of_eq W29.size.symm)
      have Kz29 := Nat.le_trans Kz24 (Nat.le_of_eq W29.size.symm)
      have N29 := Fr.snoc X29 N28 gn_a1
      have K29 := K24.wr W29 (Or.inl (List.mem_of_getElem? (i := 0) rfl))
      refine g_aloadN (pc' := 80) C X29 d7_79 rfl rfl rfl ?_
      refine g_aloadN (pc' := 81) C X29 d7_80 rfl rfl rfl ?_
      refine g_putF (pc' := 84) C X29 d7_81 (host := "") (Or.inl (hw _ (List.mem_of_getElem? (i := 80) rfl))) Via.refl e29 F_category_a1_29 E_a1_29 (Or.inr ⟨(hw _ (List.mem_of_getElem? (i := 81) rfl)), rfl, rfl⟩) (hw _ (List.mem_of_getElem? (i := 31) rfl)) (ty := (.object "java/lang/String")) (by decide) rfl rfl rfl (fun T30 h30 X30 e30 W30 => ?_)
      have F30 := F_category_a1_29.same W30
      have S_cs_30 := S_cs_29.wr W30
      have E_a1_30 := E_a1_29.wr W30
      have E_a2_30 := E_a2_29.wr W30
      have Fc_a2_30 := Fc_a2_29.other W30 (Or.inl nea2a1)
      have Fv_a2_30 := Fv_a2_29.other W30 (Or.inl nea2a1)
      have V_v2_30 := V_v2_29.other W30 nev2a1
      have E_a3_30 := E_a3_29.wr W30
      have Fc_a3_30 := Fc_a3_29.other W30 (Or.inl nea3a1)
      have Fv_a3_30 := Fv_a3_29.other W30 (Or.inl nea3a1)
      have V_v3_30 := V_v3_29.other W30 nev3a1
      have F29_30 := F29.other W30 (Or.inr (slot_ne (Or.inr (hw _ (List.mem_of_getElem? (i := 79) rfl))) (Or.inr (hw _ (List.mem_of_getElem? (i := 81) rfl))) (by decide) (t := (.object "java/lang/String")) (t' := (.object "java/lang/String")) (by decide) (by decide)))
      have Z30 := Nat.le_trans Z29 (Nat.le_of_eq W30.size.symm)
      have Kz30 := Nat.le_trans Kz29 (Nat.le_of_eq W30.size.symm)
      have N30 := Fr.snoc X30 N29 gn_a1
      have K30 := K29.wr W30 (Or.inl (List.mem_of_getElem? (i := 0) rfl))
      exact g_retVW C X30 hS (by rw [e30]; exact Kz30) d7_84 (by decide) (by decide) ⟨rfl, N30, (by rw [e30]; exact K30), (by rw [e30]; exact E_a1_30), (by rw [e30]; exact F29_30), (by rw [e30]; exact F30)⟩
    · have _q := trivial
      refine g_aloadN (pc' := 1) C X0 d7_0 rfl rfl rfl ?_
      refine g_initO (W := 0) (pc' := 4) C X0 d7_1 (hw _ (List.mem_of_getElem? (i := 36) rfl)) (hw _ (List.mem_of_getElem? (i := 24) rfl)) (hw _ (List.mem_of_getElem? (i := 25) rfl)) e0 rfl (by decide) (Nat.le_refl _) (by decide) rfl (fun T31 X31 e31 => ?_)
      refine g_aloadN (pc' := 5) C X31 d7_4 rfl rfl rfl ?_
      refine g_ldcS (pc' := 7) (n := 16) C X31 hS (Nat.zero_le _) d7_5 (hw _ (List.mem_of_getElem? (i := 37) rfl)) (own_wS hw) e31 (by decide) (by decide) (ce := 2) (sl := 20) rfl rfl (by decide) (by decide) rfl (fun b32 T32 h32 ck32 C X32 e32 E32 hS Kz32 => ?_)
      have S_cs_32 := S_cs.ext E32
      have E_a1_32 := E_a1.ext E32
      have F_text_a1_32 := F_text_a1.ext E32
      have F_category_a1_32 := F_category_a1.ext E32
      have E_a2_32 := E_a2.ext E32
      have Fc_a2_32 := Fc_a2.ext E32
      have Fv_a2_32 := Fv_a2.ext E32
      have V_v2_32 := V_v2.ext E32
      have E_a3_32 := E_a3.ext E32
      have Fc_a3_32 := Fc_a3.ext E32
      have Fv_a3_32 := Fv_a3.ext E32
      have V_v3_32 := V_v3.ext E32
      have Z32 := Nat.le_trans Z0 E32.1
      have K32 := K0.ext E32
      refine g_callS (y := (⟨"java/util/Objects", "requireNonNull", "(Ljava/lang/Object;Ljava/lang/String;)Ljava/lang/Object;"⟩ : MethodName)) (argsL := [(.ref a2), (.ref b32)]) (st := []) (pc' := 10) C X32 d7_7 (hw _ (List.mem_of_getElem? (i := 40) rfl)) (hw _ (List.mem_of_getElem? (i := 41) rfl)) (hw _ (List.mem_of_getElem? (i := 42) rfl)) (hw _ (List.mem_of_getElem? (i := 43) rfl)) (by decide) (rmrn l Z a0 hw [] a2 b32 cs h32 n0 S_cs_32) (W := 0) (by decide) (by decide) (ce := 2) (sl := 20) rfl rfl (by decide) (by decide) rfl e32 rfl pd_14 rfl (Nat.le_refl _) rfl (fun rv33 T33 L33 X33 Q33 => ?_)
      obtain ⟨q33, Nq33, e33⟩ := Q33
      have N33 := Fr.app N0 Nq33
      rw [Frn_l0 a2] at q33
      subst q33
      show Go p.tables e below _ (T33.setTop (mkF m 10 #[.val (.ref a1), .val (.ref a2), .val (.ref a3), .unset] [(.ref a2)]))
      refine g_pop (pc' := 11) C X33 d7_10 rfl rfl ?_
      refine g_aloadN (pc' := 12) C X33 d7_11 rfl rfl rfl ?_
      refine g_ldcS (pc' := 14) (n := 32) C X33 hS Kz32 d7_12 (hw _ (List.mem_of_getElem? (i := 44) rfl)) (own_wS hw) e33 (by decide) (by decide) (ce := 4) (sl := 56) rfl rfl (by decide) (by decide) rfl (fun b34 T34 h34 ck34 C X34 e34 E34 hS Kz34 => ?_)
      have S_cs_34 := S_cs_32.ext E34
      have E_a1_34 := E_a1_32.ext E34
      have F_text_a1_34 := F_text_a1_32.ext E34
      have F_category_a1_34 := F_category_a1_32.ext E34
      have E_a2_34 := E_a2_32.ext E34
      have Fc_a2_34 := Fc_a2_32.ext E34
      have Fv_a2_34 := Fv_a2_32.ext E34
      have V_v2_34 := V_v2_32.ext E34
      have E_a3_34 := E_a3_32.ext E34
      have Fc_a3_34 := Fc_a3_32.ext E34
      have Fv_a3_34 := Fv_a3_32.ext E34
      have V_v3_34 := V_v3_32.ext E34
      have Z34 := Nat.le_trans Z32 E34.1
      have K34 := K32.ext E34
      refine g_callS (y := (⟨"java/util/Objects", "requireNonNull", "(Ljava/lang/Object;Ljava/lang/String;)Ljava/lang/Object;"⟩ : MethodName)) (argsL := [(.ref a3), (.ref b34)]) (st := []) (pc' := 17) C X34 d7_14 (hw _ (List.mem_of_getElem? (i := 40) rfl)) (hw _ (List.mem_of_getElem? (i := 41) rfl)) (hw _ (List.mem_of_getElem? (i := 42) rfl)) (hw _ (List.mem_of_getElem? (i := 43) rfl)) (by decide) (rmrn l Z a0 hw [] a3 b34 cs h34 n0 S_cs_34) (W := 0) (by decide) (by decide) (ce := 4) (sl := 56) rfl rfl (by decide) (by decide) rfl e34 rfl pd_14 rfl (Nat.le_refl _) rfl (fun rv35 T35 L35 X35 Q35 => ?_)
      obtain ⟨q35, Nq35, e35⟩ := Q35
      have N35 := Fr.app N33 Nq35
      rw [Frn_l0 a3] at q35
      subst q35
      show Go p.tables e below _ (T35.setTop (mkF m 17 #[.val (.ref a1), .val (.ref a2), .val (.ref a3), .unset] [(.ref a3)]))
      refine g_pop (pc' := 18) C X35 d7_17 rfl rfl ?_
      refine g_aloadN (pc' := 19) C X35 d7_18 rfl rfl rfl ?_
      refine g_iconst (pc' := 20) (v := (0 : Int32)) C X35 d7_19 rfl rfl ?_
      refine g_aloadN (pc' := 21) C X35 d7_20 rfl rfl rfl ?_
      refine g_callV (b := a2) (z := (⟨"java/lang/String", "length", "()I"⟩ : MethodName)) (y := (⟨"java/lang/String", "length", "()I"⟩ : MethodName)) (argsL := []) (st := [(.int (0 : Int32)), (.ref a2)]) (pc' := 24) C X35 d7_21 (hw _ (List.mem_of_getElem? (i := 45) rfl)) (hw _ (List.mem_of_getElem? (i := 46) rfl)) (notFace_of_selects (args := #[]) (mvT C.hZ (hw _ (List.mem_of_getElem? (i := 48) rfl)))) (hw _ (List.mem_of_getElem? (i := 48) rfl)) (hw _ (List.mem_of_getElem? (i := 47) rfl)) (hw _ (List.mem_of_getElem? (i := 6) rfl)) (hw _ (List.mem_of_getElem? (i := 49) rfl)) (by decide) (rmle2 l Z a0 hw [] a2 v2 k2 ds2 cs h34 n0 S_cs_34 E_a2_34 Fc_a2_34 Fv_a2_34 V_v2_34 hcs) (W := 2) (by decide) (by decide) (ce := 4) (sl := 56) rfl rfl (by decide) (by decide) rfl E_a2_34 e35 rfl pd_11 rfl (Nat.le_refl _) rfl (fun rv36 T36 L36 X36 Q36 => ?_)
      obtain ⟨q36, Nq36, e36⟩ := Q36
      have N36 := Fr.app N35 Nq36
      rw [Fle2_l0 ] at q36
      subst q36
      show Go p.tables e below _ (T36.setTop (mkF m 24 #[.val (.ref a1), .val (.ref a2), .val (.ref a3), .unset] [(.int (2 : Int32)), (.int (0 : Int32)), (.ref a2)]))
      refine g_callV (b := a2) (z := (⟨"java/lang/String", "codePointCount", "(II)I"⟩ : MethodName)) (y := (⟨"java/lang/String", "codePointCount", "(II)I"⟩ : MethodName)) (argsL := [(.int (0 : Int32)), (.int (2 : Int32))]) (st := []) (pc' := 27) C X36 d7_24 (hw _ (List.mem_of_getElem? (i := 55) rfl)) (hw _ (List.mem_of_getElem? (i := 56) rfl)) (notFace_of_selects (args := #[]) (mvT C.hZ (hw _ (List.mem_of_getElem? (i := 58) rfl)))) (hw _ (List.mem_of_getElem? (i := 58) rfl)) (hw _ (List.mem_of_getElem? (i := 57) rfl)) (hw _ (List.mem_of_getElem? (i := 6) rfl)) (hw _ (List.mem_of_getElem? (i := 59) rfl)) (by decide) (rmcp2 l Z a0 hw [] a2 v2 k2 ds2 cs h34 n0 S_cs_34 E_a2_34 Fc_a2_34 Fv_a2_34 V_v2_34 hcs) (W := 0) (by decide) (by decide) (ce := 4) (sl := 56) rfl rfl (by decide) (by decide) rfl E_a2_34 e36 rfl pd_15 rfl (Nat.le_refl _) rfl (fun rv37 T37 L37 X37 Q37 => ?_)
      obtain ⟨q37, Nq37, e37⟩ := Q37
      have N37 := Fr.app N36 Nq37
      rw [Fcp2_l0 ] at q37
      subst q37
      show Go p.tables e below _ (T37.setTop (mkF m 27 #[.val (.ref a1), .val (.ref a2), .val (.ref a3), .unset] [(.int (2 : Int32))]))
      refine g_istoreN (pc' := 28) (Ls' := #[.val (.ref a1), .val (.ref a2), .val (.ref a3), .val (.int (2 : Int32))]) C X37 d7_27 rfl rfl ?_
      refine g_iloadN (pc' := 29) C X37 d7_28 rfl rfl ?_
      refine g_iconst (pc' := 30) (v := (1 : Int32)) C X37 d7_29 rfl rfl ?_
      refine g_icmpN (pc' := 33) C X37 d7_30 (flt (show ¬ ((2 : Int32) < (1 : Int32)) from (by decide))).1 rfl ?_
      refine g_iloadN (pc' := 34) C X37 d7_33 rfl rfl ?_
      refine g_bipush (pc' := 36) (v := (50 : Int32)) C X37 d7_34 rfl rfl ?_
      refine g_icmpY (pc' := 53) C X37 d7_36 (flt (show ¬ ((50 : Int32) < (2 : Int32)) from (by decide))).2.2.2 (by decide) (by decide) ?_
      refine g_aloadN (pc' := 54) C X37 d7_53 rfl rfl rfl ?_
      refine g_callV (b := a3) (z := (⟨"java/lang/String", "isEmpty", "()Z"⟩ : MethodName)) (y := (⟨"java/lang/String", "isEmpty", "()Z"⟩ : MethodName)) (argsL := []) (st := []) (pc' := 57) C X37 d7_54 (hw _ (List.mem_of_getElem? (i := 73) rfl)) (hw _ (List.mem_of_getElem? (i := 74) rfl)) (notFace_of_selects (args := #[]) (mvT C.hZ (hw _ (List.mem_of_getElem? (i := 76) rfl)))) (hw _ (List.mem_of_getElem? (i := 76) rfl)) (hw _ (List.mem_of_getElem? (i := 75) rfl)) (hw _ (List.mem_of_getElem? (i := 6) rfl)) (hw _ (List.mem_of_getElem? (i := 77) rfl)) (by decide) (rmem2 l Z a0 hw [] a3 v3 k3 ds3 cs h34 n0 S_cs_34 E_a3_34 Fc_a3_34 Fv_a3_34 V_v3_34) (W := 0) (by decide) (by decide) (ce := 4) (sl := 56) rfl rfl (by decide) (by decide) rfl E_a3_34 e37 rfl pd_13 rfl (Nat.le_refl _) rfl (fun rv38 T38 L38 X38 Q38 => ?_)
      obtain ⟨q38, Nq38, e38⟩ := Q38
      have N38 := Fr.app N37 Nq38
      rw [Fem2_l0 ] at q38
      subst q38
      show Go p.tables e below _ (T38.setTop (mkF m 57 #[.val (.ref a1), .val (.ref a2), .val (.ref a3), .val (.int (2 : Int32))] [(.int (0 : Int32))]))
      refine g_ifY (pc' := 74) C X38 d7_57 (teq (show (0 : Int32) = (0 : Int32) from (by decide))).1 (by decide) (by decide) ?_
      refine g_aloadN (pc' := 75) C X38 d7_74 rfl rfl rfl ?_
      refine g_aloadN (pc' := 76) C X38 d7_75 rfl rfl rfl ?_
      refine g_putF (pc' := 79) C X38 d7_76 (host := "") (Or.inl (hw _ (List.mem_of_getElem? (i := 78) rfl))) Via.refl e38 F_text_a1_34 E_a1_34 (Or.inr ⟨(hw _ (List.mem_of_getElem? (i := 79) rfl)), rfl, rfl⟩) (hw _ (List.mem_of_getElem? (i := 31) rfl)) (ty := (.object "java/lang/String")) (by decide) rfl rfl rfl (fun T39 h39 X39 e39 W39 => ?_)
      have F39 := F_text_a1_34.same W39
      have S_cs_39 := S_cs_34.wr W39
      have E_a1_39 := E_a1_34.wr W39
      have F_category_a1_39 := F_category_a1_34.other W39 (Or.inr (slot_ne (Or.inr (hw _ (List.mem_of_getElem? (i := 81) rfl))) (Or.inr (hw _ (List.mem_of_getElem? (i := 79) rfl))) (by decide) (t := (.object "java/lang/String")) (t' := (.object "java/lang/String")) (by decide) (by decide)))
      have E_a2_39 := E_a2_34.wr W39
      have Fc_a2_39 := Fc_a2_34.other W39 (Or.inl nea2a1)
      have Fv_a2_39 := Fv_a2_34.other W39 (Or.inl nea2a1)
      have V_v2_39 := V_v2_34.other W39 nev2a1
      have E_a3_39 := E_a3_34.wr W39
      have Fc_a3_39 := Fc_a3_34.other W39 (Or.inl nea3a1)
      have Fv_a3_39 := Fv_a3_34.other W39 (Or.inl nea3a1)
      have V_v3_39 := V_v3_34.other W39 nev3a1
      have Z39 := Nat.le_trans Z34 (Nat.le_of_eq W39.size.symm)
      have Kz39 := Nat.le_trans Kz34 (Nat.le_of_eq W39.size.symm)
      have N39 := Fr.snoc X39 N38 gn_a1
      have K39 := K34.wr W39 (Or.inl (List.mem_of_getElem? (i := 0) rfl))
      refine g_aloadN (pc' := 80) C X39 d7_79 rfl rfl rfl ?_
      refine g_aloadN (pc' := 81) C X39 d7_80 rfl rfl rfl ?_
      refine g_putF (pc' := 84) C X39 d7_81 (host := "") (Or.inl (hw _ (List.mem_of_getElem? (i := 80) rfl))) Via.refl e39 F_category_a1_39 E_a1_39 (Or.inr ⟨(hw _ (List.mem_of_getElem? (i := 81) rfl)), rfl, rfl⟩) (hw _ (List.mem_of_getElem? (i := 31) rfl)) (ty := (.object "java/lang/String")) (by decide) rfl rfl rfl (fun T40 h40 X40 e40 W40 => ?_)
      have F40 := F_category_a1_39.same W40
      have S_cs_40 := S_cs_39.wr W40
      have E_a1_40 := E_a1_39.wr W40
      have E_a2_40 := E_a2_39.wr W40
      have Fc_a2_40 := Fc_a2_39.other W40 (Or.inl nea2a1)
      have Fv_a2_40 := Fv_a2_39.other W40 (Or.inl nea2a1)
      have V_v2_40 := V_v2_39.other W40 nev2a1
      have E_a3_40 := E_a3_39.wr W40
      have Fc_a3_40 := Fc_a3_39.other W40 (Or.inl nea3a1)
      have Fv_a3_40 := Fv_a3_39.other W40 (Or.inl nea3a1)
      have V_v3_40 := V_v3_39.other W40 nev3a1
      have F39_40 := F39.other W40 (Or.inr (slot_ne (Or.inr (hw _ (List.mem_of_getElem? (i := 79) rfl))) (Or.inr (hw _ (List.mem_of_getElem? (i := 81) rfl))) (by decide) (t := (.object "java/lang/String")) (t' := (.object "java/lang/String")) (by decide) (by decide)))
      have Z40 := Nat.le_trans Z39 (Nat.le_of_eq W40.size.symm)
      have Kz40 := Nat.le_trans Kz39 (Nat.le_of_eq W40.size.symm)
      have N40 := Fr.snoc X40 N39 gn_a1
      have K40 := K39.wr W40 (Or.inl (List.mem_of_getElem? (i := 0) rfl))
      exact g_retVW C X40 hS (by rw [e40]; exact Kz40) d7_84 (by decide) (by decide) ⟨rfl, N40, (by rw [e40]; exact K40), (by rw [e40]; exact E_a1_40), (by rw [e40]; exact F39_40), (by rw [e40]; exact F40)⟩
theorem d18_0 : decode jdk_43_method_13_code 0 = .ok (.aload_n 0, 1) := by decide +kernel
theorem d18_1 : decode jdk_43_method_13_code 1 = .ok (.arraylength, 1) := by decide +kernel
theorem d18_2 : decode jdk_43_method_13_code 2 = .ok (.aload_n 1, 1) := by decide +kernel
theorem d18_3 : decode jdk_43_method_13_code 3 = .ok (.arraylength, 1) := by decide +kernel
theorem d18_4 : decode jdk_43_method_13_code 4 = .ok (.if_icmp .ne 30, 3) := by decide +kernel
theorem d18_7 : decode jdk_43_method_13_code 7 = .ok (.iconst 0, 1) := by decide +kernel
theorem d18_8 : decode jdk_43_method_13_code 8 = .ok (.istore_n 2, 1) := by decide +kernel
theorem d18_9 : decode jdk_43_method_13_code 9 = .ok (.iload_n 2, 1) := by decide +kernel
theorem d18_10 : decode jdk_43_method_13_code 10 = .ok (.aload_n 0, 1) := by decide +kernel
theorem d18_11 : decode jdk_43_method_13_code 11 = .ok (.arraylength, 1) := by decide +kernel
theorem d18_12 : decode jdk_43_method_13_code 12 = .ok (.if_icmp .ge 20, 3) := by decide +kernel
theorem d18_15 : decode jdk_43_method_13_code 15 = .ok (.aload_n 0, 1) := by decide +kernel
theorem d18_16 : decode jdk_43_method_13_code 16 = .ok (.iload_n 2, 1) := by decide +kernel
theorem d18_17 : decode jdk_43_method_13_code 17 = .ok (.baload, 1) := by decide +kernel
theorem d18_18 : decode jdk_43_method_13_code 18 = .ok (.aload_n 1, 1) := by decide +kernel
theorem d18_19 : decode jdk_43_method_13_code 19 = .ok (.iload_n 2, 1) := by decide +kernel
theorem d18_20 : decode jdk_43_method_13_code 20 = .ok (.baload, 1) := by decide +kernel
theorem d18_21 : decode jdk_43_method_13_code 21 = .ok (.if_icmp .eq 5, 3) := by decide +kernel
theorem d18_26 : decode jdk_43_method_13_code 26 = .ok (.iinc 2 1, 3) := by decide +kernel
theorem d18_29 : decode jdk_43_method_13_code 29 = .ok (.goto (-20), 3) := by decide +kernel
theorem d18_32 : decode jdk_43_method_13_code 32 = .ok (.iconst 1, 1) := by decide +kernel
theorem d18_33 : decode jdk_43_method_13_code 33 = .ok (.ireturn, 1) := by decide +kernel
theorem d18_24 : decode jdk_43_method_13_code 24 = .ok (.iconst 0, 1) := by decide +kernel
theorem d18_25 : decode jdk_43_method_13_code 25 = .ok (.ireturn, 1) := by decide +kernel
theorem d18_34 : decode jdk_43_method_13_code 34 = .ok (.iconst 0, 1) := by decide +kernel
theorem d18_35 : decode jdk_43_method_13_code 35 = .ok (.ireturn, 1) := by decide +kernel
theorem ef_l1 (m : MethodId) (a1 : Addr) (a2 : Addr) : entryFrame m #[(.ref a1), (.ref a2)] 3 = mkF m 0 #[.val (.ref a1), .val (.ref a2), .unset] [] := by first | (simp [entryFrame, mkF, argsToLocals, Value.category]; done) | rfl
def Q_l1 (Z : State) (a1 : Addr) (a2 : Addr) (k1 : ClassId) (n1 : Int32) (ds1 : List Int32) (k2 : ClassId) (n2 : Int32) (ds2 : List Int32) (cs : Int32) (h0 : Heap) (n0 : Nat) (v : Option Value) (h : Heap) (L : List Loc) : Prop := v = some (.int (own_eq ds1 ds2)) ∧ Fr n0 L ∧ h = h0
set_option maxRecDepth 65536 in
set_option maxHeartbeats 40000000 in
theorem rml1 (l : Launch) (Z : State) (a0 : Array Value) (hw : ∀ d ∈ tables_1, d.before a0 Z = true) (ws : List Jvm.Cond) (a1 : Addr) (a2 : Addr) (k1 : ClassId) (n1 : Int32) (ds1 : List Int32) (k2 : ClassId) (n2 : Int32) (ds2 : List Int32) (cs : Int32) (h0 : Heap) (n0 : Nat) (hF : FX Z h0 cs) (V_1 : Arv Z h0 a1 k1 .byte n1 (own_vl ds1) (.int (0 : Int32))) (V_2 : Arv Z h0 a2 k2 .byte n2 (own_vl ds2) (.int (0 : Int32))) (sh1 : own_sh n1 ds1) (sh2 : own_sh n2 ds2) :
    MetFree l (⟨"java/lang/StringLatin1", "equals", "([B[B)Z"⟩ : MethodName) (head1 (Jvm.Cond.code (⟨"java/lang/StringLatin1", "equals", "([B[B)Z"⟩ : MethodName) jdk_43_method_13_code 3 (some .boolean) :: ws) ({ frames := 0, cells := 0, slots := 0, locals := 0 } : Room)) (fun a U => a = #[(.ref a1), (.ref a2)] ∧ Z.Warmed39 U.vm ∧ U.heap = h0) (fun _ _ _ _ _ => True) (fun _ U o U' => ∃ v L, o = .returned v ∧ Q_l1 Z a1 a2 k1 n1 ds1 k2 n2 ds2 cs h0 n0 v U'.heap L ∧ FrameEnd U o U' L ({ frames := 0, cells := 0, slots := 0, locals := 0 } : Room).cells ({ frames := 0, cells := 0, slots := 0, locals := 0 } : Room).slots) := by
  refine met_of (Ls := #[.val (.ref a1), .val (.ref a2), .unset]) (plainFor_of_name (by first | (simp [plainName, overriddenIn]; done) | decide +kernel)) (fun m => ef_l1 m a1 a2) ?_
  intro p e s m below meth c T0 C X0 e0
  have S_cs := hF
  have N0 := Fr.nil n0
  rcases sh1 with ⟨rfl, x0, rfl⟩ | ⟨rfl, x0, x1, rfl⟩
  · have V_1_1 : Arv Z h0 a1 k1 .byte (1 : Int32) [(.int x0)] (.int (0 : Int32)) := V_1
    rcases sh2 with ⟨rfl, y0, rfl⟩ | ⟨rfl, y0, y1, rfl⟩
    · have V_2_2 : Arv Z h0 a2 k2 .byte (1 : Int32) [(.int y0)] (.int (0 : Int32)) := V_2
      refine g_aloadN (pc' := 1) C X0 d18_0 rfl rfl rfl ?_
      refine g_len (pc' := 2) C X0 d18_1 e0 V_1_1 rfl ?_
      refine g_aloadN (pc' := 3) C X0 d18_2 rfl rfl rfl ?_
      refine g_len (pc' := 4) C X0 d18_3 e0 V_2_2 rfl ?_
      refine g_icmpN (pc' := 7) C X0 d18_4 (teq (show (1 : Int32) = (1 : Int32) from (by decide))).2 rfl ?_
      refine g_iconst (pc' := 8) (v := (0 : Int32)) C X0 d18_7 rfl rfl ?_
      refine g_istoreN (pc' := 9) (Ls' := #[.val (.ref a1), .val (.ref a2), .val (.int (0 : Int32))]) C X0 d18_8 rfl rfl ?_
      refine g_iloadN (pc' := 10) C X0 d18_9 rfl rfl ?_
      refine g_aloadN (pc' := 11) C X0 d18_10 rfl rfl rfl ?_
      refine g_len (pc' := 12) C X0 d18_11 e0 V_1_1 rfl ?_
      refine g_icmpN (pc' := 15) C X0 d18_12 (tlt (show (0 : Int32) < (1 : Int32) from (by decide))).2.1 rfl ?_
      refine g_aloadN (pc' := 16) C X0 d18_15 rfl rfl rfl ?_
      refine g_iloadN (pc' := 17) C X0 d18_16 rfl rfl ?_
      refine g_ldB (pc' := 18) (v := (.int x0)) C X0 d18_17 e0 V_1_1 ⟨by decide, by decide⟩ rfl rfl ?_
      refine g_aloadN (pc' := 19) C X0 d18_18 rfl rfl rfl ?_
      refine g_iloadN (pc' := 20) C X0 d18_19 rfl rfl ?_
      refine g_ldB (pc' := 21) (v := (.int y0)) C X0 d18_20 e0 V_2_2 ⟨by decide, by decide⟩ rfl rfl ?_
      by_cases c3 : x0 = y0
      · refine g_icmpY (pc' := 26) C X0 d18_21 (teq c3).1 (by decide) (by decide) ?_
        refine g_iinc (pc' := 29) (Ls' := #[.val (.ref a1), .val (.ref a2), .val (.int ((0 : Int32) + (1 : Int32)))]) C X0 d18_26 rfl rfl rfl ?_
        refine g_goto (pc' := 9) C X0 d18_29 (by decide) (by decide) ?_
        refine g_iloadN (pc' := 10) C X0 d18_9 rfl rfl ?_
        refine g_aloadN (pc' := 11) C X0 d18_10 rfl rfl rfl ?_
        refine g_len (pc' := 12) C X0 d18_11 e0 V_1_1 rfl ?_
        refine g_icmpY (pc' := 32) C X0 d18_12 (flt (show ¬ (((0 : Int32) + (1 : Int32)) < (1 : Int32)) from (by decide))).2.1 (by decide) (by decide) ?_
        refine g_iconst (pc' := 33) (v := (1 : Int32)) C X0 d18_32 rfl rfl ?_
        exact g_retN C X0 (by simp) d18_33 (by decide) (by decide) ⟨(congrArg (fun z => some (Value.int z)) (show (1 : Int32) = own_eq _ _ from by simp [own_eq, c3])), N0, e0⟩
      · refine g_icmpN (pc' := 24) C X0 d18_21 (feq c3).1 rfl ?_
        refine g_iconst (pc' := 25) (v := (0 : Int32)) C X0 d18_24 rfl rfl ?_
        exact g_retN C X0 (by simp) d18_25 (by decide) (by decide) ⟨(congrArg (fun z => some (Value.int z)) (show (0 : Int32) = own_eq _ _ from by simp [own_eq, c3])), N0, e0⟩
    · have V_2_4 : Arv Z h0 a2 k2 .byte (2 : Int32) [(.int y0), (.int y1)] (.int (0 : Int32)) := V_2
      refine g_aloadN (pc' := 1) C X0 d18_0 rfl rfl rfl ?_
      refine g_len (pc' := 2) C X0 d18_1 e0 V_1_1 rfl ?_
      refine g_aloadN (pc' := 3) C X0 d18_2 rfl rfl rfl ?_
      refine g_len (pc' := 4) C X0 d18_3 e0 V_2_4 rfl ?_
      refine g_icmpY (pc' := 34) C X0 d18_4 (feq (show ¬ ((1 : Int32) = (2 : Int32)) from (by decide))).2 (by decide) (by decide) ?_
      refine g_iconst (pc' := 35) (v := (0 : Int32)) C X0 d18_34 rfl rfl ?_
      exact g_retN C X0 (by simp) d18_35 (by decide) (by decide) ⟨(congrArg (fun z => some (Value.int z)) (show (0 : Int32) = own_eq _ _ from by simp [own_eq])), N0, e0⟩
  · have V_1_5 : Arv Z h0 a1 k1 .byte (2 : Int32) [(.int x0), (.int x1)] (.int (0 : Int32)) := V_1
    rcases sh2 with ⟨rfl, y0, rfl⟩ | ⟨rfl, y0, y1, rfl⟩
    · have V_2_6 : Arv Z h0 a2 k2 .byte (1 : Int32) [(.int y0)] (.int (0 : Int32)) := V_2
      refine g_aloadN (pc' := 1) C X0 d18_0 rfl rfl rfl ?_
      refine g_len (pc' := 2) C X0 d18_1 e0 V_1_5 rfl ?_
      refine g_aloadN (pc' := 3) C X0 d18_2 rfl rfl rfl ?_
      refine g_len (pc' := 4) C X0 d18_3 e0 V_2_6 rfl ?_
      refine g_icmpY (pc' := 34) C X0 d18_4 (feq (show ¬ ((2 : Int32) = (1 : Int32)) from (by decide))).2 (by decide) (by decide) ?_
      refine g_iconst (pc' := 35) (v := (0 : Int32)) C X0 d18_34 rfl rfl ?_
      exact g_retN C X0 (by simp) d18_35 (by decide) (by decide) ⟨(congrArg (fun z => some (Value.int z)) (show (0 : Int32) = own_eq _ _ from by simp [own_eq])), N0, e0⟩
    · have V_2_7 : Arv Z h0 a2 k2 .byte (2 : Int32) [(.int y0), (.int y1)] (.int (0 : Int32)) := V_2
      refine g_aloadN (pc' := 1) C X0 d18_0 rfl rfl rfl ?_
      refine g_len (pc' := 2) C X0 d18_1 e0 V_1_5 rfl ?_
      refine g_aloadN (pc' := 3) C X0 d18_2 rfl rfl rfl ?_
      refine g_len (pc' := 4) C X0 d18_3 e0 V_2_7 rfl ?_
      refine g_icmpN (pc' := 7) C X0 d18_4 (teq (show (2 : Int32) = (2 : Int32) from (by decide))).2 rfl ?_
      refine g_iconst (pc' := 8) (v := (0 : Int32)) C X0 d18_7 rfl rfl ?_
      refine g_istoreN (pc' := 9) (Ls' := #[.val (.ref a1), .val (.ref a2), .val (.int (0 : Int32))]) C X0 d18_8 rfl rfl ?_
      refine g_iloadN (pc' := 10) C X0 d18_9 rfl rfl ?_
      refine g_aloadN (pc' := 11) C X0 d18_10 rfl rfl rfl ?_
      refine g_len (pc' := 12) C X0 d18_11 e0 V_1_5 rfl ?_
      refine g_icmpN (pc' := 15) C X0 d18_12 (tlt (show (0 : Int32) < (2 : Int32) from (by decide))).2.1 rfl ?_
      refine g_aloadN (pc' := 16) C X0 d18_15 rfl rfl rfl ?_
      refine g_iloadN (pc' := 17) C X0 d18_16 rfl rfl ?_
      refine g_ldB (pc' := 18) (v := (.int x0)) C X0 d18_17 e0 V_1_5 ⟨by decide, by decide⟩ rfl rfl ?_
      refine g_aloadN (pc' := 19) C X0 d18_18 rfl rfl rfl ?_
      refine g_iloadN (pc' := 20) C X0 d18_19 rfl rfl ?_
      refine g_ldB (pc' := 21) (v := (.int y0)) C X0 d18_20 e0 V_2_7 ⟨by decide, by decide⟩ rfl rfl ?_
      by_cases c8 : x0 = y0
      · refine g_icmpY (pc' := 26) C X0 d18_21 (teq c8).1 (by decide) (by decide) ?_
        refine g_iinc (pc' := 29) (Ls' := #[.val (.ref a1), .val (.ref a2), .val (.int ((0 : Int32) + (1 : Int32)))]) C X0 d18_26 rfl rfl rfl ?_
        refine g_goto (pc' := 9) C X0 d18_29 (by decide) (by decide) ?_
        refine g_iloadN (pc' := 10) C X0 d18_9 rfl rfl ?_
        refine g_aloadN (pc' := 11) C X0 d18_10 rfl rfl rfl ?_
        refine g_len (pc' := 12) C X0 d18_11 e0 V_1_5 rfl ?_
        refine g_icmpN (pc' := 15) C X0 d18_12 (tlt (show ((0 : Int32) + (1 : Int32)) < (2 : Int32) from (by decide))).2.1 rfl ?_
        refine g_aloadN (pc' := 16) C X0 d18_15 rfl rfl rfl ?_
        refine g_iloadN (pc' := 17) C X0 d18_16 rfl rfl ?_
        refine g_ldB (pc' := 18) (v := (.int x1)) C X0 d18_17 e0 V_1_5 ⟨by decide, by decide⟩ rfl rfl ?_
        refine g_aloadN (pc' := 19) C X0 d18_18 rfl rfl rfl ?_
        refine g_iloadN (pc' := 20) C X0 d18_19 rfl rfl ?_
        refine g_ldB (pc' := 21) (v := (.int y1)) C X0 d18_20 e0 V_2_7 ⟨by decide, by decide⟩ rfl rfl ?_
        by_cases c9 : x1 = y1
        · refine g_icmpY (pc' := 26) C X0 d18_21 (teq c9).1 (by decide) (by decide) ?_
          refine g_iinc (pc' := 29) (Ls' := #[.val (.ref a1), .val (.ref a2), .val (.int (((0 : Int32) + (1 : Int32)) + (1 : Int32)))]) C X0 d18_26 rfl rfl rfl ?_
          refine g_goto (pc' := 9) C X0 d18_29 (by decide) (by decide) ?_
          refine g_iloadN (pc' := 10) C X0 d18_9 rfl rfl ?_
          refine g_aloadN (pc' := 11) C X0 d18_10 rfl rfl rfl ?_
          refine g_len (pc' := 12) C X0 d18_11 e0 V_1_5 rfl ?_
          refine g_icmpY (pc' := 32) C X0 d18_12 (flt (show ¬ ((((0 : Int32) + (1 : Int32)) + (1 : Int32)) < (2 : Int32)) from (by decide))).2.1 (by decide) (by decide) ?_
          refine g_iconst (pc' := 33) (v := (1 : Int32)) C X0 d18_32 rfl rfl ?_
          exact g_retN C X0 (by simp) d18_33 (by decide) (by decide) ⟨(congrArg (fun z => some (Value.int z)) (show (1 : Int32) = own_eq _ _ from by simp [own_eq, c8, c9])), N0, e0⟩
        · refine g_icmpN (pc' := 24) C X0 d18_21 (feq c9).1 rfl ?_
          refine g_iconst (pc' := 25) (v := (0 : Int32)) C X0 d18_24 rfl rfl ?_
          exact g_retN C X0 (by simp) d18_25 (by decide) (by decide) ⟨(congrArg (fun z => some (Value.int z)) (show (0 : Int32) = own_eq _ _ from by simp [own_eq, c8, c9])), N0, e0⟩
      · refine g_icmpN (pc' := 24) C X0 d18_21 (feq c8).1 rfl ?_
        refine g_iconst (pc' := 25) (v := (0 : Int32)) C X0 d18_24 rfl rfl ?_
        exact g_retN C X0 (by simp) d18_25 (by decide) (by decide) ⟨(congrArg (fun z => some (Value.int z)) (show (0 : Int32) = own_eq _ _ from by simp [own_eq, c8])), N0, e0⟩
theorem d17_0 : decode jdk_42_method_66_code 0 = .ok (.aload_n 0, 1) := by decide +kernel
theorem d17_1 : decode jdk_42_method_66_code 1 = .ok (.aload_n 1, 1) := by decide +kernel
theorem d17_2 : decode jdk_42_method_66_code 2 = .ok (.if_acmp .ne 5, 3) := by decide +kernel
theorem d17_7 : decode jdk_42_method_66_code 7 = .ok (.aload_n 1, 1) := by decide +kernel
theorem d17_8 : decode jdk_42_method_66_code 8 = .ok (.instanceof 10, 3) := by decide +kernel
theorem d17_11 : decode jdk_42_method_66_code 11 = .ok (.ifCond .eq 43, 3) := by decide +kernel
theorem d17_14 : decode jdk_42_method_66_code 14 = .ok (.aload_n 1, 1) := by decide +kernel
theorem d17_15 : decode jdk_42_method_66_code 15 = .ok (.checkcast 10, 3) := by decide +kernel
theorem d17_18 : decode jdk_42_method_66_code 18 = .ok (.astore_n 2, 1) := by decide +kernel
theorem d17_19 : decode jdk_42_method_66_code 19 = .ok (.getstatic 38, 3) := by decide +kernel
theorem d17_22 : decode jdk_42_method_66_code 22 = .ok (.ifCond .eq 14, 3) := by decide +kernel
theorem d17_25 : decode jdk_42_method_66_code 25 = .ok (.aload_n 0, 1) := by decide +kernel
theorem d17_26 : decode jdk_42_method_66_code 26 = .ok (.getfield 15, 3) := by decide +kernel
theorem d17_29 : decode jdk_42_method_66_code 29 = .ok (.aload_n 2, 1) := by decide +kernel
theorem d17_30 : decode jdk_42_method_66_code 30 = .ok (.getfield 15, 3) := by decide +kernel
theorem d17_33 : decode jdk_42_method_66_code 33 = .ok (.if_icmp .ne 21, 3) := by decide +kernel
theorem d17_36 : decode jdk_42_method_66_code 36 = .ok (.aload_n 0, 1) := by decide +kernel
theorem d17_37 : decode jdk_42_method_66_code 37 = .ok (.getfield 9, 3) := by decide +kernel
theorem d17_40 : decode jdk_42_method_66_code 40 = .ok (.aload_n 2, 1) := by decide +kernel
theorem d17_41 : decode jdk_42_method_66_code 41 = .ok (.getfield 9, 3) := by decide +kernel
theorem d17_44 : decode jdk_42_method_66_code 44 = .ok (.invokestatic 541, 3) := by decide +kernel
theorem pd_16 : parseMethodDescriptor "([B[B)Z" = some ⟨[(.array .byte), (.array .byte)], some .boolean⟩ := by decide +kernel
theorem d17_47 : decode jdk_42_method_66_code 47 = .ok (.ifCond .eq 7, 3) := by decide +kernel
theorem d17_54 : decode jdk_42_method_66_code 54 = .ok (.iconst 0, 1) := by decide +kernel
theorem d17_55 : decode jdk_42_method_66_code 55 = .ok (.ireturn, 1) := by decide +kernel
theorem d17_50 : decode jdk_42_method_66_code 50 = .ok (.iconst 1, 1) := by decide +kernel
theorem d17_51 : decode jdk_42_method_66_code 51 = .ok (.goto 4, 3) := by decide +kernel
def Fse (ds1 : List Int32) (ds2 : List Int32) : Int32 := (if (own_eq ds1 ds2) = (0 : Int32) then (0 : Int32) else (1 : Int32))
theorem Fse_l0 (ds1 : List Int32) (ds2 : List Int32) (h0 : (own_eq ds1 ds2) = (0 : Int32)) : Fse ds1 ds2 = (0 : Int32) := by
  unfold Fse; rw [if_pos h0]
theorem Fse_l1 (ds1 : List Int32) (ds2 : List Int32) (h0 : ¬ ((own_eq ds1 ds2) = (0 : Int32))) : Fse ds1 ds2 = (1 : Int32) := by
  unfold Fse; rw [if_neg h0]
theorem ef_se (m : MethodId) (a1 : Addr) (a2 : Addr) : entryFrame m #[(.ref a1), (.ref a2)] 3 = mkF m 0 #[.val (.ref a1), .val (.ref a2), .unset] [] := by first | (simp [entryFrame, mkF, argsToLocals, Value.category]; done) | rfl
def Q_se (Z : State) (a1 : Addr) (a2 : Addr) (v1 : Addr) (k1 : ClassId) (n1 : Int32) (ds1 : List Int32) (v2 : Addr) (k2 : ClassId) (n2 : Int32) (ds2 : List Int32) (cs : Int32) (h0 : Heap) (n0 : Nat) (v : Option Value) (h : Heap) (L : List Loc) : Prop := v = some (.int (Fse ds1 ds2)) ∧ Fr n0 L ∧ h = h0
set_option maxRecDepth 65536 in
set_option maxHeartbeats 40000000 in
theorem rmse (l : Launch) (Z : State) (a0 : Array Value) (hw : ∀ d ∈ tables_1, d.before a0 Z = true) (ws : List Jvm.Cond) (a1 : Addr) (a2 : Addr) (v1 : Addr) (k1 : ClassId) (n1 : Int32) (ds1 : List Int32) (v2 : Addr) (k2 : ClassId) (n2 : Int32) (ds2 : List Int32) (cs : Int32) (h0 : Heap) (n0 : Nat) (hF : FX Z h0 cs) (E_a1 : Exa Z h0 a1 "java/lang/String") (Fc_a1 : Fld Z h0 a1 "java/lang/String" "coder" "B" (.int (0 : Int32))) (Fv_a1 : Fld Z h0 a1 "java/lang/String" "value" "[B" (.ref v1)) (V_v1 : Arv Z h0 v1 k1 .byte n1 (own_vl ds1) (.int (0 : Int32))) (E_a2 : Exa Z h0 a2 "java/lang/String") (Fc_a2 : Fld Z h0 a2 "java/lang/String" "coder" "B" (.int (0 : Int32))) (Fv_a2 : Fld Z h0 a2 "java/lang/String" "value" "[B" (.ref v2)) (V_v2 : Arv Z h0 v2 k2 .byte n2 (own_vl ds2) (.int (0 : Int32))) (hcs : ¬ (cs = (0 : Int32))) (ne12 : ¬ (a1 = a2)) (sh1 : own_sh n1 ds1) (sh2 : own_sh n2 ds2) :
    MetFree l (⟨"java/lang/String", "equals", "(Ljava/lang/Object;)Z"⟩ : MethodName) (head1 (Jvm.Cond.code (⟨"java/lang/String", "equals", "(Ljava/lang/Object;)Z"⟩ : MethodName) jdk_42_method_66_code 3 (some .boolean) :: ws) ({ frames := 1, cells := 0, slots := 0, locals := 14 } : Room)) (fun a U => a = #[(.ref a1), (.ref a2)] ∧ Z.Warmed39 U.vm ∧ U.heap = h0) (fun _ _ _ _ _ => True) (fun _ U o U' => ∃ v L, o = .returned v ∧ Q_se Z a1 a2 v1 k1 n1 ds1 v2 k2 n2 ds2 cs h0 n0 v U'.heap L ∧ FrameEnd U o U' L ({ frames := 1, cells := 0, slots := 0, locals := 14 } : Room).cells ({ frames := 1, cells := 0, slots := 0, locals := 14 } : Room).slots) := by
  refine met_of (Ls := #[.val (.ref a1), .val (.ref a2), .unset]) (plainFor_of_name (by first | (simp [plainName, overriddenIn]; done) | decide +kernel)) (fun m => ef_se m a1 a2) ?_
  intro p e s m below meth c T0 C X0 e0
  have S_cs := hF
  have N0 := Fr.nil n0
  refine g_aloadN (pc' := 1) C X0 d17_0 rfl rfl rfl ?_
  refine g_aloadN (pc' := 2) C X0 d17_1 rfl rfl rfl ?_
  refine g_acmp (pc' := 7) (same := false) C X0 d17_2 rfl rfl (decide_eq_false fun q => ne12 (Value.ref.inj q)) (by decide) (by decide) ?_
  refine g_aloadN (pc' := 8) C X0 d17_7 rfl rfl rfl ?_
  refine g_instY (pc' := 11) C X0 d17_8 (hw _ (List.mem_of_getElem? (i := 13) rfl)) e0 (Ins.self E_a2) rfl (fun T1 X1 e1 => ?_)
  refine g_ifN (pc' := 14) C X1 d17_11 (feq (show ¬ ((1 : Int32) = (0 : Int32)) from (by decide))).1 rfl ?_
  refine g_aloadN (pc' := 15) C X1 d17_14 rfl rfl rfl ?_
  refine g_castY (pc' := 18) C X1 d17_15 (hw _ (List.mem_of_getElem? (i := 13) rfl)) e1 (Ins.self E_a2) rfl (fun T2 X2 e2 => ?_)
  refine g_astoreN (pc' := 19) (Ls' := #[.val (.ref a1), .val (.ref a2), .val (.ref a2)]) C X2 d17_18 rfl rfl rfl ?_
  refine g_getS (pc' := 22) C X2 d17_19 (host := "") (Or.inl (hw _ (List.mem_of_getElem? (i := 8) rfl))) Via.refl e2 S_cs rfl (fun T3 X3 e3 => ?_)
  refine g_ifN (pc' := 25) C X3 d17_22 (feq hcs).1 rfl ?_
  refine g_aloadN (pc' := 26) C X3 d17_25 rfl rfl rfl ?_
  refine g_getF (pc' := 29) C X3 d17_26 (host := "") (Or.inl (hw _ (List.mem_of_getElem? (i := 28) rfl))) Via.refl e3 Fc_a1 rfl (fun T4 X4 e4 => ?_)
  refine g_aloadN (pc' := 30) C X4 d17_29 rfl rfl rfl ?_
  refine g_getF (pc' := 33) C X4 d17_30 (host := "") (Or.inl (hw _ (List.mem_of_getElem? (i := 28) rfl))) Via.refl e4 Fc_a2 rfl (fun T5 X5 e5 => ?_)
  refine g_icmpN (pc' := 36) C X5 d17_33 (teq (show (0 : Int32) = (0 : Int32) from (by decide))).2 rfl ?_
  refine g_aloadN (pc' := 37) C X5 d17_36 rfl rfl rfl ?_
  refine g_getF (pc' := 40) C X5 d17_37 (host := "") (Or.inl (hw _ (List.mem_of_getElem? (i := 26) rfl))) Via.refl e5 Fv_a1 rfl (fun T6 X6 e6 => ?_)
  refine g_aloadN (pc' := 41) C X6 d17_40 rfl rfl rfl ?_
  refine g_getF (pc' := 44) C X6 d17_41 (host := "") (Or.inl (hw _ (List.mem_of_getElem? (i := 26) rfl))) Via.refl e6 Fv_a2 rfl (fun T7 X7 e7 => ?_)
  refine g_callS (y := (⟨"java/lang/StringLatin1", "equals", "([B[B)Z"⟩ : MethodName)) (argsL := [(.ref v1), (.ref v2)]) (st := []) (pc' := 47) C X7 d17_44 (hw _ (List.mem_of_getElem? (i := 94) rfl)) (hw _ (List.mem_of_getElem? (i := 95) rfl)) (hw _ (List.mem_of_getElem? (i := 11) rfl)) (hw _ (List.mem_of_getElem? (i := 96) rfl)) (by decide) (rml1 l Z a0 hw [] v1 v2 k1 n1 ds1 k2 n2 ds2 cs h0 n0 hF V_v1 V_v2 sh1 sh2) (W := 0) (by decide) (by decide) (ce := 0) (sl := 0) rfl rfl (by decide) (by decide) rfl e7 rfl pd_16 rfl (Nat.le_refl _) rfl (fun rv8 T8 L8 X8 Q8 => ?_)
  obtain ⟨q8, Nq8, e8⟩ := Q8
  have N8 := Fr.app N0 Nq8
  subst q8
  show Go p.tables e below _ (T8.setTop (mkF m 47 #[.val (.ref a1), .val (.ref a2), .val (.ref a2)] [(.int (own_eq ds1 ds2))]))
  by_cases c9 : (own_eq ds1 ds2) = (0 : Int32)
  · refine g_ifY (pc' := 54) C X8 d17_47 (teq c9).1 (by decide) (by decide) ?_
    refine g_iconst (pc' := 55) (v := (0 : Int32)) C X8 d17_54 rfl rfl ?_
    exact g_retN C X8 (by simp) d17_55 (by decide) (by decide) ⟨congrArg (fun z => some (Value.int z)) (Fse_l0 ds1 ds2 c9).symm, N8, e8⟩
  · refine g_ifN (pc' := 50) C X8 d17_47 (feq c9).1 rfl ?_
    refine g_iconst (pc' := 51) (v := (1 : Int32)) C X8 d17_50 rfl rfl ?_
    refine g_goto (pc' := 55) C X8 d17_51 (by decide) (by decide) ?_
    exact g_retN C X8 (by simp) d17_55 (by decide) (by decide) ⟨congrArg (fun z => some (Value.int z)) (Fse_l1 ds1 ds2 c9).symm, N8, e8⟩
theorem d17_5 : decode jdk_42_method_66_code 5 = .ok (.iconst 1, 1) := by decide +kernel
theorem d17_6 : decode jdk_42_method_66_code 6 = .ok (.ireturn, 1) := by decide +kernel
def Fss  : Int32 := (1 : Int32)
theorem Fss_l0   : Fss  = (1 : Int32) := rfl
theorem ef_ss (m : MethodId) (a1 : Addr) : entryFrame m #[(.ref a1), (.ref a1)] 3 = mkF m 0 #[.val (.ref a1), .val (.ref a1), .unset] [] := by first | (simp [entryFrame, mkF, argsToLocals, Value.category]; done) | rfl
def Q_ss (Z : State) (a1 : Addr) (cs : Int32) (h0 : Heap) (n0 : Nat) (v : Option Value) (h : Heap) (L : List Loc) : Prop := v = some (.int (Fss )) ∧ Fr n0 L ∧ h = h0
set_option maxRecDepth 65536 in
set_option maxHeartbeats 40000000 in
theorem rmss (l : Launch) (Z : State) (a0 : Array Value) (hw : ∀ d ∈ tables_1, d.before a0 Z = true) (ws : List Jvm.Cond) (a1 : Addr) (cs : Int32) (h0 : Heap) (n0 : Nat) (hF : FX Z h0 cs) :
    MetFree l (⟨"java/lang/String", "equals", "(Ljava/lang/Object;)Z"⟩ : MethodName) (head1 (Jvm.Cond.code (⟨"java/lang/String", "equals", "(Ljava/lang/Object;)Z"⟩ : MethodName) jdk_42_method_66_code 3 (some .boolean) :: ws) ({ frames := 0, cells := 0, slots := 0, locals := 0 } : Room)) (fun a U => a = #[(.ref a1), (.ref a1)] ∧ Z.Warmed39 U.vm ∧ U.heap = h0) (fun _ _ _ _ _ => True) (fun _ U o U' => ∃ v L, o = .returned v ∧ Q_ss Z a1 cs h0 n0 v U'.heap L ∧ FrameEnd U o U' L ({ frames := 0, cells := 0, slots := 0, locals := 0 } : Room).cells ({ frames := 0, cells := 0, slots := 0, locals := 0 } : Room).slots) := by
  refine met_of (Ls := #[.val (.ref a1), .val (.ref a1), .unset]) (plainFor_of_name (by first | (simp [plainName, overriddenIn]; done) | decide +kernel)) (fun m => ef_ss m a1) ?_
  intro p e s m below meth c T0 C X0 e0
  have S_cs := hF
  have N0 := Fr.nil n0
  refine g_aloadN (pc' := 1) C X0 d17_0 rfl rfl rfl ?_
  refine g_aloadN (pc' := 2) C X0 d17_1 rfl rfl rfl ?_
  refine g_acmp (pc' := 5) (same := true) C X0 d17_2 rfl rfl (decide_eq_true rfl) (by decide) (by decide) ?_
  refine g_iconst (pc' := 6) (v := (1 : Int32)) C X0 d17_5 rfl rfl ?_
  exact g_retN C X0 (by simp) d17_6 (by decide) (by decide) ⟨congrArg (fun z => some (Value.int z)) (Fss_l0  ).symm, N0, e0⟩
theorem d16_0 : decode prog_19_method_4_code 0 = .ok (.aload_n 1, 1) := by decide +kernel
theorem d16_1 : decode prog_19_method_4_code 1 = .ok (.instanceof 27, 3) := by decide +kernel
theorem d16_4 : decode prog_19_method_4_code 4 = .ok (.ifCond .eq 40, 3) := by decide +kernel
theorem d16_7 : decode prog_19_method_4_code 7 = .ok (.aload_n 1, 1) := by decide +kernel
theorem d16_8 : decode prog_19_method_4_code 8 = .ok (.checkcast 27, 3) := by decide +kernel
theorem d16_11 : decode prog_19_method_4_code 11 = .ok (.astore_n 2, 1) := by decide +kernel
theorem d16_12 : decode prog_19_method_4_code 12 = .ok (.aload_n 0, 1) := by decide +kernel
theorem d16_13 : decode prog_19_method_4_code 13 = .ok (.getfield 45, 3) := by decide +kernel
theorem d16_16 : decode prog_19_method_4_code 16 = .ok (.aload_n 2, 1) := by decide +kernel
theorem d16_17 : decode prog_19_method_4_code 17 = .ok (.getfield 45, 3) := by decide +kernel
theorem d16_20 : decode prog_19_method_4_code 20 = .ok (.invokevirtual 50, 3) := by decide +kernel
theorem pd_17 : parseMethodDescriptor "(Ljava/lang/Object;)Z" = some ⟨[(.object "java/lang/Object")], some .boolean⟩ := by decide +kernel
theorem d16_23 : decode prog_19_method_4_code 23 = .ok (.ifCond .eq 21, 3) := by decide +kernel
theorem d16_44 : decode prog_19_method_4_code 44 = .ok (.iconst 0, 1) := by decide +kernel
theorem d16_45 : decode prog_19_method_4_code 45 = .ok (.ireturn, 1) := by decide +kernel
theorem d16_26 : decode prog_19_method_4_code 26 = .ok (.aload_n 0, 1) := by decide +kernel
theorem d16_27 : decode prog_19_method_4_code 27 = .ok (.getfield 48, 3) := by decide +kernel
theorem d16_30 : decode prog_19_method_4_code 30 = .ok (.aload_n 2, 1) := by decide +kernel
theorem d16_31 : decode prog_19_method_4_code 31 = .ok (.getfield 48, 3) := by decide +kernel
theorem d16_34 : decode prog_19_method_4_code 34 = .ok (.invokevirtual 50, 3) := by decide +kernel
theorem d16_37 : decode prog_19_method_4_code 37 = .ok (.ifCond .eq 7, 3) := by decide +kernel
theorem d16_40 : decode prog_19_method_4_code 40 = .ok (.iconst 1, 1) := by decide +kernel
theorem d16_41 : decode prog_19_method_4_code 41 = .ok (.goto 4, 3) := by decide +kernel
def Fkd (ds1 : List Int32) (ds2 : List Int32) (ds3 : List Int32) (ds4 : List Int32) : Int32 := (if (Fse ds1 ds3) = (0 : Int32) then (0 : Int32) else (if (Fse ds2 ds4) = (0 : Int32) then (0 : Int32) else (1 : Int32)))
theorem Fkd_l0 (ds1 : List Int32) (ds2 : List Int32) (ds3 : List Int32) (ds4 : List Int32) (h0 : (Fse ds1 ds3) = (0 : Int32)) : Fkd ds1 ds2 ds3 ds4 = (0 : Int32) := by
  unfold Fkd; rw [if_pos h0]
theorem Fkd_l1 (ds1 : List Int32) (ds2 : List Int32) (ds3 : List Int32) (ds4 : List Int32) (h0 : ¬ ((Fse ds1 ds3) = (0 : Int32))) (h1 : (Fse ds2 ds4) = (0 : Int32)) : Fkd ds1 ds2 ds3 ds4 = (0 : Int32) := by
  unfold Fkd; rw [if_neg h0, if_pos h1]
theorem Fkd_l2 (ds1 : List Int32) (ds2 : List Int32) (ds3 : List Int32) (ds4 : List Int32) (h0 : ¬ ((Fse ds1 ds3) = (0 : Int32))) (h1 : ¬ ((Fse ds2 ds4) = (0 : Int32))) : Fkd ds1 ds2 ds3 ds4 = (1 : Int32) := by
  unfold Fkd; rw [if_neg h0, if_neg h1]
theorem ef_kd (m : MethodId) (a1 : Addr) (a2 : Addr) : entryFrame m #[(.ref a1), (.ref a2)] 3 = mkF m 0 #[.val (.ref a1), .val (.ref a2), .unset] [] := by first | (simp [entryFrame, mkF, argsToLocals, Value.category]; done) | rfl
def Q_kd (Z : State) (a1 : Addr) (a2 : Addr) (t1 : Addr) (t2 : Addr) (t3 : Addr) (t4 : Addr) (v1 : Addr) (k1 : ClassId) (n1 : Int32) (ds1 : List Int32) (v2 : Addr) (k2 : ClassId) (n2 : Int32) (ds2 : List Int32) (v3 : Addr) (k3 : ClassId) (n3 : Int32) (ds3 : List Int32) (v4 : Addr) (k4 : ClassId) (n4 : Int32) (ds4 : List Int32) (cs : Int32) (h0 : Heap) (n0 : Nat) (v : Option Value) (h : Heap) (L : List Loc) : Prop := v = some (.int (Fkd ds1 ds2 ds3 ds4)) ∧ Fr n0 L ∧ h = h0
set_option maxRecDepth 65536 in
set_option maxHeartbeats 40000000 in
theorem rmkd (l : Launch) (Z : State) (a0 : Array Value) (hw : ∀ d ∈ tables_1, d.before a0 Z = true) (ws : List Jvm.Cond) (a1 : Addr) (a2 : Addr) (t1 : Addr) (t2 : Addr) (t3 : Addr) (t4 : Addr) (v1 : Addr) (k1 : ClassId) (n1 : Int32) (ds1 : List Int32) (v2 : Addr) (k2 : ClassId) (n2 : Int32) (ds2 : List Int32) (v3 : Addr) (k3 : ClassId) (n3 : Int32) (ds3 : List Int32) (v4 : Addr) (k4 : ClassId) (n4 : Int32) (ds4 : List Int32) (cs : Int32) (h0 : Heap) (n0 : Nat) (hF : FX Z h0 cs) (E_a1 : Exa Z h0 a1 "com/example/wenshai/wenshai/model/Keyword") (F_text_a1 : Fld Z h0 a1 "com/example/wenshai/wenshai/model/Keyword" "text" "Ljava/lang/String;" (.ref t1)) (F_category_a1 : Fld Z h0 a1 "com/example/wenshai/wenshai/model/Keyword" "category" "Ljava/lang/String;" (.ref t2)) (E_a2 : Exa Z h0 a2 "com/example/wenshai/wenshai/model/Keyword") (F_text_a2 : Fld Z h0 a2 "com/example/wenshai/wenshai/model/Keyword" "text" "Ljava/lang/String;" (.ref t3)) (F_category_a2 : Fld Z h0 a2 "com/example/wenshai/wenshai/model/Keyword" "category" "Ljava/lang/String;" (.ref t4)) (E_t1 : Exa Z h0 t1 "java/lang/String") (Fc_t1 : Fld Z h0 t1 "java/lang/String" "coder" "B" (.int (0 : Int32))) (Fv_t1 : Fld Z h0 t1 "java/lang/String" "value" "[B" (.ref v1)) (V_v1 : Arv Z h0 v1 k1 .byte n1 (own_vl ds1) (.int (0 : Int32))) (E_t2 : Exa Z h0 t2 "java/lang/String") (Fc_t2 : Fld Z h0 t2 "java/lang/String" "coder" "B" (.int (0 : Int32))) (Fv_t2 : Fld Z h0 t2 "java/lang/String" "value" "[B" (.ref v2)) (V_v2 : Arv Z h0 v2 k2 .byte n2 (own_vl ds2) (.int (0 : Int32))) (E_t3 : Exa Z h0 t3 "java/lang/String") (Fc_t3 : Fld Z h0 t3 "java/lang/String" "coder" "B" (.int (0 : Int32))) (Fv_t3 : Fld Z h0 t3 "java/lang/String" "value" "[B" (.ref v3)) (V_v3 : Arv Z h0 v3 k3 .byte n3 (own_vl ds3) (.int (0 : Int32))) (E_t4 : Exa Z h0 t4 "java/lang/String") (Fc_t4 : Fld Z h0 t4 "java/lang/String" "coder" "B" (.int (0 : Int32))) (Fv_t4 : Fld Z h0 t4 "java/lang/String" "value" "[B" (.ref v4)) (V_v4 : Arv Z h0 v4 k4 .byte n4 (own_vl ds4) (.int (0 : Int32))) (hcs : ¬ (cs = (0 : Int32))) (ne13 : ¬ (t1 = t3)) (ne24 : ¬ (t2 = t4)) (sh1 : own_sh n1 ds1) (sh2 : own_sh n2 ds2) (sh3 : own_sh n3 ds3) (sh4 : own_sh n4 ds4) :
    MetFree l (⟨"com/example/wenshai/wenshai/model/Keyword", "equals", "(Ljava/lang/Object;)Z"⟩ : MethodName) (head1 (Jvm.Cond.code (⟨"com/example/wenshai/wenshai/model/Keyword", "equals", "(Ljava/lang/Object;)Z"⟩ : MethodName) prog_19_method_4_code 3 (some .boolean) :: ws) ({ frames := 2, cells := 0, slots := 0, locals := 28 } : Room)) (fun a U => a = #[(.ref a1), (.ref a2)] ∧ Z.Warmed39 U.vm ∧ U.heap = h0) (fun _ _ _ _ _ => True) (fun _ U o U' => ∃ v L, o = .returned v ∧ Q_kd Z a1 a2 t1 t2 t3 t4 v1 k1 n1 ds1 v2 k2 n2 ds2 v3 k3 n3 ds3 v4 k4 n4 ds4 cs h0 n0 v U'.heap L ∧ FrameEnd U o U' L ({ frames := 2, cells := 0, slots := 0, locals := 28 } : Room).cells ({ frames := 2, cells := 0, slots := 0, locals := 28 } : Room).slots) := by
  refine met_of (Ls := #[.val (.ref a1), .val (.ref a2), .unset]) (plainFor_of_name (by first | (simp [plainName, overriddenIn]; done) | decide +kernel)) (fun m => ef_kd m a1 a2) ?_
  intro p e s m below meth c T0 C X0 e0
  have S_cs := hF
  have N0 := Fr.nil n0
  refine g_aloadN (pc' := 1) C X0 d16_0 rfl rfl rfl ?_
  refine g_instY (pc' := 4) C X0 d16_1 (hw _ (List.mem_of_getElem? (i := 87) rfl)) e0 (Ins.self E_a2) rfl (fun T1 X1 e1 => ?_)
  refine g_ifN (pc' := 7) C X1 d16_4 (feq (show ¬ ((1 : Int32) = (0 : Int32)) from (by decide))).1 rfl ?_
  refine g_aloadN (pc' := 8) C X1 d16_7 rfl rfl rfl ?_
  refine g_castY (pc' := 11) C X1 d16_8 (hw _ (List.mem_of_getElem? (i := 87) rfl)) e1 (Ins.self E_a2) rfl (fun T2 X2 e2 => ?_)
  refine g_astoreN (pc' := 12) (Ls' := #[.val (.ref a1), .val (.ref a2), .val (.ref a2)]) C X2 d16_11 rfl rfl rfl ?_
  refine g_aloadN (pc' := 13) C X2 d16_12 rfl rfl rfl ?_
  refine g_getF (pc' := 16) C X2 d16_13 (host := "") (Or.inl (hw _ (List.mem_of_getElem? (i := 78) rfl))) Via.refl e2 F_text_a1 rfl (fun T3 X3 e3 => ?_)
  refine g_aloadN (pc' := 17) C X3 d16_16 rfl rfl rfl ?_
  refine g_getF (pc' := 20) C X3 d16_17 (host := "") (Or.inl (hw _ (List.mem_of_getElem? (i := 78) rfl))) Via.refl e3 F_text_a2 rfl (fun T4 X4 e4 => ?_)
  refine g_callV (b := t1) (z := (⟨"java/lang/String", "equals", "(Ljava/lang/Object;)Z"⟩ : MethodName)) (y := (⟨"java/lang/String", "equals", "(Ljava/lang/Object;)Z"⟩ : MethodName)) (argsL := [(.ref t3)]) (st := []) (pc' := 23) C X4 d16_20 (hw _ (List.mem_of_getElem? (i := 89) rfl)) (hw _ (List.mem_of_getElem? (i := 90) rfl)) (notFace_of_selects (args := #[]) (mvT C.hZ (hw _ (List.mem_of_getElem? (i := 92) rfl)))) (hw _ (List.mem_of_getElem? (i := 92) rfl)) (hw _ (List.mem_of_getElem? (i := 91) rfl)) (hw _ (List.mem_of_getElem? (i := 6) rfl)) (hw _ (List.mem_of_getElem? (i := 93) rfl)) (by decide) (rmse l Z a0 hw [] t1 t3 v1 k1 n1 ds1 v3 k3 n3 ds3 cs h0 n0 hF E_t1 Fc_t1 Fv_t1 V_v1 E_t3 Fc_t3 Fv_t3 V_v3 hcs ne13 sh1 sh3) (W := 0) (by decide) (by decide) (ce := 0) (sl := 0) rfl rfl (by decide) (by decide) rfl E_t1 e4 rfl pd_17 rfl (Nat.le_refl _) rfl (fun rv5 T5 L5 X5 Q5 => ?_)
  obtain ⟨q5, Nq5, e5⟩ := Q5
  have N5 := Fr.app N0 Nq5
  subst q5
  show Go p.tables e below _ (T5.setTop (mkF m 23 #[.val (.ref a1), .val (.ref a2), .val (.ref a2)] [(.int (Fse ds1 ds3))]))
  by_cases c6 : (Fse ds1 ds3) = (0 : Int32)
  · refine g_ifY (pc' := 44) C X5 d16_23 (teq c6).1 (by decide) (by decide) ?_
    refine g_iconst (pc' := 45) (v := (0 : Int32)) C X5 d16_44 rfl rfl ?_
    exact g_retN C X5 (by simp) d16_45 (by decide) (by decide) ⟨congrArg (fun z => some (Value.int z)) (Fkd_l0 ds1 ds2 ds3 ds4 c6).symm, N5, e5⟩
  · refine g_ifN (pc' := 26) C X5 d16_23 (feq c6).1 rfl ?_
    refine g_aloadN (pc' := 27) C X5 d16_26 rfl rfl rfl ?_
    refine g_getF (pc' := 30) C X5 d16_27 (host := "") (Or.inl (hw _ (List.mem_of_getElem? (i := 80) rfl))) Via.refl e5 F_category_a1 rfl (fun T7 X7 e7 => ?_)
    refine g_aloadN (pc' := 31) C X7 d16_30 rfl rfl rfl ?_
    refine g_getF (pc' := 34) C X7 d16_31 (host := "") (Or.inl (hw _ (List.mem_of_getElem? (i := 80) rfl))) Via.refl e7 F_category_a2 rfl (fun T8 X8 e8 => ?_)
    refine g_callV (b := t2) (z := (⟨"java/lang/String", "equals", "(Ljava/lang/Object;)Z"⟩ : MethodName)) (y := (⟨"java/lang/String", "equals", "(Ljava/lang/Object;)Z"⟩ : MethodName)) (argsL := [(.ref t4)]) (st := []) (pc' := 37) C X8 d16_34 (hw _ (List.mem_of_getElem? (i := 89) rfl)) (hw _ (List.mem_of_getElem? (i := 90) rfl)) (notFace_of_selects (args := #[]) (mvT C.hZ (hw _ (List.mem_of_getElem? (i := 92) rfl)))) (hw _ (List.mem_of_getElem? (i := 92) rfl)) (hw _ (List.mem_of_getElem? (i := 91) rfl)) (hw _ (List.mem_of_getElem? (i := 6) rfl)) (hw _ (List.mem_of_getElem? (i := 93) rfl)) (by decide) (rmse l Z a0 hw [] t2 t4 v2 k2 n2 ds2 v4 k4 n4 ds4 cs h0 n0 hF E_t2 Fc_t2 Fv_t2 V_v2 E_t4 Fc_t4 Fv_t4 V_v4 hcs ne24 sh2 sh4) (W := 0) (by decide) (by decide) (ce := 0) (sl := 0) rfl rfl (by decide) (by decide) rfl E_t2 e8 rfl pd_17 rfl (Nat.le_refl _) rfl (fun rv9 T9 L9 X9 Q9 => ?_)
    obtain ⟨q9, Nq9, e9⟩ := Q9
    have N9 := Fr.app N5 Nq9
    subst q9
    show Go p.tables e below _ (T9.setTop (mkF m 37 #[.val (.ref a1), .val (.ref a2), .val (.ref a2)] [(.int (Fse ds2 ds4))]))
    by_cases c10 : (Fse ds2 ds4) = (0 : Int32)
    · refine g_ifY (pc' := 44) C X9 d16_37 (teq c10).1 (by decide) (by decide) ?_
      refine g_iconst (pc' := 45) (v := (0 : Int32)) C X9 d16_44 rfl rfl ?_
      exact g_retN C X9 (by simp) d16_45 (by decide) (by decide) ⟨congrArg (fun z => some (Value.int z)) (Fkd_l1 ds1 ds2 ds3 ds4 c6 c10).symm, N9, e9⟩
    · refine g_ifN (pc' := 40) C X9 d16_37 (feq c10).1 rfl ?_
      refine g_iconst (pc' := 41) (v := (1 : Int32)) C X9 d16_40 rfl rfl ?_
      refine g_goto (pc' := 45) C X9 d16_41 (by decide) (by decide) ?_
      exact g_retN C X9 (by simp) d16_45 (by decide) (by decide) ⟨congrArg (fun z => some (Value.int z)) (Fkd_l2 ds1 ds2 ds3 ds4 c6 c10).symm, N9, e9⟩
def Fks  : Int32 := (1 : Int32)
theorem Fks_l0   : Fks  = (1 : Int32) := rfl
theorem ef_ks (m : MethodId) (a1 : Addr) : entryFrame m #[(.ref a1), (.ref a1)] 3 = mkF m 0 #[.val (.ref a1), .val (.ref a1), .unset] [] := by first | (simp [entryFrame, mkF, argsToLocals, Value.category]; done) | rfl
def Q_ks (Z : State) (a1 : Addr) (t1 : Addr) (t2 : Addr) (v1 : Addr) (k1 : ClassId) (n1 : Int32) (ds1 : List Int32) (v2 : Addr) (k2 : ClassId) (n2 : Int32) (ds2 : List Int32) (cs : Int32) (h0 : Heap) (n0 : Nat) (v : Option Value) (h : Heap) (L : List Loc) : Prop := v = some (.int (Fks )) ∧ Fr n0 L ∧ h = h0
set_option maxRecDepth 65536 in
set_option maxHeartbeats 40000000 in
theorem rmks (l : Launch) (Z : State) (a0 : Array Value) (hw : ∀ d ∈ tables_1, d.before a0 Z = true) (ws : List Jvm.Cond) (a1 : Addr) (t1 : Addr) (t2 : Addr) (v1 : Addr) (k1 : ClassId) (n1 : Int32) (ds1 : List Int32) (v2 : Addr) (k2 : ClassId) (n2 : Int32) (ds2 : List Int32) (cs : Int32) (h0 : Heap) (n0 : Nat) (hF : FX Z h0 cs) (E_a1 : Exa Z h0 a1 "com/example/wenshai/wenshai/model/Keyword") (F_text_a1 : Fld Z h0 a1 "com/example/wenshai/wenshai/model/Keyword" "text" "Ljava/lang/String;" (.ref t1)) (F_category_a1 : Fld Z h0 a1 "com/example/wenshai/wenshai/model/Keyword" "category" "Ljava/lang/String;" (.ref t2)) (E_t1 : Exa Z h0 t1 "java/lang/String") (Fc_t1 : Fld Z h0 t1 "java/lang/String" "coder" "B" (.int (0 : Int32))) (Fv_t1 : Fld Z h0 t1 "java/lang/String" "value" "[B" (.ref v1)) (V_v1 : Arv Z h0 v1 k1 .byte n1 (own_vl ds1) (.int (0 : Int32))) (E_t2 : Exa Z h0 t2 "java/lang/String") (Fc_t2 : Fld Z h0 t2 "java/lang/String" "coder" "B" (.int (0 : Int32))) (Fv_t2 : Fld Z h0 t2 "java/lang/String" "value" "[B" (.ref v2)) (V_v2 : Arv Z h0 v2 k2 .byte n2 (own_vl ds2) (.int (0 : Int32))) :
    MetFree l (⟨"com/example/wenshai/wenshai/model/Keyword", "equals", "(Ljava/lang/Object;)Z"⟩ : MethodName) (head1 (Jvm.Cond.code (⟨"com/example/wenshai/wenshai/model/Keyword", "equals", "(Ljava/lang/Object;)Z"⟩ : MethodName) prog_19_method_4_code 3 (some .boolean) :: ws) ({ frames := 1, cells := 0, slots := 0, locals := 14 } : Room)) (fun a U => a = #[(.ref a1), (.ref a1)] ∧ Z.Warmed39 U.vm ∧ U.heap = h0) (fun _ _ _ _ _ => True) (fun _ U o U' => ∃ v L, o = .returned v ∧ Q_ks Z a1 t1 t2 v1 k1 n1 ds1 v2 k2 n2 ds2 cs h0 n0 v U'.heap L ∧ FrameEnd U o U' L ({ frames := 1, cells := 0, slots := 0, locals := 14 } : Room).cells ({ frames := 1, cells := 0, slots := 0, locals := 14 } : Room).slots) := by
  refine met_of (Ls := #[.val (.ref a1), .val (.ref a1), .unset]) (plainFor_of_name (by first | (simp [plainName, overriddenIn]; done) | decide +kernel)) (fun m => ef_ks m a1) ?_
  intro p e s m below meth c T0 C X0 e0
  have S_cs := hF
  have N0 := Fr.nil n0
  refine g_aloadN (pc' := 1) C X0 d16_0 rfl rfl rfl ?_
  refine g_instY (pc' := 4) C X0 d16_1 (hw _ (List.mem_of_getElem? (i := 87) rfl)) e0 (Ins.self E_a1) rfl (fun T1 X1 e1 => ?_)
  refine g_ifN (pc' := 7) C X1 d16_4 (feq (show ¬ ((1 : Int32) = (0 : Int32)) from (by decide))).1 rfl ?_
  refine g_aloadN (pc' := 8) C X1 d16_7 rfl rfl rfl ?_
  refine g_castY (pc' := 11) C X1 d16_8 (hw _ (List.mem_of_getElem? (i := 87) rfl)) e1 (Ins.self E_a1) rfl (fun T2 X2 e2 => ?_)
  refine g_astoreN (pc' := 12) (Ls' := #[.val (.ref a1), .val (.ref a1), .val (.ref a1)]) C X2 d16_11 rfl rfl rfl ?_
  refine g_aloadN (pc' := 13) C X2 d16_12 rfl rfl rfl ?_
  refine g_getF (pc' := 16) C X2 d16_13 (host := "") (Or.inl (hw _ (List.mem_of_getElem? (i := 78) rfl))) Via.refl e2 F_text_a1 rfl (fun T3 X3 e3 => ?_)
  refine g_aloadN (pc' := 17) C X3 d16_16 rfl rfl rfl ?_
  refine g_getF (pc' := 20) C X3 d16_17 (host := "") (Or.inl (hw _ (List.mem_of_getElem? (i := 78) rfl))) Via.refl e3 F_text_a1 rfl (fun T4 X4 e4 => ?_)
  refine g_callV (b := t1) (z := (⟨"java/lang/String", "equals", "(Ljava/lang/Object;)Z"⟩ : MethodName)) (y := (⟨"java/lang/String", "equals", "(Ljava/lang/Object;)Z"⟩ : MethodName)) (argsL := [(.ref t1)]) (st := []) (pc' := 23) C X4 d16_20 (hw _ (List.mem_of_getElem? (i := 89) rfl)) (hw _ (List.mem_of_getElem? (i := 90) rfl)) (notFace_of_selects (args := #[]) (mvT C.hZ (hw _ (List.mem_of_getElem? (i := 92) rfl)))) (hw _ (List.mem_of_getElem? (i := 92) rfl)) (hw _ (List.mem_of_getElem? (i := 91) rfl)) (hw _ (List.mem_of_getElem? (i := 6) rfl)) (hw _ (List.mem_of_getElem? (i := 93) rfl)) (by decide) (rmss l Z a0 hw [] t1 cs h0 n0 hF) (W := 0) (by decide) (by decide) (ce := 0) (sl := 0) rfl rfl (by decide) (by decide) rfl E_t1 e4 rfl pd_17 rfl (Nat.le_refl _) rfl (fun rv5 T5 L5 X5 Q5 => ?_)
  obtain ⟨q5, Nq5, e5⟩ := Q5
  have N5 := Fr.app N0 Nq5
  rw [Fss_l0 ] at q5
  subst q5
  show Go p.tables e below _ (T5.setTop (mkF m 23 #[.val (.ref a1), .val (.ref a1), .val (.ref a1)] [(.int (1 : Int32))]))
  refine g_ifN (pc' := 26) C X5 d16_23 (feq (show ¬ ((1 : Int32) = (0 : Int32)) from (by decide))).1 rfl ?_
  refine g_aloadN (pc' := 27) C X5 d16_26 rfl rfl rfl ?_
  refine g_getF (pc' := 30) C X5 d16_27 (host := "") (Or.inl (hw _ (List.mem_of_getElem? (i := 80) rfl))) Via.refl e5 F_category_a1 rfl (fun T6 X6 e6 => ?_)
  refine g_aloadN (pc' := 31) C X6 d16_30 rfl rfl rfl ?_
  refine g_getF (pc' := 34) C X6 d16_31 (host := "") (Or.inl (hw _ (List.mem_of_getElem? (i := 80) rfl))) Via.refl e6 F_category_a1 rfl (fun T7 X7 e7 => ?_)
  refine g_callV (b := t2) (z := (⟨"java/lang/String", "equals", "(Ljava/lang/Object;)Z"⟩ : MethodName)) (y := (⟨"java/lang/String", "equals", "(Ljava/lang/Object;)Z"⟩ : MethodName)) (argsL := [(.ref t2)]) (st := []) (pc' := 37) C X7 d16_34 (hw _ (List.mem_of_getElem? (i := 89) rfl)) (hw _ (List.mem_of_getElem? (i := 90) rfl)) (notFace_of_selects (args := #[]) (mvT C.hZ (hw _ (List.mem_of_getElem? (i := 92) rfl)))) (hw _ (List.mem_of_getElem? (i := 92) rfl)) (hw _ (List.mem_of_getElem? (i := 91) rfl)) (hw _ (List.mem_of_getElem? (i := 6) rfl)) (hw _ (List.mem_of_getElem? (i := 93) rfl)) (by decide) (rmss l Z a0 hw [] t2 cs h0 n0 hF) (W := 0) (by decide) (by decide) (ce := 0) (sl := 0) rfl rfl (by decide) (by decide) rfl E_t2 e7 rfl pd_17 rfl (Nat.le_refl _) rfl (fun rv8 T8 L8 X8 Q8 => ?_)
  obtain ⟨q8, Nq8, e8⟩ := Q8
  have N8 := Fr.app N5 Nq8
  rw [Fss_l0 ] at q8
  subst q8
  show Go p.tables e below _ (T8.setTop (mkF m 37 #[.val (.ref a1), .val (.ref a1), .val (.ref a1)] [(.int (1 : Int32))]))
  refine g_ifN (pc' := 40) C X8 d16_37 (feq (show ¬ ((1 : Int32) = (0 : Int32)) from (by decide))).1 rfl ?_
  refine g_iconst (pc' := 41) (v := (1 : Int32)) C X8 d16_40 rfl rfl ?_
  refine g_goto (pc' := 45) C X8 d16_41 (by decide) (by decide) ?_
  exact g_retN C X8 (by simp) d16_45 (by decide) (by decide) ⟨congrArg (fun z => some (Value.int z)) (Fks_l0  ).symm, N8, e8⟩
def Fkn  : Int32 := (0 : Int32)
theorem Fkn_l0   : Fkn  = (0 : Int32) := rfl
theorem ef_kn (m : MethodId) (a1 : Addr) : entryFrame m #[(.ref a1), .null] 3 = mkF m 0 #[.val (.ref a1), .val .null, .unset] [] := by first | (simp [entryFrame, mkF, argsToLocals, Value.category]; done) | rfl
def Q_kn (Z : State) (a1 : Addr) (cs : Int32) (h0 : Heap) (n0 : Nat) (v : Option Value) (h : Heap) (L : List Loc) : Prop := v = some (.int (Fkn )) ∧ Fr n0 L ∧ h = h0
set_option maxRecDepth 65536 in
set_option maxHeartbeats 40000000 in
theorem rmkn (l : Launch) (Z : State) (a0 : Array Value) (hw : ∀ d ∈ tables_1, d.before a0 Z = true) (ws : List Jvm.Cond) (a1 : Addr) (cs : Int32) (h0 : Heap) (n0 : Nat) (hF : FX Z h0 cs) :
    MetFree l (⟨"com/example/wenshai/wenshai/model/Keyword", "equals", "(Ljava/lang/Object;)Z"⟩ : MethodName) (head1 (Jvm.Cond.code (⟨"com/example/wenshai/wenshai/model/Keyword", "equals", "(Ljava/lang/Object;)Z"⟩ : MethodName) prog_19_method_4_code 3 (some .boolean) :: ws) ({ frames := 0, cells := 0, slots := 0, locals := 0 } : Room)) (fun a U => a = #[(.ref a1), .null] ∧ Z.Warmed39 U.vm ∧ U.heap = h0) (fun _ _ _ _ _ => True) (fun _ U o U' => ∃ v L, o = .returned v ∧ Q_kn Z a1 cs h0 n0 v U'.heap L ∧ FrameEnd U o U' L ({ frames := 0, cells := 0, slots := 0, locals := 0 } : Room).cells ({ frames := 0, cells := 0, slots := 0, locals := 0 } : Room).slots) := by
  refine met_of (Ls := #[.val (.ref a1), .val .null, .unset]) (plainFor_of_name (by first | (simp [plainName, overriddenIn]; done) | decide +kernel)) (fun m => ef_kn m a1) ?_
  intro p e s m below meth c T0 C X0 e0
  have S_cs := hF
  have N0 := Fr.nil n0
  refine g_aloadN (pc' := 1) C X0 d16_0 rfl rfl rfl ?_
  refine g_instNull (pc' := 4) C X0 d16_1 rfl ?_
  refine g_ifY (pc' := 44) C X0 d16_4 (teq (show (0 : Int32) = (0 : Int32) from (by decide))).1 (by decide) (by decide) ?_
  refine g_iconst (pc' := 45) (v := (0 : Int32)) C X0 d16_44 rfl rfl ?_
  exact g_retN C X0 (by simp) d16_45 (by decide) (by decide) ⟨congrArg (fun z => some (Value.int z)) (Fkn_l0  ).symm, N0, e0⟩
theorem own_nsno {Z : State} {a0 : Array Value} {C S K : String} {n : Nat} (w : (Jvm.Cond.superclass C S).before a0 Z = true) (w0 : (Jvm.Cond.noSuperclass S).before a0 Z = true) (wi : (Jvm.Cond.instantiable K n).before a0 Z = true) (h1 : C ≠ K) (h2 : S ≠ K) : ∃ c t, Z.vm.findClass C = some c ∧ Z.vm.findClass K = some t ∧ Z.vm.assignable c t = false := by
  obtain ⟨t, kt, g0, g2, g5, g7, -⟩ := Cond.instantiable_spec wi
  obtain ⟨c0, k0, a1, a2, a3, -, -⟩ := Cond.noSuperclass_spec w0
  have ne0 := ids_ne a1 g0 h2
  have n0 : NS Z S K := ⟨c0, t, a1, g0, fun fuel => by
    cases fuel with
    | zero => rfl
    | succ f => simp [Vm.isSubclassAux, ne0, a2, a3]⟩
  obtain ⟨c, t', h0, g0', n3⟩ := NS.step w n0 h1
  cases g0.symm.trans g0'
  obtain ⟨p, k, kp, q1, q2, q3, q4, q5, -, q7⟩ := Cond.superclass_spec h0 w
  have ne := ids_ne h0 g0 h1
  have g7' := (Bool.or_eq_false_iff.mp g7).1
  refine ⟨c, t, h0, g0, ?_⟩
  show Z.vm.assignableAux (255 + 1) c t = false
  simp [Vm.assignableAux, ne, q2, g2, q5, g5, g7', Vm.isSubclass, n3]
theorem own_no {Z : State} {a0 : Array Value} (hw : ∀ d ∈ tables_1, d.before a0 Z = true) : ∃ c t, Z.vm.findClass "java/lang/String" = some c ∧ Z.vm.findClass "com/example/wenshai/wenshai/model/Keyword" = some t ∧ Z.vm.assignable c t = false :=
  own_nsno (hw _ (List.mem_of_getElem? (i := 97) rfl)) (hw _ (List.mem_of_getElem? (i := 98) rfl)) (hw _ (List.mem_of_getElem? (i := 31) rfl)) (by decide) (by decide)
def Fko  : Int32 := (0 : Int32)
theorem Fko_l0   : Fko  = (0 : Int32) := rfl
theorem ef_ko (m : MethodId) (a1 : Addr) (a2 : Addr) : entryFrame m #[(.ref a1), (.ref a2)] 3 = mkF m 0 #[.val (.ref a1), .val (.ref a2), .unset] [] := by first | (simp [entryFrame, mkF, argsToLocals, Value.category]; done) | rfl
def Q_ko (Z : State) (a1 : Addr) (a2 : Addr) (cs : Int32) (h0 : Heap) (n0 : Nat) (v : Option Value) (h : Heap) (L : List Loc) : Prop := v = some (.int (Fko )) ∧ Fr n0 L ∧ h = h0
set_option maxRecDepth 65536 in
set_option maxHeartbeats 40000000 in
theorem rmko (l : Launch) (Z : State) (a0 : Array Value) (hw : ∀ d ∈ tables_1, d.before a0 Z = true) (ws : List Jvm.Cond) (a1 : Addr) (a2 : Addr) (cs : Int32) (h0 : Heap) (n0 : Nat) (hF : FX Z h0 cs) (E_a2 : Exa Z h0 a2 "java/lang/String") :
    MetFree l (⟨"com/example/wenshai/wenshai/model/Keyword", "equals", "(Ljava/lang/Object;)Z"⟩ : MethodName) (head1 (Jvm.Cond.code (⟨"com/example/wenshai/wenshai/model/Keyword", "equals", "(Ljava/lang/Object;)Z"⟩ : MethodName) prog_19_method_4_code 3 (some .boolean) :: ws) ({ frames := 0, cells := 0, slots := 0, locals := 0 } : Room)) (fun a U => a = #[(.ref a1), (.ref a2)] ∧ Z.Warmed39 U.vm ∧ U.heap = h0) (fun _ _ _ _ _ => True) (fun _ U o U' => ∃ v L, o = .returned v ∧ Q_ko Z a1 a2 cs h0 n0 v U'.heap L ∧ FrameEnd U o U' L ({ frames := 0, cells := 0, slots := 0, locals := 0 } : Room).cells ({ frames := 0, cells := 0, slots := 0, locals := 0 } : Room).slots) := by
  refine met_of (Ls := #[.val (.ref a1), .val (.ref a2), .unset]) (plainFor_of_name (by first | (simp [plainName, overriddenIn]; done) | decide +kernel)) (fun m => ef_ko m a1 a2) ?_
  intro p e s m below meth c T0 C X0 e0
  have S_cs := hF
  have N0 := Fr.nil n0
  refine g_aloadN (pc' := 1) C X0 d16_0 rfl rfl rfl ?_
  refine g_instNo (pc' := 4) C X0 d16_1 (hw _ (List.mem_of_getElem? (i := 87) rfl)) e0 E_a2 (own_no hw) rfl (fun T1 X1 e1 => ?_)
  refine g_ifY (pc' := 44) C X1 d16_4 (teq (show (0 : Int32) = (0 : Int32) from (by decide))).1 (by decide) (by decide) ?_
  refine g_iconst (pc' := 45) (v := (0 : Int32)) C X1 d16_44 rfl rfl ?_
  exact g_retN C X1 (by simp) d16_45 (by decide) (by decide) ⟨congrArg (fun z => some (Value.int z)) (Fko_l0  ).symm, N0, e1⟩
def own_l5 (p1 : Int32) (p2 : Int32) (p3 : Int32) (p4 : Int32) (p5 : Int32) : Int32 := (p1 &&& (255 : Int32)).toUInt32.toUInt16.toUInt32.toInt32
def own_l6 (p1 : Int32) (p2 : Int32) (p3 : Int32) (p4 : Int32) (p5 : Int32) : Int32 := (((p1.toUInt32 >>> ((8 : Int32) &&& 31).toUInt32).toInt32) &&& (255 : Int32)).toUInt32.toUInt16.toUInt32.toInt32
def own_l7 (p1 : Int32) (p2 : Int32) (p3 : Int32) (p4 : Int32) (p5 : Int32) : Int32 := (p2 &&& (255 : Int32)).toUInt32.toUInt16.toUInt32.toInt32
def own_l8 (p1 : Int32) (p2 : Int32) (p3 : Int32) (p4 : Int32) (p5 : Int32) : Int32 := (((p2.toUInt32 >>> ((8 : Int32) &&& 31).toUInt32).toInt32) &&& (255 : Int32)).toUInt32.toUInt16.toUInt32.toInt32
def own_l9 (p1 : Int32) (p2 : Int32) (p3 : Int32) (p4 : Int32) (p5 : Int32) : Int32 := (if (p5 &&& (1 : Int32)) = (0 : Int32) then (p3 &&& (255 : Int32)).toUInt32.toUInt16.toUInt32.toInt32 else (p1 &&& (255 : Int32)).toUInt32.toUInt16.toUInt32.toInt32)
def own_l10 (p1 : Int32) (p2 : Int32) (p3 : Int32) (p4 : Int32) (p5 : Int32) : Int32 := (if (p5 &&& (2 : Int32)) = (0 : Int32) then (((p3.toUInt32 >>> ((8 : Int32) &&& 31).toUInt32).toInt32) &&& (255 : Int32)).toUInt32.toUInt16.toUInt32.toInt32 else (((p1.toUInt32 >>> ((8 : Int32) &&& 31).toUInt32).toInt32) &&& (255 : Int32)).toUInt32.toUInt16.toUInt32.toInt32)
def own_l11 (p1 : Int32) (p2 : Int32) (p3 : Int32) (p4 : Int32) (p5 : Int32) : Int32 := (if (p5 &&& (4 : Int32)) = (0 : Int32) then (p4 &&& (255 : Int32)).toUInt32.toUInt16.toUInt32.toInt32 else (p2 &&& (255 : Int32)).toUInt32.toUInt16.toUInt32.toInt32)
def own_l12 (p1 : Int32) (p2 : Int32) (p3 : Int32) (p4 : Int32) (p5 : Int32) : Int32 := (if (p5 &&& (8 : Int32)) = (0 : Int32) then (((p4.toUInt32 >>> ((8 : Int32) &&& 31).toUInt32).toInt32) &&& (255 : Int32)).toUInt32.toUInt16.toUInt32.toInt32 else (((p2.toUInt32 >>> ((8 : Int32) &&& 31).toUInt32).toInt32) &&& (255 : Int32)).toUInt32.toUInt16.toUInt32.toInt32)
def own_l13 (p1 : Int32) (p2 : Int32) (p3 : Int32) (p4 : Int32) (p5 : Int32) : Int32 := ((1 : Int32) + (((p5.toUInt32 >>> ((4 : Int32) &&& 31).toUInt32).toInt32) &&& (1 : Int32)))
def own_l14 (p1 : Int32) (p2 : Int32) (p3 : Int32) (p4 : Int32) (p5 : Int32) : Int32 := ((1 : Int32) + (((p5.toUInt32 >>> ((5 : Int32) &&& 31).toUInt32).toInt32) &&& (1 : Int32)))
def own_l15 (p1 : Int32) (p2 : Int32) (p3 : Int32) (p4 : Int32) (p5 : Int32) : Int32 := ((1 : Int32) + (((p5.toUInt32 >>> ((6 : Int32) &&& 31).toUInt32).toInt32) &&& (1 : Int32)))
def own_l16 (p1 : Int32) (p2 : Int32) (p3 : Int32) (p4 : Int32) (p5 : Int32) : Int32 := ((1 : Int32) + (((p5.toUInt32 >>> ((7 : Int32) &&& 31).toUInt32).toInt32) &&& (1 : Int32)))
theorem own_chr (x : Int32) : ¬ ((255 : Int32) < (x &&& (255 : Int32)).toUInt32.toUInt16.toUInt32.toInt32) ∧ ¬ ((x &&& (255 : Int32)).toUInt32.toUInt16.toUInt32.toInt32 < (0 : Int32)) := by
  have e : (x &&& (255 : Int32)).toInt = x.toInt % (2 ^ 8 : Nat) := c_mask x _ 8 (by decide) (by decide)
  have a := c_i2c (x &&& (255 : Int32))
  have z : (255 : Int32).toInt = 255 := by decide
  have z0 : (0 : Int32).toInt = 0 := by decide
  rw [Int32.lt_iff_toInt_lt, Int32.lt_iff_toInt_lt]
  omega
theorem own_ch5 (p1 p2 p3 p4 p5 : Int32) : ¬ ((255 : Int32) < own_l5 p1 p2 p3 p4 p5) ∧ ¬ (own_l5 p1 p2 p3 p4 p5 < (0 : Int32)) := by
  unfold own_l5
  exact own_chr _
theorem own_ch6 (p1 p2 p3 p4 p5 : Int32) : ¬ ((255 : Int32) < own_l6 p1 p2 p3 p4 p5) ∧ ¬ (own_l6 p1 p2 p3 p4 p5 < (0 : Int32)) := by
  unfold own_l6
  exact own_chr _
theorem own_ch7 (p1 p2 p3 p4 p5 : Int32) : ¬ ((255 : Int32) < own_l7 p1 p2 p3 p4 p5) ∧ ¬ (own_l7 p1 p2 p3 p4 p5 < (0 : Int32)) := by
  unfold own_l7
  exact own_chr _
theorem own_ch8 (p1 p2 p3 p4 p5 : Int32) : ¬ ((255 : Int32) < own_l8 p1 p2 p3 p4 p5) ∧ ¬ (own_l8 p1 p2 p3 p4 p5 < (0 : Int32)) := by
  unfold own_l8
  exact own_chr _
theorem own_ch9 (p1 p2 p3 p4 p5 : Int32) : ¬ ((255 : Int32) < own_l9 p1 p2 p3 p4 p5) ∧ ¬ (own_l9 p1 p2 p3 p4 p5 < (0 : Int32)) := by
  unfold own_l9
  split <;> exact own_chr _
theorem own_ch10 (p1 p2 p3 p4 p5 : Int32) : ¬ ((255 : Int32) < own_l10 p1 p2 p3 p4 p5) ∧ ¬ (own_l10 p1 p2 p3 p4 p5 < (0 : Int32)) := by
  unfold own_l10
  split <;> exact own_chr _
theorem own_ch11 (p1 p2 p3 p4 p5 : Int32) : ¬ ((255 : Int32) < own_l11 p1 p2 p3 p4 p5) ∧ ¬ (own_l11 p1 p2 p3 p4 p5 < (0 : Int32)) := by
  unfold own_l11
  split <;> exact own_chr _
theorem own_ch12 (p1 p2 p3 p4 p5 : Int32) : ¬ ((255 : Int32) < own_l12 p1 p2 p3 p4 p5) ∧ ¬ (own_l12 p1 p2 p3 p4 p5 < (0 : Int32)) := by
  unfold own_l12
  split <;> exact own_chr _
theorem pd_18 : parseMethodDescriptor "(ICC)Ljava/lang/String;" = some ⟨[.int, .char, .char], some (.object "java/lang/String")⟩ := by decide +kernel
theorem pd_19 : parseMethodDescriptor "(Ljava/lang/String;Ljava/lang/String;)V" = some ⟨[(.object "java/lang/String"), (.object "java/lang/String")], none⟩ := by decide +kernel
def own_l23 (p1 : Int32) (p2 : Int32) (p3 : Int32) (p4 : Int32) (p5 : Int32) : Int32 := (if (own_l13 p1 p2 p3 p4 p5) = (own_l15 p1 p2 p3 p4 p5) then (if (own_l5 p1 p2 p3 p4 p5) = (own_l9 p1 p2 p3 p4 p5) then (if (own_l13 p1 p2 p3 p4 p5) = (1 : Int32) then (1 : Int32) else (if (own_l6 p1 p2 p3 p4 p5) = (own_l10 p1 p2 p3 p4 p5) then (1 : Int32) else (0 : Int32))) else (0 : Int32)) else (0 : Int32))
def own_l24 (p1 : Int32) (p2 : Int32) (p3 : Int32) (p4 : Int32) (p5 : Int32) : Int32 := (if (own_l14 p1 p2 p3 p4 p5) = (own_l16 p1 p2 p3 p4 p5) then (if (own_l7 p1 p2 p3 p4 p5) = (own_l11 p1 p2 p3 p4 p5) then (if (own_l14 p1 p2 p3 p4 p5) = (1 : Int32) then (1 : Int32) else (if (own_l8 p1 p2 p3 p4 p5) = (own_l12 p1 p2 p3 p4 p5) then (1 : Int32) else (0 : Int32))) else (0 : Int32)) else (0 : Int32))
def own_l25 (p1 : Int32) (p2 : Int32) (p3 : Int32) (p4 : Int32) (p5 : Int32) : Int32 := (if (if (own_l13 p1 p2 p3 p4 p5) = (own_l15 p1 p2 p3 p4 p5) then (if (own_l5 p1 p2 p3 p4 p5) = (own_l9 p1 p2 p3 p4 p5) then (if (own_l13 p1 p2 p3 p4 p5) = (1 : Int32) then (1 : Int32) else (if (own_l6 p1 p2 p3 p4 p5) = (own_l10 p1 p2 p3 p4 p5) then (1 : Int32) else (0 : Int32))) else (0 : Int32)) else (0 : Int32)) = (0 : Int32) then (0 : Int32) else (if (if (own_l14 p1 p2 p3 p4 p5) = (own_l16 p1 p2 p3 p4 p5) then (if (own_l7 p1 p2 p3 p4 p5) = (own_l11 p1 p2 p3 p4 p5) then (if (own_l14 p1 p2 p3 p4 p5) = (1 : Int32) then (1 : Int32) else (if (own_l8 p1 p2 p3 p4 p5) = (own_l12 p1 p2 p3 p4 p5) then (1 : Int32) else (0 : Int32))) else (0 : Int32)) else (0 : Int32)) = (0 : Int32) then (0 : Int32) else (1 : Int32)))
def F0 (p1 : Int32) (p2 : Int32) (p3 : Int32) (p4 : Int32) (p5 : Int32) : Int32 := (if (Fkd (own_cs (own_l13 p1 p2 p3 p4 p5) (own_l5 p1 p2 p3 p4 p5) (own_l6 p1 p2 p3 p4 p5)) (own_cs (own_l14 p1 p2 p3 p4 p5) (own_l7 p1 p2 p3 p4 p5) (own_l8 p1 p2 p3 p4 p5)) (own_cs (own_l15 p1 p2 p3 p4 p5) (own_l9 p1 p2 p3 p4 p5) (own_l10 p1 p2 p3 p4 p5)) (own_cs (own_l16 p1 p2 p3 p4 p5) (own_l11 p1 p2 p3 p4 p5) (own_l12 p1 p2 p3 p4 p5))) = (own_l25 p1 p2 p3 p4 p5) then (if (Fkd (own_cs (own_l15 p1 p2 p3 p4 p5) (own_l9 p1 p2 p3 p4 p5) (own_l10 p1 p2 p3 p4 p5)) (own_cs (own_l16 p1 p2 p3 p4 p5) (own_l11 p1 p2 p3 p4 p5) (own_l12 p1 p2 p3 p4 p5)) (own_cs (own_l13 p1 p2 p3 p4 p5) (own_l5 p1 p2 p3 p4 p5) (own_l6 p1 p2 p3 p4 p5)) (own_cs (own_l14 p1 p2 p3 p4 p5) (own_l7 p1 p2 p3 p4 p5) (own_l8 p1 p2 p3 p4 p5))) = (own_l25 p1 p2 p3 p4 p5) then (if Fks = (0 : Int32) then (0 : Int32) else (if Fkn = (0 : Int32) then (if Fko = (0 : Int32) then (1 : Int32) else (0 : Int32)) else (0 : Int32))) else (0 : Int32)) else (0 : Int32))
theorem F0_l0 (p1 : Int32) (p2 : Int32) (p3 : Int32) (p4 : Int32) (p5 : Int32) (h0 : (Fkd (own_cs (own_l13 p1 p2 p3 p4 p5) (own_l5 p1 p2 p3 p4 p5) (own_l6 p1 p2 p3 p4 p5)) (own_cs (own_l14 p1 p2 p3 p4 p5) (own_l7 p1 p2 p3 p4 p5) (own_l8 p1 p2 p3 p4 p5)) (own_cs (own_l15 p1 p2 p3 p4 p5) (own_l9 p1 p2 p3 p4 p5) (own_l10 p1 p2 p3 p4 p5)) (own_cs (own_l16 p1 p2 p3 p4 p5) (own_l11 p1 p2 p3 p4 p5) (own_l12 p1 p2 p3 p4 p5))) = (own_l25 p1 p2 p3 p4 p5)) (h1 : (Fkd (own_cs (own_l15 p1 p2 p3 p4 p5) (own_l9 p1 p2 p3 p4 p5) (own_l10 p1 p2 p3 p4 p5)) (own_cs (own_l16 p1 p2 p3 p4 p5) (own_l11 p1 p2 p3 p4 p5) (own_l12 p1 p2 p3 p4 p5)) (own_cs (own_l13 p1 p2 p3 p4 p5) (own_l5 p1 p2 p3 p4 p5) (own_l6 p1 p2 p3 p4 p5)) (own_cs (own_l14 p1 p2 p3 p4 p5) (own_l7 p1 p2 p3 p4 p5) (own_l8 p1 p2 p3 p4 p5))) = (own_l25 p1 p2 p3 p4 p5)) (h2 : Fks = (0 : Int32)) : F0 p1 p2 p3 p4 p5 = (0 : Int32) := by
  unfold F0; rw [if_pos h0, if_pos h1, if_pos h2]
theorem F0_l1 (p1 : Int32) (p2 : Int32) (p3 : Int32) (p4 : Int32) (p5 : Int32) (h0 : (Fkd (own_cs (own_l13 p1 p2 p3 p4 p5) (own_l5 p1 p2 p3 p4 p5) (own_l6 p1 p2 p3 p4 p5)) (own_cs (own_l14 p1 p2 p3 p4 p5) (own_l7 p1 p2 p3 p4 p5) (own_l8 p1 p2 p3 p4 p5)) (own_cs (own_l15 p1 p2 p3 p4 p5) (own_l9 p1 p2 p3 p4 p5) (own_l10 p1 p2 p3 p4 p5)) (own_cs (own_l16 p1 p2 p3 p4 p5) (own_l11 p1 p2 p3 p4 p5) (own_l12 p1 p2 p3 p4 p5))) = (own_l25 p1 p2 p3 p4 p5)) (h1 : (Fkd (own_cs (own_l15 p1 p2 p3 p4 p5) (own_l9 p1 p2 p3 p4 p5) (own_l10 p1 p2 p3 p4 p5)) (own_cs (own_l16 p1 p2 p3 p4 p5) (own_l11 p1 p2 p3 p4 p5) (own_l12 p1 p2 p3 p4 p5)) (own_cs (own_l13 p1 p2 p3 p4 p5) (own_l5 p1 p2 p3 p4 p5) (own_l6 p1 p2 p3 p4 p5)) (own_cs (own_l14 p1 p2 p3 p4 p5) (own_l7 p1 p2 p3 p4 p5) (own_l8 p1 p2 p3 p4 p5))) = (own_l25 p1 p2 p3 p4 p5)) (h2 : ¬ (Fks = (0 : Int32))) (h3 : Fkn = (0 : Int32)) (h4 : Fko = (0 : Int32)) : F0 p1 p2 p3 p4 p5 = (1 : Int32) := by
  unfold F0; rw [if_pos h0, if_pos h1, if_neg h2, if_pos h3, if_pos h4]
theorem F0_l2 (p1 : Int32) (p2 : Int32) (p3 : Int32) (p4 : Int32) (p5 : Int32) (h0 : (Fkd (own_cs (own_l13 p1 p2 p3 p4 p5) (own_l5 p1 p2 p3 p4 p5) (own_l6 p1 p2 p3 p4 p5)) (own_cs (own_l14 p1 p2 p3 p4 p5) (own_l7 p1 p2 p3 p4 p5) (own_l8 p1 p2 p3 p4 p5)) (own_cs (own_l15 p1 p2 p3 p4 p5) (own_l9 p1 p2 p3 p4 p5) (own_l10 p1 p2 p3 p4 p5)) (own_cs (own_l16 p1 p2 p3 p4 p5) (own_l11 p1 p2 p3 p4 p5) (own_l12 p1 p2 p3 p4 p5))) = (own_l25 p1 p2 p3 p4 p5)) (h1 : (Fkd (own_cs (own_l15 p1 p2 p3 p4 p5) (own_l9 p1 p2 p3 p4 p5) (own_l10 p1 p2 p3 p4 p5)) (own_cs (own_l16 p1 p2 p3 p4 p5) (own_l11 p1 p2 p3 p4 p5) (own_l12 p1 p2 p3 p4 p5)) (own_cs (own_l13 p1 p2 p3 p4 p5) (own_l5 p1 p2 p3 p4 p5) (own_l6 p1 p2 p3 p4 p5)) (own_cs (own_l14 p1 p2 p3 p4 p5) (own_l7 p1 p2 p3 p4 p5) (own_l8 p1 p2 p3 p4 p5))) = (own_l25 p1 p2 p3 p4 p5)) (h2 : ¬ (Fks = (0 : Int32))) (h3 : Fkn = (0 : Int32)) (h4 : ¬ (Fko = (0 : Int32))) : F0 p1 p2 p3 p4 p5 = (0 : Int32) := by
  unfold F0; rw [if_pos h0, if_pos h1, if_neg h2, if_pos h3, if_neg h4]
theorem F0_l3 (p1 : Int32) (p2 : Int32) (p3 : Int32) (p4 : Int32) (p5 : Int32) (h0 : (Fkd (own_cs (own_l13 p1 p2 p3 p4 p5) (own_l5 p1 p2 p3 p4 p5) (own_l6 p1 p2 p3 p4 p5)) (own_cs (own_l14 p1 p2 p3 p4 p5) (own_l7 p1 p2 p3 p4 p5) (own_l8 p1 p2 p3 p4 p5)) (own_cs (own_l15 p1 p2 p3 p4 p5) (own_l9 p1 p2 p3 p4 p5) (own_l10 p1 p2 p3 p4 p5)) (own_cs (own_l16 p1 p2 p3 p4 p5) (own_l11 p1 p2 p3 p4 p5) (own_l12 p1 p2 p3 p4 p5))) = (own_l25 p1 p2 p3 p4 p5)) (h1 : (Fkd (own_cs (own_l15 p1 p2 p3 p4 p5) (own_l9 p1 p2 p3 p4 p5) (own_l10 p1 p2 p3 p4 p5)) (own_cs (own_l16 p1 p2 p3 p4 p5) (own_l11 p1 p2 p3 p4 p5) (own_l12 p1 p2 p3 p4 p5)) (own_cs (own_l13 p1 p2 p3 p4 p5) (own_l5 p1 p2 p3 p4 p5) (own_l6 p1 p2 p3 p4 p5)) (own_cs (own_l14 p1 p2 p3 p4 p5) (own_l7 p1 p2 p3 p4 p5) (own_l8 p1 p2 p3 p4 p5))) = (own_l25 p1 p2 p3 p4 p5)) (h2 : ¬ (Fks = (0 : Int32))) (h3 : ¬ (Fkn = (0 : Int32))) : F0 p1 p2 p3 p4 p5 = (0 : Int32) := by
  unfold F0; rw [if_pos h0, if_pos h1, if_neg h2, if_neg h3]
theorem F0_l4 (p1 : Int32) (p2 : Int32) (p3 : Int32) (p4 : Int32) (p5 : Int32) (h0 : (Fkd (own_cs (own_l13 p1 p2 p3 p4 p5) (own_l5 p1 p2 p3 p4 p5) (own_l6 p1 p2 p3 p4 p5)) (own_cs (own_l14 p1 p2 p3 p4 p5) (own_l7 p1 p2 p3 p4 p5) (own_l8 p1 p2 p3 p4 p5)) (own_cs (own_l15 p1 p2 p3 p4 p5) (own_l9 p1 p2 p3 p4 p5) (own_l10 p1 p2 p3 p4 p5)) (own_cs (own_l16 p1 p2 p3 p4 p5) (own_l11 p1 p2 p3 p4 p5) (own_l12 p1 p2 p3 p4 p5))) = (own_l25 p1 p2 p3 p4 p5)) (h1 : ¬ ((Fkd (own_cs (own_l15 p1 p2 p3 p4 p5) (own_l9 p1 p2 p3 p4 p5) (own_l10 p1 p2 p3 p4 p5)) (own_cs (own_l16 p1 p2 p3 p4 p5) (own_l11 p1 p2 p3 p4 p5) (own_l12 p1 p2 p3 p4 p5)) (own_cs (own_l13 p1 p2 p3 p4 p5) (own_l5 p1 p2 p3 p4 p5) (own_l6 p1 p2 p3 p4 p5)) (own_cs (own_l14 p1 p2 p3 p4 p5) (own_l7 p1 p2 p3 p4 p5) (own_l8 p1 p2 p3 p4 p5))) = (own_l25 p1 p2 p3 p4 p5))) : F0 p1 p2 p3 p4 p5 = (0 : Int32) := by
  unfold F0; rw [if_pos h0, if_neg h1]
theorem F0_l5 (p1 : Int32) (p2 : Int32) (p3 : Int32) (p4 : Int32) (p5 : Int32) (h0 : ¬ ((Fkd (own_cs (own_l13 p1 p2 p3 p4 p5) (own_l5 p1 p2 p3 p4 p5) (own_l6 p1 p2 p3 p4 p5)) (own_cs (own_l14 p1 p2 p3 p4 p5) (own_l7 p1 p2 p3 p4 p5) (own_l8 p1 p2 p3 p4 p5)) (own_cs (own_l15 p1 p2 p3 p4 p5) (own_l9 p1 p2 p3 p4 p5) (own_l10 p1 p2 p3 p4 p5)) (own_cs (own_l16 p1 p2 p3 p4 p5) (own_l11 p1 p2 p3 p4 p5) (own_l12 p1 p2 p3 p4 p5))) = (own_l25 p1 p2 p3 p4 p5))) : F0 p1 p2 p3 p4 p5 = (0 : Int32) := by
  unfold F0; rw [if_neg h0]
theorem ef_0 (m : MethodId) (p1 : Int32) (p2 : Int32) (p3 : Int32) (p4 : Int32) (p5 : Int32) : entryFrame m #[(.int p1), (.int p2), (.int p3), (.int p4), (.int p5)] maxLocals = mkF m 0 #[.val (.int p1), .val (.int p2), .val (.int p3), .val (.int p4), .val (.int p5), .unset, .unset, .unset, .unset, .unset, .unset, .unset, .unset, .unset, .unset, .unset, .unset, .unset, .unset, .unset, .unset, .unset, .unset, .unset, .unset, .unset, .unset] [] := by first | (simp [entryFrame, mkF, argsToLocals, Value.category, maxLocals]; done) | rfl
def Q_0 (Z : State) (p1 : Int32) (p2 : Int32) (p3 : Int32) (p4 : Int32) (p5 : Int32) (cs : Int32) (h0 : Heap) (n0 : Nat) (v : Option Value) (h : Heap) (L : List Loc) : Prop := v = some (.int (F0 p1 p2 p3 p4 p5)) ∧ Fr n0 L
set_option maxRecDepth 65536 in
set_option maxHeartbeats 40000000 in
theorem rm0 (l : Launch) (Z : State) (a0 : Array Value) (hw : ∀ d ∈ tables_1, d.before a0 Z = true) (ws : List Jvm.Cond) (p1 : Int32) (p2 : Int32) (p3 : Int32) (p4 : Int32) (p5 : Int32) (cs : Int32) (h0 : Heap) (n0 : Nat) (Z0 : n0 ≤ h0.size) (hF : FX Z h0 cs) (hcs : ¬ (cs = (0 : Int32))) :
    MetFree l x (head1 (Jvm.Cond.code x code maxLocals ret :: ws) room_1) (fun a U => a = #[(.int p1), (.int p2), (.int p3), (.int p4), (.int p5)] ∧ Z.Warmed39 U.vm ∧ U.heap = h0) (fun _ _ _ _ _ => True) (fun _ U o U' => ∃ v L, o = .returned v ∧ Q_0 Z p1 p2 p3 p4 p5 cs h0 n0 v U'.heap L ∧ ReturnedEndW U o U' L 22 148) := by
  refine met_ofW0 (Ls := #[.val (.int p1), .val (.int p2), .val (.int p3), .val (.int p4), .val (.int p5), .unset, .unset, .unset, .unset, .unset, .unset, .unset, .unset, .unset, .unset, .unset, .unset, .unset, .unset, .unset, .unset, .unset, .unset, .unset, .unset, .unset, .unset]) (plainFor_of_name (by first | (simp [plainName, overriddenIn]; done) | decide +kernel)) (fun m => ef_0 m p1 p2 p3 p4 p5) ?_
  intro p e s m below meth c T0 C X0 hS e0
  have S_cs := hF
  have N0 := Fr.nil n0
  refine g_iloadN (pc' := 1) C X0 at_0 rfl rfl ?_
  refine g_sipush (pc' := 4) (v := (255 : Int32)) C X0 at_1 rfl rfl ?_
  refine g_iand (pc' := 5) C X0 at_4 rfl ?_
  refine g_i2c (pc' := 6) C X0 at_5 rfl ?_
  refine g_istore (pc' := 8) (Ls' := #[.val (.int p1), .val (.int p2), .val (.int p3), .val (.int p4), .val (.int p5), .val (.int (p1 &&& (255 : Int32)).toUInt32.toUInt16.toUInt32.toInt32), .unset, .unset, .unset, .unset, .unset, .unset, .unset, .unset, .unset, .unset, .unset, .unset, .unset, .unset, .unset, .unset, .unset, .unset, .unset, .unset, .unset]) C X0 at_6 rfl rfl ?_
  refine g_iloadN (pc' := 9) C X0 at_8 rfl rfl ?_
  refine g_bipush (pc' := 11) (v := (8 : Int32)) C X0 at_9 rfl rfl ?_
  refine g_iushr (pc' := 12) C X0 at_11 rfl ?_
  refine g_sipush (pc' := 15) (v := (255 : Int32)) C X0 at_12 rfl rfl ?_
  refine g_iand (pc' := 16) C X0 at_15 rfl ?_
  refine g_i2c (pc' := 17) C X0 at_16 rfl ?_
  refine g_istore (pc' := 19) (Ls' := #[.val (.int p1), .val (.int p2), .val (.int p3), .val (.int p4), .val (.int p5), .val (.int (p1 &&& (255 : Int32)).toUInt32.toUInt16.toUInt32.toInt32), .val (.int (((p1.toUInt32 >>> ((8 : Int32) &&& 31).toUInt32).toInt32) &&& (255 : Int32)).toUInt32.toUInt16.toUInt32.toInt32), .unset, .unset, .unset, .unset, .unset, .unset, .unset, .unset, .unset, .unset, .unset, .unset, .unset, .unset, .unset, .unset, .unset, .unset, .unset, .unset]) C X0 at_17 rfl rfl ?_
  refine g_iloadN (pc' := 20) C X0 at_19 rfl rfl ?_
  refine g_sipush (pc' := 23) (v := (255 : Int32)) C X0 at_20 rfl rfl ?_
  refine g_iand (pc' := 24) C X0 at_23 rfl ?_
  refine g_i2c (pc' := 25) C X0 at_24 rfl ?_
  refine g_istore (pc' := 27) (Ls' := #[.val (.int p1), .val (.int p2), .val (.int p3), .val (.int p4), .val (.int p5), .val (.int (p1 &&& (255 : Int32)).toUInt32.toUInt16.toUInt32.toInt32), .val (.int (((p1.toUInt32 >>> ((8 : Int32) &&& 31).toUInt32).toInt32) &&& (255 : Int32)).toUInt32.toUInt16.toUInt32.toInt32), .val (.int (p2 &&& (255 : Int32)).toUInt32.toUInt16.toUInt32.toInt32), .unset, .unset, .unset, .unset, .unset, .unset, .unset, .unset, .unset, .unset, .unset, .unset, .unset, .unset, .unset, .unset, .unset, .unset, .unset]) C X0 at_25 rfl rfl ?_
  refine g_iloadN (pc' := 28) C X0 at_27 rfl rfl ?_
  refine g_bipush (pc' := 30) (v := (8 : Int32)) C X0 at_28 rfl rfl ?_
  refine g_iushr (pc' := 31) C X0 at_30 rfl ?_
  refine g_sipush (pc' := 34) (v := (255 : Int32)) C X0 at_31 rfl rfl ?_
  refine g_iand (pc' := 35) C X0 at_34 rfl ?_
  refine g_i2c (pc' := 36) C X0 at_35 rfl ?_
  refine g_istore (pc' := 38) (Ls' := #[.val (.int p1), .val (.int p2), .val (.int p3), .val (.int p4), .val (.int p5), .val (.int (p1 &&& (255 : Int32)).toUInt32.toUInt16.toUInt32.toInt32), .val (.int (((p1.toUInt32 >>> ((8 : Int32) &&& 31).toUInt32).toInt32) &&& (255 : Int32)).toUInt32.toUInt16.toUInt32.toInt32), .val (.int (p2 &&& (255 : Int32)).toUInt32.toUInt16.toUInt32.toInt32), .val (.int (((p2.toUInt32 >>> ((8 : Int32) &&& 31).toUInt32).toInt32) &&& (255 : Int32)).toUInt32.toUInt16.toUInt32.toInt32), .unset, .unset, .unset, .unset, .unset, .unset, .unset, .unset, .unset, .unset, .unset, .unset, .unset, .unset, .unset, .unset, .unset, .unset]) C X0 at_36 rfl rfl ?_
  refine own_join (S' := T0.setTop (mkF m 56 #[.val (.int p1), .val (.int p2), .val (.int p3), .val (.int p4), .val (.int p5), .val (.int (p1 &&& (255 : Int32)).toUInt32.toUInt16.toUInt32.toInt32), .val (.int (((p1.toUInt32 >>> ((8 : Int32) &&& 31).toUInt32).toInt32) &&& (255 : Int32)).toUInt32.toUInt16.toUInt32.toInt32), .val (.int (p2 &&& (255 : Int32)).toUInt32.toUInt16.toUInt32.toInt32), .val (.int (((p2.toUInt32 >>> ((8 : Int32) &&& 31).toUInt32).toInt32) &&& (255 : Int32)).toUInt32.toUInt16.toUInt32.toInt32), .unset, .unset, .unset, .unset, .unset, .unset, .unset, .unset, .unset, .unset, .unset, .unset, .unset, .unset, .unset, .unset, .unset, .unset] [(.int (if (p5 &&& (1 : Int32)) = (0 : Int32) then (p3 &&& (255 : Int32)).toUInt32.toUInt16.toUInt32.toInt32 else (p1 &&& (255 : Int32)).toUInt32.toUInt16.toUInt32.toInt32))])) (fun J => ?_) ?_
  · refine g_iload (pc' := 40) C X0 at_38 rfl rfl ?_
    refine g_iconst (pc' := 41) (v := (1 : Int32)) C X0 at_40 rfl rfl ?_
    refine g_iand (pc' := 42) C X0 at_41 rfl ?_
    by_cases c1 : (p5 &&& (1 : Int32)) = (0 : Int32)
    · refine g_ifY (pc' := 50) C X0 at_42 (teq c1).1 (by decide) (by decide) ?_
      refine g_iloadN (pc' := 51) C X0 at_50 rfl rfl ?_
      refine g_sipush (pc' := 54) (v := (255 : Int32)) C X0 at_51 rfl rfl ?_
      refine g_iand (pc' := 55) C X0 at_54 rfl ?_
      refine g_i2c (pc' := 56) C X0 at_55 rfl ?_
      rw [if_pos c1] at J
      exact J
    · refine g_ifN (pc' := 45) C X0 at_42 (feq c1).1 rfl ?_
      refine g_iload (pc' := 47) C X0 at_45 rfl rfl ?_
      refine g_goto (pc' := 56) C X0 at_47 (by decide) (by decide) ?_
      rw [if_neg c1] at J
      exact J
  · refine g_istore (pc' := 58) (Ls' := #[.val (.int p1), .val (.int p2), .val (.int p3), .val (.int p4), .val (.int p5), .val (.int (p1 &&& (255 : Int32)).toUInt32.toUInt16.toUInt32.toInt32), .val (.int (((p1.toUInt32 >>> ((8 : Int32) &&& 31).toUInt32).toInt32) &&& (255 : Int32)).toUInt32.toUInt16.toUInt32.toInt32), .val (.int (p2 &&& (255 : Int32)).toUInt32.toUInt16.toUInt32.toInt32), .val (.int (((p2.toUInt32 >>> ((8 : Int32) &&& 31).toUInt32).toInt32) &&& (255 : Int32)).toUInt32.toUInt16.toUInt32.toInt32), .val (.int (if (p5 &&& (1 : Int32)) = (0 : Int32) then (p3 &&& (255 : Int32)).toUInt32.toUInt16.toUInt32.toInt32 else (p1 &&& (255 : Int32)).toUInt32.toUInt16.toUInt32.toInt32)), .unset, .unset, .unset, .unset, .unset, .unset, .unset, .unset, .unset, .unset, .unset, .unset, .unset, .unset, .unset, .unset, .unset]) C X0 at_56 rfl rfl ?_
    refine own_join (S' := T0.setTop (mkF m 79 #[.val (.int p1), .val (.int p2), .val (.int p3), .val (.int p4), .val (.int p5), .val (.int (p1 &&& (255 : Int32)).toUInt32.toUInt16.toUInt32.toInt32), .val (.int (((p1.toUInt32 >>> ((8 : Int32) &&& 31).toUInt32).toInt32) &&& (255 : Int32)).toUInt32.toUInt16.toUInt32.toInt32), .val (.int (p2 &&& (255 : Int32)).toUInt32.toUInt16.toUInt32.toInt32), .val (.int (((p2.toUInt32 >>> ((8 : Int32) &&& 31).toUInt32).toInt32) &&& (255 : Int32)).toUInt32.toUInt16.toUInt32.toInt32), .val (.int (if (p5 &&& (1 : Int32)) = (0 : Int32) then (p3 &&& (255 : Int32)).toUInt32.toUInt16.toUInt32.toInt32 else (p1 &&& (255 : Int32)).toUInt32.toUInt16.toUInt32.toInt32)), .unset, .unset, .unset, .unset, .unset, .unset, .unset, .unset, .unset, .unset, .unset, .unset, .unset, .unset, .unset, .unset, .unset] [(.int (if (p5 &&& (2 : Int32)) = (0 : Int32) then (((p3.toUInt32 >>> ((8 : Int32) &&& 31).toUInt32).toInt32) &&& (255 : Int32)).toUInt32.toUInt16.toUInt32.toInt32 else (((p1.toUInt32 >>> ((8 : Int32) &&& 31).toUInt32).toInt32) &&& (255 : Int32)).toUInt32.toUInt16.toUInt32.toInt32))])) (fun J => ?_) ?_
    · refine g_iload (pc' := 60) C X0 at_58 rfl rfl ?_
      refine g_iconst (pc' := 61) (v := (2 : Int32)) C X0 at_60 rfl rfl ?_
      refine g_iand (pc' := 62) C X0 at_61 rfl ?_
      by_cases c2 : (p5 &&& (2 : Int32)) = (0 : Int32)
      · refine g_ifY (pc' := 70) C X0 at_62 (teq c2).1 (by decide) (by decide) ?_
        refine g_iloadN (pc' := 71) C X0 at_70 rfl rfl ?_
        refine g_bipush (pc' := 73) (v := (8 : Int32)) C X0 at_71 rfl rfl ?_
        refine g_iushr (pc' := 74) C X0 at_73 rfl ?_
        refine g_sipush (pc' := 77) (v := (255 : Int32)) C X0 at_74 rfl rfl ?_
        refine g_iand (pc' := 78) C X0 at_77 rfl ?_
        refine g_i2c (pc' := 79) C X0 at_78 rfl ?_
        rw [if_pos c2] at J
        exact J
      · refine g_ifN (pc' := 65) C X0 at_62 (feq c2).1 rfl ?_
        refine g_iload (pc' := 67) C X0 at_65 rfl rfl ?_
        refine g_goto (pc' := 79) C X0 at_67 (by decide) (by decide) ?_
        rw [if_neg c2] at J
        exact J
    · refine g_istore (pc' := 81) (Ls' := #[.val (.int p1), .val (.int p2), .val (.int p3), .val (.int p4), .val (.int p5), .val (.int (p1 &&& (255 : Int32)).toUInt32.toUInt16.toUInt32.toInt32), .val (.int (((p1.toUInt32 >>> ((8 : Int32) &&& 31).toUInt32).toInt32) &&& (255 : Int32)).toUInt32.toUInt16.toUInt32.toInt32), .val (.int (p2 &&& (255 : Int32)).toUInt32.toUInt16.toUInt32.toInt32), .val (.int (((p2.toUInt32 >>> ((8 : Int32) &&& 31).toUInt32).toInt32) &&& (255 : Int32)).toUInt32.toUInt16.toUInt32.toInt32), .val (.int (if (p5 &&& (1 : Int32)) = (0 : Int32) then (p3 &&& (255 : Int32)).toUInt32.toUInt16.toUInt32.toInt32 else (p1 &&& (255 : Int32)).toUInt32.toUInt16.toUInt32.toInt32)), .val (.int (if (p5 &&& (2 : Int32)) = (0 : Int32) then (((p3.toUInt32 >>> ((8 : Int32) &&& 31).toUInt32).toInt32) &&& (255 : Int32)).toUInt32.toUInt16.toUInt32.toInt32 else (((p1.toUInt32 >>> ((8 : Int32) &&& 31).toUInt32).toInt32) &&& (255 : Int32)).toUInt32.toUInt16.toUInt32.toInt32)), .unset, .unset, .unset, .unset, .unset, .unset, .unset, .unset, .unset, .unset, .unset, .unset, .unset, .unset, .unset, .unset]) C X0 at_79 rfl rfl ?_
      refine own_join (S' := T0.setTop (mkF m 99 #[.val (.int p1), .val (.int p2), .val (.int p3), .val (.int p4), .val (.int p5), .val (.int (p1 &&& (255 : Int32)).toUInt32.toUInt16.toUInt32.toInt32), .val (.int (((p1.toUInt32 >>> ((8 : Int32) &&& 31).toUInt32).toInt32) &&& (255 : Int32)).toUInt32.toUInt16.toUInt32.toInt32), .val (.int (p2 &&& (255 : Int32)).toUInt32.toUInt16.toUInt32.toInt32), .val (.int (((p2.toUInt32 >>> ((8 : Int32) &&& 31).toUInt32).toInt32) &&& (255 : Int32)).toUInt32.toUInt16.toUInt32.toInt32), .val (.int (if (p5 &&& (1 : Int32)) = (0 : Int32) then (p3 &&& (255 : Int32)).toUInt32.toUInt16.toUInt32.toInt32 else (p1 &&& (255 : Int32)).toUInt32.toUInt16.toUInt32.toInt32)), .val (.int (if (p5 &&& (2 : Int32)) = (0 : Int32) then (((p3.toUInt32 >>> ((8 : Int32) &&& 31).toUInt32).toInt32) &&& (255 : Int32)).toUInt32.toUInt16.toUInt32.toInt32 else (((p1.toUInt32 >>> ((8 : Int32) &&& 31).toUInt32).toInt32) &&& (255 : Int32)).toUInt32.toUInt16.toUInt32.toInt32)), .unset, .unset, .unset, .unset, .unset, .unset, .unset, .unset, .unset, .unset, .unset, .unset, .unset, .unset, .unset, .unset] [(.int (if (p5 &&& (4 : Int32)) = (0 : Int32) then (p4 &&& (255 : Int32)).toUInt32.toUInt16.toUInt32.toInt32 else (p2 &&& (255 : Int32)).toUInt32.toUInt16.toUInt32.toInt32))])) (fun J => ?_) ?_
      · refine g_iload (pc' := 83) C X0 at_81 rfl rfl ?_
        refine g_iconst (pc' := 84) (v := (4 : Int32)) C X0 at_83 rfl rfl ?_
        refine g_iand (pc' := 85) C X0 at_84 rfl ?_
        by_cases c3 : (p5 &&& (4 : Int32)) = (0 : Int32)
        · refine g_ifY (pc' := 93) C X0 at_85 (teq c3).1 (by decide) (by decide) ?_
          refine g_iloadN (pc' := 94) C X0 at_93 rfl rfl ?_
          refine g_sipush (pc' := 97) (v := (255 : Int32)) C X0 at_94 rfl rfl ?_
          refine g_iand (pc' := 98) C X0 at_97 rfl ?_
          refine g_i2c (pc' := 99) C X0 at_98 rfl ?_
          rw [if_pos c3] at J
          exact J
        · refine g_ifN (pc' := 88) C X0 at_85 (feq c3).1 rfl ?_
          refine g_iload (pc' := 90) C X0 at_88 rfl rfl ?_
          refine g_goto (pc' := 99) C X0 at_90 (by decide) (by decide) ?_
          rw [if_neg c3] at J
          exact J
      · refine g_istore (pc' := 101) (Ls' := #[.val (.int p1), .val (.int p2), .val (.int p3), .val (.int p4), .val (.int p5), .val (.int (p1 &&& (255 : Int32)).toUInt32.toUInt16.toUInt32.toInt32), .val (.int (((p1.toUInt32 >>> ((8 : Int32) &&& 31).toUInt32).toInt32) &&& (255 : Int32)).toUInt32.toUInt16.toUInt32.toInt32), .val (.int (p2 &&& (255 : Int32)).toUInt32.toUInt16.toUInt32.toInt32), .val (.int (((p2.toUInt32 >>> ((8 : Int32) &&& 31).toUInt32).toInt32) &&& (255 : Int32)).toUInt32.toUInt16.toUInt32.toInt32), .val (.int (if (p5 &&& (1 : Int32)) = (0 : Int32) then (p3 &&& (255 : Int32)).toUInt32.toUInt16.toUInt32.toInt32 else (p1 &&& (255 : Int32)).toUInt32.toUInt16.toUInt32.toInt32)), .val (.int (if (p5 &&& (2 : Int32)) = (0 : Int32) then (((p3.toUInt32 >>> ((8 : Int32) &&& 31).toUInt32).toInt32) &&& (255 : Int32)).toUInt32.toUInt16.toUInt32.toInt32 else (((p1.toUInt32 >>> ((8 : Int32) &&& 31).toUInt32).toInt32) &&& (255 : Int32)).toUInt32.toUInt16.toUInt32.toInt32)), .val (.int (if (p5 &&& (4 : Int32)) = (0 : Int32) then (p4 &&& (255 : Int32)).toUInt32.toUInt16.toUInt32.toInt32 else (p2 &&& (255 : Int32)).toUInt32.toUInt16.toUInt32.toInt32)), .unset, .unset, .unset, .unset, .unset, .unset, .unset, .unset, .unset, .unset, .unset, .unset, .unset, .unset, .unset]) C X0 at_99 rfl rfl ?_
        refine own_join (S' := T0.setTop (mkF m 123 #[.val (.int p1), .val (.int p2), .val (.int p3), .val (.int p4), .val (.int p5), .val (.int (p1 &&& (255 : Int32)).toUInt32.toUInt16.toUInt32.toInt32), .val (.int (((p1.toUInt32 >>> ((8 : Int32) &&& 31).toUInt32).toInt32) &&& (255 : Int32)).toUInt32.toUInt16.toUInt32.toInt32), .val (.int (p2 &&& (255 : Int32)).toUInt32.toUInt16.toUInt32.toInt32), .val (.int (((p2.toUInt32 >>> ((8 : Int32) &&& 31).toUInt32).toInt32) &&& (255 : Int32)).toUInt32.toUInt16.toUInt32.toInt32), .val (.int (if (p5 &&& (1 : Int32)) = (0 : Int32) then (p3 &&& (255 : Int32)).toUInt32.toUInt16.toUInt32.toInt32 else (p1 &&& (255 : Int32)).toUInt32.toUInt16.toUInt32.toInt32)), .val (.int (if (p5 &&& (2 : Int32)) = (0 : Int32) then (((p3.toUInt32 >>> ((8 : Int32) &&& 31).toUInt32).toInt32) &&& (255 : Int32)).toUInt32.toUInt16.toUInt32.toInt32 else (((p1.toUInt32 >>> ((8 : Int32) &&& 31).toUInt32).toInt32) &&& (255 : Int32)).toUInt32.toUInt16.toUInt32.toInt32)), .val (.int (if (p5 &&& (4 : Int32)) = (0 : Int32) then (p4 &&& (255 : Int32)).toUInt32.toUInt16.toUInt32.toInt32 else (p2 &&& (255 : Int32)).toUInt32.toUInt16.toUInt32.toInt32)), .unset, .unset, .unset, .unset, .unset, .unset, .unset, .unset, .unset, .unset, .unset, .unset, .unset, .unset, .unset] [(.int (if (p5 &&& (8 : Int32)) = (0 : Int32) then (((p4.toUInt32 >>> ((8 : Int32) &&& 31).toUInt32).toInt32) &&& (255 : Int32)).toUInt32.toUInt16.toUInt32.toInt32 else (((p2.toUInt32 >>> ((8 : Int32) &&& 31).toUInt32).toInt32) &&& (255 : Int32)).toUInt32.toUInt16.toUInt32.toInt32))])) (fun J => ?_) ?_
        · refine g_iload (pc' := 103) C X0 at_101 rfl rfl ?_
          refine g_bipush (pc' := 105) (v := (8 : Int32)) C X0 at_103 rfl rfl ?_
          refine g_iand (pc' := 106) C X0 at_105 rfl ?_
          by_cases c4 : (p5 &&& (8 : Int32)) = (0 : Int32)
          · refine g_ifY (pc' := 114) C X0 at_106 (teq c4).1 (by decide) (by decide) ?_
            refine g_iloadN (pc' := 115) C X0 at_114 rfl rfl ?_
            refine g_bipush (pc' := 117) (v := (8 : Int32)) C X0 at_115 rfl rfl ?_
            refine g_iushr (pc' := 118) C X0 at_117 rfl ?_
            refine g_sipush (pc' := 121) (v := (255 : Int32)) C X0 at_118 rfl rfl ?_
            refine g_iand (pc' := 122) C X0 at_121 rfl ?_
            refine g_i2c (pc' := 123) C X0 at_122 rfl ?_
            rw [if_pos c4] at J
            exact J
          · refine g_ifN (pc' := 109) C X0 at_106 (feq c4).1 rfl ?_
            refine g_iload (pc' := 111) C X0 at_109 rfl rfl ?_
            refine g_goto (pc' := 123) C X0 at_111 (by decide) (by decide) ?_
            rw [if_neg c4] at J
            exact J
        · refine g_istore (pc' := 125) (Ls' := #[.val (.int p1), .val (.int p2), .val (.int p3), .val (.int p4), .val (.int p5), .val (.int (p1 &&& (255 : Int32)).toUInt32.toUInt16.toUInt32.toInt32), .val (.int (((p1.toUInt32 >>> ((8 : Int32) &&& 31).toUInt32).toInt32) &&& (255 : Int32)).toUInt32.toUInt16.toUInt32.toInt32), .val (.int (p2 &&& (255 : Int32)).toUInt32.toUInt16.toUInt32.toInt32), .val (.int (((p2.toUInt32 >>> ((8 : Int32) &&& 31).toUInt32).toInt32) &&& (255 : Int32)).toUInt32.toUInt16.toUInt32.toInt32), .val (.int (if (p5 &&& (1 : Int32)) = (0 : Int32) then (p3 &&& (255 : Int32)).toUInt32.toUInt16.toUInt32.toInt32 else (p1 &&& (255 : Int32)).toUInt32.toUInt16.toUInt32.toInt32)), .val (.int (if (p5 &&& (2 : Int32)) = (0 : Int32) then (((p3.toUInt32 >>> ((8 : Int32) &&& 31).toUInt32).toInt32) &&& (255 : Int32)).toUInt32.toUInt16.toUInt32.toInt32 else (((p1.toUInt32 >>> ((8 : Int32) &&& 31).toUInt32).toInt32) &&& (255 : Int32)).toUInt32.toUInt16.toUInt32.toInt32)), .val (.int (if (p5 &&& (4 : Int32)) = (0 : Int32) then (p4 &&& (255 : Int32)).toUInt32.toUInt16.toUInt32.toInt32 else (p2 &&& (255 : Int32)).toUInt32.toUInt16.toUInt32.toInt32)), .val (.int (if (p5 &&& (8 : Int32)) = (0 : Int32) then (((p4.toUInt32 >>> ((8 : Int32) &&& 31).toUInt32).toInt32) &&& (255 : Int32)).toUInt32.toUInt16.toUInt32.toInt32 else (((p2.toUInt32 >>> ((8 : Int32) &&& 31).toUInt32).toInt32) &&& (255 : Int32)).toUInt32.toUInt16.toUInt32.toInt32)), .unset, .unset, .unset, .unset, .unset, .unset, .unset, .unset, .unset, .unset, .unset, .unset, .unset, .unset]) C X0 at_123 rfl rfl ?_
          refine g_iconst (pc' := 126) (v := (1 : Int32)) C X0 at_125 rfl rfl ?_
          refine g_iload (pc' := 128) C X0 at_126 rfl rfl ?_
          refine g_iconst (pc' := 129) (v := (4 : Int32)) C X0 at_128 rfl rfl ?_
          refine g_iushr (pc' := 130) C X0 at_129 rfl ?_
          refine g_iconst (pc' := 131) (v := (1 : Int32)) C X0 at_130 rfl rfl ?_
          refine g_iand (pc' := 132) C X0 at_131 rfl ?_
          refine g_iadd (pc' := 133) C X0 at_132 rfl ?_
          refine g_istore (pc' := 135) (Ls' := #[.val (.int p1), .val (.int p2), .val (.int p3), .val (.int p4), .val (.int p5), .val (.int (p1 &&& (255 : Int32)).toUInt32.toUInt16.toUInt32.toInt32), .val (.int (((p1.toUInt32 >>> ((8 : Int32) &&& 31).toUInt32).toInt32) &&& (255 : Int32)).toUInt32.toUInt16.toUInt32.toInt32), .val (.int (p2 &&& (255 : Int32)).toUInt32.toUInt16.toUInt32.toInt32), .val (.int (((p2.toUInt32 >>> ((8 : Int32) &&& 31).toUInt32).toInt32) &&& (255 : Int32)).toUInt32.toUInt16.toUInt32.toInt32), .val (.int (if (p5 &&& (1 : Int32)) = (0 : Int32) then (p3 &&& (255 : Int32)).toUInt32.toUInt16.toUInt32.toInt32 else (p1 &&& (255 : Int32)).toUInt32.toUInt16.toUInt32.toInt32)), .val (.int (if (p5 &&& (2 : Int32)) = (0 : Int32) then (((p3.toUInt32 >>> ((8 : Int32) &&& 31).toUInt32).toInt32) &&& (255 : Int32)).toUInt32.toUInt16.toUInt32.toInt32 else (((p1.toUInt32 >>> ((8 : Int32) &&& 31).toUInt32).toInt32) &&& (255 : Int32)).toUInt32.toUInt16.toUInt32.toInt32)), .val (.int (if (p5 &&& (4 : Int32)) = (0 : Int32) then (p4 &&& (255 : Int32)).toUInt32.toUInt16.toUInt32.toInt32 else (p2 &&& (255 : Int32)).toUInt32.toUInt16.toUInt32.toInt32)), .val (.int (if (p5 &&& (8 : Int32)) = (0 : Int32) then (((p4.toUInt32 >>> ((8 : Int32) &&& 31).toUInt32).toInt32) &&& (255 : Int32)).toUInt32.toUInt16.toUInt32.toInt32 else (((p2.toUInt32 >>> ((8 : Int32) &&& 31).toUInt32).toInt32) &&& (255 : Int32)).toUInt32.toUInt16.toUInt32.toInt32)), .val (.int ((1 : Int32) + (((p5.toUInt32 >>> ((4 : Int32) &&& 31).toUInt32).toInt32) &&& (1 : Int32)))), .unset, .unset, .unset, .unset, .unset, .unset, .unset, .unset, .unset, .unset, .unset, .unset, .unset]) C X0 at_133 rfl rfl ?_
          refine g_iconst (pc' := 136) (v := (1 : Int32)) C X0 at_135 rfl rfl ?_
          refine g_iload (pc' := 138) C X0 at_136 rfl rfl ?_
          refine g_iconst (pc' := 139) (v := (5 : Int32)) C X0 at_138 rfl rfl ?_
          refine g_iushr (pc' := 140) C X0 at_139 rfl ?_
          refine g_iconst (pc' := 141) (v := (1 : Int32)) C X0 at_140 rfl rfl ?_
          refine g_iand (pc' := 142) C X0 at_141 rfl ?_
          refine g_iadd (pc' := 143) C X0 at_142 rfl ?_
          refine g_istore (pc' := 145) (Ls' := #[.val (.int p1), .val (.int p2), .val (.int p3), .val (.int p4), .val (.int p5), .val (.int (p1 &&& (255 : Int32)).toUInt32.toUInt16.toUInt32.toInt32), .val (.int (((p1.toUInt32 >>> ((8 : Int32) &&& 31).toUInt32).toInt32) &&& (255 : Int32)).toUInt32.toUInt16.toUInt32.toInt32), .val (.int (p2 &&& (255 : Int32)).toUInt32.toUInt16.toUInt32.toInt32), .val (.int (((p2.toUInt32 >>> ((8 : Int32) &&& 31).toUInt32).toInt32) &&& (255 : Int32)).toUInt32.toUInt16.toUInt32.toInt32), .val (.int (if (p5 &&& (1 : Int32)) = (0 : Int32) then (p3 &&& (255 : Int32)).toUInt32.toUInt16.toUInt32.toInt32 else (p1 &&& (255 : Int32)).toUInt32.toUInt16.toUInt32.toInt32)), .val (.int (if (p5 &&& (2 : Int32)) = (0 : Int32) then (((p3.toUInt32 >>> ((8 : Int32) &&& 31).toUInt32).toInt32) &&& (255 : Int32)).toUInt32.toUInt16.toUInt32.toInt32 else (((p1.toUInt32 >>> ((8 : Int32) &&& 31).toUInt32).toInt32) &&& (255 : Int32)).toUInt32.toUInt16.toUInt32.toInt32)), .val (.int (if (p5 &&& (4 : Int32)) = (0 : Int32) then (p4 &&& (255 : Int32)).toUInt32.toUInt16.toUInt32.toInt32 else (p2 &&& (255 : Int32)).toUInt32.toUInt16.toUInt32.toInt32)), .val (.int (if (p5 &&& (8 : Int32)) = (0 : Int32) then (((p4.toUInt32 >>> ((8 : Int32) &&& 31).toUInt32).toInt32) &&& (255 : Int32)).toUInt32.toUInt16.toUInt32.toInt32 else (((p2.toUInt32 >>> ((8 : Int32) &&& 31).toUInt32).toInt32) &&& (255 : Int32)).toUInt32.toUInt16.toUInt32.toInt32)), .val (.int ((1 : Int32) + (((p5.toUInt32 >>> ((4 : Int32) &&& 31).toUInt32).toInt32) &&& (1 : Int32)))), .val (.int ((1 : Int32) + (((p5.toUInt32 >>> ((5 : Int32) &&& 31).toUInt32).toInt32) &&& (1 : Int32)))), .unset, .unset, .unset, .unset, .unset, .unset, .unset, .unset, .unset, .unset, .unset, .unset]) C X0 at_143 rfl rfl ?_
          refine g_iconst (pc' := 146) (v := (1 : Int32)) C X0 at_145 rfl rfl ?_
          refine g_iload (pc' := 148) C X0 at_146 rfl rfl ?_
          refine g_bipush (pc' := 150) (v := (6 : Int32)) C X0 at_148 rfl rfl ?_
          refine g_iushr (pc' := 151) C X0 at_150 rfl ?_
          refine g_iconst (pc' := 152) (v := (1 : Int32)) C X0 at_151 rfl rfl ?_
          refine g_iand (pc' := 153) C X0 at_152 rfl ?_
          refine g_iadd (pc' := 154) C X0 at_153 rfl ?_
          refine g_istore (pc' := 156) (Ls' := #[.val (.int p1), .val (.int p2), .val (.int p3), .val (.int p4), .val (.int p5), .val (.int (p1 &&& (255 : Int32)).toUInt32.toUInt16.toUInt32.toInt32), .val (.int (((p1.toUInt32 >>> ((8 : Int32) &&& 31).toUInt32).toInt32) &&& (255 : Int32)).toUInt32.toUInt16.toUInt32.toInt32), .val (.int (p2 &&& (255 : Int32)).toUInt32.toUInt16.toUInt32.toInt32), .val (.int (((p2.toUInt32 >>> ((8 : Int32) &&& 31).toUInt32).toInt32) &&& (255 : Int32)).toUInt32.toUInt16.toUInt32.toInt32), .val (.int (if (p5 &&& (1 : Int32)) = (0 : Int32) then (p3 &&& (255 : Int32)).toUInt32.toUInt16.toUInt32.toInt32 else (p1 &&& (255 : Int32)).toUInt32.toUInt16.toUInt32.toInt32)), .val (.int (if (p5 &&& (2 : Int32)) = (0 : Int32) then (((p3.toUInt32 >>> ((8 : Int32) &&& 31).toUInt32).toInt32) &&& (255 : Int32)).toUInt32.toUInt16.toUInt32.toInt32 else (((p1.toUInt32 >>> ((8 : Int32) &&& 31).toUInt32).toInt32) &&& (255 : Int32)).toUInt32.toUInt16.toUInt32.toInt32)), .val (.int (if (p5 &&& (4 : Int32)) = (0 : Int32) then (p4 &&& (255 : Int32)).toUInt32.toUInt16.toUInt32.toInt32 else (p2 &&& (255 : Int32)).toUInt32.toUInt16.toUInt32.toInt32)), .val (.int (if (p5 &&& (8 : Int32)) = (0 : Int32) then (((p4.toUInt32 >>> ((8 : Int32) &&& 31).toUInt32).toInt32) &&& (255 : Int32)).toUInt32.toUInt16.toUInt32.toInt32 else (((p2.toUInt32 >>> ((8 : Int32) &&& 31).toUInt32).toInt32) &&& (255 : Int32)).toUInt32.toUInt16.toUInt32.toInt32)), .val (.int ((1 : Int32) + (((p5.toUInt32 >>> ((4 : Int32) &&& 31).toUInt32).toInt32) &&& (1 : Int32)))), .val (.int ((1 : Int32) + (((p5.toUInt32 >>> ((5 : Int32) &&& 31).toUInt32).toInt32) &&& (1 : Int32)))), .val (.int ((1 : Int32) + (((p5.toUInt32 >>> ((6 : Int32) &&& 31).toUInt32).toInt32) &&& (1 : Int32)))), .unset, .unset, .unset, .unset, .unset, .unset, .unset, .unset, .unset, .unset, .unset]) C X0 at_154 rfl rfl ?_
          refine g_iconst (pc' := 157) (v := (1 : Int32)) C X0 at_156 rfl rfl ?_
          refine g_iload (pc' := 159) C X0 at_157 rfl rfl ?_
          refine g_bipush (pc' := 161) (v := (7 : Int32)) C X0 at_159 rfl rfl ?_
          refine g_iushr (pc' := 162) C X0 at_161 rfl ?_
          refine g_iconst (pc' := 163) (v := (1 : Int32)) C X0 at_162 rfl rfl ?_
          refine g_iand (pc' := 164) C X0 at_163 rfl ?_
          refine g_iadd (pc' := 165) C X0 at_164 rfl ?_
          refine g_istore (pc' := 167) (Ls' := #[.val (.int p1), .val (.int p2), .val (.int p3), .val (.int p4), .val (.int p5), .val (.int (p1 &&& (255 : Int32)).toUInt32.toUInt16.toUInt32.toInt32), .val (.int (((p1.toUInt32 >>> ((8 : Int32) &&& 31).toUInt32).toInt32) &&& (255 : Int32)).toUInt32.toUInt16.toUInt32.toInt32), .val (.int (p2 &&& (255 : Int32)).toUInt32.toUInt16.toUInt32.toInt32), .val (.int (((p2.toUInt32 >>> ((8 : Int32) &&& 31).toUInt32).toInt32) &&& (255 : Int32)).toUInt32.toUInt16.toUInt32.toInt32), .val (.int (if (p5 &&& (1 : Int32)) = (0 : Int32) then (p3 &&& (255 : Int32)).toUInt32.toUInt16.toUInt32.toInt32 else (p1 &&& (255 : Int32)).toUInt32.toUInt16.toUInt32.toInt32)), .val (.int (if (p5 &&& (2 : Int32)) = (0 : Int32) then (((p3.toUInt32 >>> ((8 : Int32) &&& 31).toUInt32).toInt32) &&& (255 : Int32)).toUInt32.toUInt16.toUInt32.toInt32 else (((p1.toUInt32 >>> ((8 : Int32) &&& 31).toUInt32).toInt32) &&& (255 : Int32)).toUInt32.toUInt16.toUInt32.toInt32)), .val (.int (if (p5 &&& (4 : Int32)) = (0 : Int32) then (p4 &&& (255 : Int32)).toUInt32.toUInt16.toUInt32.toInt32 else (p2 &&& (255 : Int32)).toUInt32.toUInt16.toUInt32.toInt32)), .val (.int (if (p5 &&& (8 : Int32)) = (0 : Int32) then (((p4.toUInt32 >>> ((8 : Int32) &&& 31).toUInt32).toInt32) &&& (255 : Int32)).toUInt32.toUInt16.toUInt32.toInt32 else (((p2.toUInt32 >>> ((8 : Int32) &&& 31).toUInt32).toInt32) &&& (255 : Int32)).toUInt32.toUInt16.toUInt32.toInt32)), .val (.int ((1 : Int32) + (((p5.toUInt32 >>> ((4 : Int32) &&& 31).toUInt32).toInt32) &&& (1 : Int32)))), .val (.int ((1 : Int32) + (((p5.toUInt32 >>> ((5 : Int32) &&& 31).toUInt32).toInt32) &&& (1 : Int32)))), .val (.int ((1 : Int32) + (((p5.toUInt32 >>> ((6 : Int32) &&& 31).toUInt32).toInt32) &&& (1 : Int32)))), .val (.int ((1 : Int32) + (((p5.toUInt32 >>> ((7 : Int32) &&& 31).toUInt32).toInt32) &&& (1 : Int32)))), .unset, .unset, .unset, .unset, .unset, .unset, .unset, .unset, .unset, .unset]) C X0 at_165 rfl rfl ?_
          refine own_cast (show T0.setTop (mkF m 167 #[.val (.int p1), .val (.int p2), .val (.int p3), .val (.int p4), .val (.int p5), .val (.int (p1 &&& (255 : Int32)).toUInt32.toUInt16.toUInt32.toInt32), .val (.int (((p1.toUInt32 >>> ((8 : Int32) &&& 31).toUInt32).toInt32) &&& (255 : Int32)).toUInt32.toUInt16.toUInt32.toInt32), .val (.int (p2 &&& (255 : Int32)).toUInt32.toUInt16.toUInt32.toInt32), .val (.int (((p2.toUInt32 >>> ((8 : Int32) &&& 31).toUInt32).toInt32) &&& (255 : Int32)).toUInt32.toUInt16.toUInt32.toInt32), .val (.int (if (p5 &&& (1 : Int32)) = (0 : Int32) then (p3 &&& (255 : Int32)).toUInt32.toUInt16.toUInt32.toInt32 else (p1 &&& (255 : Int32)).toUInt32.toUInt16.toUInt32.toInt32)), .val (.int (if (p5 &&& (2 : Int32)) = (0 : Int32) then (((p3.toUInt32 >>> ((8 : Int32) &&& 31).toUInt32).toInt32) &&& (255 : Int32)).toUInt32.toUInt16.toUInt32.toInt32 else (((p1.toUInt32 >>> ((8 : Int32) &&& 31).toUInt32).toInt32) &&& (255 : Int32)).toUInt32.toUInt16.toUInt32.toInt32)), .val (.int (if (p5 &&& (4 : Int32)) = (0 : Int32) then (p4 &&& (255 : Int32)).toUInt32.toUInt16.toUInt32.toInt32 else (p2 &&& (255 : Int32)).toUInt32.toUInt16.toUInt32.toInt32)), .val (.int (if (p5 &&& (8 : Int32)) = (0 : Int32) then (((p4.toUInt32 >>> ((8 : Int32) &&& 31).toUInt32).toInt32) &&& (255 : Int32)).toUInt32.toUInt16.toUInt32.toInt32 else (((p2.toUInt32 >>> ((8 : Int32) &&& 31).toUInt32).toInt32) &&& (255 : Int32)).toUInt32.toUInt16.toUInt32.toInt32)), .val (.int ((1 : Int32) + (((p5.toUInt32 >>> ((4 : Int32) &&& 31).toUInt32).toInt32) &&& (1 : Int32)))), .val (.int ((1 : Int32) + (((p5.toUInt32 >>> ((5 : Int32) &&& 31).toUInt32).toInt32) &&& (1 : Int32)))), .val (.int ((1 : Int32) + (((p5.toUInt32 >>> ((6 : Int32) &&& 31).toUInt32).toInt32) &&& (1 : Int32)))), .val (.int ((1 : Int32) + (((p5.toUInt32 >>> ((7 : Int32) &&& 31).toUInt32).toInt32) &&& (1 : Int32)))), .unset, .unset, .unset, .unset, .unset, .unset, .unset, .unset, .unset, .unset] []) = T0.setTop (mkF m 167 #[.val (.int p1), .val (.int p2), .val (.int p3), .val (.int p4), .val (.int p5), .val (.int (own_l5 p1 p2 p3 p4 p5)), .val (.int (own_l6 p1 p2 p3 p4 p5)), .val (.int (own_l7 p1 p2 p3 p4 p5)), .val (.int (own_l8 p1 p2 p3 p4 p5)), .val (.int (own_l9 p1 p2 p3 p4 p5)), .val (.int (own_l10 p1 p2 p3 p4 p5)), .val (.int (own_l11 p1 p2 p3 p4 p5)), .val (.int (own_l12 p1 p2 p3 p4 p5)), .val (.int (own_l13 p1 p2 p3 p4 p5)), .val (.int (own_l14 p1 p2 p3 p4 p5)), .val (.int (own_l15 p1 p2 p3 p4 p5)), .val (.int (own_l16 p1 p2 p3 p4 p5)), .unset, .unset, .unset, .unset, .unset, .unset, .unset, .unset, .unset, .unset] []) from rfl) ?_
          refine g_iload (pc' := 169) C X0 at_167 rfl rfl ?_
          refine g_iload (pc' := 171) C X0 at_169 rfl rfl ?_
          refine g_iload (pc' := 173) C X0 at_171 rfl rfl ?_
          refine g_callS (y := (⟨"com/example/wenshai/wenshai/model/KeywordEqualsPinLaw", "str", "(ICC)Ljava/lang/String;"⟩ : MethodName)) (argsL := [(.int (own_l13 p1 p2 p3 p4 p5)), (.int (own_l5 p1 p2 p3 p4 p5)), (.int (own_l6 p1 p2 p3 p4 p5))]) (st := []) (pc' := 176) C X0 at_173 (hw _ (List.mem_of_getElem? (i := 0) rfl)) (hw _ (List.mem_of_getElem? (i := 1) rfl)) (hw _ (List.mem_of_getElem? (i := 2) rfl)) (hw _ (List.mem_of_getElem? (i := 3) rfl)) (by decide) (rmst l Z a0 hw [] (own_l13 p1 p2 p3 p4 p5) (own_l5 p1 p2 p3 p4 p5) (own_l6 p1 p2 p3 p4 p5) cs h0 n0 Z0 hF hcs (own_ch5 p1 p2 p3 p4 p5).1 (own_ch6 p1 p2 p3 p4 p5).1 (own_ch5 p1 p2 p3 p4 p5).2 (own_ch6 p1 p2 p3 p4 p5).2) (W := 0) (by decide) (by decide) (ce := 3) (sl := 8) rfl rfl (by decide) (by decide) rfl e0 rfl pd_18 rfl (Nat.le_refl _) rfl (fun rv5 T5 L5 X5 Q5 => ?_)
          obtain ⟨r5, v5, kb5, q5, Nq5, Kq5, sz5_r, sz5_v, gn_r5, gn_v5, P5_0, P5_1, P5_2, P5_3⟩ := Q5
          have N5 := Fr.app N0 Nq5
          have S_cs_5 := own_sta_keep S_cs Kq5 (fun _ q => nomatch q)
          have Z5 := Nat.le_trans Z0 Kq5.1
          have Kz5 := Nat.le_trans (Nat.zero_le _) Kq5.1
          subst q5
          show Go p.tables e below _ (T5.setTop (mkF m 176 #[.val (.int p1), .val (.int p2), .val (.int p3), .val (.int p4), .val (.int p5), .val (.int (own_l5 p1 p2 p3 p4 p5)), .val (.int (own_l6 p1 p2 p3 p4 p5)), .val (.int (own_l7 p1 p2 p3 p4 p5)), .val (.int (own_l8 p1 p2 p3 p4 p5)), .val (.int (own_l9 p1 p2 p3 p4 p5)), .val (.int (own_l10 p1 p2 p3 p4 p5)), .val (.int (own_l11 p1 p2 p3 p4 p5)), .val (.int (own_l12 p1 p2 p3 p4 p5)), .val (.int (own_l13 p1 p2 p3 p4 p5)), .val (.int (own_l14 p1 p2 p3 p4 p5)), .val (.int (own_l15 p1 p2 p3 p4 p5)), .val (.int (own_l16 p1 p2 p3 p4 p5)), .unset, .unset, .unset, .unset, .unset, .unset, .unset, .unset, .unset, .unset] [(.ref r5)]))
          refine g_astore (pc' := 178) (Ls' := #[.val (.int p1), .val (.int p2), .val (.int p3), .val (.int p4), .val (.int p5), .val (.int (own_l5 p1 p2 p3 p4 p5)), .val (.int (own_l6 p1 p2 p3 p4 p5)), .val (.int (own_l7 p1 p2 p3 p4 p5)), .val (.int (own_l8 p1 p2 p3 p4 p5)), .val (.int (own_l9 p1 p2 p3 p4 p5)), .val (.int (own_l10 p1 p2 p3 p4 p5)), .val (.int (own_l11 p1 p2 p3 p4 p5)), .val (.int (own_l12 p1 p2 p3 p4 p5)), .val (.int (own_l13 p1 p2 p3 p4 p5)), .val (.int (own_l14 p1 p2 p3 p4 p5)), .val (.int (own_l15 p1 p2 p3 p4 p5)), .val (.int (own_l16 p1 p2 p3 p4 p5)), .val (.ref r5), .unset, .unset, .unset, .unset, .unset, .unset, .unset, .unset, .unset]) C X5 at_176 rfl rfl rfl ?_
          refine g_iload (pc' := 180) C X5 at_178 rfl rfl ?_
          refine g_iload (pc' := 182) C X5 at_180 rfl rfl ?_
          refine g_iload (pc' := 184) C X5 at_182 rfl rfl ?_
          refine g_callS (y := (⟨"com/example/wenshai/wenshai/model/KeywordEqualsPinLaw", "str", "(ICC)Ljava/lang/String;"⟩ : MethodName)) (argsL := [(.int (own_l14 p1 p2 p3 p4 p5)), (.int (own_l7 p1 p2 p3 p4 p5)), (.int (own_l8 p1 p2 p3 p4 p5))]) (st := []) (pc' := 187) C X5 at_184 (hw _ (List.mem_of_getElem? (i := 0) rfl)) (hw _ (List.mem_of_getElem? (i := 1) rfl)) (hw _ (List.mem_of_getElem? (i := 2) rfl)) (hw _ (List.mem_of_getElem? (i := 3) rfl)) (by decide) (rmst l Z a0 hw [] (own_l14 p1 p2 p3 p4 p5) (own_l7 p1 p2 p3 p4 p5) (own_l8 p1 p2 p3 p4 p5) cs T5.heap n0 Z5 S_cs_5 hcs (own_ch7 p1 p2 p3 p4 p5).1 (own_ch8 p1 p2 p3 p4 p5).1 (own_ch7 p1 p2 p3 p4 p5).2 (own_ch8 p1 p2 p3 p4 p5).2) (W := 0) (by decide) (by decide) (ce := 6) (sl := 16) rfl rfl (by decide) (by decide) rfl rfl rfl pd_18 rfl (Nat.le_refl _) rfl (fun rv6 T6 L6 X6 Q6 => ?_)
          obtain ⟨r6, v6, kb6, q6, Nq6, Kq6, sz6_r, sz6_v, gn_r6, gn_v6, P6_0, P6_1, P6_2, P6_3⟩ := Q6
          have N6 := Fr.app N5 Nq6
          have ne6_7 : ¬ (r5 = r6) := Nat.ne_of_lt (Nat.lt_of_lt_of_le P5_0.lt sz6_r)
          have ne6_8 : ¬ (v5 = r6) := Nat.ne_of_lt (Nat.lt_of_lt_of_le P5_3.lt sz6_r)
          have ne6_9 : ¬ (r5 = v6) := Nat.ne_of_lt (Nat.lt_of_lt_of_le P5_0.lt sz6_v)
          have ne6_10 : ¬ (v5 = v6) := Nat.ne_of_lt (Nat.lt_of_lt_of_le P5_3.lt sz6_v)
          have S_cs_6 := own_sta_keep S_cs_5 Kq6 (fun _ q => nomatch q)
          have P5_0_6 := P5_0.keep Kq6
          have P5_1_6 := P5_1.keep Kq6 nin0
          have P5_2_6 := P5_2.keep Kq6 nin0
          have P5_3_6 := P5_3.keep Kq6 nin0
          have Z6 := Nat.le_trans Z5 Kq6.1
          have Kz6 := Nat.le_trans Kz5 Kq6.1
          subst q6
          show Go p.tables e below _ (T6.setTop (mkF m 187 #[.val (.int p1), .val (.int p2), .val (.int p3), .val (.int p4), .val (.int p5), .val (.int (own_l5 p1 p2 p3 p4 p5)), .val (.int (own_l6 p1 p2 p3 p4 p5)), .val (.int (own_l7 p1 p2 p3 p4 p5)), .val (.int (own_l8 p1 p2 p3 p4 p5)), .val (.int (own_l9 p1 p2 p3 p4 p5)), .val (.int (own_l10 p1 p2 p3 p4 p5)), .val (.int (own_l11 p1 p2 p3 p4 p5)), .val (.int (own_l12 p1 p2 p3 p4 p5)), .val (.int (own_l13 p1 p2 p3 p4 p5)), .val (.int (own_l14 p1 p2 p3 p4 p5)), .val (.int (own_l15 p1 p2 p3 p4 p5)), .val (.int (own_l16 p1 p2 p3 p4 p5)), .val (.ref r5), .unset, .unset, .unset, .unset, .unset, .unset, .unset, .unset, .unset] [(.ref r6)]))
          refine g_astore (pc' := 189) (Ls' := #[.val (.int p1), .val (.int p2), .val (.int p3), .val (.int p4), .val (.int p5), .val (.int (own_l5 p1 p2 p3 p4 p5)), .val (.int (own_l6 p1 p2 p3 p4 p5)), .val (.int (own_l7 p1 p2 p3 p4 p5)), .val (.int (own_l8 p1 p2 p3 p4 p5)), .val (.int (own_l9 p1 p2 p3 p4 p5)), .val (.int (own_l10 p1 p2 p3 p4 p5)), .val (.int (own_l11 p1 p2 p3 p4 p5)), .val (.int (own_l12 p1 p2 p3 p4 p5)), .val (.int (own_l13 p1 p2 p3 p4 p5)), .val (.int (own_l14 p1 p2 p3 p4 p5)), .val (.int (own_l15 p1 p2 p3 p4 p5)), .val (.int (own_l16 p1 p2 p3 p4 p5)), .val (.ref r5), .val (.ref r6), .unset, .unset, .unset, .unset, .unset, .unset, .unset, .unset]) C X6 at_187 rfl rfl rfl ?_
          refine g_iload (pc' := 191) C X6 at_189 rfl rfl ?_
          refine g_iload (pc' := 193) C X6 at_191 rfl rfl ?_
          refine g_iload (pc' := 195) C X6 at_193 rfl rfl ?_
          refine g_callS (y := (⟨"com/example/wenshai/wenshai/model/KeywordEqualsPinLaw", "str", "(ICC)Ljava/lang/String;"⟩ : MethodName)) (argsL := [(.int (own_l15 p1 p2 p3 p4 p5)), (.int (own_l9 p1 p2 p3 p4 p5)), (.int (own_l10 p1 p2 p3 p4 p5))]) (st := []) (pc' := 198) C X6 at_195 (hw _ (List.mem_of_getElem? (i := 0) rfl)) (hw _ (List.mem_of_getElem? (i := 1) rfl)) (hw _ (List.mem_of_getElem? (i := 2) rfl)) (hw _ (List.mem_of_getElem? (i := 3) rfl)) (by decide) (rmst l Z a0 hw [] (own_l15 p1 p2 p3 p4 p5) (own_l9 p1 p2 p3 p4 p5) (own_l10 p1 p2 p3 p4 p5) cs T6.heap n0 Z6 S_cs_6 hcs (own_ch9 p1 p2 p3 p4 p5).1 (own_ch10 p1 p2 p3 p4 p5).1 (own_ch9 p1 p2 p3 p4 p5).2 (own_ch10 p1 p2 p3 p4 p5).2) (W := 0) (by decide) (by decide) (ce := 9) (sl := 24) rfl rfl (by decide) (by decide) rfl rfl rfl pd_18 rfl (Nat.le_refl _) rfl (fun rv11 T11 L11 X11 Q11 => ?_)
          obtain ⟨r11, v11, kb11, q11, Nq11, Kq11, sz11_r, sz11_v, gn_r11, gn_v11, P11_0, P11_1, P11_2, P11_3⟩ := Q11
          have N11 := Fr.app N6 Nq11
          have ne11_12 : ¬ (r5 = r11) := Nat.ne_of_lt (Nat.lt_of_lt_of_le P5_0_6.lt sz11_r)
          have ne11_13 : ¬ (v5 = r11) := Nat.ne_of_lt (Nat.lt_of_lt_of_le P5_3_6.lt sz11_r)
          have ne11_14 : ¬ (r6 = r11) := Nat.ne_of_lt (Nat.lt_of_lt_of_le P6_0.lt sz11_r)
          have ne11_15 : ¬ (v6 = r11) := Nat.ne_of_lt (Nat.lt_of_lt_of_le P6_3.lt sz11_r)
          have ne11_16 : ¬ (r5 = v11) := Nat.ne_of_lt (Nat.lt_of_lt_of_le P5_0_6.lt sz11_v)
          have ne11_17 : ¬ (v5 = v11) := Nat.ne_of_lt (Nat.lt_of_lt_of_le P5_3_6.lt sz11_v)
          have ne11_18 : ¬ (r6 = v11) := Nat.ne_of_lt (Nat.lt_of_lt_of_le P6_0.lt sz11_v)
          have ne11_19 : ¬ (v6 = v11) := Nat.ne_of_lt (Nat.lt_of_lt_of_le P6_3.lt sz11_v)
          have S_cs_11 := own_sta_keep S_cs_6 Kq11 (fun _ q => nomatch q)
          have P5_0_11 := P5_0_6.keep Kq11
          have P5_1_11 := P5_1_6.keep Kq11 nin0
          have P5_2_11 := P5_2_6.keep Kq11 nin0
          have P5_3_11 := P5_3_6.keep Kq11 nin0
          have P6_0_11 := P6_0.keep Kq11
          have P6_1_11 := P6_1.keep Kq11 nin0
          have P6_2_11 := P6_2.keep Kq11 nin0
          have P6_3_11 := P6_3.keep Kq11 nin0
          have Z11 := Nat.le_trans Z6 Kq11.1
          have Kz11 := Nat.le_trans Kz6 Kq11.1
          subst q11
          show Go p.tables e below _ (T11.setTop (mkF m 198 #[.val (.int p1), .val (.int p2), .val (.int p3), .val (.int p4), .val (.int p5), .val (.int (own_l5 p1 p2 p3 p4 p5)), .val (.int (own_l6 p1 p2 p3 p4 p5)), .val (.int (own_l7 p1 p2 p3 p4 p5)), .val (.int (own_l8 p1 p2 p3 p4 p5)), .val (.int (own_l9 p1 p2 p3 p4 p5)), .val (.int (own_l10 p1 p2 p3 p4 p5)), .val (.int (own_l11 p1 p2 p3 p4 p5)), .val (.int (own_l12 p1 p2 p3 p4 p5)), .val (.int (own_l13 p1 p2 p3 p4 p5)), .val (.int (own_l14 p1 p2 p3 p4 p5)), .val (.int (own_l15 p1 p2 p3 p4 p5)), .val (.int (own_l16 p1 p2 p3 p4 p5)), .val (.ref r5), .val (.ref r6), .unset, .unset, .unset, .unset, .unset, .unset, .unset, .unset] [(.ref r11)]))
          refine g_astore (pc' := 200) (Ls' := #[.val (.int p1), .val (.int p2), .val (.int p3), .val (.int p4), .val (.int p5), .val (.int (own_l5 p1 p2 p3 p4 p5)), .val (.int (own_l6 p1 p2 p3 p4 p5)), .val (.int (own_l7 p1 p2 p3 p4 p5)), .val (.int (own_l8 p1 p2 p3 p4 p5)), .val (.int (own_l9 p1 p2 p3 p4 p5)), .val (.int (own_l10 p1 p2 p3 p4 p5)), .val (.int (own_l11 p1 p2 p3 p4 p5)), .val (.int (own_l12 p1 p2 p3 p4 p5)), .val (.int (own_l13 p1 p2 p3 p4 p5)), .val (.int (own_l14 p1 p2 p3 p4 p5)), .val (.int (own_l15 p1 p2 p3 p4 p5)), .val (.int (own_l16 p1 p2 p3 p4 p5)), .val (.ref r5), .val (.ref r6), .val (.ref r11), .unset, .unset, .unset, .unset, .unset, .unset, .unset]) C X11 at_198 rfl rfl rfl ?_
          refine g_iload (pc' := 202) C X11 at_200 rfl rfl ?_
          refine g_iload (pc' := 204) C X11 at_202 rfl rfl ?_
          refine g_iload (pc' := 206) C X11 at_204 rfl rfl ?_
          refine g_callS (y := (⟨"com/example/wenshai/wenshai/model/KeywordEqualsPinLaw", "str", "(ICC)Ljava/lang/String;"⟩ : MethodName)) (argsL := [(.int (own_l16 p1 p2 p3 p4 p5)), (.int (own_l11 p1 p2 p3 p4 p5)), (.int (own_l12 p1 p2 p3 p4 p5))]) (st := []) (pc' := 209) C X11 at_206 (hw _ (List.mem_of_getElem? (i := 0) rfl)) (hw _ (List.mem_of_getElem? (i := 1) rfl)) (hw _ (List.mem_of_getElem? (i := 2) rfl)) (hw _ (List.mem_of_getElem? (i := 3) rfl)) (by decide) (rmst l Z a0 hw [] (own_l16 p1 p2 p3 p4 p5) (own_l11 p1 p2 p3 p4 p5) (own_l12 p1 p2 p3 p4 p5) cs T11.heap n0 Z11 S_cs_11 hcs (own_ch11 p1 p2 p3 p4 p5).1 (own_ch12 p1 p2 p3 p4 p5).1 (own_ch11 p1 p2 p3 p4 p5).2 (own_ch12 p1 p2 p3 p4 p5).2) (W := 0) (by decide) (by decide) (ce := 12) (sl := 32) rfl rfl (by decide) (by decide) rfl rfl rfl pd_18 rfl (Nat.le_refl _) rfl (fun rv20 T20 L20 X20 Q20 => ?_)
          obtain ⟨r20, v20, kb20, q20, Nq20, Kq20, sz20_r, sz20_v, gn_r20, gn_v20, P20_0, P20_1, P20_2, P20_3⟩ := Q20
          have N20 := Fr.app N11 Nq20
          have ne20_21 : ¬ (r5 = r20) := Nat.ne_of_lt (Nat.lt_of_lt_of_le P5_0_11.lt sz20_r)
          have ne20_22 : ¬ (v5 = r20) := Nat.ne_of_lt (Nat.lt_of_lt_of_le P5_3_11.lt sz20_r)
          have ne20_23 : ¬ (r6 = r20) := Nat.ne_of_lt (Nat.lt_of_lt_of_le P6_0_11.lt sz20_r)
          have ne20_24 : ¬ (v6 = r20) := Nat.ne_of_lt (Nat.lt_of_lt_of_le P6_3_11.lt sz20_r)
          have ne20_25 : ¬ (r11 = r20) := Nat.ne_of_lt (Nat.lt_of_lt_of_le P11_0.lt sz20_r)
          have ne20_26 : ¬ (v11 = r20) := Nat.ne_of_lt (Nat.lt_of_lt_of_le P11_3.lt sz20_r)
          have ne20_27 : ¬ (r5 = v20) := Nat.ne_of_lt (Nat.lt_of_lt_of_le P5_0_11.lt sz20_v)
          have ne20_28 : ¬ (v5 = v20) := Nat.ne_of_lt (Nat.lt_of_lt_of_le P5_3_11.lt sz20_v)
          have ne20_29 : ¬ (r6 = v20) := Nat.ne_of_lt (Nat.lt_of_lt_of_le P6_0_11.lt sz20_v)
          have ne20_30 : ¬ (v6 = v20) := Nat.ne_of_lt (Nat.lt_of_lt_of_le P6_3_11.lt sz20_v)
          have ne20_31 : ¬ (r11 = v20) := Nat.ne_of_lt (Nat.lt_of_lt_of_le P11_0.lt sz20_v)
          have ne20_32 : ¬ (v11 = v20) := Nat.ne_of_lt (Nat.lt_of_lt_of_le P11_3.lt sz20_v)
          have S_cs_20 := own_sta_keep S_cs_11 Kq20 (fun _ q => nomatch q)
          have P5_0_20 := P5_0_11.keep Kq20
          have P5_1_20 := P5_1_11.keep Kq20 nin0
          have P5_2_20 := P5_2_11.keep Kq20 nin0
          have P5_3_20 := P5_3_11.keep Kq20 nin0
          have P6_0_20 := P6_0_11.keep Kq20
          have P6_1_20 := P6_1_11.keep Kq20 nin0
          have P6_2_20 := P6_2_11.keep Kq20 nin0
          have P6_3_20 := P6_3_11.keep Kq20 nin0
          have P11_0_20 := P11_0.keep Kq20
          have P11_1_20 := P11_1.keep Kq20 nin0
          have P11_2_20 := P11_2.keep Kq20 nin0
          have P11_3_20 := P11_3.keep Kq20 nin0
          have Z20 := Nat.le_trans Z11 Kq20.1
          have Kz20 := Nat.le_trans Kz11 Kq20.1
          subst q20
          show Go p.tables e below _ (T20.setTop (mkF m 209 #[.val (.int p1), .val (.int p2), .val (.int p3), .val (.int p4), .val (.int p5), .val (.int (own_l5 p1 p2 p3 p4 p5)), .val (.int (own_l6 p1 p2 p3 p4 p5)), .val (.int (own_l7 p1 p2 p3 p4 p5)), .val (.int (own_l8 p1 p2 p3 p4 p5)), .val (.int (own_l9 p1 p2 p3 p4 p5)), .val (.int (own_l10 p1 p2 p3 p4 p5)), .val (.int (own_l11 p1 p2 p3 p4 p5)), .val (.int (own_l12 p1 p2 p3 p4 p5)), .val (.int (own_l13 p1 p2 p3 p4 p5)), .val (.int (own_l14 p1 p2 p3 p4 p5)), .val (.int (own_l15 p1 p2 p3 p4 p5)), .val (.int (own_l16 p1 p2 p3 p4 p5)), .val (.ref r5), .val (.ref r6), .val (.ref r11), .unset, .unset, .unset, .unset, .unset, .unset, .unset] [(.ref r20)]))
          refine g_astore (pc' := 211) (Ls' := #[.val (.int p1), .val (.int p2), .val (.int p3), .val (.int p4), .val (.int p5), .val (.int (own_l5 p1 p2 p3 p4 p5)), .val (.int (own_l6 p1 p2 p3 p4 p5)), .val (.int (own_l7 p1 p2 p3 p4 p5)), .val (.int (own_l8 p1 p2 p3 p4 p5)), .val (.int (own_l9 p1 p2 p3 p4 p5)), .val (.int (own_l10 p1 p2 p3 p4 p5)), .val (.int (own_l11 p1 p2 p3 p4 p5)), .val (.int (own_l12 p1 p2 p3 p4 p5)), .val (.int (own_l13 p1 p2 p3 p4 p5)), .val (.int (own_l14 p1 p2 p3 p4 p5)), .val (.int (own_l15 p1 p2 p3 p4 p5)), .val (.int (own_l16 p1 p2 p3 p4 p5)), .val (.ref r5), .val (.ref r6), .val (.ref r11), .val (.ref r20), .unset, .unset, .unset, .unset, .unset, .unset]) C X20 at_209 rfl rfl rfl ?_
          refine g_new (pc' := 214) C X20 at_211 (hw _ (List.mem_of_getElem? (i := 30) rfl)) (hw _ (List.mem_of_getElem? (i := 31) rfl)) (hw _ (List.mem_of_getElem? (i := 32) rfl)) rfl (ce := 13) (sl := 34) rfl rfl (by decide) (by decide) rfl (fun T33 h33 b33 g33 X33 e33 E33 A33 D33 => ?_)
          have ne33_34 : ¬ (r5 = b33) := Nat.ne_of_lt (Nat.lt_of_lt_of_le P5_0_20.lt (Nat.le_of_eq g33.symm))
          have ne33_35 : ¬ (v5 = b33) := Nat.ne_of_lt (Nat.lt_of_lt_of_le P5_3_20.lt (Nat.le_of_eq g33.symm))
          have ne33_36 : ¬ (r6 = b33) := Nat.ne_of_lt (Nat.lt_of_lt_of_le P6_0_20.lt (Nat.le_of_eq g33.symm))
          have ne33_37 : ¬ (v6 = b33) := Nat.ne_of_lt (Nat.lt_of_lt_of_le P6_3_20.lt (Nat.le_of_eq g33.symm))
          have ne33_38 : ¬ (r11 = b33) := Nat.ne_of_lt (Nat.lt_of_lt_of_le P11_0_20.lt (Nat.le_of_eq g33.symm))
          have ne33_39 : ¬ (v11 = b33) := Nat.ne_of_lt (Nat.lt_of_lt_of_le P11_3_20.lt (Nat.le_of_eq g33.symm))
          have ne33_40 : ¬ (r20 = b33) := Nat.ne_of_lt (Nat.lt_of_lt_of_le P20_0.lt (Nat.le_of_eq g33.symm))
          have ne33_41 : ¬ (v20 = b33) := Nat.ne_of_lt (Nat.lt_of_lt_of_le P20_3.lt (Nat.le_of_eq g33.symm))
          have S_cs_33 := S_cs_20.ext E33
          have P5_0_33 := P5_0_20.ext E33
          have P5_1_33 := P5_1_20.ext E33
          have P5_2_33 := P5_2_20.ext E33
          have P5_3_33 := P5_3_20.ext E33
          have P6_0_33 := P6_0_20.ext E33
          have P6_1_33 := P6_1_20.ext E33
          have P6_2_33 := P6_2_20.ext E33
          have P6_3_33 := P6_3_20.ext E33
          have P11_0_33 := P11_0_20.ext E33
          have P11_1_33 := P11_1_20.ext E33
          have P11_2_33 := P11_2_20.ext E33
          have P11_3_33 := P11_3_20.ext E33
          have P20_0_33 := P20_0.ext E33
          have P20_1_33 := P20_1.ext E33
          have P20_2_33 := P20_2.ext E33
          have P20_3_33 := P20_3.ext E33
          have gn_b33 : n0 ≤ b33 := Nat.le_trans Z20 (Nat.le_of_eq g33.symm)
          have Z33 := Nat.le_trans Z20 E33.1
          have Kz33 := Nat.le_trans Kz20 E33.1
          have F33_text : Fld Z h33 b33 "com/example/wenshai/wenshai/model/Keyword" "text" "Ljava/lang/String;" .null := D33 (Or.inr (hw _ (List.mem_of_getElem? (i := 79) rfl))) (ty := (.object "java/lang/String")) (by decide)
          have F33_category : Fld Z h33 b33 "com/example/wenshai/wenshai/model/Keyword" "category" "Ljava/lang/String;" .null := D33 (Or.inr (hw _ (List.mem_of_getElem? (i := 81) rfl))) (ty := (.object "java/lang/String")) (by decide)
          refine g_dup (pc' := 215) C X33 at_214 rfl rfl ?_
          refine g_aload (pc' := 217) C X33 at_215 rfl rfl rfl ?_
          refine g_aload (pc' := 219) C X33 at_217 rfl rfl rfl ?_
          refine g_callIW (b := b33) (y := (⟨"com/example/wenshai/wenshai/model/Keyword", "<init>", "(Ljava/lang/String;Ljava/lang/String;)V"⟩ : MethodName)) (argsL := [(.ref r5), (.ref r6)]) (st := [(.ref b33)]) (pc' := 222) C X33 hS Kz33 rfl at_219 (hw _ (List.mem_of_getElem? (i := 33) rfl)) (hw _ (List.mem_of_getElem? (i := 34) rfl)) (hw _ (List.mem_of_getElem? (i := 32) rfl)) (hw _ (List.mem_of_getElem? (i := 35) rfl)) (by decide) (rmki l Z a0 hw [] b33 r5 r6 v5 kb5 (own_n (own_l13 p1 p2 p3 p4 p5)) (own_cs (own_l13 p1 p2 p3 p4 p5) (own_l5 p1 p2 p3 p4 p5) (own_l6 p1 p2 p3 p4 p5)) v6 kb6 (own_n (own_l14 p1 p2 p3 p4 p5)) (own_cs (own_l14 p1 p2 p3 p4 p5) (own_l7 p1 p2 p3 p4 p5) (own_l8 p1 p2 p3 p4 p5)) cs h33 n0 Z33 S_cs_33 A33 F33_text F33_category P5_0_33 P5_1_33 P5_2_33 P5_3_33 P6_0_33 P6_1_33 P6_2_33 P6_3_33 hcs gn_b33 (own_n12 _) (own_n12 _) ne33_34 ne33_36 ne33_35 ne33_37) (W := 1) (by decide) (by decide) (ce := 17) (sl := 90) rfl rfl (by decide) (by decide) rfl e33 rfl pd_19 rfl (Nat.le_refl _) rfl (fun rv42 T42 L42 C X42 hS Q42 => ?_)
          obtain ⟨q42, Nq42, Kq42, P42_0, P42_1, P42_2⟩ := Q42
          have N42 := Fr.app N20 Nq42
          have S_cs_42 := own_sta_keep S_cs_33 Kq42 ((allS (by obtain ⟨c_, _, h1_, _, _, h2_, _⟩ := A33; exact ⟨c_, h1_, h2_⟩) all0))
          have P5_0_42 := P5_0_33.keep Kq42
          have P5_1_42 := P5_1_33.keep Kq42 (ninS ne33_34 nin0)
          have P5_2_42 := P5_2_33.keep Kq42 (ninS ne33_34 nin0)
          have P5_3_42 := P5_3_33.keep Kq42 (ninS ne33_35 nin0)
          have P6_0_42 := P6_0_33.keep Kq42
          have P6_1_42 := P6_1_33.keep Kq42 (ninS ne33_36 nin0)
          have P6_2_42 := P6_2_33.keep Kq42 (ninS ne33_36 nin0)
          have P6_3_42 := P6_3_33.keep Kq42 (ninS ne33_37 nin0)
          have P11_0_42 := P11_0_33.keep Kq42
          have P11_1_42 := P11_1_33.keep Kq42 (ninS ne33_38 nin0)
          have P11_2_42 := P11_2_33.keep Kq42 (ninS ne33_38 nin0)
          have P11_3_42 := P11_3_33.keep Kq42 (ninS ne33_39 nin0)
          have P20_0_42 := P20_0_33.keep Kq42
          have P20_1_42 := P20_1_33.keep Kq42 (ninS ne33_40 nin0)
          have P20_2_42 := P20_2_33.keep Kq42 (ninS ne33_40 nin0)
          have P20_3_42 := P20_3_33.keep Kq42 (ninS ne33_41 nin0)
          have Z42 := Nat.le_trans Z33 Kq42.1
          have Kz42 := Nat.le_trans Kz33 Kq42.1
          subst q42
          show Go p.tables e below _ (T42.setTop (mkF m 222 #[.val (.int p1), .val (.int p2), .val (.int p3), .val (.int p4), .val (.int p5), .val (.int (own_l5 p1 p2 p3 p4 p5)), .val (.int (own_l6 p1 p2 p3 p4 p5)), .val (.int (own_l7 p1 p2 p3 p4 p5)), .val (.int (own_l8 p1 p2 p3 p4 p5)), .val (.int (own_l9 p1 p2 p3 p4 p5)), .val (.int (own_l10 p1 p2 p3 p4 p5)), .val (.int (own_l11 p1 p2 p3 p4 p5)), .val (.int (own_l12 p1 p2 p3 p4 p5)), .val (.int (own_l13 p1 p2 p3 p4 p5)), .val (.int (own_l14 p1 p2 p3 p4 p5)), .val (.int (own_l15 p1 p2 p3 p4 p5)), .val (.int (own_l16 p1 p2 p3 p4 p5)), .val (.ref r5), .val (.ref r6), .val (.ref r11), .val (.ref r20), .unset, .unset, .unset, .unset, .unset, .unset] [(.ref b33)]))
          refine g_astore (pc' := 224) (Ls' := #[.val (.int p1), .val (.int p2), .val (.int p3), .val (.int p4), .val (.int p5), .val (.int (own_l5 p1 p2 p3 p4 p5)), .val (.int (own_l6 p1 p2 p3 p4 p5)), .val (.int (own_l7 p1 p2 p3 p4 p5)), .val (.int (own_l8 p1 p2 p3 p4 p5)), .val (.int (own_l9 p1 p2 p3 p4 p5)), .val (.int (own_l10 p1 p2 p3 p4 p5)), .val (.int (own_l11 p1 p2 p3 p4 p5)), .val (.int (own_l12 p1 p2 p3 p4 p5)), .val (.int (own_l13 p1 p2 p3 p4 p5)), .val (.int (own_l14 p1 p2 p3 p4 p5)), .val (.int (own_l15 p1 p2 p3 p4 p5)), .val (.int (own_l16 p1 p2 p3 p4 p5)), .val (.ref r5), .val (.ref r6), .val (.ref r11), .val (.ref r20), .val (.ref b33), .unset, .unset, .unset, .unset, .unset]) C X42 at_222 rfl rfl rfl ?_
          refine g_new (pc' := 227) C X42 at_224 (hw _ (List.mem_of_getElem? (i := 30) rfl)) (hw _ (List.mem_of_getElem? (i := 31) rfl)) (hw _ (List.mem_of_getElem? (i := 32) rfl)) rfl (ce := 18) (sl := 92) rfl rfl (by decide) (by decide) rfl (fun T43 h43 b43 g43 X43 e43 E43 A43 D43 => ?_)
          have ne43_44 : ¬ (r5 = b43) := Nat.ne_of_lt (Nat.lt_of_lt_of_le P5_0_42.lt (Nat.le_of_eq g43.symm))
          have ne43_45 : ¬ (v5 = b43) := Nat.ne_of_lt (Nat.lt_of_lt_of_le P5_3_42.lt (Nat.le_of_eq g43.symm))
          have ne43_46 : ¬ (r6 = b43) := Nat.ne_of_lt (Nat.lt_of_lt_of_le P6_0_42.lt (Nat.le_of_eq g43.symm))
          have ne43_47 : ¬ (v6 = b43) := Nat.ne_of_lt (Nat.lt_of_lt_of_le P6_3_42.lt (Nat.le_of_eq g43.symm))
          have ne43_48 : ¬ (r11 = b43) := Nat.ne_of_lt (Nat.lt_of_lt_of_le P11_0_42.lt (Nat.le_of_eq g43.symm))
          have ne43_49 : ¬ (v11 = b43) := Nat.ne_of_lt (Nat.lt_of_lt_of_le P11_3_42.lt (Nat.le_of_eq g43.symm))
          have ne43_50 : ¬ (r20 = b43) := Nat.ne_of_lt (Nat.lt_of_lt_of_le P20_0_42.lt (Nat.le_of_eq g43.symm))
          have ne43_51 : ¬ (v20 = b43) := Nat.ne_of_lt (Nat.lt_of_lt_of_le P20_3_42.lt (Nat.le_of_eq g43.symm))
          have ne43_52 : ¬ (b33 = b43) := Nat.ne_of_lt (Nat.lt_of_lt_of_le P42_0.lt (Nat.le_of_eq g43.symm))
          have S_cs_43 := S_cs_42.ext E43
          have P5_0_43 := P5_0_42.ext E43
          have P5_1_43 := P5_1_42.ext E43
          have P5_2_43 := P5_2_42.ext E43
          have P5_3_43 := P5_3_42.ext E43
          have P6_0_43 := P6_0_42.ext E43
          have P6_1_43 := P6_1_42.ext E43
          have P6_2_43 := P6_2_42.ext E43
          have P6_3_43 := P6_3_42.ext E43
          have P11_0_43 := P11_0_42.ext E43
          have P11_1_43 := P11_1_42.ext E43
          have P11_2_43 := P11_2_42.ext E43
          have P11_3_43 := P11_3_42.ext E43
          have P20_0_43 := P20_0_42.ext E43
          have P20_1_43 := P20_1_42.ext E43
          have P20_2_43 := P20_2_42.ext E43
          have P20_3_43 := P20_3_42.ext E43
          have P42_0_43 := P42_0.ext E43
          have P42_1_43 := P42_1.ext E43
          have P42_2_43 := P42_2.ext E43
          have gn_b43 : n0 ≤ b43 := Nat.le_trans Z42 (Nat.le_of_eq g43.symm)
          have Z43 := Nat.le_trans Z42 E43.1
          have Kz43 := Nat.le_trans (Nat.le_refl _) E43.1
          have F43_text : Fld Z h43 b43 "com/example/wenshai/wenshai/model/Keyword" "text" "Ljava/lang/String;" .null := D43 (Or.inr (hw _ (List.mem_of_getElem? (i := 79) rfl))) (ty := (.object "java/lang/String")) (by decide)
          have F43_category : Fld Z h43 b43 "com/example/wenshai/wenshai/model/Keyword" "category" "Ljava/lang/String;" .null := D43 (Or.inr (hw _ (List.mem_of_getElem? (i := 81) rfl))) (ty := (.object "java/lang/String")) (by decide)
          refine g_dup (pc' := 228) C X43 at_227 rfl rfl ?_
          refine g_aload (pc' := 230) C X43 at_228 rfl rfl rfl ?_
          refine g_aload (pc' := 232) C X43 at_230 rfl rfl rfl ?_
          refine g_callIW (b := b43) (y := (⟨"com/example/wenshai/wenshai/model/Keyword", "<init>", "(Ljava/lang/String;Ljava/lang/String;)V"⟩ : MethodName)) (argsL := [(.ref r11), (.ref r20)]) (st := [(.ref b43)]) (pc' := 235) C X43 hS Kz43 rfl at_232 (hw _ (List.mem_of_getElem? (i := 33) rfl)) (hw _ (List.mem_of_getElem? (i := 34) rfl)) (hw _ (List.mem_of_getElem? (i := 32) rfl)) (hw _ (List.mem_of_getElem? (i := 35) rfl)) (by decide) (rmki l Z a0 hw [] b43 r11 r20 v11 kb11 (own_n (own_l15 p1 p2 p3 p4 p5)) (own_cs (own_l15 p1 p2 p3 p4 p5) (own_l9 p1 p2 p3 p4 p5) (own_l10 p1 p2 p3 p4 p5)) v20 kb20 (own_n (own_l16 p1 p2 p3 p4 p5)) (own_cs (own_l16 p1 p2 p3 p4 p5) (own_l11 p1 p2 p3 p4 p5) (own_l12 p1 p2 p3 p4 p5)) cs h43 n0 Z43 S_cs_43 A43 F43_text F43_category P11_0_43 P11_1_43 P11_2_43 P11_3_43 P20_0_43 P20_1_43 P20_2_43 P20_3_43 hcs gn_b43 (own_n12 _) (own_n12 _) ne43_48 ne43_50 ne43_49 ne43_51) (W := 1) (by decide) (by decide) (ce := 22) (sl := 148) rfl rfl (by decide) (by decide) rfl e43 rfl pd_19 rfl (Nat.le_refl _) rfl (fun rv53 T53 L53 C X53 hS Q53 => ?_)
          obtain ⟨q53, Nq53, Kq53, P53_0, P53_1, P53_2⟩ := Q53
          have N53 := Fr.app N42 Nq53
          have S_cs_53 := own_sta_keep S_cs_43 Kq53 ((allS (by obtain ⟨c_, _, h1_, _, _, h2_, _⟩ := A43; exact ⟨c_, h1_, h2_⟩) all0))
          have P5_0_53 := P5_0_43.keep Kq53
          have P5_1_53 := P5_1_43.keep Kq53 (ninS ne43_44 nin0)
          have P5_2_53 := P5_2_43.keep Kq53 (ninS ne43_44 nin0)
          have P5_3_53 := P5_3_43.keep Kq53 (ninS ne43_45 nin0)
          have P6_0_53 := P6_0_43.keep Kq53
          have P6_1_53 := P6_1_43.keep Kq53 (ninS ne43_46 nin0)
          have P6_2_53 := P6_2_43.keep Kq53 (ninS ne43_46 nin0)
          have P6_3_53 := P6_3_43.keep Kq53 (ninS ne43_47 nin0)
          have P11_0_53 := P11_0_43.keep Kq53
          have P11_1_53 := P11_1_43.keep Kq53 (ninS ne43_48 nin0)
          have P11_2_53 := P11_2_43.keep Kq53 (ninS ne43_48 nin0)
          have P11_3_53 := P11_3_43.keep Kq53 (ninS ne43_49 nin0)
          have P20_0_53 := P20_0_43.keep Kq53
          have P20_1_53 := P20_1_43.keep Kq53 (ninS ne43_50 nin0)
          have P20_2_53 := P20_2_43.keep Kq53 (ninS ne43_50 nin0)
          have P20_3_53 := P20_3_43.keep Kq53 (ninS ne43_51 nin0)
          have P42_0_53 := P42_0_43.keep Kq53
          have P42_1_53 := P42_1_43.keep Kq53 (ninS ne43_52 nin0)
          have P42_2_53 := P42_2_43.keep Kq53 (ninS ne43_52 nin0)
          have Z53 := Nat.le_trans Z43 Kq53.1
          have Kz53 := Nat.le_trans Kz43 Kq53.1
          subst q53
          show Go p.tables e below _ (T53.setTop (mkF m 235 #[.val (.int p1), .val (.int p2), .val (.int p3), .val (.int p4), .val (.int p5), .val (.int (own_l5 p1 p2 p3 p4 p5)), .val (.int (own_l6 p1 p2 p3 p4 p5)), .val (.int (own_l7 p1 p2 p3 p4 p5)), .val (.int (own_l8 p1 p2 p3 p4 p5)), .val (.int (own_l9 p1 p2 p3 p4 p5)), .val (.int (own_l10 p1 p2 p3 p4 p5)), .val (.int (own_l11 p1 p2 p3 p4 p5)), .val (.int (own_l12 p1 p2 p3 p4 p5)), .val (.int (own_l13 p1 p2 p3 p4 p5)), .val (.int (own_l14 p1 p2 p3 p4 p5)), .val (.int (own_l15 p1 p2 p3 p4 p5)), .val (.int (own_l16 p1 p2 p3 p4 p5)), .val (.ref r5), .val (.ref r6), .val (.ref r11), .val (.ref r20), .val (.ref b33), .unset, .unset, .unset, .unset, .unset] [(.ref b43)]))
          refine g_astore (pc' := 237) (Ls' := #[.val (.int p1), .val (.int p2), .val (.int p3), .val (.int p4), .val (.int p5), .val (.int (own_l5 p1 p2 p3 p4 p5)), .val (.int (own_l6 p1 p2 p3 p4 p5)), .val (.int (own_l7 p1 p2 p3 p4 p5)), .val (.int (own_l8 p1 p2 p3 p4 p5)), .val (.int (own_l9 p1 p2 p3 p4 p5)), .val (.int (own_l10 p1 p2 p3 p4 p5)), .val (.int (own_l11 p1 p2 p3 p4 p5)), .val (.int (own_l12 p1 p2 p3 p4 p5)), .val (.int (own_l13 p1 p2 p3 p4 p5)), .val (.int (own_l14 p1 p2 p3 p4 p5)), .val (.int (own_l15 p1 p2 p3 p4 p5)), .val (.int (own_l16 p1 p2 p3 p4 p5)), .val (.ref r5), .val (.ref r6), .val (.ref r11), .val (.ref r20), .val (.ref b33), .val (.ref b43), .unset, .unset, .unset, .unset]) C X53 at_235 rfl rfl rfl ?_
          refine own_join (S' := T53.setTop (mkF m 269 #[.val (.int p1), .val (.int p2), .val (.int p3), .val (.int p4), .val (.int p5), .val (.int (own_l5 p1 p2 p3 p4 p5)), .val (.int (own_l6 p1 p2 p3 p4 p5)), .val (.int (own_l7 p1 p2 p3 p4 p5)), .val (.int (own_l8 p1 p2 p3 p4 p5)), .val (.int (own_l9 p1 p2 p3 p4 p5)), .val (.int (own_l10 p1 p2 p3 p4 p5)), .val (.int (own_l11 p1 p2 p3 p4 p5)), .val (.int (own_l12 p1 p2 p3 p4 p5)), .val (.int (own_l13 p1 p2 p3 p4 p5)), .val (.int (own_l14 p1 p2 p3 p4 p5)), .val (.int (own_l15 p1 p2 p3 p4 p5)), .val (.int (own_l16 p1 p2 p3 p4 p5)), .val (.ref r5), .val (.ref r6), .val (.ref r11), .val (.ref r20), .val (.ref b33), .val (.ref b43), .unset, .unset, .unset, .unset] [(.int (if (own_l13 p1 p2 p3 p4 p5) = (own_l15 p1 p2 p3 p4 p5) then (if (own_l5 p1 p2 p3 p4 p5) = (own_l9 p1 p2 p3 p4 p5) then (if (own_l13 p1 p2 p3 p4 p5) = (1 : Int32) then (1 : Int32) else (if (own_l6 p1 p2 p3 p4 p5) = (own_l10 p1 p2 p3 p4 p5) then (1 : Int32) else (0 : Int32))) else (0 : Int32)) else (0 : Int32)))])) (fun J => ?_) ?_
          · refine g_iload (pc' := 239) C X53 at_237 rfl rfl ?_
            refine g_iload (pc' := 241) C X53 at_239 rfl rfl ?_
            by_cases c54 : (own_l13 p1 p2 p3 p4 p5) = (own_l15 p1 p2 p3 p4 p5)
            · refine g_icmpN (pc' := 244) C X53 at_241 (teq c54).2 rfl ?_
              refine g_iload (pc' := 246) C X53 at_244 rfl rfl ?_
              refine g_iload (pc' := 248) C X53 at_246 rfl rfl ?_
              by_cases c55 : (own_l5 p1 p2 p3 p4 p5) = (own_l9 p1 p2 p3 p4 p5)
              · refine g_icmpN (pc' := 251) C X53 at_248 (teq c55).2 rfl ?_
                refine g_iload (pc' := 253) C X53 at_251 rfl rfl ?_
                refine g_iconst (pc' := 254) (v := (1 : Int32)) C X53 at_253 rfl rfl ?_
                by_cases c56 : (own_l13 p1 p2 p3 p4 p5) = (1 : Int32)
                · refine g_icmpY (pc' := 264) C X53 at_254 (teq c56).1 (by decide) (by decide) ?_
                  refine g_iconst (pc' := 265) (v := (1 : Int32)) C X53 at_264 rfl rfl ?_
                  refine g_goto (pc' := 269) C X53 at_265 (by decide) (by decide) ?_
                  rw [if_pos c54, if_pos c55, if_pos c56] at J
                  exact J
                · refine g_icmpN (pc' := 257) C X53 at_254 (feq c56).1 rfl ?_
                  refine g_iload (pc' := 259) C X53 at_257 rfl rfl ?_
                  refine g_iload (pc' := 261) C X53 at_259 rfl rfl ?_
                  by_cases c57 : (own_l6 p1 p2 p3 p4 p5) = (own_l10 p1 p2 p3 p4 p5)
                  · refine g_icmpN (pc' := 264) C X53 at_261 (teq c57).2 rfl ?_
                    refine g_iconst (pc' := 265) (v := (1 : Int32)) C X53 at_264 rfl rfl ?_
                    refine g_goto (pc' := 269) C X53 at_265 (by decide) (by decide) ?_
                    rw [if_pos c54, if_pos c55, if_neg c56, if_pos c57] at J
                    exact J
                  · refine g_icmpY (pc' := 268) C X53 at_261 (feq c57).2 (by decide) (by decide) ?_
                    refine g_iconst (pc' := 269) (v := (0 : Int32)) C X53 at_268 rfl rfl ?_
                    rw [if_pos c54, if_pos c55, if_neg c56, if_neg c57] at J
                    exact J
              · refine g_icmpY (pc' := 268) C X53 at_248 (feq c55).2 (by decide) (by decide) ?_
                refine g_iconst (pc' := 269) (v := (0 : Int32)) C X53 at_268 rfl rfl ?_
                rw [if_pos c54, if_neg c55] at J
                exact J
            · refine g_icmpY (pc' := 268) C X53 at_241 (feq c54).2 (by decide) (by decide) ?_
              refine g_iconst (pc' := 269) (v := (0 : Int32)) C X53 at_268 rfl rfl ?_
              rw [if_neg c54] at J
              exact J
          · refine g_istore (pc' := 271) (Ls' := #[.val (.int p1), .val (.int p2), .val (.int p3), .val (.int p4), .val (.int p5), .val (.int (own_l5 p1 p2 p3 p4 p5)), .val (.int (own_l6 p1 p2 p3 p4 p5)), .val (.int (own_l7 p1 p2 p3 p4 p5)), .val (.int (own_l8 p1 p2 p3 p4 p5)), .val (.int (own_l9 p1 p2 p3 p4 p5)), .val (.int (own_l10 p1 p2 p3 p4 p5)), .val (.int (own_l11 p1 p2 p3 p4 p5)), .val (.int (own_l12 p1 p2 p3 p4 p5)), .val (.int (own_l13 p1 p2 p3 p4 p5)), .val (.int (own_l14 p1 p2 p3 p4 p5)), .val (.int (own_l15 p1 p2 p3 p4 p5)), .val (.int (own_l16 p1 p2 p3 p4 p5)), .val (.ref r5), .val (.ref r6), .val (.ref r11), .val (.ref r20), .val (.ref b33), .val (.ref b43), .val (.int (if (own_l13 p1 p2 p3 p4 p5) = (own_l15 p1 p2 p3 p4 p5) then (if (own_l5 p1 p2 p3 p4 p5) = (own_l9 p1 p2 p3 p4 p5) then (if (own_l13 p1 p2 p3 p4 p5) = (1 : Int32) then (1 : Int32) else (if (own_l6 p1 p2 p3 p4 p5) = (own_l10 p1 p2 p3 p4 p5) then (1 : Int32) else (0 : Int32))) else (0 : Int32)) else (0 : Int32))), .unset, .unset, .unset]) C X53 at_269 rfl rfl ?_
            refine own_join (S' := T53.setTop (mkF m 303 #[.val (.int p1), .val (.int p2), .val (.int p3), .val (.int p4), .val (.int p5), .val (.int (own_l5 p1 p2 p3 p4 p5)), .val (.int (own_l6 p1 p2 p3 p4 p5)), .val (.int (own_l7 p1 p2 p3 p4 p5)), .val (.int (own_l8 p1 p2 p3 p4 p5)), .val (.int (own_l9 p1 p2 p3 p4 p5)), .val (.int (own_l10 p1 p2 p3 p4 p5)), .val (.int (own_l11 p1 p2 p3 p4 p5)), .val (.int (own_l12 p1 p2 p3 p4 p5)), .val (.int (own_l13 p1 p2 p3 p4 p5)), .val (.int (own_l14 p1 p2 p3 p4 p5)), .val (.int (own_l15 p1 p2 p3 p4 p5)), .val (.int (own_l16 p1 p2 p3 p4 p5)), .val (.ref r5), .val (.ref r6), .val (.ref r11), .val (.ref r20), .val (.ref b33), .val (.ref b43), .val (.int (if (own_l13 p1 p2 p3 p4 p5) = (own_l15 p1 p2 p3 p4 p5) then (if (own_l5 p1 p2 p3 p4 p5) = (own_l9 p1 p2 p3 p4 p5) then (if (own_l13 p1 p2 p3 p4 p5) = (1 : Int32) then (1 : Int32) else (if (own_l6 p1 p2 p3 p4 p5) = (own_l10 p1 p2 p3 p4 p5) then (1 : Int32) else (0 : Int32))) else (0 : Int32)) else (0 : Int32))), .unset, .unset, .unset] [(.int (if (own_l14 p1 p2 p3 p4 p5) = (own_l16 p1 p2 p3 p4 p5) then (if (own_l7 p1 p2 p3 p4 p5) = (own_l11 p1 p2 p3 p4 p5) then (if (own_l14 p1 p2 p3 p4 p5) = (1 : Int32) then (1 : Int32) else (if (own_l8 p1 p2 p3 p4 p5) = (own_l12 p1 p2 p3 p4 p5) then (1 : Int32) else (0 : Int32))) else (0 : Int32)) else (0 : Int32)))])) (fun J => ?_) ?_
            · refine g_iload (pc' := 273) C X53 at_271 rfl rfl ?_
              refine g_iload (pc' := 275) C X53 at_273 rfl rfl ?_
              by_cases c58 : (own_l14 p1 p2 p3 p4 p5) = (own_l16 p1 p2 p3 p4 p5)
              · refine g_icmpN (pc' := 278) C X53 at_275 (teq c58).2 rfl ?_
                refine g_iload (pc' := 280) C X53 at_278 rfl rfl ?_
                refine g_iload (pc' := 282) C X53 at_280 rfl rfl ?_
                by_cases c59 : (own_l7 p1 p2 p3 p4 p5) = (own_l11 p1 p2 p3 p4 p5)
                · refine g_icmpN (pc' := 285) C X53 at_282 (teq c59).2 rfl ?_
                  refine g_iload (pc' := 287) C X53 at_285 rfl rfl ?_
                  refine g_iconst (pc' := 288) (v := (1 : Int32)) C X53 at_287 rfl rfl ?_
                  by_cases c60 : (own_l14 p1 p2 p3 p4 p5) = (1 : Int32)
                  · refine g_icmpY (pc' := 298) C X53 at_288 (teq c60).1 (by decide) (by decide) ?_
                    refine g_iconst (pc' := 299) (v := (1 : Int32)) C X53 at_298 rfl rfl ?_
                    refine g_goto (pc' := 303) C X53 at_299 (by decide) (by decide) ?_
                    rw [if_pos c58, if_pos c59, if_pos c60] at J
                    exact J
                  · refine g_icmpN (pc' := 291) C X53 at_288 (feq c60).1 rfl ?_
                    refine g_iload (pc' := 293) C X53 at_291 rfl rfl ?_
                    refine g_iload (pc' := 295) C X53 at_293 rfl rfl ?_
                    by_cases c61 : (own_l8 p1 p2 p3 p4 p5) = (own_l12 p1 p2 p3 p4 p5)
                    · refine g_icmpN (pc' := 298) C X53 at_295 (teq c61).2 rfl ?_
                      refine g_iconst (pc' := 299) (v := (1 : Int32)) C X53 at_298 rfl rfl ?_
                      refine g_goto (pc' := 303) C X53 at_299 (by decide) (by decide) ?_
                      rw [if_pos c58, if_pos c59, if_neg c60, if_pos c61] at J
                      exact J
                    · refine g_icmpY (pc' := 302) C X53 at_295 (feq c61).2 (by decide) (by decide) ?_
                      refine g_iconst (pc' := 303) (v := (0 : Int32)) C X53 at_302 rfl rfl ?_
                      rw [if_pos c58, if_pos c59, if_neg c60, if_neg c61] at J
                      exact J
                · refine g_icmpY (pc' := 302) C X53 at_282 (feq c59).2 (by decide) (by decide) ?_
                  refine g_iconst (pc' := 303) (v := (0 : Int32)) C X53 at_302 rfl rfl ?_
                  rw [if_pos c58, if_neg c59] at J
                  exact J
              · refine g_icmpY (pc' := 302) C X53 at_275 (feq c58).2 (by decide) (by decide) ?_
                refine g_iconst (pc' := 303) (v := (0 : Int32)) C X53 at_302 rfl rfl ?_
                rw [if_neg c58] at J
                exact J
            · refine g_istore (pc' := 305) (Ls' := #[.val (.int p1), .val (.int p2), .val (.int p3), .val (.int p4), .val (.int p5), .val (.int (own_l5 p1 p2 p3 p4 p5)), .val (.int (own_l6 p1 p2 p3 p4 p5)), .val (.int (own_l7 p1 p2 p3 p4 p5)), .val (.int (own_l8 p1 p2 p3 p4 p5)), .val (.int (own_l9 p1 p2 p3 p4 p5)), .val (.int (own_l10 p1 p2 p3 p4 p5)), .val (.int (own_l11 p1 p2 p3 p4 p5)), .val (.int (own_l12 p1 p2 p3 p4 p5)), .val (.int (own_l13 p1 p2 p3 p4 p5)), .val (.int (own_l14 p1 p2 p3 p4 p5)), .val (.int (own_l15 p1 p2 p3 p4 p5)), .val (.int (own_l16 p1 p2 p3 p4 p5)), .val (.ref r5), .val (.ref r6), .val (.ref r11), .val (.ref r20), .val (.ref b33), .val (.ref b43), .val (.int (if (own_l13 p1 p2 p3 p4 p5) = (own_l15 p1 p2 p3 p4 p5) then (if (own_l5 p1 p2 p3 p4 p5) = (own_l9 p1 p2 p3 p4 p5) then (if (own_l13 p1 p2 p3 p4 p5) = (1 : Int32) then (1 : Int32) else (if (own_l6 p1 p2 p3 p4 p5) = (own_l10 p1 p2 p3 p4 p5) then (1 : Int32) else (0 : Int32))) else (0 : Int32)) else (0 : Int32))), .val (.int (if (own_l14 p1 p2 p3 p4 p5) = (own_l16 p1 p2 p3 p4 p5) then (if (own_l7 p1 p2 p3 p4 p5) = (own_l11 p1 p2 p3 p4 p5) then (if (own_l14 p1 p2 p3 p4 p5) = (1 : Int32) then (1 : Int32) else (if (own_l8 p1 p2 p3 p4 p5) = (own_l12 p1 p2 p3 p4 p5) then (1 : Int32) else (0 : Int32))) else (0 : Int32)) else (0 : Int32))), .unset, .unset]) C X53 at_303 rfl rfl ?_
              refine own_join (S' := T53.setTop (mkF m 320 #[.val (.int p1), .val (.int p2), .val (.int p3), .val (.int p4), .val (.int p5), .val (.int (own_l5 p1 p2 p3 p4 p5)), .val (.int (own_l6 p1 p2 p3 p4 p5)), .val (.int (own_l7 p1 p2 p3 p4 p5)), .val (.int (own_l8 p1 p2 p3 p4 p5)), .val (.int (own_l9 p1 p2 p3 p4 p5)), .val (.int (own_l10 p1 p2 p3 p4 p5)), .val (.int (own_l11 p1 p2 p3 p4 p5)), .val (.int (own_l12 p1 p2 p3 p4 p5)), .val (.int (own_l13 p1 p2 p3 p4 p5)), .val (.int (own_l14 p1 p2 p3 p4 p5)), .val (.int (own_l15 p1 p2 p3 p4 p5)), .val (.int (own_l16 p1 p2 p3 p4 p5)), .val (.ref r5), .val (.ref r6), .val (.ref r11), .val (.ref r20), .val (.ref b33), .val (.ref b43), .val (.int (if (own_l13 p1 p2 p3 p4 p5) = (own_l15 p1 p2 p3 p4 p5) then (if (own_l5 p1 p2 p3 p4 p5) = (own_l9 p1 p2 p3 p4 p5) then (if (own_l13 p1 p2 p3 p4 p5) = (1 : Int32) then (1 : Int32) else (if (own_l6 p1 p2 p3 p4 p5) = (own_l10 p1 p2 p3 p4 p5) then (1 : Int32) else (0 : Int32))) else (0 : Int32)) else (0 : Int32))), .val (.int (if (own_l14 p1 p2 p3 p4 p5) = (own_l16 p1 p2 p3 p4 p5) then (if (own_l7 p1 p2 p3 p4 p5) = (own_l11 p1 p2 p3 p4 p5) then (if (own_l14 p1 p2 p3 p4 p5) = (1 : Int32) then (1 : Int32) else (if (own_l8 p1 p2 p3 p4 p5) = (own_l12 p1 p2 p3 p4 p5) then (1 : Int32) else (0 : Int32))) else (0 : Int32)) else (0 : Int32))), .unset, .unset] [(.int (if (if (own_l13 p1 p2 p3 p4 p5) = (own_l15 p1 p2 p3 p4 p5) then (if (own_l5 p1 p2 p3 p4 p5) = (own_l9 p1 p2 p3 p4 p5) then (if (own_l13 p1 p2 p3 p4 p5) = (1 : Int32) then (1 : Int32) else (if (own_l6 p1 p2 p3 p4 p5) = (own_l10 p1 p2 p3 p4 p5) then (1 : Int32) else (0 : Int32))) else (0 : Int32)) else (0 : Int32)) = (0 : Int32) then (0 : Int32) else (if (if (own_l14 p1 p2 p3 p4 p5) = (own_l16 p1 p2 p3 p4 p5) then (if (own_l7 p1 p2 p3 p4 p5) = (own_l11 p1 p2 p3 p4 p5) then (if (own_l14 p1 p2 p3 p4 p5) = (1 : Int32) then (1 : Int32) else (if (own_l8 p1 p2 p3 p4 p5) = (own_l12 p1 p2 p3 p4 p5) then (1 : Int32) else (0 : Int32))) else (0 : Int32)) else (0 : Int32)) = (0 : Int32) then (0 : Int32) else (1 : Int32))))])) (fun J => ?_) ?_
              · refine g_iload (pc' := 307) C X53 at_305 rfl rfl ?_
                by_cases c62 : (if (own_l13 p1 p2 p3 p4 p5) = (own_l15 p1 p2 p3 p4 p5) then (if (own_l5 p1 p2 p3 p4 p5) = (own_l9 p1 p2 p3 p4 p5) then (if (own_l13 p1 p2 p3 p4 p5) = (1 : Int32) then (1 : Int32) else (if (own_l6 p1 p2 p3 p4 p5) = (own_l10 p1 p2 p3 p4 p5) then (1 : Int32) else (0 : Int32))) else (0 : Int32)) else (0 : Int32)) = (0 : Int32)
                · refine g_ifY (pc' := 319) C X53 at_307 (teq c62).1 (by decide) (by decide) ?_
                  refine g_iconst (pc' := 320) (v := (0 : Int32)) C X53 at_319 rfl rfl ?_
                  rw [if_pos c62] at J
                  exact J
                · refine g_ifN (pc' := 310) C X53 at_307 (feq c62).1 rfl ?_
                  refine g_iload (pc' := 312) C X53 at_310 rfl rfl ?_
                  by_cases c63 : (if (own_l14 p1 p2 p3 p4 p5) = (own_l16 p1 p2 p3 p4 p5) then (if (own_l7 p1 p2 p3 p4 p5) = (own_l11 p1 p2 p3 p4 p5) then (if (own_l14 p1 p2 p3 p4 p5) = (1 : Int32) then (1 : Int32) else (if (own_l8 p1 p2 p3 p4 p5) = (own_l12 p1 p2 p3 p4 p5) then (1 : Int32) else (0 : Int32))) else (0 : Int32)) else (0 : Int32)) = (0 : Int32)
                  · refine g_ifY (pc' := 319) C X53 at_312 (teq c63).1 (by decide) (by decide) ?_
                    refine g_iconst (pc' := 320) (v := (0 : Int32)) C X53 at_319 rfl rfl ?_
                    rw [if_neg c62, if_pos c63] at J
                    exact J
                  · refine g_ifN (pc' := 315) C X53 at_312 (feq c63).1 rfl ?_
                    refine g_iconst (pc' := 316) (v := (1 : Int32)) C X53 at_315 rfl rfl ?_
                    refine g_goto (pc' := 320) C X53 at_316 (by decide) (by decide) ?_
                    rw [if_neg c62, if_neg c63] at J
                    exact J
              · refine g_istore (pc' := 322) (Ls' := #[.val (.int p1), .val (.int p2), .val (.int p3), .val (.int p4), .val (.int p5), .val (.int (own_l5 p1 p2 p3 p4 p5)), .val (.int (own_l6 p1 p2 p3 p4 p5)), .val (.int (own_l7 p1 p2 p3 p4 p5)), .val (.int (own_l8 p1 p2 p3 p4 p5)), .val (.int (own_l9 p1 p2 p3 p4 p5)), .val (.int (own_l10 p1 p2 p3 p4 p5)), .val (.int (own_l11 p1 p2 p3 p4 p5)), .val (.int (own_l12 p1 p2 p3 p4 p5)), .val (.int (own_l13 p1 p2 p3 p4 p5)), .val (.int (own_l14 p1 p2 p3 p4 p5)), .val (.int (own_l15 p1 p2 p3 p4 p5)), .val (.int (own_l16 p1 p2 p3 p4 p5)), .val (.ref r5), .val (.ref r6), .val (.ref r11), .val (.ref r20), .val (.ref b33), .val (.ref b43), .val (.int (if (own_l13 p1 p2 p3 p4 p5) = (own_l15 p1 p2 p3 p4 p5) then (if (own_l5 p1 p2 p3 p4 p5) = (own_l9 p1 p2 p3 p4 p5) then (if (own_l13 p1 p2 p3 p4 p5) = (1 : Int32) then (1 : Int32) else (if (own_l6 p1 p2 p3 p4 p5) = (own_l10 p1 p2 p3 p4 p5) then (1 : Int32) else (0 : Int32))) else (0 : Int32)) else (0 : Int32))), .val (.int (if (own_l14 p1 p2 p3 p4 p5) = (own_l16 p1 p2 p3 p4 p5) then (if (own_l7 p1 p2 p3 p4 p5) = (own_l11 p1 p2 p3 p4 p5) then (if (own_l14 p1 p2 p3 p4 p5) = (1 : Int32) then (1 : Int32) else (if (own_l8 p1 p2 p3 p4 p5) = (own_l12 p1 p2 p3 p4 p5) then (1 : Int32) else (0 : Int32))) else (0 : Int32)) else (0 : Int32))), .val (.int (if (if (own_l13 p1 p2 p3 p4 p5) = (own_l15 p1 p2 p3 p4 p5) then (if (own_l5 p1 p2 p3 p4 p5) = (own_l9 p1 p2 p3 p4 p5) then (if (own_l13 p1 p2 p3 p4 p5) = (1 : Int32) then (1 : Int32) else (if (own_l6 p1 p2 p3 p4 p5) = (own_l10 p1 p2 p3 p4 p5) then (1 : Int32) else (0 : Int32))) else (0 : Int32)) else (0 : Int32)) = (0 : Int32) then (0 : Int32) else (if (if (own_l14 p1 p2 p3 p4 p5) = (own_l16 p1 p2 p3 p4 p5) then (if (own_l7 p1 p2 p3 p4 p5) = (own_l11 p1 p2 p3 p4 p5) then (if (own_l14 p1 p2 p3 p4 p5) = (1 : Int32) then (1 : Int32) else (if (own_l8 p1 p2 p3 p4 p5) = (own_l12 p1 p2 p3 p4 p5) then (1 : Int32) else (0 : Int32))) else (0 : Int32)) else (0 : Int32)) = (0 : Int32) then (0 : Int32) else (1 : Int32)))), .unset]) C X53 at_320 rfl rfl ?_
                refine own_cast (show T53.setTop (mkF m 322 #[.val (.int p1), .val (.int p2), .val (.int p3), .val (.int p4), .val (.int p5), .val (.int (own_l5 p1 p2 p3 p4 p5)), .val (.int (own_l6 p1 p2 p3 p4 p5)), .val (.int (own_l7 p1 p2 p3 p4 p5)), .val (.int (own_l8 p1 p2 p3 p4 p5)), .val (.int (own_l9 p1 p2 p3 p4 p5)), .val (.int (own_l10 p1 p2 p3 p4 p5)), .val (.int (own_l11 p1 p2 p3 p4 p5)), .val (.int (own_l12 p1 p2 p3 p4 p5)), .val (.int (own_l13 p1 p2 p3 p4 p5)), .val (.int (own_l14 p1 p2 p3 p4 p5)), .val (.int (own_l15 p1 p2 p3 p4 p5)), .val (.int (own_l16 p1 p2 p3 p4 p5)), .val (.ref r5), .val (.ref r6), .val (.ref r11), .val (.ref r20), .val (.ref b33), .val (.ref b43), .val (.int (if (own_l13 p1 p2 p3 p4 p5) = (own_l15 p1 p2 p3 p4 p5) then (if (own_l5 p1 p2 p3 p4 p5) = (own_l9 p1 p2 p3 p4 p5) then (if (own_l13 p1 p2 p3 p4 p5) = (1 : Int32) then (1 : Int32) else (if (own_l6 p1 p2 p3 p4 p5) = (own_l10 p1 p2 p3 p4 p5) then (1 : Int32) else (0 : Int32))) else (0 : Int32)) else (0 : Int32))), .val (.int (if (own_l14 p1 p2 p3 p4 p5) = (own_l16 p1 p2 p3 p4 p5) then (if (own_l7 p1 p2 p3 p4 p5) = (own_l11 p1 p2 p3 p4 p5) then (if (own_l14 p1 p2 p3 p4 p5) = (1 : Int32) then (1 : Int32) else (if (own_l8 p1 p2 p3 p4 p5) = (own_l12 p1 p2 p3 p4 p5) then (1 : Int32) else (0 : Int32))) else (0 : Int32)) else (0 : Int32))), .val (.int (if (if (own_l13 p1 p2 p3 p4 p5) = (own_l15 p1 p2 p3 p4 p5) then (if (own_l5 p1 p2 p3 p4 p5) = (own_l9 p1 p2 p3 p4 p5) then (if (own_l13 p1 p2 p3 p4 p5) = (1 : Int32) then (1 : Int32) else (if (own_l6 p1 p2 p3 p4 p5) = (own_l10 p1 p2 p3 p4 p5) then (1 : Int32) else (0 : Int32))) else (0 : Int32)) else (0 : Int32)) = (0 : Int32) then (0 : Int32) else (if (if (own_l14 p1 p2 p3 p4 p5) = (own_l16 p1 p2 p3 p4 p5) then (if (own_l7 p1 p2 p3 p4 p5) = (own_l11 p1 p2 p3 p4 p5) then (if (own_l14 p1 p2 p3 p4 p5) = (1 : Int32) then (1 : Int32) else (if (own_l8 p1 p2 p3 p4 p5) = (own_l12 p1 p2 p3 p4 p5) then (1 : Int32) else (0 : Int32))) else (0 : Int32)) else (0 : Int32)) = (0 : Int32) then (0 : Int32) else (1 : Int32)))), .unset] []) = T53.setTop (mkF m 322 #[.val (.int p1), .val (.int p2), .val (.int p3), .val (.int p4), .val (.int p5), .val (.int (own_l5 p1 p2 p3 p4 p5)), .val (.int (own_l6 p1 p2 p3 p4 p5)), .val (.int (own_l7 p1 p2 p3 p4 p5)), .val (.int (own_l8 p1 p2 p3 p4 p5)), .val (.int (own_l9 p1 p2 p3 p4 p5)), .val (.int (own_l10 p1 p2 p3 p4 p5)), .val (.int (own_l11 p1 p2 p3 p4 p5)), .val (.int (own_l12 p1 p2 p3 p4 p5)), .val (.int (own_l13 p1 p2 p3 p4 p5)), .val (.int (own_l14 p1 p2 p3 p4 p5)), .val (.int (own_l15 p1 p2 p3 p4 p5)), .val (.int (own_l16 p1 p2 p3 p4 p5)), .val (.ref r5), .val (.ref r6), .val (.ref r11), .val (.ref r20), .val (.ref b33), .val (.ref b43), .val (.int (own_l23 p1 p2 p3 p4 p5)), .val (.int (own_l24 p1 p2 p3 p4 p5)), .val (.int (own_l25 p1 p2 p3 p4 p5)), .unset] []) from rfl) ?_
                refine g_null (pc' := 323) C X53 at_322 rfl ?_
                refine g_astore (pc' := 325) (Ls' := #[.val (.int p1), .val (.int p2), .val (.int p3), .val (.int p4), .val (.int p5), .val (.int (own_l5 p1 p2 p3 p4 p5)), .val (.int (own_l6 p1 p2 p3 p4 p5)), .val (.int (own_l7 p1 p2 p3 p4 p5)), .val (.int (own_l8 p1 p2 p3 p4 p5)), .val (.int (own_l9 p1 p2 p3 p4 p5)), .val (.int (own_l10 p1 p2 p3 p4 p5)), .val (.int (own_l11 p1 p2 p3 p4 p5)), .val (.int (own_l12 p1 p2 p3 p4 p5)), .val (.int (own_l13 p1 p2 p3 p4 p5)), .val (.int (own_l14 p1 p2 p3 p4 p5)), .val (.int (own_l15 p1 p2 p3 p4 p5)), .val (.int (own_l16 p1 p2 p3 p4 p5)), .val (.ref r5), .val (.ref r6), .val (.ref r11), .val (.ref r20), .val (.ref b33), .val (.ref b43), .val (.int (own_l23 p1 p2 p3 p4 p5)), .val (.int (own_l24 p1 p2 p3 p4 p5)), .val (.int (own_l25 p1 p2 p3 p4 p5)), .val .null]) C X53 at_323 rfl rfl rfl ?_
                refine g_aload (pc' := 327) C X53 at_325 rfl rfl rfl ?_
                refine g_aload (pc' := 329) C X53 at_327 rfl rfl rfl ?_
                refine g_callV (b := b33) (z := (⟨"com/example/wenshai/wenshai/model/Keyword", "equals", "(Ljava/lang/Object;)Z"⟩ : MethodName)) (y := (⟨"com/example/wenshai/wenshai/model/Keyword", "equals", "(Ljava/lang/Object;)Z"⟩ : MethodName)) (argsL := [(.ref b43)]) (st := []) (pc' := 332) C X53 at_329 (hw _ (List.mem_of_getElem? (i := 82) rfl)) (hw _ (List.mem_of_getElem? (i := 83) rfl)) (notFace_of_selects (args := #[]) (mvT C.hZ (hw _ (List.mem_of_getElem? (i := 85) rfl)))) (hw _ (List.mem_of_getElem? (i := 85) rfl)) (hw _ (List.mem_of_getElem? (i := 84) rfl)) (hw _ (List.mem_of_getElem? (i := 32) rfl)) (hw _ (List.mem_of_getElem? (i := 86) rfl)) (by decide) (rmkd l Z a0 hw [] b33 b43 r5 r6 r11 r20 v5 kb5 (own_n (own_l13 p1 p2 p3 p4 p5)) (own_cs (own_l13 p1 p2 p3 p4 p5) (own_l5 p1 p2 p3 p4 p5) (own_l6 p1 p2 p3 p4 p5)) v6 kb6 (own_n (own_l14 p1 p2 p3 p4 p5)) (own_cs (own_l14 p1 p2 p3 p4 p5) (own_l7 p1 p2 p3 p4 p5) (own_l8 p1 p2 p3 p4 p5)) v11 kb11 (own_n (own_l15 p1 p2 p3 p4 p5)) (own_cs (own_l15 p1 p2 p3 p4 p5) (own_l9 p1 p2 p3 p4 p5) (own_l10 p1 p2 p3 p4 p5)) v20 kb20 (own_n (own_l16 p1 p2 p3 p4 p5)) (own_cs (own_l16 p1 p2 p3 p4 p5) (own_l11 p1 p2 p3 p4 p5) (own_l12 p1 p2 p3 p4 p5)) cs T53.heap n0 S_cs_53 P42_0_53 P42_1_53 P42_2_53 P53_0 P53_1 P53_2 P5_0_53 P5_1_53 P5_2_53 P5_3_53 P6_0_53 P6_1_53 P6_2_53 P6_3_53 P11_0_53 P11_1_53 P11_2_53 P11_3_53 P20_0_53 P20_1_53 P20_2_53 P20_3_53 hcs ne11_12 ne20_23 (own_shape _ _ _) (own_shape _ _ _) (own_shape _ _ _) (own_shape _ _ _)) (W := 0) (by decide) (by decide) (ce := 22) (sl := 148) rfl rfl (by decide) (by decide) rfl P42_0_53 rfl rfl pd_17 rfl (Nat.le_refl _) rfl (fun rv64 T64 L64 X64 Q64 => ?_)
                obtain ⟨q64, Nq64, e64⟩ := Q64
                have N64 := Fr.app N53 Nq64
                subst q64
                show Go p.tables e below _ (T64.setTop (mkF m 332 #[.val (.int p1), .val (.int p2), .val (.int p3), .val (.int p4), .val (.int p5), .val (.int (own_l5 p1 p2 p3 p4 p5)), .val (.int (own_l6 p1 p2 p3 p4 p5)), .val (.int (own_l7 p1 p2 p3 p4 p5)), .val (.int (own_l8 p1 p2 p3 p4 p5)), .val (.int (own_l9 p1 p2 p3 p4 p5)), .val (.int (own_l10 p1 p2 p3 p4 p5)), .val (.int (own_l11 p1 p2 p3 p4 p5)), .val (.int (own_l12 p1 p2 p3 p4 p5)), .val (.int (own_l13 p1 p2 p3 p4 p5)), .val (.int (own_l14 p1 p2 p3 p4 p5)), .val (.int (own_l15 p1 p2 p3 p4 p5)), .val (.int (own_l16 p1 p2 p3 p4 p5)), .val (.ref r5), .val (.ref r6), .val (.ref r11), .val (.ref r20), .val (.ref b33), .val (.ref b43), .val (.int (own_l23 p1 p2 p3 p4 p5)), .val (.int (own_l24 p1 p2 p3 p4 p5)), .val (.int (own_l25 p1 p2 p3 p4 p5)), .val .null] [(.int (Fkd (own_cs (own_l13 p1 p2 p3 p4 p5) (own_l5 p1 p2 p3 p4 p5) (own_l6 p1 p2 p3 p4 p5)) (own_cs (own_l14 p1 p2 p3 p4 p5) (own_l7 p1 p2 p3 p4 p5) (own_l8 p1 p2 p3 p4 p5)) (own_cs (own_l15 p1 p2 p3 p4 p5) (own_l9 p1 p2 p3 p4 p5) (own_l10 p1 p2 p3 p4 p5)) (own_cs (own_l16 p1 p2 p3 p4 p5) (own_l11 p1 p2 p3 p4 p5) (own_l12 p1 p2 p3 p4 p5))))]))
                refine g_iload (pc' := 334) C X64 at_332 rfl rfl ?_
                by_cases c65 : (Fkd (own_cs (own_l13 p1 p2 p3 p4 p5) (own_l5 p1 p2 p3 p4 p5) (own_l6 p1 p2 p3 p4 p5)) (own_cs (own_l14 p1 p2 p3 p4 p5) (own_l7 p1 p2 p3 p4 p5) (own_l8 p1 p2 p3 p4 p5)) (own_cs (own_l15 p1 p2 p3 p4 p5) (own_l9 p1 p2 p3 p4 p5) (own_l10 p1 p2 p3 p4 p5)) (own_cs (own_l16 p1 p2 p3 p4 p5) (own_l11 p1 p2 p3 p4 p5) (own_l12 p1 p2 p3 p4 p5))) = (own_l25 p1 p2 p3 p4 p5)
                · refine g_icmpN (pc' := 337) C X64 at_334 (teq c65).2 rfl ?_
                  refine g_aload (pc' := 339) C X64 at_337 rfl rfl rfl ?_
                  refine g_aload (pc' := 341) C X64 at_339 rfl rfl rfl ?_
                  refine g_callV (b := b43) (z := (⟨"com/example/wenshai/wenshai/model/Keyword", "equals", "(Ljava/lang/Object;)Z"⟩ : MethodName)) (y := (⟨"com/example/wenshai/wenshai/model/Keyword", "equals", "(Ljava/lang/Object;)Z"⟩ : MethodName)) (argsL := [(.ref b33)]) (st := []) (pc' := 344) C X64 at_341 (hw _ (List.mem_of_getElem? (i := 82) rfl)) (hw _ (List.mem_of_getElem? (i := 83) rfl)) (notFace_of_selects (args := #[]) (mvT C.hZ (hw _ (List.mem_of_getElem? (i := 85) rfl)))) (hw _ (List.mem_of_getElem? (i := 85) rfl)) (hw _ (List.mem_of_getElem? (i := 84) rfl)) (hw _ (List.mem_of_getElem? (i := 32) rfl)) (hw _ (List.mem_of_getElem? (i := 86) rfl)) (by decide) (rmkd l Z a0 hw [] b43 b33 r11 r20 r5 r6 v11 kb11 (own_n (own_l15 p1 p2 p3 p4 p5)) (own_cs (own_l15 p1 p2 p3 p4 p5) (own_l9 p1 p2 p3 p4 p5) (own_l10 p1 p2 p3 p4 p5)) v20 kb20 (own_n (own_l16 p1 p2 p3 p4 p5)) (own_cs (own_l16 p1 p2 p3 p4 p5) (own_l11 p1 p2 p3 p4 p5) (own_l12 p1 p2 p3 p4 p5)) v5 kb5 (own_n (own_l13 p1 p2 p3 p4 p5)) (own_cs (own_l13 p1 p2 p3 p4 p5) (own_l5 p1 p2 p3 p4 p5) (own_l6 p1 p2 p3 p4 p5)) v6 kb6 (own_n (own_l14 p1 p2 p3 p4 p5)) (own_cs (own_l14 p1 p2 p3 p4 p5) (own_l7 p1 p2 p3 p4 p5) (own_l8 p1 p2 p3 p4 p5)) cs T53.heap n0 S_cs_53 P53_0 P53_1 P53_2 P42_0_53 P42_1_53 P42_2_53 P11_0_53 P11_1_53 P11_2_53 P11_3_53 P20_0_53 P20_1_53 P20_2_53 P20_3_53 P5_0_53 P5_1_53 P5_2_53 P5_3_53 P6_0_53 P6_1_53 P6_2_53 P6_3_53 hcs (Ne.symm ne11_12) (Ne.symm ne20_23) (own_shape _ _ _) (own_shape _ _ _) (own_shape _ _ _) (own_shape _ _ _)) (W := 0) (by decide) (by decide) (ce := 22) (sl := 148) rfl rfl (by decide) (by decide) rfl P53_0 e64 rfl pd_17 rfl (Nat.le_refl _) rfl (fun rv66 T66 L66 X66 Q66 => ?_)
                  obtain ⟨q66, Nq66, e66⟩ := Q66
                  have N66 := Fr.app N64 Nq66
                  subst q66
                  show Go p.tables e below _ (T66.setTop (mkF m 344 #[.val (.int p1), .val (.int p2), .val (.int p3), .val (.int p4), .val (.int p5), .val (.int (own_l5 p1 p2 p3 p4 p5)), .val (.int (own_l6 p1 p2 p3 p4 p5)), .val (.int (own_l7 p1 p2 p3 p4 p5)), .val (.int (own_l8 p1 p2 p3 p4 p5)), .val (.int (own_l9 p1 p2 p3 p4 p5)), .val (.int (own_l10 p1 p2 p3 p4 p5)), .val (.int (own_l11 p1 p2 p3 p4 p5)), .val (.int (own_l12 p1 p2 p3 p4 p5)), .val (.int (own_l13 p1 p2 p3 p4 p5)), .val (.int (own_l14 p1 p2 p3 p4 p5)), .val (.int (own_l15 p1 p2 p3 p4 p5)), .val (.int (own_l16 p1 p2 p3 p4 p5)), .val (.ref r5), .val (.ref r6), .val (.ref r11), .val (.ref r20), .val (.ref b33), .val (.ref b43), .val (.int (own_l23 p1 p2 p3 p4 p5)), .val (.int (own_l24 p1 p2 p3 p4 p5)), .val (.int (own_l25 p1 p2 p3 p4 p5)), .val .null] [(.int (Fkd (own_cs (own_l15 p1 p2 p3 p4 p5) (own_l9 p1 p2 p3 p4 p5) (own_l10 p1 p2 p3 p4 p5)) (own_cs (own_l16 p1 p2 p3 p4 p5) (own_l11 p1 p2 p3 p4 p5) (own_l12 p1 p2 p3 p4 p5)) (own_cs (own_l13 p1 p2 p3 p4 p5) (own_l5 p1 p2 p3 p4 p5) (own_l6 p1 p2 p3 p4 p5)) (own_cs (own_l14 p1 p2 p3 p4 p5) (own_l7 p1 p2 p3 p4 p5) (own_l8 p1 p2 p3 p4 p5))))]))
                  refine g_iload (pc' := 346) C X66 at_344 rfl rfl ?_
                  by_cases c67 : (Fkd (own_cs (own_l15 p1 p2 p3 p4 p5) (own_l9 p1 p2 p3 p4 p5) (own_l10 p1 p2 p3 p4 p5)) (own_cs (own_l16 p1 p2 p3 p4 p5) (own_l11 p1 p2 p3 p4 p5) (own_l12 p1 p2 p3 p4 p5)) (own_cs (own_l13 p1 p2 p3 p4 p5) (own_l5 p1 p2 p3 p4 p5) (own_l6 p1 p2 p3 p4 p5)) (own_cs (own_l14 p1 p2 p3 p4 p5) (own_l7 p1 p2 p3 p4 p5) (own_l8 p1 p2 p3 p4 p5))) = (own_l25 p1 p2 p3 p4 p5)
                  · refine g_icmpN (pc' := 349) C X66 at_346 (teq c67).2 rfl ?_
                    refine g_aload (pc' := 351) C X66 at_349 rfl rfl rfl ?_
                    refine g_aload (pc' := 353) C X66 at_351 rfl rfl rfl ?_
                    refine g_callV (b := b33) (z := (⟨"com/example/wenshai/wenshai/model/Keyword", "equals", "(Ljava/lang/Object;)Z"⟩ : MethodName)) (y := (⟨"com/example/wenshai/wenshai/model/Keyword", "equals", "(Ljava/lang/Object;)Z"⟩ : MethodName)) (argsL := [(.ref b33)]) (st := []) (pc' := 356) C X66 at_353 (hw _ (List.mem_of_getElem? (i := 82) rfl)) (hw _ (List.mem_of_getElem? (i := 83) rfl)) (notFace_of_selects (args := #[]) (mvT C.hZ (hw _ (List.mem_of_getElem? (i := 85) rfl)))) (hw _ (List.mem_of_getElem? (i := 85) rfl)) (hw _ (List.mem_of_getElem? (i := 84) rfl)) (hw _ (List.mem_of_getElem? (i := 32) rfl)) (hw _ (List.mem_of_getElem? (i := 86) rfl)) (by decide) (rmks l Z a0 hw [] b33 r5 r6 v5 kb5 (own_n (own_l13 p1 p2 p3 p4 p5)) (own_cs (own_l13 p1 p2 p3 p4 p5) (own_l5 p1 p2 p3 p4 p5) (own_l6 p1 p2 p3 p4 p5)) v6 kb6 (own_n (own_l14 p1 p2 p3 p4 p5)) (own_cs (own_l14 p1 p2 p3 p4 p5) (own_l7 p1 p2 p3 p4 p5) (own_l8 p1 p2 p3 p4 p5)) cs T53.heap n0 S_cs_53 P42_0_53 P42_1_53 P42_2_53 P5_0_53 P5_1_53 P5_2_53 P5_3_53 P6_0_53 P6_1_53 P6_2_53 P6_3_53) (W := 0) (by decide) (by decide) (ce := 22) (sl := 148) rfl rfl (by decide) (by decide) rfl P42_0_53 e66 rfl pd_17 rfl (Nat.le_refl _) rfl (fun rv68 T68 L68 X68 Q68 => ?_)
                    obtain ⟨q68, Nq68, e68⟩ := Q68
                    have N68 := Fr.app N66 Nq68
                    subst q68
                    show Go p.tables e below _ (T68.setTop (mkF m 356 #[.val (.int p1), .val (.int p2), .val (.int p3), .val (.int p4), .val (.int p5), .val (.int (own_l5 p1 p2 p3 p4 p5)), .val (.int (own_l6 p1 p2 p3 p4 p5)), .val (.int (own_l7 p1 p2 p3 p4 p5)), .val (.int (own_l8 p1 p2 p3 p4 p5)), .val (.int (own_l9 p1 p2 p3 p4 p5)), .val (.int (own_l10 p1 p2 p3 p4 p5)), .val (.int (own_l11 p1 p2 p3 p4 p5)), .val (.int (own_l12 p1 p2 p3 p4 p5)), .val (.int (own_l13 p1 p2 p3 p4 p5)), .val (.int (own_l14 p1 p2 p3 p4 p5)), .val (.int (own_l15 p1 p2 p3 p4 p5)), .val (.int (own_l16 p1 p2 p3 p4 p5)), .val (.ref r5), .val (.ref r6), .val (.ref r11), .val (.ref r20), .val (.ref b33), .val (.ref b43), .val (.int (own_l23 p1 p2 p3 p4 p5)), .val (.int (own_l24 p1 p2 p3 p4 p5)), .val (.int (own_l25 p1 p2 p3 p4 p5)), .val .null] [(.int Fks)]))
                    by_cases c69 : Fks = (0 : Int32)
                    · refine g_ifY (pc' := 383) C X68 at_356 (teq c69).1 (by decide) (by decide) ?_
                      refine g_iconst (pc' := 384) (v := (0 : Int32)) C X68 at_383 rfl rfl ?_
                      exact g_retNW C X68 hS (by rw [e68]; exact (Nat.le_refl _)) (by simp) at_384 (by decide) (by decide) ⟨congrArg (fun z => some (Value.int z)) (F0_l0 p1 p2 p3 p4 p5 c65 c67 c69).symm, N68⟩
                    · refine g_ifN (pc' := 359) C X68 at_356 (feq c69).1 rfl ?_
                      refine g_aload (pc' := 361) C X68 at_359 rfl rfl rfl ?_
                      refine g_aload (pc' := 363) C X68 at_361 rfl rfl rfl ?_
                      refine g_callV (b := b33) (z := (⟨"com/example/wenshai/wenshai/model/Keyword", "equals", "(Ljava/lang/Object;)Z"⟩ : MethodName)) (y := (⟨"com/example/wenshai/wenshai/model/Keyword", "equals", "(Ljava/lang/Object;)Z"⟩ : MethodName)) (argsL := [.null]) (st := []) (pc' := 366) C X68 at_363 (hw _ (List.mem_of_getElem? (i := 82) rfl)) (hw _ (List.mem_of_getElem? (i := 83) rfl)) (notFace_of_selects (args := #[]) (mvT C.hZ (hw _ (List.mem_of_getElem? (i := 85) rfl)))) (hw _ (List.mem_of_getElem? (i := 85) rfl)) (hw _ (List.mem_of_getElem? (i := 84) rfl)) (hw _ (List.mem_of_getElem? (i := 32) rfl)) (hw _ (List.mem_of_getElem? (i := 86) rfl)) (by decide) (rmkn l Z a0 hw [] b33 cs T53.heap n0 S_cs_53) (W := 0) (by decide) (by decide) (ce := 22) (sl := 148) rfl rfl (by decide) (by decide) rfl P42_0_53 e68 rfl pd_17 rfl (Nat.le_refl _) rfl (fun rv70 T70 L70 X70 Q70 => ?_)
                      obtain ⟨q70, Nq70, e70⟩ := Q70
                      have N70 := Fr.app N68 Nq70
                      subst q70
                      show Go p.tables e below _ (T70.setTop (mkF m 366 #[.val (.int p1), .val (.int p2), .val (.int p3), .val (.int p4), .val (.int p5), .val (.int (own_l5 p1 p2 p3 p4 p5)), .val (.int (own_l6 p1 p2 p3 p4 p5)), .val (.int (own_l7 p1 p2 p3 p4 p5)), .val (.int (own_l8 p1 p2 p3 p4 p5)), .val (.int (own_l9 p1 p2 p3 p4 p5)), .val (.int (own_l10 p1 p2 p3 p4 p5)), .val (.int (own_l11 p1 p2 p3 p4 p5)), .val (.int (own_l12 p1 p2 p3 p4 p5)), .val (.int (own_l13 p1 p2 p3 p4 p5)), .val (.int (own_l14 p1 p2 p3 p4 p5)), .val (.int (own_l15 p1 p2 p3 p4 p5)), .val (.int (own_l16 p1 p2 p3 p4 p5)), .val (.ref r5), .val (.ref r6), .val (.ref r11), .val (.ref r20), .val (.ref b33), .val (.ref b43), .val (.int (own_l23 p1 p2 p3 p4 p5)), .val (.int (own_l24 p1 p2 p3 p4 p5)), .val (.int (own_l25 p1 p2 p3 p4 p5)), .val .null] [(.int Fkn)]))
                      by_cases c71 : Fkn = (0 : Int32)
                      · refine g_ifN (pc' := 369) C X70 at_366 (teq c71).2 rfl ?_
                        refine g_aload (pc' := 371) C X70 at_369 rfl rfl rfl ?_
                        refine g_aload (pc' := 373) C X70 at_371 rfl rfl rfl ?_
                        refine g_callV (b := b33) (z := (⟨"com/example/wenshai/wenshai/model/Keyword", "equals", "(Ljava/lang/Object;)Z"⟩ : MethodName)) (y := (⟨"com/example/wenshai/wenshai/model/Keyword", "equals", "(Ljava/lang/Object;)Z"⟩ : MethodName)) (argsL := [(.ref r5)]) (st := []) (pc' := 376) C X70 at_373 (hw _ (List.mem_of_getElem? (i := 82) rfl)) (hw _ (List.mem_of_getElem? (i := 83) rfl)) (notFace_of_selects (args := #[]) (mvT C.hZ (hw _ (List.mem_of_getElem? (i := 85) rfl)))) (hw _ (List.mem_of_getElem? (i := 85) rfl)) (hw _ (List.mem_of_getElem? (i := 84) rfl)) (hw _ (List.mem_of_getElem? (i := 32) rfl)) (hw _ (List.mem_of_getElem? (i := 86) rfl)) (by decide) (rmko l Z a0 hw [] b33 r5 cs T53.heap n0 S_cs_53 P5_0_53) (W := 0) (by decide) (by decide) (ce := 22) (sl := 148) rfl rfl (by decide) (by decide) rfl P42_0_53 e70 rfl pd_17 rfl (Nat.le_refl _) rfl (fun rv72 T72 L72 X72 Q72 => ?_)
                        obtain ⟨q72, Nq72, e72⟩ := Q72
                        have N72 := Fr.app N70 Nq72
                        subst q72
                        show Go p.tables e below _ (T72.setTop (mkF m 376 #[.val (.int p1), .val (.int p2), .val (.int p3), .val (.int p4), .val (.int p5), .val (.int (own_l5 p1 p2 p3 p4 p5)), .val (.int (own_l6 p1 p2 p3 p4 p5)), .val (.int (own_l7 p1 p2 p3 p4 p5)), .val (.int (own_l8 p1 p2 p3 p4 p5)), .val (.int (own_l9 p1 p2 p3 p4 p5)), .val (.int (own_l10 p1 p2 p3 p4 p5)), .val (.int (own_l11 p1 p2 p3 p4 p5)), .val (.int (own_l12 p1 p2 p3 p4 p5)), .val (.int (own_l13 p1 p2 p3 p4 p5)), .val (.int (own_l14 p1 p2 p3 p4 p5)), .val (.int (own_l15 p1 p2 p3 p4 p5)), .val (.int (own_l16 p1 p2 p3 p4 p5)), .val (.ref r5), .val (.ref r6), .val (.ref r11), .val (.ref r20), .val (.ref b33), .val (.ref b43), .val (.int (own_l23 p1 p2 p3 p4 p5)), .val (.int (own_l24 p1 p2 p3 p4 p5)), .val (.int (own_l25 p1 p2 p3 p4 p5)), .val .null] [(.int Fko)]))
                        by_cases c73 : Fko = (0 : Int32)
                        · refine g_ifN (pc' := 379) C X72 at_376 (teq c73).2 rfl ?_
                          refine g_iconst (pc' := 380) (v := (1 : Int32)) C X72 at_379 rfl rfl ?_
                          refine g_goto (pc' := 384) C X72 at_380 (by decide) (by decide) ?_
                          exact g_retNW C X72 hS (by rw [e72]; exact (Nat.le_refl _)) (by simp) at_384 (by decide) (by decide) ⟨congrArg (fun z => some (Value.int z)) (F0_l1 p1 p2 p3 p4 p5 c65 c67 c69 c71 c73).symm, N72⟩
                        · refine g_ifY (pc' := 383) C X72 at_376 (feq c73).2 (by decide) (by decide) ?_
                          refine g_iconst (pc' := 384) (v := (0 : Int32)) C X72 at_383 rfl rfl ?_
                          exact g_retNW C X72 hS (by rw [e72]; exact (Nat.le_refl _)) (by simp) at_384 (by decide) (by decide) ⟨congrArg (fun z => some (Value.int z)) (F0_l2 p1 p2 p3 p4 p5 c65 c67 c69 c71 c73).symm, N72⟩
                      · refine g_ifY (pc' := 383) C X70 at_366 (feq c71).2 (by decide) (by decide) ?_
                        refine g_iconst (pc' := 384) (v := (0 : Int32)) C X70 at_383 rfl rfl ?_
                        exact g_retNW C X70 hS (by rw [e70]; exact (Nat.le_refl _)) (by simp) at_384 (by decide) (by decide) ⟨congrArg (fun z => some (Value.int z)) (F0_l3 p1 p2 p3 p4 p5 c65 c67 c69 c71).symm, N70⟩
                  · refine g_icmpY (pc' := 383) C X66 at_346 (feq c67).2 (by decide) (by decide) ?_
                    refine g_iconst (pc' := 384) (v := (0 : Int32)) C X66 at_383 rfl rfl ?_
                    exact g_retNW C X66 hS (by rw [e66]; exact (Nat.le_refl _)) (by simp) at_384 (by decide) (by decide) ⟨congrArg (fun z => some (Value.int z)) (F0_l4 p1 p2 p3 p4 p5 c65 c67).symm, N66⟩
                · refine g_icmpY (pc' := 383) C X64 at_334 (feq c65).2 (by decide) (by decide) ?_
                  refine g_iconst (pc' := 384) (v := (0 : Int32)) C X64 at_383 rfl rfl ?_
                  exact g_retNW C X64 hS (by rw [e64]; exact (Nat.le_refl _)) (by simp) at_384 (by decide) (by decide) ⟨congrArg (fun z => some (Value.int z)) (F0_l5 p1 p2 p3 p4 p5 c65).symm, N64⟩
theorem own_12 (x : Int32) : (1 : Int32) + (x &&& (1 : Int32)) = (1 : Int32) ∨ (1 : Int32) + (x &&& (1 : Int32)) = (2 : Int32) := by
  have e : (x &&& (1 : Int32)).toInt = x.toInt % (2 ^ 1 : Nat) := c_mask x _ 1 (by decide) (by decide)
  obtain ⟨i, hi⟩ := own_fin 2 (x &&& (1 : Int32)) (by omega) (by omega)
  rw [hi]; clear hi; revert i; decide
theorem own_Binj {x y : Int32} (hx : ¬ ((255 : Int32) < x) ∧ ¬ (x < (0 : Int32))) (hy : ¬ ((255 : Int32) < y) ∧ ¬ (y < (0 : Int32))) : own_B x = own_B y ↔ x = y := by
  refine ⟨fun q => ?_, fun q => by rw [q]⟩
  have a := c_i2b x
  have b := c_i2b y
  have a2 := c_i2b x.toInt8.toInt32
  have b2 := c_i2b y.toInt8.toInt32
  have c : (own_B x).toInt = x.toInt8.toInt32.toInt8.toInt32.toInt := rfl
  have d : (own_B y).toInt = y.toInt8.toInt32.toInt8.toInt32.toInt := rfl
  have q' := congrArg Int32.toInt q
  have z : (255 : Int32).toInt = 255 := by decide
  have z0 : (0 : Int32).toInt = 0 := by decide
  rw [Int32.lt_iff_toInt_lt, Int32.lt_iff_toInt_lt] at hx hy
  apply Int32.toInt_inj.mp
  omega
theorem own_nc {x : Int32} (hx : ¬ ((255 : Int32) < x) ∧ ¬ (x < (0 : Int32))) : nar .char x = x := by
  have a := c_i2c x
  have q : (nar .char x).toInt = x.toUInt32.toUInt16.toUInt32.toInt32.toInt := rfl
  have z : (255 : Int32).toInt = 255 := by decide
  have z0 : (0 : Int32).toInt = 0 := by decide
  rw [Int32.lt_iff_toInt_lt, Int32.lt_iff_toInt_lt] at hx
  apply Int32.toInt_inj.mp
  omega
theorem own_same {l m a b x y : Int32} (hl : l = (1 : Int32) ∨ l = (2 : Int32)) (hm : m = (1 : Int32) ∨ m = (2 : Int32)) (ha : ¬ ((255 : Int32) < a) ∧ ¬ (a < (0 : Int32))) (hb : ¬ ((255 : Int32) < b) ∧ ¬ (b < (0 : Int32))) (hx : ¬ ((255 : Int32) < x) ∧ ¬ (x < (0 : Int32))) (hy : ¬ ((255 : Int32) < y) ∧ ¬ (y < (0 : Int32))) :
    Fse (own_cs l a b) (own_cs m x y) = (if l = m then (if a = x then (if l = (1 : Int32) then (1 : Int32) else (if b = y then (1 : Int32) else (0 : Int32))) else (0 : Int32)) else (0 : Int32)) ∧ Fse (own_cs m x y) (own_cs l a b) = (if l = m then (if a = x then (if l = (1 : Int32) then (1 : Int32) else (if b = y then (1 : Int32) else (0 : Int32))) else (0 : Int32)) else (0 : Int32)) := by
  have h1 := own_Binj ha hx
  have h2 := own_Binj hb hy
  have h21 : ¬ ((2 : Int32) = (1 : Int32)) := by decide
  have h12 : ¬ ((1 : Int32) = (2 : Int32)) := by decide
  unfold Fse own_eq own_cs
  rw [own_nc ha, own_nc hb, own_nc hx, own_nc hy]
  rcases hl with rfl | rfl <;> rcases hm with rfl | rfl <;> by_cases q1 : a = x <;> by_cases q2 : b = y <;> simp [h21, h12, h1, h2, q1, q2, eq_comm]
theorem own_law (p1 p2 p3 p4 p5 : Int32) : F0 p1 p2 p3 p4 p5 = 1 := by
  obtain ⟨e1, e2⟩ := own_same (l := own_l13 p1 p2 p3 p4 p5) (m := own_l15 p1 p2 p3 p4 p5) (own_12 _) (own_12 _) (own_ch5 p1 p2 p3 p4 p5) (own_ch6 p1 p2 p3 p4 p5) (own_ch9 p1 p2 p3 p4 p5) (own_ch10 p1 p2 p3 p4 p5)
  obtain ⟨e3, e4⟩ := own_same (l := own_l14 p1 p2 p3 p4 p5) (m := own_l16 p1 p2 p3 p4 p5) (own_12 _) (own_12 _) (own_ch7 p1 p2 p3 p4 p5) (own_ch8 p1 p2 p3 p4 p5) (own_ch11 p1 p2 p3 p4 p5) (own_ch12 p1 p2 p3 p4 p5)
  unfold F0 Fkd own_l25 Fks Fkn Fko
  rw [e1, e2, e3, e4]
  generalize (if own_l13 p1 p2 p3 p4 p5 = own_l15 p1 p2 p3 p4 p5 then _ else _ : Int32) = u
  generalize (if own_l14 p1 p2 p3 p4 p5 = own_l16 p1 p2 p3 p4 p5 then _ else _ : Int32) = v
  rw [if_pos rfl, if_pos rfl]
  decide
set_option maxRecDepth 65536 in
set_option maxHeartbeats 40000000 in
theorem comes_1 {Post : Tables → Env → Array Value → State → Outcome → State → Prop} (hpost : ∀ tb e args s v u, (limb_1_1.after args s (.returned v) u = true ∧ limb_1_2.after args s (.returned v) u = true ∧ True) → ReturnedEndW s (.returned v) u (Jvm.fieldLocs frame_1_writes args s ++ Jvm.arrayLocs frame_1_arrays args s ++ Jvm.staticLocs frame_1_statics s) 40 2240 → Post tb e args s (.returned v) u) :
    ArmFor flags0 classFile x code maxLocals ret World_1 tables_1 room_1 Calls_1 rest_1 Pre_1 Post := by
  intro l hfl _ _ p e ha hc hk s m args below hf hA hF happ hP
  obtain ⟨hcalls, hrest, hpre⟩ := hP
  obtain ⟨-, -, -, hnamed, -, -, -, hat⟩ := (Spec.applies_iff hf).mp happ
  obtain ⟨hg, hnr⟩ := and_e (Cond.before_iff.mp (show (Jvm.Cond.and given_1 narrow_1).before args s = true from hpre))
  obtain ⟨gg1, gg2⟩ := and_e hg
  obtain ⟨gg3, gg4⟩ := and_e gg2
  obtain ⟨gg5, gg6⟩ := and_e gg4
  obtain ⟨gg7, gg8⟩ := and_e gg6
  obtain ⟨gg9, gg10⟩ := and_e gg8
  obtain ⟨w0, w1, w2, w3, w4, rfl⟩ : ∃ w0 w1 w2 w3 w4 : Value, args = #[w0, w1, w2, w3, w4] := by
    have hs : args.size = 5 := by simpa [Cond.value, given_1] using gg1
    obtain ⟨L⟩ := args
    match L, hs with
    | [w0, w1, w2, w3, w4], _ => exact ⟨w0, w1, w2, w3, w4, rfl⟩
  have hw := fun d (hd : d ∈ tables_1) => atoms_spec (ws := Jvm.Cond.code x code maxLocals ret :: tables_1) hat d (List.mem_cons_of_mem _ hd)
  have hfit : Fit s := fun {y c} hc i hi => by
    obtain ⟨ha, rfl⟩ := Array.getElem?_eq_some_iff.mp hc
    have q := List.all_eq_true.mp ((Array.all_eq_true_iff_forall_mem.mp hF) _ (Array.getElem_mem ha)) i (List.mem_range.mpr hi)
    simpa [Array.getElem?_eq_getElem hi] using q
  obtain ⟨i0, ei0⟩ := is_v gg3
  obtain rfl : w0 = (.int i0) := Option.some.inj ei0
  obtain ⟨i1, ei1⟩ := is_v gg5
  obtain rfl : w1 = (.int i1) := Option.some.inj ei1
  obtain ⟨i2, ei2⟩ := is_v gg7
  obtain rfl : w2 = (.int i2) := Option.some.inj ei2
  obtain ⟨i3, ei3⟩ := is_v gg9
  obtain rfl : w3 = (.int i3) := Option.some.inj ei3
  obtain ⟨i4, ei4⟩ := is_v gg10
  obtain rfl : w4 = (.int i4) := Option.some.inj ei4
  obtain ⟨hsets, hown0⟩ := atoms_of _ (rest_1_c_eq ▸ (show rest_1_c.before _ s = true from hrest))
  obtain ⟨cs, ev_cs⟩ := is_v (Cond.before_iff.mp (hsets _ (List.mem_of_getElem? (i := 1) rfl)))
  have S_cs := Sta.start ev_cs (Or.inl (hsets _ (List.mem_of_getElem? (i := 0) rfl)))
  have hcw := hsets _ (List.mem_of_getElem? (i := 2) rfl)
  have hcs : ¬ (cs = (0 : Int32)) := own_neqi ev_cs (Cond.before_iff.mp hcw)
  obtain ⟨n, o, h1, h2, h3, _, L, rfl, ⟨hv, N⟩, hq⟩ := rm0 l s _ hw tables_1 i0 i1 i2 i3 i4 cs s.heap s.heap.size (Nat.le_refl _) S_cs hcs p e ha hc hk s m _ below hf ((Spec.applies_iff_loose hf).mp happ).1 ⟨rfl, State.Warmed39.refl s, rfl⟩ trivial
  rw [own_law i0 i1 i2 i3 i4] at hv
  subst hv
  refine ⟨n, _, h1, h2, h3, hpost _ _ _ _ _ _ ⟨Cond.after_iff.mpr rfl, Cond.after_iff.mpr (eq_i res_at (Term.int_eval (1)) rfl), trivial⟩ ⟨hq.1, hq.2.1, hq.2.2.1, (hq.2.2.2.sift fun y hy => Or.inr (N y hy)).mono (by decide) (by decide)⟩⟩
theorem main_1_1 : Claimed_1_1 := comes_1 fun _ _ _ _ _ _ h hF => ⟨h.1, hF⟩
theorem main_1_2 : Claimed_1_2 := comes_1 fun _ _ _ _ _ _ h hF => ⟨h.2.1, hF⟩
end Jvm.Pilot.@@N@@
namespace Jvm.Pilot.@@N@@
open Jvm Jvm.ClassFile Sem Op Lib Jvm.Free Jvm.Stand Jvm.Pilot.@@N@@.Jvm.D
/-! MADE BY PROGRAM (witnessworld.py) out of the Statement's table words and the real class files: 21 classes; the members and pool entries that the words name. The judged class is class 1, her method 1. -/
namespace start1
open Jvm.ClassFile
def u (s : String) : CpInfo := .utf8 (stringToUtf16 s)
/-- a pool by its gaps: so many unusable entries, then the entry; so many at the end -/
def gap : Nat → List CpInfo → List CpInfo
  | 0, r => r
  | n + 1, r => .unusable :: gap n r
def poolList (es : List (Nat × CpInfo)) (last : Nat) : List CpInfo := es.foldr (fun e r => gap e.1 (e.2 :: r)) (gap last [])
def pool (es : List (Nat × CpInfo)) (last : Nat) : Array CpInfo := ⟨poolList es last⟩
def fileOf (pool : Array CpInfo) (this : Nat) (attrs : Array Attribute := #[]) (ms : Array MethodInfo := #[]) (fl : Nat := 33) (sup : Nat := 0) (ifs : Array Nat := #[]) (fds : Array FieldInfo := #[]) : ClassFile where
  minorVersion := 0
  majorVersion := 65
  constantPool := pool
  accessFlags := fl
  thisClass := this
  superClass := sup
  interfaces := ifs
  fields := fds
  methods := ms
  attributes := attrs
def plain (name : String) (sup : Option ClassId) : Class where
  name := name
  kind := .ordinary
  loader := none
  accessFlags := 33
  super := sup
  interfaces := #[]
  cf := none
  fields := #[]
  methods := #[]
  instanceTypes := #[]
  staticTypes := #[]
  resolved := #[]
  callSites := []
  init := .initialized
  statics := none
  mirror := none

def pool0 : Array CpInfo := pool [(5, u "<init>"), (0, u "()V"), (1, .class_ 10), (1, u "java/lang/Object")] 113

def k0c0 : Code := { maxStack := 0, maxLocals := 1, code := object_method_1_code, exceptionTable := #[], attributes := #[] }
def k0m0 : Method := { name := "<init>", desc := "()V", sig := { parameters := [], returnType := none }, accessFlags := 1, code := some k0c0 }
/-- java/lang/Object -/
def k0 : Class := { plain "java/lang/Object" none with
  accessFlags := 33
  interfaces := #[]
  cf := some (fileOf pool0 8 #[] #[{ accessFlags := 1, nameIndex := 5, descriptorIndex := 6, attributes := #[] }] 33 0 #[] #[])
  fields := #[]
  methods := #[k0m0]
  instanceTypes := #[]
  staticTypes := #[]
  resolved := Array.replicate 124 none
  statics := none }

def pool1 : Array CpInfo := pool [(2, .class_ 4), (1, u "java/lang/Object"), (0, u "<init>"), (0, u "()V"), (0, .methodref 8 9), (0, .class_ 10), (0, .nameAndType 11 12), (0, u "com/example/wenshai/wenshai/model/KeywordEqualsPinLaw"), (0, u "str"), (0, u "(ICC)Ljava/lang/String;"), (0, .class_ 14), (0, u "com/example/wenshai/wenshai/model/Keyword"), (0, .methodref 13 16), (0, .nameAndType 5 17), (0, u "(Ljava/lang/String;Ljava/lang/String;)V"), (0, .methodref 13 19), (0, .nameAndType 20 21), (0, u "equals"), (0, u "(Ljava/lang/Object;)Z"), (0, .methodref 23 24), (0, .class_ 25), (0, .nameAndType 26 27), (0, u "java/lang/String"), (0, u "valueOf"), (0, u "(C)Ljava/lang/String;"), (0, .methodref 23 29), (0, .nameAndType 5 30), (0, u "([C)V"), (2, u "law"), (0, u "(IIIII)Z")] 3

def k1m0 : Method := { name := "<init>", desc := "()V", sig := { parameters := [], returnType := none }, accessFlags := 2, code := none }
def k1c1 : Code := { maxStack := 4, maxLocals := 27, code := code, exceptionTable := #[], attributes := #[] }
def k1m1 : Method := { name := "law", desc := "(IIIII)Z", sig := { parameters := [.int, .int, .int, .int, .int], returnType := some .boolean }, accessFlags := 9, code := some k1c1 }
def k1c2 : Code := { maxStack := 3, maxLocals := 4, code := method_3_code, exceptionTable := #[], attributes := #[] }
def k1m2 : Method := { name := "str", desc := "(ICC)Ljava/lang/String;", sig := { parameters := [.int, .char, .char], returnType := some (.object "java/lang/String") }, accessFlags := 10, code := some k1c2 }
/-- com/example/wenshai/wenshai/model/KeywordEqualsPinLaw -/
def k1 : Class := { plain "com/example/wenshai/wenshai/model/KeywordEqualsPinLaw" (some 0) with
  accessFlags := 49
  interfaces := #[]
  cf := some (fileOf pool1 8 #[] #[{ accessFlags := 2, nameIndex := 5, descriptorIndex := 6, attributes := #[] }, { accessFlags := 9, nameIndex := 33, descriptorIndex := 34, attributes := #[] }, { accessFlags := 10, nameIndex := 11, descriptorIndex := 12, attributes := #[] }] 49 2 #[] #[])
  fields := #[]
  methods := #[k1m0, k1m1, k1m2]
  instanceTypes := #[]
  staticTypes := #[]
  resolved := Array.replicate 38 none
  statics := none }

def pool2 : Array CpInfo := pool [(1, .class_ 2), (0, u "java/io/Serializable"), (0, .class_ 4), (0, u "java/lang/Object")] 2

/-- java/io/Serializable -/
def k2 : Class := { plain "java/io/Serializable" (some 0) with
  accessFlags := 1537
  interfaces := #[]
  cf := some (fileOf pool2 1 #[] #[] 1537 3 #[] #[])
  fields := #[]
  methods := #[]
  instanceTypes := #[]
  staticTypes := #[]
  resolved := Array.replicate 7 none
  statics := none }

def pool3 : Array CpInfo := pool [(1, .class_ 2), (0, u "java/lang/Comparable"), (0, .class_ 4), (0, u "java/lang/Object")] 7

/-- java/lang/Comparable -/
def k3 : Class := { plain "java/lang/Comparable" (some 0) with
  accessFlags := 1537
  interfaces := #[]
  cf := some (fileOf pool3 1 #[] #[] 1537 3 #[] #[])
  fields := #[]
  methods := #[]
  instanceTypes := #[]
  staticTypes := #[]
  resolved := Array.replicate 12 none
  statics := none }

def pool4 : Array CpInfo := pool [(2, .class_ 4), (1, u "java/lang/CharSequence"), (42, .class_ 48), (0, u "java/lang/CharSequence$1CodePointIterator"), (10, .class_ 60), (0, u "java/lang/CharSequence$1CharIterator"), (5, .class_ 67), (0, u "java/lang/Object")] 63

/-- java/lang/CharSequence -/
def k4 : Class := { plain "java/lang/CharSequence" (some 0) with
  accessFlags := 1537
  interfaces := #[]
  cf := some (fileOf pool4 2 #[.nestMembers #[47, 59]] #[] 1537 66 #[] #[])
  fields := #[]
  methods := #[]
  instanceTypes := #[]
  staticTypes := #[]
  resolved := Array.replicate 131 none
  statics := none }

def pool5 : Array CpInfo := pool [(1, .class_ 2), (0, u "java/lang/constant/Constable"), (0, .class_ 4), (0, u "java/lang/Object")] 6

/-- java/lang/constant/Constable -/
def k5 : Class := { plain "java/lang/constant/Constable" (some 0) with
  accessFlags := 1537
  interfaces := #[]
  cf := some (fileOf pool5 1 #[] #[] 1537 3 #[] #[])
  fields := #[]
  methods := #[]
  instanceTypes := #[]
  staticTypes := #[]
  resolved := Array.replicate 11 none
  statics := none }

def pool6 : Array CpInfo := pool [(1, .class_ 2), (0, u "java/lang/constant/ConstantDesc"), (0, .class_ 4), (0, u "java/lang/Object")] 32

/-- java/lang/constant/ConstantDesc -/
def k6 : Class := { plain "java/lang/constant/ConstantDesc" (some 0) with
  accessFlags := 1537
  interfaces := #[]
  cf := some (fileOf pool6 1 #[] #[] 1537 3 #[] #[])
  fields := #[]
  methods := #[]
  instanceTypes := #[]
  staticTypes := #[]
  resolved := Array.replicate 37 none
  statics := none }

def pool7 : Array CpInfo := pool [(1, .methodref 2 3), (0, .class_ 4), (0, .nameAndType 5 6), (0, u "java/lang/Object"), (0, u "<init>"), (0, u "()V"), (2, .fieldref 10 11), (0, .class_ 12), (0, .nameAndType 13 14), (0, u "java/lang/String"), (0, u "value"), (0, u "[B"), (0, .fieldref 10 16), (0, .nameAndType 17 18), (0, u "coder"), (0, u "B"), (2, u "hash"), (0, u "I"), (2, u "hashIsZero"), (0, u "Z"), (0, .methodref 10 28), (0, .nameAndType 5 29), (0, u "([CIILjava/lang/Void;)V"), (7, u "(III)I"), (0, .fieldref 10 39), (0, .nameAndType 40 26), (0, u "COMPACT_STRINGS"), (1, .class_ 44), (1, u "java/lang/StringUTF16"), (0, u "compress"), (1, .methodref 42 48), (0, .nameAndType 49 50), (0, u "coderFromArrayLen"), (0, u "([BI)B"), (2, u "toBytes"), (25, .class_ 81), (1, u "java/util/Objects"), (25, .class_ 109), (1, u "java/lang/StringLatin1"), (32, u "()Z"), (34, .methodref 42 178), (0, .nameAndType 45 179), (0, u "([CII)[B"), (29, .methodref 10 210), (0, .nameAndType 5 211), (0, u "([BB)V"), (122, u "()I"), (0, .methodref 10 336), (0, .nameAndType 17 337), (0, u "()B"), (31, u "(C)Z"), (122, .methodref 10 493), (0, .nameAndType 494 142), (0, u "isLatin1"), (10, .methodref 10 506), (0, .nameAndType 507 334), (0, u "length"), (3, .methodref 79 512), (0, .nameAndType 513 37), (0, u "checkFromToIndex"), (2, u "codePointCount"), (24, .methodref 107 542), (0, .nameAndType 543 544), (0, u "equals"), (0, u "([B[B)Z"), (28, u "(Ljava/lang/Object;)Z"), (1, .class_ 576), (0, u "java/lang/CharSequence"), (22, u "CASE_INSENSITIVE_ORDER"), (0, u "Ljava/util/Comparator;"), (35, u "(II)I"), (55, u "isEmpty"), (89, u "valueOf"), (0, u "(C)Ljava/lang/String;"), (226, u "([C)V"), (4, .methodref 107 1016), (0, .nameAndType 1017 369), (0, u "canEncode"), (0, .methodref 107 1019), (0, .nameAndType 53 1020), (0, u "(C)[B"), (80, u "serialPersistentFields"), (0, u "[Ljava/io/ObjectStreamField;"), (0, .class_ 1104), (0, u "java/lang/String$CaseInsensitiveComparator"), (1, .class_ 1107), (0, u "java/io/Serializable"), (0, .class_ 1109), (0, u "java/lang/Comparable"), (0, .class_ 1111), (0, u "java/lang/constant/Constable"), (0, .class_ 1113), (0, u "java/lang/constant/ConstantDesc"), (2, u "serialVersionUID"), (0, u "J"), (3, u "REPL"), (0, u "C"), (2, u "LATIN1"), (1, u "UTF16")] 323

def k7m0 : Method := { name := "<init>", desc := "()V", sig := { parameters := [], returnType := none }, accessFlags := 1, code := none }
def k7c1 : Code := { maxStack := 5, maxLocals := 2, code := jdk_42_method_3_code, exceptionTable := #[], attributes := #[] }
def k7m1 : Method := { name := "<init>", desc := "([C)V", sig := { parameters := [(.array .char)], returnType := none }, accessFlags := 1, code := some k7c1 }
def k7c2 : Code := { maxStack := 2, maxLocals := 1, code := jdk_42_method_54_code, exceptionTable := #[], attributes := #[] }
def k7m2 : Method := { name := "length", desc := "()I", sig := { parameters := [], returnType := some .int }, accessFlags := 1, code := some k7c2 }
def k7c3 : Code := { maxStack := 1, maxLocals := 1, code := jdk_42_method_55_code, exceptionTable := #[], attributes := #[] }
def k7m3 : Method := { name := "isEmpty", desc := "()Z", sig := { parameters := [], returnType := some .boolean }, accessFlags := 1, code := some k7c3 }
def k7c4 : Code := { maxStack := 3, maxLocals := 3, code := jdk_42_method_59_code, exceptionTable := #[], attributes := #[] }
def k7m4 : Method := { name := "codePointCount", desc := "(II)I", sig := { parameters := [.int, .int], returnType := some .int }, accessFlags := 1, code := some k7c4 }
def k7c5 : Code := { maxStack := 2, maxLocals := 3, code := jdk_42_method_66_code, exceptionTable := #[], attributes := #[] }
def k7m5 : Method := { name := "equals", desc := "(Ljava/lang/Object;)Z", sig := { parameters := [(.object "java/lang/Object")], returnType := some .boolean }, accessFlags := 1, code := some k7c5 }
def k7c6 : Code := { maxStack := 4, maxLocals := 1, code := jdk_42_method_139_code, exceptionTable := #[], attributes := #[] }
def k7m6 : Method := { name := "valueOf", desc := "(C)Ljava/lang/String;", sig := { parameters := [.char], returnType := some (.object "java/lang/String") }, accessFlags := 9, code := some k7c6 }
def k7c7 : Code := { maxStack := 4, maxLocals := 6, code := jdk_42_method_149_code, exceptionTable := #[], attributes := #[] }
def k7m7 : Method := { name := "<init>", desc := "([CIILjava/lang/Void;)V", sig := { parameters := [(.array .char), .int, .int, (.object "java/lang/Void")], returnType := none }, accessFlags := 2, code := some k7c7 }
def k7c8 : Code := { maxStack := 2, maxLocals := 3, code := jdk_42_method_151_code, exceptionTable := #[], attributes := #[] }
def k7m8 : Method := { name := "<init>", desc := "([BB)V", sig := { parameters := [(.array .byte), .byte], returnType := none }, accessFlags := 0, code := some k7c8 }
def k7c9 : Code := { maxStack := 1, maxLocals := 1, code := jdk_42_method_152_code, exceptionTable := #[], attributes := #[] }
def k7m9 : Method := { name := "coder", desc := "()B", sig := { parameters := [], returnType := some .byte }, accessFlags := 0, code := some k7c9 }
def k7c10 : Code := { maxStack := 1, maxLocals := 1, code := jdk_42_method_154_code, exceptionTable := #[], attributes := #[] }
def k7m10 : Method := { name := "isLatin1", desc := "()Z", sig := { parameters := [], returnType := some .boolean }, accessFlags := 0, code := some k7c10 }
/-- java/lang/String -/
def k7 : Class := { plain "java/lang/String" (some 0) with
  accessFlags := 49
  interfaces := #[2, 3, 4, 5, 6]
  cf := some (fileOf pool7 10 #[.nestMembers #[1103]] #[{ accessFlags := 1, nameIndex := 5, descriptorIndex := 6, attributes := #[] }, { accessFlags := 1, nameIndex := 5, descriptorIndex := 1010, attributes := #[] }, { accessFlags := 1, nameIndex := 507, descriptorIndex := 334, attributes := #[] }, { accessFlags := 1, nameIndex := 692, descriptorIndex := 142, attributes := #[] }, { accessFlags := 1, nameIndex := 516, descriptorIndex := 636, attributes := #[] }, { accessFlags := 1, nameIndex := 543, descriptorIndex := 573, attributes := #[] }, { accessFlags := 9, nameIndex := 782, descriptorIndex := 783, attributes := #[] }, { accessFlags := 2, nameIndex := 5, descriptorIndex := 29, attributes := #[] }, { accessFlags := 0, nameIndex := 5, descriptorIndex := 211, attributes := #[] }, { accessFlags := 0, nameIndex := 17, descriptorIndex := 337, attributes := #[] }, { accessFlags := 0, nameIndex := 494, descriptorIndex := 142, attributes := #[] }] 49 2 #[1106, 1108, 575, 1110, 1112] #[{ accessFlags := 18, nameIndex := 13, descriptorIndex := 14, attributes := #[] }, { accessFlags := 18, nameIndex := 17, descriptorIndex := 18, attributes := #[] }, { accessFlags := 2, nameIndex := 21, descriptorIndex := 22, attributes := #[] }, { accessFlags := 2, nameIndex := 25, descriptorIndex := 26, attributes := #[] }, { accessFlags := 26, nameIndex := 1116, descriptorIndex := 1117, attributes := #[] }, { accessFlags := 24, nameIndex := 40, descriptorIndex := 26, attributes := #[] }, { accessFlags := 26, nameIndex := 1101, descriptorIndex := 1102, attributes := #[] }, { accessFlags := 26, nameIndex := 1121, descriptorIndex := 1122, attributes := #[] }, { accessFlags := 25, nameIndex := 599, descriptorIndex := 600, attributes := #[] }, { accessFlags := 24, nameIndex := 1125, descriptorIndex := 18, attributes := #[] }, { accessFlags := 24, nameIndex := 1127, descriptorIndex := 18, attributes := #[] }])
  fields := #[{ name := "value", type := (.array .byte), accessFlags := 18, slot := 0, constantValue := 0 }, { name := "coder", type := .byte, accessFlags := 18, slot := 1, constantValue := 0 }, { name := "hash", type := .int, accessFlags := 2, slot := 2, constantValue := 0 }, { name := "hashIsZero", type := .boolean, accessFlags := 2, slot := 3, constantValue := 0 }, { name := "serialVersionUID", type := .long, accessFlags := 26, slot := 0, constantValue := 0 }, { name := "COMPACT_STRINGS", type := .boolean, accessFlags := 24, slot := 1, constantValue := 0 }, { name := "serialPersistentFields", type := (.array (.object "java/io/ObjectStreamField")), accessFlags := 26, slot := 2, constantValue := 0 }, { name := "REPL", type := .char, accessFlags := 26, slot := 3, constantValue := 0 }, { name := "CASE_INSENSITIVE_ORDER", type := (.object "java/util/Comparator"), accessFlags := 25, slot := 4, constantValue := 0 }, { name := "LATIN1", type := .byte, accessFlags := 24, slot := 5, constantValue := 0 }, { name := "UTF16", type := .byte, accessFlags := 24, slot := 6, constantValue := 0 }]
  methods := #[k7m0, k7m1, k7m2, k7m3, k7m4, k7m5, k7m6, k7m7, k7m8, k7m9, k7m10]
  instanceTypes := #[(.array .byte), .byte, .int, .boolean]
  staticTypes := #[.long, .boolean, (.array (.object "java/io/ObjectStreamField")), .char, (.object "java/util/Comparator"), .byte, .byte]
  resolved := Array.replicate 1451 none
  statics := some 0 }

def pool8 : Array CpInfo := pool [(4, .class_ 6), (1, u "java/lang/Object"), (0, u "<init>"), (0, u "()V"), (5, .class_ 16), (1, u "java/lang/StringLatin1"), (73, u "canEncode"), (14, u "(C)Z"), (15, u "$assertionsDisabled"), (0, u "Z"), (98, .class_ 223), (1, u "java/lang/StringLatin1$LinesSpliterator"), (57, u "equals"), (0, u "([B[B)Z"), (97, u "toBytes"), (1, u "(C)[B"), (7, .class_ 391), (0, u "java/lang/StringLatin1$CharsSpliterator")] 3

def k8m0 : Method := { name := "<init>", desc := "()V", sig := { parameters := [], returnType := none }, accessFlags := 0, code := none }
def k8c1 : Code := { maxStack := 2, maxLocals := 1, code := jdk_43_method_3_code, exceptionTable := #[], attributes := #[] }
def k8m1 : Method := { name := "canEncode", desc := "(C)Z", sig := { parameters := [.char], returnType := some .boolean }, accessFlags := 9, code := some k8c1 }
def k8c2 : Code := { maxStack := 3, maxLocals := 3, code := jdk_43_method_13_code, exceptionTable := #[], attributes := #[] }
def k8m2 : Method := { name := "equals", desc := "([B[B)Z", sig := { parameters := [(.array .byte), (.array .byte)], returnType := some .boolean }, accessFlags := 9, code := some k8c2 }
def k8c3 : Code := { maxStack := 4, maxLocals := 1, code := jdk_43_method_46_code, exceptionTable := #[], attributes := #[] }
def k8m3 : Method := { name := "toBytes", desc := "(C)[B", sig := { parameters := [.char], returnType := some (.array .byte) }, accessFlags := 9, code := some k8c3 }
/-- java/lang/StringLatin1 -/
def k8 : Class := { plain "java/lang/StringLatin1" (some 0) with
  accessFlags := 48
  interfaces := #[]
  cf := some (fileOf pool8 14 #[.nestMembers #[390, 221]] #[{ accessFlags := 0, nameIndex := 7, descriptorIndex := 8, attributes := #[] }, { accessFlags := 9, nameIndex := 90, descriptorIndex := 105, attributes := #[] }, { accessFlags := 9, nameIndex := 281, descriptorIndex := 282, attributes := #[] }, { accessFlags := 9, nameIndex := 380, descriptorIndex := 382, attributes := #[] }] 48 4 #[] #[{ accessFlags := 4120, nameIndex := 121, descriptorIndex := 122, attributes := #[] }])
  fields := #[{ name := "$assertionsDisabled", type := .boolean, accessFlags := 4120, slot := 0, constantValue := 0 }]
  methods := #[k8m0, k8m1, k8m2, k8m3]
  instanceTypes := #[]
  staticTypes := #[.boolean]
  resolved := Array.replicate 395 none
  statics := none }

def pool9 : Array CpInfo := pool [(1, .methodref 2 3), (0, .class_ 4), (0, .nameAndType 5 6), (0, u "java/lang/Object"), (0, u "<init>"), (0, u "()V"), (0, .string 8), (0, u "text"), (0, .methodref 10 11), (0, .class_ 12), (0, .nameAndType 13 14), (0, u "java/util/Objects"), (0, u "requireNonNull"), (0, u "(Ljava/lang/Object;Ljava/lang/String;)Ljava/lang/Object;"), (0, .string 16), (0, u "category"), (0, .methodref 18 19), (0, .class_ 20), (0, .nameAndType 21 22), (0, u "java/lang/String"), (0, u "length"), (0, u "()I"), (0, .methodref 18 24), (0, .nameAndType 25 26), (0, u "codePointCount"), (0, u "(II)I"), (0, .class_ 28), (0, u "com/example/wenshai/wenshai/model/Keyword"), (9, .methodref 18 39), (0, .nameAndType 40 41), (0, u "isEmpty"), (0, u "()Z"), (3, .fieldref 27 46), (0, .nameAndType 8 47), (0, u "Ljava/lang/String;"), (0, .fieldref 27 49), (0, .nameAndType 16 47), (0, .methodref 18 51), (0, .nameAndType 52 53), (0, u "equals"), (0, u "(Ljava/lang/Object;)Z"), (7, u "MIN_LENGTH"), (0, u "I"), (2, u "MAX_LENGTH"), (1, u "(Ljava/lang/String;Ljava/lang/String;)V")] 29

def k9c0 : Code := { maxStack := 3, maxLocals := 4, code := prog_19_method_1_code, exceptionTable := #[], attributes := #[] }
def k9m0 : Method := { name := "<init>", desc := "(Ljava/lang/String;Ljava/lang/String;)V", sig := { parameters := [(.object "java/lang/String"), (.object "java/lang/String")], returnType := none }, accessFlags := 1, code := some k9c0 }
def k9c1 : Code := { maxStack := 2, maxLocals := 3, code := prog_19_method_4_code, exceptionTable := #[], attributes := #[] }
def k9m1 : Method := { name := "equals", desc := "(Ljava/lang/Object;)Z", sig := { parameters := [(.object "java/lang/Object")], returnType := some .boolean }, accessFlags := 1, code := some k9c1 }
/-- com/example/wenshai/wenshai/model/Keyword -/
def k9 : Class := { plain "com/example/wenshai/wenshai/model/Keyword" (some 0) with
  accessFlags := 49
  interfaces := #[]
  cf := some (fileOf pool9 27 #[] #[{ accessFlags := 1, nameIndex := 5, descriptorIndex := 67, attributes := #[] }, { accessFlags := 1, nameIndex := 52, descriptorIndex := 53, attributes := #[] }] 49 2 #[] #[{ accessFlags := 25, nameIndex := 61, descriptorIndex := 62, attributes := #[] }, { accessFlags := 25, nameIndex := 65, descriptorIndex := 62, attributes := #[] }, { accessFlags := 18, nameIndex := 8, descriptorIndex := 47, attributes := #[] }, { accessFlags := 18, nameIndex := 16, descriptorIndex := 47, attributes := #[] }])
  fields := #[{ name := "MIN_LENGTH", type := .int, accessFlags := 25, slot := 0, constantValue := 0 }, { name := "MAX_LENGTH", type := .int, accessFlags := 25, slot := 1, constantValue := 0 }, { name := "text", type := (.object "java/lang/String"), accessFlags := 18, slot := 0, constantValue := 0 }, { name := "category", type := (.object "java/lang/String"), accessFlags := 18, slot := 1, constantValue := 0 }]
  methods := #[k9m0, k9m1]
  instanceTypes := #[(.object "java/lang/String"), (.object "java/lang/String")]
  staticTypes := #[.int, .int]
  resolved := Array.replicate 97 none
  statics := none }

def pool10 : Array CpInfo := pool [(2, .class_ 4), (1, u "java/lang/Object"), (0, u "<init>"), (0, u "()V"), (35, .class_ 44), (1, u "java/util/Objects"), (0, u "requireNonNull"), (48, u "(Ljava/lang/Object;Ljava/lang/String;)Ljava/lang/Object;"), (11, .class_ 108), (1, u "jdk/internal/util/Preconditions"), (2, .methodref 106 112), (0, .nameAndType 113 114), (0, u "checkFromToIndex"), (0, u "(IIILjava/util/function/BiFunction;)I"), (60, u "(III)I")] 8

def k10m0 : Method := { name := "<init>", desc := "()V", sig := { parameters := [], returnType := none }, accessFlags := 2, code := none }
def k10c1 : Code := { maxStack := 3, maxLocals := 2, code := jdk_31_method_11_code, exceptionTable := #[], attributes := #[] }
def k10m1 : Method := { name := "requireNonNull", desc := "(Ljava/lang/Object;Ljava/lang/String;)Ljava/lang/Object;", sig := { parameters := [(.object "java/lang/Object"), (.object "java/lang/String")], returnType := some (.object "java/lang/Object") }, accessFlags := 9, code := some k10c1 }
def k10c2 : Code := { maxStack := 4, maxLocals := 3, code := jdk_31_method_18_code, exceptionTable := #[], attributes := #[] }
def k10m2 : Method := { name := "checkFromToIndex", desc := "(III)I", sig := { parameters := [.int, .int, .int], returnType := some .int }, accessFlags := 9, code := some k10c2 }
/-- java/util/Objects -/
def k10 : Class := { plain "java/util/Objects" (some 0) with
  accessFlags := 49
  interfaces := #[]
  cf := some (fileOf pool10 42 #[] #[{ accessFlags := 2, nameIndex := 5, descriptorIndex := 6, attributes := #[] }, { accessFlags := 9, nameIndex := 45, descriptorIndex := 94, attributes := #[] }, { accessFlags := 9, nameIndex := 113, descriptorIndex := 175, attributes := #[] }] 49 2 #[] #[])
  fields := #[]
  methods := #[k10m0, k10m1, k10m2]
  instanceTypes := #[]
  staticTypes := #[]
  resolved := Array.replicate 184 none
  statics := none }

def pool11 : Array CpInfo := pool [(2, .class_ 4), (1, u "java/lang/Object"), (0, u "<init>"), (0, u "()V"), (17, .class_ 26), (1, u "jdk/internal/util/Preconditions"), (20, u "checkFromToIndex"), (7, .class_ 56), (0, u "jdk/internal/util/Preconditions$4"), (57, .class_ 115), (0, u "jdk/internal/util/Preconditions$1"), (7, u "SIOOBE_FORMATTER"), (0, u "Ljava/util/function/BiFunction;"), (0, .class_ 126), (0, u "jdk/internal/util/Preconditions$2"), (3, u "AIOOBE_FORMATTER"), (0, .class_ 132), (0, u "jdk/internal/util/Preconditions$3"), (3, u "IOOBE_FORMATTER"), (46, u "(IIILjava/util/function/BiFunction;)I")] 10

def k11m0 : Method := { name := "<init>", desc := "()V", sig := { parameters := [], returnType := none }, accessFlags := 1, code := none }
def k11c1 : Code := { maxStack := 4, maxLocals := 4, code := jdk_41_method_12_code, exceptionTable := #[], attributes := #[] }
def k11m1 : Method := { name := "checkFromToIndex", desc := "(IIILjava/util/function/BiFunction;)I", sig := { parameters := [.int, .int, .int, (.object "java/util/function/BiFunction")], returnType := some .int }, accessFlags := 9, code := some k11c1 }
/-- jdk/internal/util/Preconditions -/
def k11 : Class := { plain "jdk/internal/util/Preconditions" (some 0) with
  accessFlags := 33
  interfaces := #[]
  cf := some (fileOf pool11 24 #[.nestMembers #[55, 131, 125, 114]] #[{ accessFlags := 1, nameIndex := 5, descriptorIndex := 6, attributes := #[] }, { accessFlags := 9, nameIndex := 47, descriptorIndex := 183, attributes := #[] }] 33 2 #[] #[{ accessFlags := 25, nameIndex := 123, descriptorIndex := 124, attributes := #[] }, { accessFlags := 25, nameIndex := 130, descriptorIndex := 124, attributes := #[] }, { accessFlags := 25, nameIndex := 136, descriptorIndex := 124, attributes := #[] }])
  fields := #[{ name := "SIOOBE_FORMATTER", type := (.object "java/util/function/BiFunction"), accessFlags := 25, slot := 0, constantValue := 0 }, { name := "AIOOBE_FORMATTER", type := (.object "java/util/function/BiFunction"), accessFlags := 25, slot := 1, constantValue := 0 }, { name := "IOOBE_FORMATTER", type := (.object "java/util/function/BiFunction"), accessFlags := 25, slot := 2, constantValue := 0 }]
  methods := #[k11m0, k11m1]
  instanceTypes := #[]
  staticTypes := #[(.object "java/util/function/BiFunction"), (.object "java/util/function/BiFunction"), (.object "java/util/function/BiFunction")]
  resolved := Array.replicate 194 none
  statics := some 1 }

def pool12 : Array CpInfo := pool [(6, .class_ 8), (1, u "java/lang/Object"), (0, u "<init>"), (0, u "()V"), (1, .class_ 14), (1, u "java/lang/StringUTF16"), (31, u "$assertionsDisabled"), (0, u "Z"), (13, u "HI_BYTE_SHIFT"), (0, u "I"), (2, u "LO_BYTE_SHIFT"), (49, .methodref 12 116), (0, .nameAndType 117 118), (0, u "compress"), (0, u "([CI[BII)I"), (3, u "([CII)[B"), (138, u "coderFromArrayLen"), (0, u "([BI)B"), (106, .class_ 371), (1, u "java/lang/StringUTF16$LinesSpliterator"), (58, u "MAX_LENGTH"), (196, .class_ 628), (0, u "java/lang/StringUTF16$CodePointsSpliterator"), (0, .class_ 630), (0, u "java/lang/StringUTF16$CharsSpliterator")] 4

def k12m0 : Method := { name := "<init>", desc := "()V", sig := { parameters := [], returnType := none }, accessFlags := 0, code := none }
def k12c1 : Code := { maxStack := 2, maxLocals := 2, code := jdk_52_method_15_code, exceptionTable := #[], attributes := #[] }
def k12m1 : Method := { name := "coderFromArrayLen", desc := "([BI)B", sig := { parameters := [(.array .byte), .int], returnType := some .byte }, accessFlags := 8, code := some k12c1 }
def k12c2 : Code := { maxStack := 5, maxLocals := 6, code := jdk_52_method_16_code, exceptionTable := #[], attributes := #[] }
def k12m2 : Method := { name := "compress", desc := "([CII)[B", sig := { parameters := [(.array .char), .int, .int], returnType := some (.array .byte) }, accessFlags := 9, code := some k12c2 }
def k12c3 : Code := { maxStack := 3, maxLocals := 7, code := jdk_52_method_21_code, exceptionTable := #[], attributes := #[] }
def k12m3 : Method := { name := "compress", desc := "([CI[BII)I", sig := { parameters := [(.array .char), .int, (.array .byte), .int, .int], returnType := some .int }, accessFlags := 9, code := some k12c3 }
/-- java/lang/StringUTF16 -/
def k12 : Class := { plain "java/lang/StringUTF16" (some 0) with
  accessFlags := 48
  interfaces := #[]
  cf := some (fileOf pool12 12 #[.nestMembers #[627, 629, 369]] #[{ accessFlags := 0, nameIndex := 9, descriptorIndex := 10, attributes := #[] }, { accessFlags := 8, nameIndex := 261, descriptorIndex := 262, attributes := #[] }, { accessFlags := 9, nameIndex := 117, descriptorIndex := 122, attributes := #[] }, { accessFlags := 9, nameIndex := 117, descriptorIndex := 118, attributes := #[] }] 48 6 #[] #[{ accessFlags := 26, nameIndex := 61, descriptorIndex := 62, attributes := #[] }, { accessFlags := 26, nameIndex := 65, descriptorIndex := 62, attributes := #[] }, { accessFlags := 24, nameIndex := 430, descriptorIndex := 62, attributes := #[] }, { accessFlags := 4120, nameIndex := 46, descriptorIndex := 47, attributes := #[] }])
  fields := #[{ name := "HI_BYTE_SHIFT", type := .int, accessFlags := 26, slot := 0, constantValue := 0 }, { name := "LO_BYTE_SHIFT", type := .int, accessFlags := 26, slot := 1, constantValue := 0 }, { name := "MAX_LENGTH", type := .int, accessFlags := 24, slot := 2, constantValue := 0 }, { name := "$assertionsDisabled", type := .boolean, accessFlags := 4120, slot := 3, constantValue := 0 }]
  methods := #[k12m0, k12m1, k12m2, k12m3]
  instanceTypes := #[]
  staticTypes := #[.int, .int, .int, .boolean]
  resolved := Array.replicate 635 none
  statics := none }

def pool13 : Array CpInfo := pool [(9, u "<init>"), (6, .class_ 18), (1, u "java/lang/Object"), (0, u "()V"), (1, .class_ 23), (1, u "jdk/internal/util/ArraysSupport"), (0, u "LOG2_ARRAY_LONG_INDEX_SCALE"), (0, u "I"), (2, u "U"), (0, u "Ljdk/internal/misc/Unsafe;"), (8, u "BIG_ENDIAN"), (0, u "Z"), (8, u "LOG2_BYTE_BIT_SIZE"), (4, u "LOG2_ARRAY_INT_INDEX_SCALE"), (54, u "JLA"), (0, u "Ljdk/internal/access/JavaLangAccess;"), (11, u "LOG2_ARRAY_BOOLEAN_INDEX_SCALE"), (9, u "LOG2_ARRAY_BYTE_INDEX_SCALE"), (5, u "LOG2_ARRAY_CHAR_INDEX_SCALE"), (5, u "LOG2_ARRAY_SHORT_INDEX_SCALE"), (18, u "LOG2_ARRAY_FLOAT_INDEX_SCALE"), (24, u "LOG2_ARRAY_DOUBLE_INDEX_SCALE"), (89, u "T_BOOLEAN"), (2, u "T_CHAR"), (1, u "T_FLOAT"), (1, u "T_DOUBLE"), (1, u "T_BYTE"), (1, u "T_SHORT"), (1, u "T_INT"), (1, u "T_LONG"), (1, u "SOFT_MAX_ARRAY_LENGTH")] 83

def k13m0 : Method := { name := "<init>", desc := "()V", sig := { parameters := [], returnType := none }, accessFlags := 2, code := none }
/-- jdk/internal/util/ArraysSupport -/
def k13 : Class := { plain "jdk/internal/util/ArraysSupport" (some 0) with
  accessFlags := 33
  interfaces := #[]
  cf := some (fileOf pool13 21 #[] #[{ accessFlags := 2, nameIndex := 9, descriptorIndex := 19, attributes := #[] }] 33 16 #[] #[{ accessFlags := 24, nameIndex := 28, descriptorIndex := 29, attributes := #[] }, { accessFlags := 26, nameIndex := 38, descriptorIndex := 39, attributes := #[] }, { accessFlags := 25, nameIndex := 121, descriptorIndex := 25, attributes := #[] }, { accessFlags := 25, nameIndex := 131, descriptorIndex := 25, attributes := #[] }, { accessFlags := 25, nameIndex := 137, descriptorIndex := 25, attributes := #[] }, { accessFlags := 25, nameIndex := 143, descriptorIndex := 25, attributes := #[] }, { accessFlags := 25, nameIndex := 53, descriptorIndex := 25, attributes := #[] }, { accessFlags := 25, nameIndex := 24, descriptorIndex := 25, attributes := #[] }, { accessFlags := 25, nameIndex := 162, descriptorIndex := 25, attributes := #[] }, { accessFlags := 25, nameIndex := 187, descriptorIndex := 25, attributes := #[] }, { accessFlags := 26, nameIndex := 48, descriptorIndex := 25, attributes := #[] }, { accessFlags := 25, nameIndex := 277, descriptorIndex := 25, attributes := #[] }, { accessFlags := 25, nameIndex := 280, descriptorIndex := 25, attributes := #[] }, { accessFlags := 25, nameIndex := 282, descriptorIndex := 25, attributes := #[] }, { accessFlags := 25, nameIndex := 284, descriptorIndex := 25, attributes := #[] }, { accessFlags := 25, nameIndex := 286, descriptorIndex := 25, attributes := #[] }, { accessFlags := 25, nameIndex := 288, descriptorIndex := 25, attributes := #[] }, { accessFlags := 25, nameIndex := 290, descriptorIndex := 25, attributes := #[] }, { accessFlags := 25, nameIndex := 292, descriptorIndex := 25, attributes := #[] }, { accessFlags := 26, nameIndex := 108, descriptorIndex := 109, attributes := #[] }, { accessFlags := 25, nameIndex := 294, descriptorIndex := 25, attributes := #[] }])
  fields := #[{ name := "U", type := (.object "jdk/internal/misc/Unsafe"), accessFlags := 24, slot := 0, constantValue := 0 }, { name := "BIG_ENDIAN", type := .boolean, accessFlags := 26, slot := 1, constantValue := 0 }, { name := "LOG2_ARRAY_BOOLEAN_INDEX_SCALE", type := .int, accessFlags := 25, slot := 2, constantValue := 0 }, { name := "LOG2_ARRAY_BYTE_INDEX_SCALE", type := .int, accessFlags := 25, slot := 3, constantValue := 0 }, { name := "LOG2_ARRAY_CHAR_INDEX_SCALE", type := .int, accessFlags := 25, slot := 4, constantValue := 0 }, { name := "LOG2_ARRAY_SHORT_INDEX_SCALE", type := .int, accessFlags := 25, slot := 5, constantValue := 0 }, { name := "LOG2_ARRAY_INT_INDEX_SCALE", type := .int, accessFlags := 25, slot := 6, constantValue := 0 }, { name := "LOG2_ARRAY_LONG_INDEX_SCALE", type := .int, accessFlags := 25, slot := 7, constantValue := 0 }, { name := "LOG2_ARRAY_FLOAT_INDEX_SCALE", type := .int, accessFlags := 25, slot := 8, constantValue := 0 }, { name := "LOG2_ARRAY_DOUBLE_INDEX_SCALE", type := .int, accessFlags := 25, slot := 9, constantValue := 0 }, { name := "LOG2_BYTE_BIT_SIZE", type := .int, accessFlags := 26, slot := 10, constantValue := 0 }, { name := "T_BOOLEAN", type := .int, accessFlags := 25, slot := 11, constantValue := 0 }, { name := "T_CHAR", type := .int, accessFlags := 25, slot := 12, constantValue := 0 }, { name := "T_FLOAT", type := .int, accessFlags := 25, slot := 13, constantValue := 0 }, { name := "T_DOUBLE", type := .int, accessFlags := 25, slot := 14, constantValue := 0 }, { name := "T_BYTE", type := .int, accessFlags := 25, slot := 15, constantValue := 0 }, { name := "T_SHORT", type := .int, accessFlags := 25, slot := 16, constantValue := 0 }, { name := "T_INT", type := .int, accessFlags := 25, slot := 17, constantValue := 0 }, { name := "T_LONG", type := .int, accessFlags := 25, slot := 18, constantValue := 0 }, { name := "JLA", type := (.object "jdk/internal/access/JavaLangAccess"), accessFlags := 26, slot := 19, constantValue := 0 }, { name := "SOFT_MAX_ARRAY_LENGTH", type := .int, accessFlags := 25, slot := 20, constantValue := 0 }]
  methods := #[k13m0]
  instanceTypes := #[]
  staticTypes := #[(.object "jdk/internal/misc/Unsafe"), .boolean, .int, .int, .int, .int, .int, .int, .int, .int, .int, .int, .int, .int, .int, .int, .int, .int, .int, (.object "jdk/internal/access/JavaLangAccess"), .int]
  resolved := Array.replicate 378 none
  statics := none }

def pool14 : Array CpInfo := pool [(1, u "java/lang/Cloneable"), (0, .class_ 1), (0, u "java/lang/Object"), (0, .class_ 3)] 3

/-- java/lang/Cloneable -/
def k14 : Class := { plain "java/lang/Cloneable" (some 0) with
  accessFlags := 1537
  interfaces := #[]
  cf := some (fileOf pool14 2 #[] #[] 1537 4 #[] #[])
  fields := #[]
  methods := #[]
  instanceTypes := #[]
  staticTypes := #[]
  resolved := Array.replicate 8 none
  statics := none }

/-- the primitive byte -/
def k15 : Class := { plain "byte" none with kind := .primitive 'B', accessFlags := 0x411 }
/-- [B -/
def k16 : Class := { plain "[B" (some 0) with kind := .array 15 .byte, interfaces := #[14, 2], accessFlags := 1041 }

/-- the primitive char -/
def k17 : Class := { plain "char" none with kind := .primitive 'C', accessFlags := 0x411 }
/-- [C -/
def k18 : Class := { plain "[C" (some 0) with kind := .array 17 .char, interfaces := #[14, 2], accessFlags := 1041 }

/-- the primitive int -/
def k19 : Class := { plain "int" none with kind := .primitive 'I', accessFlags := 0x411 }
/-- [I -/
def k20 : Class := { plain "[I" (some 0) with kind := .array 19 .int, interfaces := #[14, 2], accessFlags := 1041 }

def heap : Heap := #[{ cls := 7, slots := #[.long 0, .int 1, .null, .int 0, .null, .int 0, .int 0], vm := .statics 7 },
  { cls := 11, slots := #[.null, .null, .null], vm := .statics 11 }]
def classes : Array Class := #[k0, k1, k2, k3, k4, k5, k6, k7, k8, k9, k10, k11, k12, k13, k14, k15, k16, k17, k18, k19, k20]
def interned : List (Array UInt16 × Addr) := []
def slotsUsed : Nat := 10
def theMethod : MethodId := ⟨1, 1⟩
def args0 : Array Value := #[.int 65, .int 66, .int 67, .int 68, .int 37]
def aboutOver (below : List Frame) : State where
  vm := { classes := classes, interned := interned.toArray }
  heap := heap
  slotsUsed := slotsUsed
  threads := #[{ frames := .invoking theMethod args0 :: below }]
def below0 : List Frame := [.native { method := ⟨0, 0⟩, args := #[] }]
def about1 : State := aboutOver below0
def p0 : Program := .bare "" "" ""
def e0 : Env := launch0.env 0 0 0
theorem w_frames : about1.frames = Frame.invoking theMethod args0 :: below0 := rfl
set_option maxRecDepth 65536 in
theorem w_args : argsFit about1.vm theMethod args0 = true := by decide +kernel
set_option maxRecDepth 65536 in
theorem w_heap : heapFits about1 = true := by decide +kernel
set_option maxRecDepth 65536 in
theorem w_runnable : about1.curStatus? = some .runnable := by decide +kernel
set_option maxRecDepth 65536 in
theorem w_alone : about1.alone = true := by decide +kernel
set_option maxRecDepth 65536 in
theorem w_named : about1.methodNamed? x = some theMethod := by decide +kernel
set_option maxRecDepth 65536 in
theorem w_hears : about1.hears theMethod below0 = true := by decide +kernel
set_option maxRecDepth 65536 in
theorem w_ripe : about1.ripe theMethod args0 below0 = true := by decide +kernel
theorem w_running : about1.status = .running := rfl
set_option maxRecDepth 65536 in
theorem w_room : about1.hasRoom e0.platform room_1 = true :=
  launch0.hasRoom_least _ room_1 (by decide +kernel) (by decide +kernel) (by decide +kernel) (by decide +kernel) (by decide +kernel) (by decide +kernel)
theorem allAtoms_all (ts : List Jvm.Cond) (a : Array Jvm.Value) (st : Jvm.State) : (allAtoms ts).before a st = ts.all (fun c => c.before a st) := by
  induction ts with
  | nil => rfl
  | cons c t ih =>
    show (Jvm.Cond.and c (allAtoms t)).before a st = _
    rw [Jvm.Cond.before_and, ih, List.all_cons]
def words1 : List Jvm.Cond := Jvm.Cond.code x code maxLocals ret :: tables_1
/-- a 'code' word, met by the world's own term for the bytes: nothing is compared byte by byte -/
theorem code_word {y : MethodName} {bytes : ByteArray} {mx : Nat} {rt : Option FieldType} {a : Array Value} {s : State} {m : MethodId} {meth : Method} {c : Code} (h1 : s.methodNamed? y = some m) (h2 : s.vm.method? m = some meth) (h3 : meth.code = some c) (h4 : c.code = bytes)
    (h5 : (c.maxLocals == mx && c.exceptionTable.isEmpty && decide (c.maxStack ≤ mostOperands) && decide (meth.sig.returnType = rt) && !meth.locks && decide (parseMethodDescriptor y.desc = some meth.sig)) = true) : (Jvm.Cond.code y bytes mx rt).before a s = true := by
  simp only [Bool.and_eq_true, beq_iff_eq, Bool.not_eq_true', decide_eq_true_eq] at h5
  obtain ⟨⟨⟨⟨⟨g1, g2⟩, g3⟩, g4⟩, g5⟩, g6⟩ := h5
  simp [Cond.before, Cond.holds, Cond.value, h1, h2, h3, h4, g1, g2, g3, g4, g5, g6]
def isCode : Jvm.Cond → Bool
  | .code _ _ _ _ => true
  | _ => false
theorem all_split {L : List Jvm.Cond} {P : Jvm.Cond → Bool} (h1 : L.all (fun c => isCode c || P c) = true) (h2 : ∀ c ∈ L.filter isCode, P c = true) : L.all P = true := by
  refine List.all_eq_true.mpr fun c hc => ?_
  have h := List.all_eq_true.mp h1 c hc
  rcases Bool.eq_false_or_eq_true (isCode c) with hi | hi
  · exact h2 c (List.mem_filter.mpr ⟨hc, hi⟩)
  · simpa [hi] using h
set_option maxRecDepth 65536 in
theorem w_c0 : (Jvm.Cond.code x code maxLocals ret).before args0 about1 = true := code_word (m := ⟨1, 1⟩) (meth := k1m1) (c := k1c1) (by decide +kernel) rfl rfl rfl (by decide +kernel)
set_option maxRecDepth 65536 in
theorem w_c1 : (Jvm.Cond.code ({ cls := "com/example/wenshai/wenshai/model/KeywordEqualsPinLaw", name := "str", desc := "(ICC)Ljava/lang/String;" } : Jvm.MethodName) method_3_code (4 : Nat) (Option.some (Jvm.ClassFile.FieldType.object "java/lang/String"))).before args0 about1 = true := code_word (m := ⟨1, 2⟩) (meth := k1m2) (c := k1c2) (by decide +kernel) rfl rfl rfl (by decide +kernel)
set_option maxRecDepth 65536 in
theorem w_c2 : (Jvm.Cond.code ({ cls := "java/lang/String", name := "valueOf", desc := "(C)Ljava/lang/String;" } : Jvm.MethodName) jdk_42_method_139_code (1 : Nat) (Option.some (Jvm.ClassFile.FieldType.object "java/lang/String"))).before args0 about1 = true := code_word (m := ⟨7, 6⟩) (meth := k7m6) (c := k7c6) (by decide +kernel) rfl rfl rfl (by decide +kernel)
set_option maxRecDepth 65536 in
theorem w_c3 : (Jvm.Cond.code ({ cls := "java/lang/StringLatin1", name := "canEncode", desc := "(C)Z" } : Jvm.MethodName) jdk_43_method_3_code (1 : Nat) (Option.some Jvm.ClassFile.FieldType.boolean)).before args0 about1 = true := code_word (m := ⟨8, 1⟩) (meth := k8m1) (c := k8c1) (by decide +kernel) rfl rfl rfl (by decide +kernel)
set_option maxRecDepth 65536 in
theorem w_c4 : (Jvm.Cond.code ({ cls := "java/lang/StringLatin1", name := "toBytes", desc := "(C)[B" } : Jvm.MethodName) jdk_43_method_46_code (1 : Nat) (Option.some (Jvm.ClassFile.FieldType.array Jvm.ClassFile.FieldType.byte))).before args0 about1 = true := code_word (m := ⟨8, 3⟩) (meth := k8m3) (c := k8c3) (by decide +kernel) rfl rfl rfl (by decide +kernel)
set_option maxRecDepth 65536 in
theorem w_c5 : (Jvm.Cond.code ({ cls := "java/lang/String", name := "<init>", desc := "([BB)V" } : Jvm.MethodName) jdk_42_method_151_code (3 : Nat) (Option.none : Option Jvm.ClassFile.FieldType)).before args0 about1 = true := code_word (m := ⟨7, 8⟩) (meth := k7m8) (c := k7c8) (by decide +kernel) rfl rfl rfl (by decide +kernel)
set_option maxRecDepth 65536 in
theorem w_c6 : (Jvm.Cond.code ({ cls := "java/lang/Object", name := "<init>", desc := "()V" } : Jvm.MethodName) object_method_1_code (1 : Nat) (Option.none : Option Jvm.ClassFile.FieldType)).before args0 about1 = true := code_word (m := ⟨0, 0⟩) (meth := k0m0) (c := k0c0) (by decide +kernel) rfl rfl rfl (by decide +kernel)
set_option maxRecDepth 65536 in
theorem w_c7 : (Jvm.Cond.code ({ cls := "com/example/wenshai/wenshai/model/Keyword", name := "<init>", desc := "(Ljava/lang/String;Ljava/lang/String;)V" } : Jvm.MethodName) prog_19_method_1_code (4 : Nat) (Option.none : Option Jvm.ClassFile.FieldType)).before args0 about1 = true := code_word (m := ⟨9, 0⟩) (meth := k9m0) (c := k9c0) (by decide +kernel) rfl rfl rfl (by decide +kernel)
set_option maxRecDepth 65536 in
theorem w_c8 : (Jvm.Cond.code ({ cls := "java/util/Objects", name := "requireNonNull", desc := "(Ljava/lang/Object;Ljava/lang/String;)Ljava/lang/Object;" } : Jvm.MethodName) jdk_31_method_11_code (2 : Nat) (Option.some (Jvm.ClassFile.FieldType.object "java/lang/Object"))).before args0 about1 = true := code_word (m := ⟨10, 1⟩) (meth := k10m1) (c := k10c1) (by decide +kernel) rfl rfl rfl (by decide +kernel)
set_option maxRecDepth 65536 in
theorem w_c9 : (Jvm.Cond.code ({ cls := "java/lang/String", name := "length", desc := "()I" } : Jvm.MethodName) jdk_42_method_54_code (1 : Nat) (Option.some Jvm.ClassFile.FieldType.int)).before args0 about1 = true := code_word (m := ⟨7, 2⟩) (meth := k7m2) (c := k7c2) (by decide +kernel) rfl rfl rfl (by decide +kernel)
set_option maxRecDepth 65536 in
theorem w_c10 : (Jvm.Cond.code ({ cls := "java/lang/String", name := "coder", desc := "()B" } : Jvm.MethodName) jdk_42_method_152_code (1 : Nat) (Option.some Jvm.ClassFile.FieldType.byte)).before args0 about1 = true := code_word (m := ⟨7, 9⟩) (meth := k7m9) (c := k7c9) (by decide +kernel) rfl rfl rfl (by decide +kernel)
set_option maxRecDepth 65536 in
theorem w_c11 : (Jvm.Cond.code ({ cls := "java/lang/String", name := "codePointCount", desc := "(II)I" } : Jvm.MethodName) jdk_42_method_59_code (3 : Nat) (Option.some Jvm.ClassFile.FieldType.int)).before args0 about1 = true := code_word (m := ⟨7, 4⟩) (meth := k7m4) (c := k7c4) (by decide +kernel) rfl rfl rfl (by decide +kernel)
set_option maxRecDepth 65536 in
theorem w_c12 : (Jvm.Cond.code ({ cls := "java/util/Objects", name := "checkFromToIndex", desc := "(III)I" } : Jvm.MethodName) jdk_31_method_18_code (3 : Nat) (Option.some Jvm.ClassFile.FieldType.int)).before args0 about1 = true := code_word (m := ⟨10, 2⟩) (meth := k10m2) (c := k10c2) (by decide +kernel) rfl rfl rfl (by decide +kernel)
set_option maxRecDepth 65536 in
theorem w_c13 : (Jvm.Cond.code ({ cls := "jdk/internal/util/Preconditions", name := "checkFromToIndex", desc := "(IIILjava/util/function/BiFunction;)I" } : Jvm.MethodName) jdk_41_method_12_code (4 : Nat) (Option.some Jvm.ClassFile.FieldType.int)).before args0 about1 = true := code_word (m := ⟨11, 1⟩) (meth := k11m1) (c := k11c1) (by decide +kernel) rfl rfl rfl (by decide +kernel)
set_option maxRecDepth 65536 in
theorem w_c14 : (Jvm.Cond.code ({ cls := "java/lang/String", name := "isLatin1", desc := "()Z" } : Jvm.MethodName) jdk_42_method_154_code (1 : Nat) (Option.some Jvm.ClassFile.FieldType.boolean)).before args0 about1 = true := code_word (m := ⟨7, 10⟩) (meth := k7m10) (c := k7c10) (by decide +kernel) rfl rfl rfl (by decide +kernel)
set_option maxRecDepth 65536 in
theorem w_c15 : (Jvm.Cond.code ({ cls := "java/lang/String", name := "isEmpty", desc := "()Z" } : Jvm.MethodName) jdk_42_method_55_code (1 : Nat) (Option.some Jvm.ClassFile.FieldType.boolean)).before args0 about1 = true := code_word (m := ⟨7, 3⟩) (meth := k7m3) (c := k7c3) (by decide +kernel) rfl rfl rfl (by decide +kernel)
set_option maxRecDepth 65536 in
theorem w_c16 : (Jvm.Cond.code ({ cls := "com/example/wenshai/wenshai/model/Keyword", name := "equals", desc := "(Ljava/lang/Object;)Z" } : Jvm.MethodName) prog_19_method_4_code (3 : Nat) (Option.some Jvm.ClassFile.FieldType.boolean)).before args0 about1 = true := code_word (m := ⟨9, 1⟩) (meth := k9m1) (c := k9c1) (by decide +kernel) rfl rfl rfl (by decide +kernel)
set_option maxRecDepth 65536 in
theorem w_c17 : (Jvm.Cond.code ({ cls := "java/lang/String", name := "equals", desc := "(Ljava/lang/Object;)Z" } : Jvm.MethodName) jdk_42_method_66_code (3 : Nat) (Option.some Jvm.ClassFile.FieldType.boolean)).before args0 about1 = true := code_word (m := ⟨7, 5⟩) (meth := k7m5) (c := k7c5) (by decide +kernel) rfl rfl rfl (by decide +kernel)
set_option maxRecDepth 65536 in
theorem w_c18 : (Jvm.Cond.code ({ cls := "java/lang/StringLatin1", name := "equals", desc := "([B[B)Z" } : Jvm.MethodName) jdk_43_method_13_code (3 : Nat) (Option.some Jvm.ClassFile.FieldType.boolean)).before args0 about1 = true := code_word (m := ⟨8, 2⟩) (meth := k8m2) (c := k8c2) (by decide +kernel) rfl rfl rfl (by decide +kernel)
set_option maxRecDepth 65536 in
theorem w_c19 : (Jvm.Cond.code ({ cls := "java/lang/String", name := "<init>", desc := "([C)V" } : Jvm.MethodName) jdk_42_method_3_code (2 : Nat) (Option.none : Option Jvm.ClassFile.FieldType)).before args0 about1 = true := code_word (m := ⟨7, 1⟩) (meth := k7m1) (c := k7c1) (by decide +kernel) rfl rfl rfl (by decide +kernel)
set_option maxRecDepth 65536 in
theorem w_c20 : (Jvm.Cond.code ({ cls := "java/lang/String", name := "<init>", desc := "([CIILjava/lang/Void;)V" } : Jvm.MethodName) jdk_42_method_149_code (6 : Nat) (Option.none : Option Jvm.ClassFile.FieldType)).before args0 about1 = true := code_word (m := ⟨7, 7⟩) (meth := k7m7) (c := k7c7) (by decide +kernel) rfl rfl rfl (by decide +kernel)
set_option maxRecDepth 65536 in
theorem w_c21 : (Jvm.Cond.code ({ cls := "java/lang/StringUTF16", name := "compress", desc := "([CII)[B" } : Jvm.MethodName) jdk_52_method_16_code (6 : Nat) (Option.some (Jvm.ClassFile.FieldType.array Jvm.ClassFile.FieldType.byte))).before args0 about1 = true := code_word (m := ⟨12, 2⟩) (meth := k12m2) (c := k12c2) (by decide +kernel) rfl rfl rfl (by decide +kernel)
set_option maxRecDepth 65536 in
theorem w_c22 : (Jvm.Cond.code ({ cls := "java/lang/StringUTF16", name := "compress", desc := "([CI[BII)I" } : Jvm.MethodName) jdk_52_method_21_code (7 : Nat) (Option.some Jvm.ClassFile.FieldType.int)).before args0 about1 = true := code_word (m := ⟨12, 3⟩) (meth := k12m3) (c := k12c3) (by decide +kernel) rfl rfl rfl (by decide +kernel)
set_option maxRecDepth 65536 in
theorem w_c23 : (Jvm.Cond.code ({ cls := "java/lang/StringUTF16", name := "coderFromArrayLen", desc := "([BI)B" } : Jvm.MethodName) jdk_52_method_15_code (2 : Nat) (Option.some Jvm.ClassFile.FieldType.byte)).before args0 about1 = true := code_word (m := ⟨12, 1⟩) (meth := k12m1) (c := k12c1) (by decide +kernel) rfl rfl rfl (by decide +kernel)
def codes1 : List Jvm.Cond := [Jvm.Cond.code x code maxLocals ret, Jvm.Cond.code ({ cls := "com/example/wenshai/wenshai/model/KeywordEqualsPinLaw", name := "str", desc := "(ICC)Ljava/lang/String;" } : Jvm.MethodName) method_3_code (4 : Nat) (Option.some (Jvm.ClassFile.FieldType.object "java/lang/String")), Jvm.Cond.code ({ cls := "java/lang/String", name := "valueOf", desc := "(C)Ljava/lang/String;" } : Jvm.MethodName) jdk_42_method_139_code (1 : Nat) (Option.some (Jvm.ClassFile.FieldType.object "java/lang/String")), Jvm.Cond.code ({ cls := "java/lang/StringLatin1", name := "canEncode", desc := "(C)Z" } : Jvm.MethodName) jdk_43_method_3_code (1 : Nat) (Option.some Jvm.ClassFile.FieldType.boolean), Jvm.Cond.code ({ cls := "java/lang/StringLatin1", name := "toBytes", desc := "(C)[B" } : Jvm.MethodName) jdk_43_method_46_code (1 : Nat) (Option.some (Jvm.ClassFile.FieldType.array Jvm.ClassFile.FieldType.byte)), Jvm.Cond.code ({ cls := "java/lang/String", name := "<init>", desc := "([BB)V" } : Jvm.MethodName) jdk_42_method_151_code (3 : Nat) (Option.none : Option Jvm.ClassFile.FieldType), Jvm.Cond.code ({ cls := "java/lang/Object", name := "<init>", desc := "()V" } : Jvm.MethodName) object_method_1_code (1 : Nat) (Option.none : Option Jvm.ClassFile.FieldType), Jvm.Cond.code ({ cls := "com/example/wenshai/wenshai/model/Keyword", name := "<init>", desc := "(Ljava/lang/String;Ljava/lang/String;)V" } : Jvm.MethodName) prog_19_method_1_code (4 : Nat) (Option.none : Option Jvm.ClassFile.FieldType), Jvm.Cond.code ({ cls := "java/util/Objects", name := "requireNonNull", desc := "(Ljava/lang/Object;Ljava/lang/String;)Ljava/lang/Object;" } : Jvm.MethodName) jdk_31_method_11_code (2 : Nat) (Option.some (Jvm.ClassFile.FieldType.object "java/lang/Object")), Jvm.Cond.code ({ cls := "java/lang/String", name := "length", desc := "()I" } : Jvm.MethodName) jdk_42_method_54_code (1 : Nat) (Option.some Jvm.ClassFile.FieldType.int), Jvm.Cond.code ({ cls := "java/lang/String", name := "coder", desc := "()B" } : Jvm.MethodName) jdk_42_method_152_code (1 : Nat) (Option.some Jvm.ClassFile.FieldType.byte), Jvm.Cond.code ({ cls := "java/lang/String", name := "codePointCount", desc := "(II)I" } : Jvm.MethodName) jdk_42_method_59_code (3 : Nat) (Option.some Jvm.ClassFile.FieldType.int), Jvm.Cond.code ({ cls := "java/util/Objects", name := "checkFromToIndex", desc := "(III)I" } : Jvm.MethodName) jdk_31_method_18_code (3 : Nat) (Option.some Jvm.ClassFile.FieldType.int), Jvm.Cond.code ({ cls := "jdk/internal/util/Preconditions", name := "checkFromToIndex", desc := "(IIILjava/util/function/BiFunction;)I" } : Jvm.MethodName) jdk_41_method_12_code (4 : Nat) (Option.some Jvm.ClassFile.FieldType.int), Jvm.Cond.code ({ cls := "java/lang/String", name := "isLatin1", desc := "()Z" } : Jvm.MethodName) jdk_42_method_154_code (1 : Nat) (Option.some Jvm.ClassFile.FieldType.boolean), Jvm.Cond.code ({ cls := "java/lang/String", name := "isEmpty", desc := "()Z" } : Jvm.MethodName) jdk_42_method_55_code (1 : Nat) (Option.some Jvm.ClassFile.FieldType.boolean), Jvm.Cond.code ({ cls := "com/example/wenshai/wenshai/model/Keyword", name := "equals", desc := "(Ljava/lang/Object;)Z" } : Jvm.MethodName) prog_19_method_4_code (3 : Nat) (Option.some Jvm.ClassFile.FieldType.boolean), Jvm.Cond.code ({ cls := "java/lang/String", name := "equals", desc := "(Ljava/lang/Object;)Z" } : Jvm.MethodName) jdk_42_method_66_code (3 : Nat) (Option.some Jvm.ClassFile.FieldType.boolean), Jvm.Cond.code ({ cls := "java/lang/StringLatin1", name := "equals", desc := "([B[B)Z" } : Jvm.MethodName) jdk_43_method_13_code (3 : Nat) (Option.some Jvm.ClassFile.FieldType.boolean), Jvm.Cond.code ({ cls := "java/lang/String", name := "<init>", desc := "([C)V" } : Jvm.MethodName) jdk_42_method_3_code (2 : Nat) (Option.none : Option Jvm.ClassFile.FieldType), Jvm.Cond.code ({ cls := "java/lang/String", name := "<init>", desc := "([CIILjava/lang/Void;)V" } : Jvm.MethodName) jdk_42_method_149_code (6 : Nat) (Option.none : Option Jvm.ClassFile.FieldType), Jvm.Cond.code ({ cls := "java/lang/StringUTF16", name := "compress", desc := "([CII)[B" } : Jvm.MethodName) jdk_52_method_16_code (6 : Nat) (Option.some (Jvm.ClassFile.FieldType.array Jvm.ClassFile.FieldType.byte)), Jvm.Cond.code ({ cls := "java/lang/StringUTF16", name := "compress", desc := "([CI[BII)I" } : Jvm.MethodName) jdk_52_method_21_code (7 : Nat) (Option.some Jvm.ClassFile.FieldType.int), Jvm.Cond.code ({ cls := "java/lang/StringUTF16", name := "coderFromArrayLen", desc := "([BI)B" } : Jvm.MethodName) jdk_52_method_15_code (2 : Nat) (Option.some Jvm.ClassFile.FieldType.byte)]
set_option maxRecDepth 65536 in
theorem codes_eq : words1.filter isCode = codes1 := rfl
theorem w_codes : ∀ c ∈ words1.filter isCode, c.before args0 about1 = true := by
  rw [codes_eq]
  intro c hc
  simp only [codes1, List.mem_cons, List.not_mem_nil, or_false] at hc
  rcases hc with rfl | rfl | rfl | rfl | rfl | rfl | rfl | rfl | rfl | rfl | rfl | rfl | rfl | rfl | rfl | rfl | rfl | rfl | rfl | rfl | rfl | rfl | rfl | rfl
  · exact w_c0
  · exact w_c1
  · exact w_c2
  · exact w_c3
  · exact w_c4
  · exact w_c5
  · exact w_c6
  · exact w_c7
  · exact w_c8
  · exact w_c9
  · exact w_c10
  · exact w_c11
  · exact w_c12
  · exact w_c13
  · exact w_c14
  · exact w_c15
  · exact w_c16
  · exact w_c17
  · exact w_c18
  · exact w_c19
  · exact w_c20
  · exact w_c21
  · exact w_c22
  · exact w_c23
set_option maxRecDepth 65536 in
theorem w_t1 : (words1.take 24).all (fun c => isCode c || c.before args0 about1) = true := by decide +kernel
set_option maxRecDepth 65536 in
theorem w_t2 : ((words1.drop 24).take 24).all (fun c => isCode c || c.before args0 about1) = true := by decide +kernel
set_option maxRecDepth 65536 in
theorem w_t3 : (((words1.drop 24).drop 24).take 24).all (fun c => isCode c || c.before args0 about1) = true := by decide +kernel
set_option maxRecDepth 65536 in
theorem w_t4 : ((((words1.drop 24).drop 24).drop 24).take 24).all (fun c => isCode c || c.before args0 about1) = true := by decide +kernel
set_option maxRecDepth 65536 in
theorem w_t5 : ((((words1.drop 24).drop 24).drop 24).drop 24).all (fun c => isCode c || c.before args0 about1) = true := by decide +kernel
theorem w_tables : (allAtoms (Jvm.Cond.code x code maxLocals ret :: tables_1)).before args0 about1 = true := by
  rw [allAtoms_all]
  show words1.all (fun c => c.before args0 about1) = true
  refine all_split ?_ w_codes
  rw [← List.take_append_drop 24 words1, List.all_append, w_t1, ← List.take_append_drop 24 (words1.drop 24), List.all_append, w_t2, ← List.take_append_drop 24 ((words1.drop 24).drop 24), List.all_append, w_t3, ← List.take_append_drop 24 (((words1.drop 24).drop 24).drop 24), List.all_append, w_t4, w_t5]
  rfl
set_option maxRecDepth 65536 in
theorem w_rest : rest_1_c.before args0 about1 = true := by decide +kernel
set_option maxRecDepth 65536 in
theorem w_case : (Jvm.Cond.and given_1 narrow_1).before args0 about1 = true := by decide +kernel
theorem w_applies : (headSpec (Jvm.Cond.code x code maxLocals ret :: tables_1) room_1).applies x e0.platform about1 = true :=
  (Spec.applies_iff w_frames).mpr ⟨w_running, w_runnable, w_alone, w_named, w_hears, w_ripe, w_room, w_tables⟩
theorem atStart : AtStart classFile x code maxLocals ret World_1 tables_1 room_1 Calls_1 rest_1 Pre_1 launch0 p0 e0 about1 theMethod args0 below0 :=
  ⟨lists_1, trivial, launch0.admits_env _ _ _, launch0.least_env, fairChoices_fair.cas, fairChoices_fair.clock, w_frames, w_args, w_heap, w_applies, trivial, w_rest, w_case⟩
end start1
theorem witness_1 : WitnessClaimed_1 := ⟨start1.p0, start1.e0, start1.about1, start1.theMethod, start1.args0, start1.below0, start1.atStart⟩
end Jvm.Pilot.@@N@@
