import JvmDerived
import JvmDerived.Pilot.@@N@@Statement
import JvmDerived.Pilot.@@N@@Code
set_option linter.unusedVariables false
set_option linter.unusedSimpArgs false
namespace Jvm.Pilot.@@N@@
open Jvm Jvm.ClassFile Sem Op Lib Jvm.Free Jvm.Stand Jvm.LawKit Jvm.RoadKit Bundle Jvm.Pilot.@@N@@.Jvm.D
section OwnKit
variable {p : Program} {l : Launch} {e : Env} {R : Room} {s : State} {m : MethodId} {args : Array Value} {below : List Frame} {meth : Method} {c : Code} {T : State} {locs : List Loc} {cells slots : Nat} {Z : State} {a0 : Array Value} {h : Heap} {bs : ByteArray} {own mnm : String} {mx : Nat} {rt : Option FieldType} {G : Outcome → State → Prop} {pc pc' : Nat} {Ls Ls' : Array Slot} {st : List Value}
/-- from T the run comes to an end of which G holds -/
def Go (tb : Tables) (e : Env) (below : List Frame) (G : Outcome → State → Prop) (T : State) : Prop := ∃ s₂ o, Steps tb e below T s₂ ∧ s₂.status = .running ∧ Ended s₂ below o ∧ G o s₂
theorem Go.step {tb : Tables} {T T' : State} (g : Go tb e below G T') (h : ∀ t, Steps tb e below T' t → Steps tb e below T t) : Go tb e below G T := by
  obtain ⟨s₂, o, h1, h2⟩ := g
  exact ⟨s₂, o, h _ h1, h2⟩
/-- what a walk knows of its own body -/
def Cx (p : Program) (s : State) (m : MethodId) (meth : Method) (c : Code) (bs : ByteArray) (mx : Nat) (own mnm : String) (rt : Option FieldType) (Z : State) : Prop :=
  p.tables.exec = Jvm.exec ∧ c.code = bs ∧ c.maxLocals = mx ∧ s.vm.findClass own = some m.cls ∧ meth.name = mnm ∧ meth.sig.returnType = rt ∧ meth.locks = false ∧ Z.Warmed39 s.vm
theorem Cx.hown (C : Cx p s m meth c bs mx own mnm rt Z) : s.vm.findClass own = some m.cls := C.2.2.2.1
theorem Cx.nm (C : Cx p s m meth c bs mx own mnm rt Z) : meth.name = mnm := C.2.2.2.2.1
theorem Cx.ret (C : Cx p s m meth c bs mx own mnm rt Z) : meth.sig.returnType = rt := C.2.2.2.2.2.1
theorem Cx.locks (C : Cx p s m meth c bs mx own mnm rt Z) : meth.locks = false := C.2.2.2.2.2.2.1
theorem Cx.hZ (C : Cx p s m meth c bs mx own mnm rt Z) : Z.Warmed39 s.vm := C.2.2.2.2.2.2.2
/-- the end: returned, Q of the value, the heap and the places written; the frame -/
def End (s : State) (Q : Option Value → Heap → List Loc → Prop) (ce sl : Nat) (o : Outcome) (U' : State) : Prop := ∃ v L, o = .returned v ∧ Q v U'.heap L ∧ FrameEnd s o U' L ce sl
theorem met_of {y : MethodName} {ws : List Jvm.Cond} {rm : Room} {as' : Array Value} {Q : Option Value → Heap → List Loc → Prop} {ce sl : Nat} (hpn : plainFor y = true) (hef : ∀ m, entryFrame m as' mx = mkF m 0 Ls [])
    (hbody : ∀ (p : Program) (e : Env) (s : State) (m : MethodId) (below : List Frame) (meth : Method) (c : Code) (T : State), Cx p s m meth c bs mx y.cls y.name rt Z → Stand p l e rm s m as' below meth c T [] 0 0 → T.heap = h → Go p.tables e below (End s Q ce sl) (T.setTop (mkF m 0 Ls []))) :
    MetFree l y (head1 (Jvm.Cond.code y bs mx rt :: ws) rm) (fun a U => a = as' ∧ Z.Warmed39 U.vm ∧ U.heap = h) (fun _ _ _ _ _ => True) (fun _ U o U' => ∃ v L, o = .returned v ∧ Q v U'.heap L ∧ FrameEnd U o U' L ce sl) := by
  refine MetFree.of_bodySF hpn hisR ?_
  intro p e s m args below meth c s₁ Bd hml0 hP hK
  obtain ⟨rfl, hZ, hh⟩ := hP
  have X0 : Stand p l e rm s m _ below meth c s₁ [] 0 0 := Stand.of_body Bd
  have e0 : s₁.heap = h := by rw [← hh, Bd.state]; rfl
  obtain ⟨s₂, o, h1, h2, h3, h4⟩ := hbody p e s m below meth c s₁ ⟨Bd.exec, Bd.bytes, hml0, findClass_of_methodNamed Bd.named, (name_of_methodNamed Bd.named Bd.method).1, Bd.returns, Bd.notSynchronized, hZ⟩ X0 e0
  exact ⟨s₂, o, castTop (hef m) h1, h2, h3, h4⟩

theorem g_iloadN (C : Cx p s m meth c bs mx own mnm rt Z) (X : Stand p l e R s m args below meth c T locs cells slots) {k : Fin 4} {v : Int32} (hd : decode bs pc = .ok (.iload_n k, 1)) (hl : Ls[k.val]? = some (.val (.int v))) (hn : pc + 1 = pc')
    (hr : Go p.tables e below G (T.setTop (mkF m pc' Ls (.int v :: st)))) : Go p.tables e below G (T.setTop (mkF m pc Ls st)) := by
  subst hn; exact hr.step fun t k => XS.iloadN X.here C.1 rfl (hb C.2.1 hd) hl k
theorem g_iload (C : Cx p s m meth c bs mx own mnm rt Z) (X : Stand p l e R s m args below meth c T locs cells slots) {k : Nat} {v : Int32} (hd : decode bs pc = .ok (.iload k, 2)) (hl : Ls[k]? = some (.val (.int v))) (hn : pc + 2 = pc')
    (hr : Go p.tables e below G (T.setTop (mkF m pc' Ls (.int v :: st)))) : Go p.tables e below G (T.setTop (mkF m pc Ls st)) := by
  subst hn; exact hr.step fun t k => XS.iload X.here C.1 rfl (hb C.2.1 hd) hl k
theorem g_istore (C : Cx p s m meth c bs mx own mnm rt Z) (X : Stand p l e R s m args below meth c T locs cells slots) {k : Nat} {v : Int32} (hd : decode bs pc = .ok (.istore k, 2)) (hl : storeLocals Ls k (.int v) = some Ls') (hn : pc + 2 = pc')
    (hr : Go p.tables e below G (T.setTop (mkF m pc' Ls' st))) : Go p.tables e below G (T.setTop (mkF m pc Ls (.int v :: st))) := by
  subst hn; exact hr.step fun t k => XS.istore X.here C.1 rfl (hb C.2.1 hd) rfl hl k
theorem g_aloadN (C : Cx p s m meth c bs mx own mnm rt Z) (X : Stand p l e R s m args below meth c T locs cells slots) {k : Fin 4} {v : Value} (hd : decode bs pc = .ok (.aload_n k, 1)) (hl : Ls[k.val]? = some (.val v)) (hv : v.isRef = true) (hn : pc + 1 = pc')
    (hr : Go p.tables e below G (T.setTop (mkF m pc' Ls (v :: st)))) : Go p.tables e below G (T.setTop (mkF m pc Ls st)) := by
  subst hn; exact hr.step fun t k => XS.aloadN X.here C.1 rfl (hb C.2.1 hd) hl hv k
theorem g_aload (C : Cx p s m meth c bs mx own mnm rt Z) (X : Stand p l e R s m args below meth c T locs cells slots) {k : Nat} {v : Value} (hd : decode bs pc = .ok (.aload k, 2)) (hl : Ls[k]? = some (.val v)) (hv : v.isRef = true) (hn : pc + 2 = pc')
    (hr : Go p.tables e below G (T.setTop (mkF m pc' Ls (v :: st)))) : Go p.tables e below G (T.setTop (mkF m pc Ls st)) := by
  subst hn; exact hr.step fun t k => XS.aload X.here C.1 rfl (hb C.2.1 hd) hl hv k
theorem g_astoreN (C : Cx p s m meth c bs mx own mnm rt Z) (X : Stand p l e R s m args below meth c T locs cells slots) {k : Fin 4} {v : Value} (hd : decode bs pc = .ok (.astore_n k, 1)) (hv : v.isRef = true) (hl : storeLocals Ls k.val v = some Ls') (hn : pc + 1 = pc')
    (hr : Go p.tables e below G (T.setTop (mkF m pc' Ls' st))) : Go p.tables e below G (T.setTop (mkF m pc Ls (v :: st))) := by
  subst hn; exact hr.step fun t k => XS.astoreN X.here C.1 rfl (hb C.2.1 hd) rfl hv hl k
theorem g_astore (C : Cx p s m meth c bs mx own mnm rt Z) (X : Stand p l e R s m args below meth c T locs cells slots) {k : Nat} {v : Value} (hd : decode bs pc = .ok (.astore k, 2)) (hv : v.isRef = true) (hl : storeLocals Ls k v = some Ls') (hn : pc + 2 = pc')
    (hr : Go p.tables e below G (T.setTop (mkF m pc' Ls' st))) : Go p.tables e below G (T.setTop (mkF m pc Ls (v :: st))) := by
  subst hn; exact hr.step fun t k => XS.astore X.here C.1 rfl (hb C.2.1 hd) rfl hv hl k
theorem g_iconst (C : Cx p s m meth c bs mx own mnm rt Z) (X : Stand p l e R s m args below meth c T locs cells slots) {i : Int} {v : Int32} (hd : decode bs pc = .ok (.iconst i, 1)) (hv : Int32.ofInt i = v) (hn : pc + 1 = pc')
    (hr : Go p.tables e below G (T.setTop (mkF m pc' Ls (.int v :: st)))) : Go p.tables e below G (T.setTop (mkF m pc Ls st)) := by
  subst hn; exact hr.step fun t k => XS.iconst X.here C.1 rfl (hb C.2.1 hd) (by rw [hv]; exact k)
theorem g_bipush (C : Cx p s m meth c bs mx own mnm rt Z) (X : Stand p l e R s m args below meth c T locs cells slots) {i : Int} {v : Int32} (hd : decode bs pc = .ok (.bipush i, 2)) (hv : (Int8.ofInt i).toInt32 = v) (hn : pc + 2 = pc')
    (hr : Go p.tables e below G (T.setTop (mkF m pc' Ls (.int v :: st)))) : Go p.tables e below G (T.setTop (mkF m pc Ls st)) := by
  subst hn; exact hr.step fun t k => XS.bipush X.here C.1 rfl (hb C.2.1 hd) (by rw [hv]; exact k)
theorem g_sipush (C : Cx p s m meth c bs mx own mnm rt Z) (X : Stand p l e R s m args below meth c T locs cells slots) {i : Int} {v : Int32} (hd : decode bs pc = .ok (.sipush i, 3)) (hv : (Int16.ofInt i).toInt32 = v) (hn : pc + 3 = pc')
    (hr : Go p.tables e below G (T.setTop (mkF m pc' Ls (.int v :: st)))) : Go p.tables e below G (T.setTop (mkF m pc Ls st)) := by
  subst hn; exact hr.step fun t k => XS.sipush X.here C.1 rfl (hb C.2.1 hd) (by rw [hv]; exact k)
theorem g_null (C : Cx p s m meth c bs mx own mnm rt Z) (X : Stand p l e R s m args below meth c T locs cells slots)  (hd : decode bs pc = .ok (.aconst_null, 1)) (hn : pc + 1 = pc')
    (hr : Go p.tables e below G (T.setTop (mkF m pc' Ls (.null :: st)))) : Go p.tables e below G (T.setTop (mkF m pc Ls st)) := by
  subst hn; exact hr.step fun t k => XS.aconstNull X.here C.1 rfl (hb C.2.1 hd) k
theorem g_isub (C : Cx p s m meth c bs mx own mnm rt Z) (X : Stand p l e R s m args below meth c T locs cells slots) {x y : Int32} (hd : decode bs pc = .ok (.isub, 1)) (hn : pc + 1 = pc')
    (hr : Go p.tables e below G (T.setTop (mkF m pc' Ls (.int (x - y) :: st)))) : Go p.tables e below G (T.setTop (mkF m pc Ls (.int y :: .int x :: st))) := by
  subst hn; exact hr.step fun t k => XS.isub X.here C.1 rfl (hb C.2.1 hd) rfl k
theorem g_iand (C : Cx p s m meth c bs mx own mnm rt Z) (X : Stand p l e R s m args below meth c T locs cells slots) {x y : Int32} (hd : decode bs pc = .ok (.iand, 1)) (hn : pc + 1 = pc')
    (hr : Go p.tables e below G (T.setTop (mkF m pc' Ls (.int (x &&& y) :: st)))) : Go p.tables e below G (T.setTop (mkF m pc Ls (.int y :: .int x :: st))) := by
  subst hn; exact hr.step fun t k => XS.iand X.here C.1 rfl (hb C.2.1 hd) rfl k
theorem g_iushr (C : Cx p s m meth c bs mx own mnm rt Z) (X : Stand p l e R s m args below meth c T locs cells slots) {x y : Int32} (hd : decode bs pc = .ok (.iushr, 1)) (hn : pc + 1 = pc')
    (hr : Go p.tables e below G (T.setTop (mkF m pc' Ls (.int ((x.toUInt32 >>> (y &&& 31).toUInt32).toInt32) :: st)))) : Go p.tables e below G (T.setTop (mkF m pc Ls (.int y :: .int x :: st))) := by
  subst hn; exact hr.step fun t k => XS.iushr X.here C.1 rfl (hb C.2.1 hd) rfl k
theorem g_i2b (C : Cx p s m meth c bs mx own mnm rt Z) (X : Stand p l e R s m args below meth c T locs cells slots) {x : Int32} (hd : decode bs pc = .ok (.i2b, 1)) (hn : pc + 1 = pc')
    (hr : Go p.tables e below G (T.setTop (mkF m pc' Ls (.int x.toInt8.toInt32 :: st)))) : Go p.tables e below G (T.setTop (mkF m pc Ls (.int x :: st))) := by
  subst hn; exact hr.step fun t k => XS.i2b X.here C.1 rfl (hb C.2.1 hd) rfl k
theorem g_i2c (C : Cx p s m meth c bs mx own mnm rt Z) (X : Stand p l e R s m args below meth c T locs cells slots) {x : Int32} (hd : decode bs pc = .ok (.i2c, 1)) (hn : pc + 1 = pc')
    (hr : Go p.tables e below G (T.setTop (mkF m pc' Ls (.int x.toUInt32.toUInt16.toUInt32.toInt32 :: st)))) : Go p.tables e below G (T.setTop (mkF m pc Ls (.int x :: st))) := by
  subst hn; exact hr.step fun t k => XS.i2c X.here C.1 rfl (hb C.2.1 hd) rfl k
theorem g_dup (C : Cx p s m meth c bs mx own mnm rt Z) (X : Stand p l e R s m args below meth c T locs cells slots) {x : Value} (hd : decode bs pc = .ok (.dup, 1)) (hc : x.category = 1) (hn : pc + 1 = pc')
    (hr : Go p.tables e below G (T.setTop (mkF m pc' Ls (x :: x :: st)))) : Go p.tables e below G (T.setTop (mkF m pc Ls (x :: st))) := by
  subst hn; exact hr.step fun t k => XS.dup X.here C.1 rfl (hb C.2.1 hd) rfl hc k
theorem g_iinc (C : Cx p s m meth c bs mx own mnm rt Z) (X : Stand p l e R s m args below meth c T locs cells slots) {k : Nat} {i : Int} {x : Int32} (hd : decode bs pc = .ok (.iinc k i, 3)) (hl : Ls[k]? = some (.val (.int x))) (hl' : storeLocals Ls k (.int (x + Int32.ofInt i)) = some Ls') (hn : pc + 3 = pc')
    (hr : Go p.tables e below G (T.setTop (mkF m pc' Ls' st))) : Go p.tables e below G (T.setTop (mkF m pc Ls st)) := by
  subst hn; exact hr.step fun t k => XS.iinc X.here C.1 rfl (hb C.2.1 hd) hl hl' k
theorem g_goto (C : Cx p s m meth c bs mx own mnm rt Z) (X : Stand p l e R s m args below meth c T locs cells slots) {o : Int} (hd : decode bs pc = .ok (.goto o, 3)) (ho : 0 ≤ (pc : Int) + o) (hp : ((pc : Int) + o).toNat = pc')
    (hr : Go p.tables e below G (T.setTop (mkF m pc' Ls st))) : Go p.tables e below G (T.setTop (mkF m pc Ls st)) :=
  hr.step fun t k => XS.goto X.here C.1 rfl rfl (hb C.2.1 hd) ho hp k
theorem g_icmpY (C : Cx p s m meth c bs mx own mnm rt Z) (X : Stand p l e R s m args below meth c T locs cells slots) {cd : ClassFile.Cond} {x y : Int32} {o : Int} (hd : decode bs pc = .ok (.if_icmp cd o, 3)) (hc : if_icmp.holds cd x y = true) (ho : 0 ≤ (pc : Int) + o) (hp : ((pc : Int) + o).toNat = pc')
    (hr : Go p.tables e below G (T.setTop (mkF m pc' Ls st))) : Go p.tables e below G (T.setTop (mkF m pc Ls (.int y :: .int x :: st))) :=
  hr.step fun t k => XS.icmpYes X.here C.1 rfl rfl (hb C.2.1 hd) rfl hc ho hp k
theorem g_icmpN (C : Cx p s m meth c bs mx own mnm rt Z) (X : Stand p l e R s m args below meth c T locs cells slots) {cd : ClassFile.Cond} {x y : Int32} {o : Int} (hd : decode bs pc = .ok (.if_icmp cd o, 3)) (hc : if_icmp.holds cd x y = false) (hn : pc + 3 = pc')
    (hr : Go p.tables e below G (T.setTop (mkF m pc' Ls st))) : Go p.tables e below G (T.setTop (mkF m pc Ls (.int y :: .int x :: st))) := by
  subst hn; exact hr.step fun t k => XS.icmpNo X.here C.1 rfl (hb C.2.1 hd) rfl hc k
theorem g_ifY (C : Cx p s m meth c bs mx own mnm rt Z) (X : Stand p l e R s m args below meth c T locs cells slots) {cd : ClassFile.Cond} {x : Int32} {o : Int} (hd : decode bs pc = .ok (.ifCond cd o, 3)) (hc : if_icmp.holds cd x 0 = true) (ho : 0 ≤ (pc : Int) + o) (hp : ((pc : Int) + o).toNat = pc')
    (hr : Go p.tables e below G (T.setTop (mkF m pc' Ls st))) : Go p.tables e below G (T.setTop (mkF m pc Ls (.int x :: st))) :=
  hr.step fun t k => XS.ifYes X.here C.1 rfl rfl (hb C.2.1 hd) rfl ((if0 _ _).trans hc) ho hp k
theorem g_ifN (C : Cx p s m meth c bs mx own mnm rt Z) (X : Stand p l e R s m args below meth c T locs cells slots) {cd : ClassFile.Cond} {x : Int32} {o : Int} (hd : decode bs pc = .ok (.ifCond cd o, 3)) (hc : if_icmp.holds cd x 0 = false) (hn : pc + 3 = pc')
    (hr : Go p.tables e below G (T.setTop (mkF m pc' Ls st))) : Go p.tables e below G (T.setTop (mkF m pc Ls (.int x :: st))) := by
  subst hn; exact hr.step fun t k => XS.ifNo X.here C.1 rfl (hb C.2.1 hd) rfl ((if0 _ _).trans hc) k
theorem g_acmp (C : Cx p s m meth c bs mx own mnm rt Z) (X : Stand p l e R s m args below meth c T locs cells slots) {cd : ACond} {x y : Value} {o : Int} {same : Bool} (hd : decode bs pc = .ok (.if_acmp cd o, 3)) (h1 : x.isRef = true) (h2 : y.isRef = true) (hq : decide (x = y) = same) (ho : 0 ≤ (pc : Int) + o) (hp : pc' = if acV cd same = true then ((pc : Int) + o).toNat else pc + 3)
    (hr : Go p.tables e below G (T.setTop (mkF m pc' Ls st))) : Go p.tables e below G (T.setTop (mkF m pc Ls (y :: x :: st))) :=
  hr.step fun t k => Jvm.RoadKit.acmp X C.1 rfl h1 h2 rfl (hb C.2.1 hd) rfl hq ho hp k
theorem g_ifnullY (C : Cx p s m meth c bs mx own mnm rt Z) (X : Stand p l e R s m args below meth c T locs cells slots) {o : Int} (hd : decode bs pc = .ok (.ifnull o, 3)) (ho : 0 ≤ (pc : Int) + o) (hp : ((pc : Int) + o).toNat = pc')
    (hr : Go p.tables e below G (T.setTop (mkF m pc' Ls st))) : Go p.tables e below G (T.setTop (mkF m pc Ls (.null :: st))) :=
  hr.step fun t k => XS.ifnullYes X.here C.1 rfl rfl (hb C.2.1 hd) rfl ho hp k
theorem g_ifnullN (C : Cx p s m meth c bs mx own mnm rt Z) (X : Stand p l e R s m args below meth c T locs cells slots) {b : Addr} {o : Int} (hd : decode bs pc = .ok (.ifnull o, 3)) (hn : pc + 3 = pc')
    (hr : Go p.tables e below G (T.setTop (mkF m pc' Ls st))) : Go p.tables e below G (T.setTop (mkF m pc Ls (.ref b :: st))) := by
  subst hn; exact hr.step fun t k => XS.ifnullNo X.here C.1 rfl (hb C.2.1 hd) rfl k
theorem g_getS (C : Cx p s m meth c bs mx own mnm rt Z) (X : Stand p l e R s m args below meth c T locs cells slots) {O n d R0 host : String} {i : Nat} {v : Value} (hd : decode bs pc = .ok (.getstatic i, 3)) (w : (Jvm.Cond.fieldLink own i R0 n d).before a0 Z = true ∨ (Jvm.Cond.fieldLinkNest own i R0 n d host).before a0 Z = true) (via : Via Z R0 O n d) (eT : T.heap = h) (F : Sta Z h O n d v) (hn : pc + 3 = pc')
    (hr : ∀ T', Stand p l e R s m args below meth c T' locs cells slots → T'.heap = h → Go p.tables e below G (T'.setTop (mkF m pc' Ls (v :: st)))) : Go p.tables e below G (T.setTop (mkF m pc Ls st)) := by
  subst hn
  obtain ⟨T', X', e', st'⟩ := getS2 X C.1 C.hZ C.hown w via eT F (g := mkF m pc Ls st) rfl (hb C.2.1 hd)
  exact (hr T' X' e').step st'
theorem g_getF (C : Cx p s m meth c bs mx own mnm rt Z) (X : Stand p l e R s m args below meth c T locs cells slots) {O n d R0 host : String} {i : Nat} {a : Addr} {v : Value} (hd : decode bs pc = .ok (.getfield i, 3)) (w : (Jvm.Cond.fieldLink own i R0 n d).before a0 Z = true ∨ (Jvm.Cond.fieldLinkNest own i R0 n d host).before a0 Z = true) (via : Via Z R0 O n d) (eT : T.heap = h) (F : Fld Z h a O n d v) (hn : pc + 3 = pc')
    (hr : ∀ T', Stand p l e R s m args below meth c T' locs cells slots → T'.heap = h → Go p.tables e below G (T'.setTop (mkF m pc' Ls (v :: st)))) : Go p.tables e below G (T.setTop (mkF m pc Ls (.ref a :: st))) := by
  subst hn
  obtain ⟨T', X', e', st'⟩ := getF X C.1 C.hZ C.hown w via eT F (g := mkF m pc Ls (.ref a :: st)) rfl rfl (hb C.2.1 hd)
  exact (hr T' X' e').step st'
theorem g_callS (C : Cx p s m meth c bs mx own mnm rt Z) (X : Stand p l e R s m args below meth c T locs cells slots) {rm : Room} {as' : Array Value} {Q : Option Value → Heap → List Loc → Prop} {ml : Nat} {yb : ByteArray} {yr : Option FieldType} {ce sl W : Nat} {argsL : List Value} {ps : List FieldType} {pr : Option FieldType} {y : MethodName} {i : Nat} (hd : decode bs pc = .ok (.invokestatic i, 3)) (w1 : (Jvm.Cond.methodLink own i y).before a0 Z = true) (w2 : (Jvm.Cond.static y).before a0 Z = true) (w3 : (Jvm.Cond.initialized y.cls).before a0 Z = true) (w4 : (Jvm.Cond.code y yb ml yr).before a0 Z = true) (hy : y.cls ≠ "java/lang/invoke/MethodHandle" ∧ y.cls ≠ "java/lang/invoke/VarHandle")
    (hM : MetFree l y (head1 [Jvm.Cond.code y yb ml yr] rm) (fun a U => a = as' ∧ Z.Warmed39 U.vm ∧ U.heap = h) (fun _ _ _ _ _ => True) (fun _ U o U' => ∃ v L, o = .returned v ∧ Q v U'.heap L ∧ FrameEnd U o U' L rm.cells rm.slots)) (hf : rm.frames + 1 ≤ R.frames) (hlo : W + (ml + 11) + rm.locals ≤ R.locals) (hce : cells + rm.cells = ce) (hsl : slots + rm.slots = sl) (hce' : ce ≤ R.cells) (hsl' : sl ≤ R.slots) (has : argsL.toArray = as') (eT : T.heap = h) (hsz : Ls.size = mx) (hpd : parseMethodDescriptor y.desc = some ⟨ps, pr⟩) (hln : argsL.length = ps.length) (hW : (st.map fun v => v.category).sum ≤ W) (hn : pc + 3 = pc')
    (hr : ∀ v T' L, Stand p l e R s m args below meth c T' (locs ++ L) ce sl → Q v T'.heap L → Go p.tables e below G (T'.setTop (mkF m pc' Ls (v.toList ++ st)))) : Go p.tables e below G (T.setTop (mkF m pc Ls (argsL.reverse ++ st))) := by
  subst hn hce hsl has
  obtain ⟨v, vm1, ⟨T', L', k', n'⟩, -, X', ⟨Lc, hQ, l', y', z'⟩, st'⟩ := Jvm.LawKit.callS X C.1 (y := y) C.hown (mvT C.hZ w1) (mvT C.hZ w2) (mvT C.hZ w3) (mvT C.hZ w4) hy (backOf (W := W) hM C.hZ w4 w3 hf hlo) (g := mkF m pc Ls (argsL.reverse ++ st)) rfl (hsz.trans C.2.2.1.symm) (argsL := argsL) (rest := st) (lenOf hpd hln) rfl (by show 2 * 0 + _ ≤ _; omega) (hb C.2.1 hd) (fun _ _ => ⟨rfl, eT, hce', hsl'⟩)
  dsimp only [Pt.U, Pt.locs, Pt.cells, Pt.slots] at X' l' y' z' st' hQ
  subst l' y' z'
  exact (hr v T' Lc X' hQ).step st'
theorem g_callV (C : Cx p s m meth c bs mx own mnm rt Z) (X : Stand p l e R s m args below meth c T locs cells slots) {rm : Room} {as' : Array Value} {Q : Option Value → Heap → List Loc → Prop} {ml : Nat} {yb : ByteArray} {yr : Option FieldType} {ce sl W : Nat} {argsL : List Value} {ps : List FieldType} {pr : Option FieldType} {K : String} {y z : MethodName} {i : Nat} {b : Addr} (hd : decode bs pc = .ok (.invokevirtual i, 3)) (w1 : (Jvm.Cond.methodLink own i y).before a0 Z = true) (w2 : (Jvm.Cond.declares y).before a0 Z = true) (hnf : NotFace s y) (w3 : (Jvm.Cond.selects K y z).before a0 Z = true) (w4 : (Jvm.Cond.instanceMethod z).before a0 Z = true) (w5 : (Jvm.Cond.initialized z.cls).before a0 Z = true) (w6 : (Jvm.Cond.code z yb ml yr).before a0 Z = true) (hy : y.cls ≠ "java/lang/invoke/MethodHandle" ∧ y.cls ≠ "java/lang/invoke/VarHandle")
    (hM : MetFree l z (head1 [Jvm.Cond.code z yb ml yr] rm) (fun a U => a = as' ∧ Z.Warmed39 U.vm ∧ U.heap = h) (fun _ _ _ _ _ => True) (fun _ U o U' => ∃ v L, o = .returned v ∧ Q v U'.heap L ∧ FrameEnd U o U' L rm.cells rm.slots)) (hf : rm.frames + 1 ≤ R.frames) (hlo : W + (ml + 11) + rm.locals ≤ R.locals) (hce : cells + rm.cells = ce) (hsl : slots + rm.slots = sl) (hce' : ce ≤ R.cells) (hsl' : sl ≤ R.slots) (has : (.ref b :: argsL).toArray = as') (E : Exa Z h b K) (eT : T.heap = h) (hsz : Ls.size = mx) (hpd : parseMethodDescriptor y.desc = some ⟨ps, pr⟩) (hln : argsL.length = ps.length) (hW : (st.map fun v => v.category).sum ≤ W) (hn : pc + 3 = pc')
    (hr : ∀ v T' L, Stand p l e R s m args below meth c T' (locs ++ L) ce sl → Q v T'.heap L → Go p.tables e below G (T'.setTop (mkF m pc' Ls (v.toList ++ st)))) : Go p.tables e below G (T.setTop (mkF m pc Ls (argsL.reverse ++ .ref b :: st))) := by
  subst hn hce hsl has
  obtain ⟨cq, kq, qa, qb, qc⟩ := isOf C.hZ eT E
  obtain ⟨v, vm1, ⟨T', L', k', n'⟩, -, X', ⟨Lc, hQ, l', y', z'⟩, st'⟩ := X.virtualBack C.1 (y := y) (z := z) C.hown (mvT C.hZ w1) (mvT C.hZ w2) hnf (mvT C.hZ w3) (mvT C.hZ w4) hy (backOf (W := W) hM C.hZ w6 w5 hf hlo) qa qc (g := mkF m pc Ls (argsL.reverse ++ .ref b :: st)) rfl (hsz.trans C.2.2.1.symm) (Steps.refl _) (argsL := argsL) (rest := st) (lenOf hpd hln) rfl (by show 2 * 0 + _ ≤ _; omega) (hb C.2.1 hd) (fun _ _ => ⟨rfl, eT, hce', hsl'⟩)
  dsimp only [Pt.U, Pt.locs, Pt.cells, Pt.slots] at X' l' y' z' st' hQ
  subst l' y' z'
  exact (hr v T' Lc X' hQ).step fun t k => st'.trans k
theorem g_callI (C : Cx p s m meth c bs mx own mnm rt Z) (X : Stand p l e R s m args below meth c T locs cells slots) {rm : Room} {as' : Array Value} {Q : Option Value → Heap → List Loc → Prop} {ml : Nat} {yb : ByteArray} {ce sl W : Nat} {argsL : List Value} {ps : List FieldType} {pr : Option FieldType} {y : MethodName} {i : Nat} {b : Addr} (hy1 : y.name = "<init>") (hd : decode bs pc = .ok (.invokespecial i, 3)) (w1 : (Jvm.Cond.methodLink own i y).before a0 Z = true) (w2 : (Jvm.Cond.instanceMethod y).before a0 Z = true) (w3 : (Jvm.Cond.initialized y.cls).before a0 Z = true) (w4 : (Jvm.Cond.code y yb ml none).before a0 Z = true) (hy : y.cls ≠ "java/lang/invoke/MethodHandle" ∧ y.cls ≠ "java/lang/invoke/VarHandle")
    (hM : MetFree l y (head1 [Jvm.Cond.code y yb ml none] rm) (fun a U => a = as' ∧ Z.Warmed39 U.vm ∧ U.heap = h) (fun _ _ _ _ _ => True) (fun _ U o U' => ∃ v L, o = .returned v ∧ Q v U'.heap L ∧ FrameEnd U o U' L rm.cells rm.slots)) (hf : rm.frames + 1 ≤ R.frames) (hlo : W + (ml + 11) + rm.locals ≤ R.locals) (hce : cells + rm.cells = ce) (hsl : slots + rm.slots = sl) (hce' : ce ≤ R.cells) (hsl' : sl ≤ R.slots) (has : (.ref b :: argsL).toArray = as') (eT : T.heap = h) (hsz : Ls.size = mx) (hpd : parseMethodDescriptor y.desc = some ⟨ps, pr⟩) (hln : argsL.length = ps.length) (hW : (st.map fun v => v.category).sum ≤ W) (hn : pc + 3 = pc')
    (hr : ∀ v T' L, Stand p l e R s m args below meth c T' (locs ++ L) ce sl → Q v T'.heap L → Go p.tables e below G (T'.setTop (mkF m pc' Ls (v.toList ++ st)))) : Go p.tables e below G (T.setTop (mkF m pc Ls (argsL.reverse ++ .ref b :: st))) := by
  subst hn hce hsl has
  obtain ⟨v, vm1, ⟨T', L', k', n'⟩, -, X', ⟨Lc, hQ, l', y', z'⟩, st'⟩ := X.specialBack C.1 (y := y) hy1 C.hown (mvT C.hZ w1) (mvT C.hZ w2) (mvT C.hZ w4) hy (backOf (W := W) hM C.hZ w4 w3 hf hlo) (g := mkF m pc Ls (argsL.reverse ++ .ref b :: st)) rfl (hsz.trans C.2.2.1.symm) (Steps.refl _) (a := b) (argsL := argsL) (rest := st) (lenOf hpd hln) rfl (by show 2 * 0 + _ ≤ _; omega) (hb C.2.1 hd) (fun _ _ => ⟨rfl, eT, hce', hsl'⟩)
  dsimp only [Pt.U, Pt.locs, Pt.cells, Pt.slots] at X' l' y' z' st' hQ
  subst l' y' z'
  exact (hr v T' Lc X' hQ).step fun t k => st'.trans k
theorem g_retI (C : Cx p s m meth c bs mx own mnm (some .int) Z) (X : Stand p l e R s m args below meth c T locs cells slots) {Q : Option Value → Heap → List Loc → Prop} {ce sl : Nat} {z : Int32} (hd : decode bs pc = .ok (.ireturn, 1)) (hc : cells ≤ ce) (hs : slots ≤ sl) (hQ : Q (some (.int z)) T.heap locs) : Go p.tables e below (End s Q ce sl) (T.setTop (mkF m pc Ls (.int z :: st))) := by
  obtain ⟨fs, hr, hrun, hended, hW, hsame⟩ := X.leave (v := (some (.int z))) (fun h => by rw [C.ret] at h; cases h) C.locks
  exact ⟨_, _, retOut X C.1 C.ret rfl (Or.inl ⟨rfl, Or.inl rfl, _, rfl⟩) (hb C.2.1 hd) hr, hrun, hended, _, _, rfl, hQ, ⟨_, rfl⟩, hW, hsame.mono hc hs⟩
theorem g_retA {t : FieldType} (C : Cx p s m meth c bs mx own mnm (some t) Z) (X : Stand p l e R s m args below meth c T locs cells slots) {Q : Option Value → Heap → List Loc → Prop} {ce sl : Nat} {v : Value} (ht : t.isReference = true) (hnw : narrow t v = v) (hv : v.isRef = true) (hd : decode bs pc = .ok (.areturn, 1)) (hc : cells ≤ ce) (hs : slots ≤ sl) (hQ : Q (some v) T.heap locs) : Go p.tables e below (End s Q ce sl) (T.setTop (mkF m pc Ls (v :: st))) := by
  obtain ⟨fs, hr, hrun, hended, hW, hsame⟩ := X.leave (v := (some v)) (fun h => by rw [C.ret] at h; cases h) C.locks
  exact ⟨_, _, retOut X C.1 C.ret hnw (Or.inr (Or.inr (Or.inr (Or.inr ⟨rfl, ht, hv⟩)))) (hb C.2.1 hd) hr, hrun, hended, _, _, rfl, hQ, ⟨_, rfl⟩, hW, hsame.mono hc hs⟩
theorem g_retN {t : FieldType} (C : Cx p s m meth c bs mx own mnm (some t) Z) (X : Stand p l e R s m args below meth c T locs cells slots) {Q : Option Value → Heap → List Loc → Prop} {ce sl : Nat} {z : Int32} (ht : t = .boolean ∨ t = .byte ∨ t = .char ∨ t = .short) (hd : decode bs pc = .ok (.ireturn, 1)) (hc : cells ≤ ce) (hs : slots ≤ sl) (hQ : Q (some (.int (nar t z))) T.heap locs) : Go p.tables e below (End s Q ce sl) (T.setTop (mkF m pc Ls (.int z :: st))) := by
  obtain ⟨fs, hr, hrun, hended, hW, hsame⟩ := X.leave (v := (some (.int (nar t z)))) (fun h => by rw [C.ret] at h; cases h) C.locks
  exact ⟨_, _, retN X C.1 C.ret ht (hb C.2.1 hd) hr, hrun, hended, _, _, rfl, hQ, ⟨_, rfl⟩, hW, hsame.mono hc hs⟩
theorem g_retV (C : Cx p s m meth c bs mx own mnm none Z) (X : Stand p l e R s m args below meth c T locs cells slots) {Q : Option Value → Heap → List Loc → Prop} {ce sl : Nat}  (hd : decode bs pc = .ok (.return_, 1)) (hc : cells ≤ ce) (hs : slots ≤ sl) (hQ : Q none T.heap locs) : Go p.tables e below (End s Q ce sl) (T.setTop (mkF m pc Ls [])) := by
  obtain ⟨fs, hr, hrun, hended, hW, hsame⟩ := X.leave (v := none) (fun _ => rfl) C.locks
  exact ⟨_, _, X.returnOut C.1 C.ret (hb C.2.1 hd) hr, hrun, hended, _, _, rfl, hQ, ⟨_, rfl⟩, hW, hsame.mono hc hs⟩
theorem g_new (C : Cx p s m meth c bs mx own mnm rt Z) (X : Stand p l e R s m args below meth c T locs cells slots) {K : String} {i n ce sl : Nat} (hd : decode bs pc = .ok (.new i, 3)) (w : (Jvm.Cond.classLink own i K).before a0 Z = true) (wi : (Jvm.Cond.instantiable K n).before a0 Z = true) (wz : (Jvm.Cond.initialized K).before a0 Z = true) (eT : T.heap = h) (hce : cells + 1 = ce) (hsl : slots + n = sl) (hce' : ce ≤ R.cells) (hsl' : sl ≤ R.slots) (hn : pc + 3 = pc')
    (hr : ∀ T' h' b, b = h.size → Stand p l e R s m args below meth c T' locs ce sl → T'.heap = h' → Ext h h' → Exa Z h' b K → (∀ {O nm d : String} {ty : FieldType}, Laid Z a0 K O nm d → parseFieldDescriptor d = some ty → Fld Z h' b O nm d (defaultValue ty)) → Go p.tables e below G (T'.setTop (mkF m pc' Ls (.ref b :: st)))) : Go p.tables e below G (T.setTop (mkF m pc Ls st)) := by
  subst hn hce hsl
  obtain ⟨T', h', X', e', E', A', D', -, st'⟩ := newO X C.1 C.hZ C.hown w wi wz eT (g := mkF m pc Ls st) rfl (hb C.2.1 hd) hce' hsl'
  exact (hr T' h' _ rfl X' e' E' A' D').step st'
theorem g_initO (C : Cx p s m meth c bs mx own mnm rt Z) (X : Stand p l e R s m args below meth c T locs cells slots) {i W : Nat} {a : Addr} (hd : decode bs pc = .ok (.invokespecial i, 3)) (w1 : (Jvm.Cond.methodLink own i Lib.objectInit).before a0 Z = true) (w2 : (Jvm.Cond.instanceMethod Lib.objectInit).before a0 Z = true) (w3 : (Jvm.Cond.code Lib.objectInit object_method_1_code 1 none).before a0 Z = true) (eT : T.heap = h) (hsz : Ls.size = mx) (hf : 1 ≤ R.frames) (hW : (st.map fun v => v.category).sum ≤ W) (hl : W + 12 ≤ R.locals) (hn : pc + 3 = pc')
    (hr : ∀ T', Stand p l e R s m args below meth c T' locs cells slots → T'.heap = h → Go p.tables e below G (T'.setTop (mkF m pc' Ls st))) : Go p.tables e below G (T.setTop (mkF m pc Ls (.ref a :: st))) := by
  subst hn
  obtain ⟨T', X', e', st'⟩ := initO X C.1 C.hZ C.hown w1 w2 w3 eT (g := mkF m pc Ls (.ref a :: st)) rfl (hsz.trans C.2.2.1.symm) rfl (hb C.2.1 hd) hf (W := W) (by show 2 * 0 + _ ≤ _; omega) hl
  exact (hr T' X' e').step st'
theorem g_putF (C : Cx p s m meth c bs mx own mnm rt Z) (X : Stand p l e R s m args below meth c T locs cells slots) {O n d R0 host K : String} {i kk : Nat} {ty : FieldType} {a : Addr} {v old : Value} (hd : decode bs pc = .ok (.putfield i, 3)) (w : (Jvm.Cond.fieldLink own i R0 n d).before a0 Z = true ∨ (Jvm.Cond.fieldLinkNest own i R0 n d host).before a0 Z = true) (via : Via Z R0 O n d) (eT : T.heap = h) (F : Fld Z h a O n d old) (E : Exa Z h a K) (L : (Jvm.Cond.lays K O n d).before a0 Z = true ∨ ((Jvm.Cond.laysFinal K O n d).before a0 Z = true ∧ own = O ∧ mnm = "<init>")) (wi : (Jvm.Cond.instantiable K kk).before a0 Z = true) (hty : parseFieldDescriptor d = some ty) (hnw : narrow ty v = v) (hf : fits ty v = true) (hn : pc + 3 = pc')
    (hr : ∀ T' h', Stand p l e R s m args below meth c T' (locs ++ [⟨a, Jvm.RoadKit.slotOf Z O n d⟩]) cells slots → T'.heap = h' → Wr h h' a (Jvm.RoadKit.slotOf Z O n d) v → Go p.tables e below G (T'.setTop (mkF m pc' Ls st))) : Go p.tables e below G (T.setTop (mkF m pc Ls (v :: .ref a :: st))) := by
  subst hn
  obtain ⟨T', h', X', e', W', st'⟩ := putF X C.1 C.hZ C.hown w via eT F E (L.imp id fun q => ⟨q.1, q.2.1, C.nm.trans q.2.2⟩) wi hty hnw hf (g := mkF m pc Ls (v :: .ref a :: st)) rfl rfl (hb C.2.1 hd)
  exact (hr T' h' X' e' W').step st'
theorem g_putFN (C : Cx p s m meth c bs mx own mnm rt Z) (X : Stand p l e R s m args below meth c T locs cells slots) {O n d R0 K : String} {i kk : Nat} {ty : FieldType} {a : Addr} {v v' old : Value} (hd : decode bs pc = .ok (.putfield i, 3)) (w : (Jvm.Cond.fieldLink own i R0 n d).before a0 Z = true) (via : Via Z R0 O n d) (eT : T.heap = h) (F : Fld Z h a O n d old) (E : Exa Z h a K) (L : (Jvm.Cond.lays K O n d).before a0 Z = true ∨ ((Jvm.Cond.laysFinal K O n d).before a0 Z = true ∧ own = O ∧ mnm = "<init>")) (wi : (Jvm.Cond.instantiable K kk).before a0 Z = true) (hty : parseFieldDescriptor d = some ty) (hnw : narrow ty v = v') (hf : fits ty v' = true) (hn : pc + 3 = pc')
    (hr : ∀ T' h', Stand p l e R s m args below meth c T' (locs ++ [⟨a, Jvm.RoadKit.slotOf Z O n d⟩]) cells slots → T'.heap = h' → Wr h h' a (Jvm.RoadKit.slotOf Z O n d) v' → Go p.tables e below G (T'.setTop (mkF m pc' Ls st))) : Go p.tables e below G (T.setTop (mkF m pc Ls (v :: .ref a :: st))) := by
  subst hn
  obtain ⟨T', h', X', e', W', st'⟩ := putFN X C.1 C.hZ C.hown w via eT F E (L.imp id fun q => ⟨q.1, q.2.1, C.nm.trans q.2.2⟩) wi hty hnw hf (g := mkF m pc Ls (v :: .ref a :: st)) rfl rfl (hb C.2.1 hd)
  exact (hr T' h' X' e' W').step st'
theorem g_newP (C : Cx p s m meth c bs mx own mnm rt Z) (X : Stand p l e R s m args below meth c T locs cells slots) {aty : ArrayType} {n : Int32} {cap ce sl : Nat} (hd : decode bs pc = .ok (.newarray aty, 2)) (w : (Jvm.Cond.arrayClass (newarray.typeOf aty)).before a0 Z = true) (eT : T.heap = h) (hn0 : ¬ n < 0) (hcap : n.toNatClampNeg ≤ cap) (hb8 : cap * 8 ≤ 536870912) (hce : cells + 1 = ce) (hsl : slots + cap = sl) (hce' : ce ≤ R.cells) (hsl' : sl ≤ R.slots) (hn : pc + 2 = pc')
    (hr : ∀ T' h' b k, b = h.size → Stand p l e R s m args below meth c T' locs ce sl → T'.heap = h' → Ext h h' → Arv Z h' b k (newarray.typeOf aty) n [] (defaultValue (newarray.typeOf aty)) → Go p.tables e below G (T'.setTop (mkF m pc' Ls (.ref b :: st)))) : Go p.tables e below G (T.setTop (mkF m pc Ls (.int n :: st))) := by
  subst hn hce hsl
  obtain ⟨T', h', k', X', e', E', A', st'⟩ := newP X C.1 C.hZ w eT (g := mkF m pc Ls (.int n :: st)) rfl (hb C.2.1 hd) rfl hn0 hcap hb8 hce' hsl'
  exact (hr T' h' _ k' rfl X' e' E' (Arv.new A' hn0)).step st'
theorem g_stB (C : Cx p s m meth c bs mx own mnm rt Z) (X : Stand p l e R s m args below meth c T locs cells slots) {a : Addr} {k : ClassId} {n j : Int32} {x : Int32} {vs : List Value} {dv : Value} {i : Nat} (hd : decode bs pc = .ok (.bastore, 1)) (eT : T.heap = h) (F : Arv Z h a k .byte n vs dv) (hj : ¬ j < 0 ∧ j < n) (hji : j.toNatClampNeg = i) (hi : i < vs.length) (hn : pc + 1 = pc')
    (hr : ∀ T' h', Stand p l e R s m args below meth c T' (locs ++ [⟨a, j.toNatClampNeg⟩]) cells slots → T'.heap = h' → Wr h h' a j.toNatClampNeg (.int (nar .byte x)) → Arv Z h' a k .byte n (vs.set i (.int (nar .byte x))) dv → Go p.tables e below G (T'.setTop (mkF m pc' Ls st))) : Go p.tables e below G (T.setTop (mkF m pc Ls (.int x :: .int j :: .ref a :: st))) := by
  subst hn
  obtain ⟨cl, A, q, Sz, N, H, Gf⟩ := F
  obtain ⟨T', h', X', e', W', st'⟩ := stB X C.1 C.hZ eT A (j := j) (inb_of Sz hj) (g := mkF m pc Ls (.int x :: .int j :: .ref a :: st)) rfl rfl (hb C.2.1 hd)
  exact (hr T' h' X' e' W' (Arv.set A q Sz N H Gf (fits_nar_byte _) W' i hji hi)).step st'
theorem g_stC (C : Cx p s m meth c bs mx own mnm rt Z) (X : Stand p l e R s m args below meth c T locs cells slots) {a : Addr} {k : ClassId} {n j : Int32} {x : Int32} {vs : List Value} {dv : Value} {i : Nat} (hd : decode bs pc = .ok (.castore, 1)) (eT : T.heap = h) (F : Arv Z h a k .char n vs dv) (hj : ¬ j < 0 ∧ j < n) (hji : j.toNatClampNeg = i) (hi : i < vs.length) (hn : pc + 1 = pc')
    (hr : ∀ T' h', Stand p l e R s m args below meth c T' (locs ++ [⟨a, j.toNatClampNeg⟩]) cells slots → T'.heap = h' → Wr h h' a j.toNatClampNeg (.int (nar .char x)) → Arv Z h' a k .char n (vs.set i (.int (nar .char x))) dv → Go p.tables e below G (T'.setTop (mkF m pc' Ls st))) : Go p.tables e below G (T.setTop (mkF m pc Ls (.int x :: .int j :: .ref a :: st))) := by
  subst hn
  obtain ⟨cl, A, q, Sz, N, H, Gf⟩ := F
  obtain ⟨T', h', X', e', W', st'⟩ := stC X C.1 C.hZ eT A (j := j) (inb_of Sz hj) (g := mkF m pc Ls (.int x :: .int j :: .ref a :: st)) rfl rfl (hb C.2.1 hd)
  exact (hr T' h' X' e' W' (Arv.set A q Sz N H Gf (fits_nar_char _) W' i hji hi)).step st'
theorem g_ldC (C : Cx p s m meth c bs mx own mnm rt Z) (X : Stand p l e R s m args below meth c T locs cells slots) {a : Addr} {k : ClassId} {n j : Int32} {vs : List Value} {dv v : Value} (hd : decode bs pc = .ok (.caload, 1)) (eT : T.heap = h) (F : Arv Z h a k .char n vs dv) (hj : ¬ j < 0 ∧ j < n) (hv : vs.getD j.toNatClampNeg dv = v) (hn : pc + 1 = pc')
    (hr : Go p.tables e below G (T.setTop (mkF m pc' Ls (v :: st)))) : Go p.tables e below G (T.setTop (mkF m pc Ls (.int j :: .ref a :: st))) := by
  subst hn
  obtain ⟨cl, A, q, Sz, N, H, Gf⟩ := F
  have hin := inb_of Sz hj
  exact hr.step fun t k => X.caload C.1 (j := j) (by rw [eT]; exact A.1) (State.isArrayOf_alike C.hZ.alike A.2.1) A.2.2 hin ((H _ (Nat.lt_of_not_le fun q => hin (Or.inr q))).trans (congrArg some hv)) (g := mkF m pc Ls (.int j :: .ref a :: st)) rfl rfl (hb C.2.1 hd) _ k
theorem g_len (C : Cx p s m meth c bs mx own mnm rt Z) (X : Stand p l e R s m args below meth c T locs cells slots) {a : Addr} {k : ClassId} {n : Int32} {ty : FieldType} {vs : List Value} {dv : Value} (hd : decode bs pc = .ok (.arraylength, 1)) (eT : T.heap = h) (F : Arv Z h a k ty n vs dv) (hn : pc + 1 = pc')
    (hr : Go p.tables e below G (T.setTop (mkF m pc' Ls (.int n :: st)))) : Go p.tables e below G (T.setTop (mkF m pc Ls (.ref a :: st))) := by
  subst hn
  obtain ⟨cl, A, q, Sz, N, H, Gf⟩ := F
  exact hr.step fun t k => X.arraylength C.1 (by rw [eT]; exact A.1) (State.isArrayOf_alike C.hZ.alike A.2.1) (g := mkF m pc Ls (.ref a :: st)) rfl rfl (hb C.2.1 hd) _ (by rw [len_of Sz N]; exact k)
theorem own_sta_keep {h' : Heap} {ws : List Addr} {K n d : String} {v : Value} (F : Sta Z h K n d v) (Kp : Keep h h' ws) (q : ∀ a ∈ ws, ∃ c : Cell, h[a]? = some c ∧ c.vm.isStatics = false) : Sta Z h' K n d v := by
  obtain ⟨cf, i, k, f, st, cell, h1, h2, h3, h4, h5, h6, h7⟩ := F
  refine ⟨cf, i, k, f, st, cell, h1, h2, h3, h4, Kp.2.1 st cell h5 (fun hm => ?_), h6, h7⟩
  obtain ⟨c', e1, e2⟩ := q st hm
  cases h5.symm.trans e1
  rw [h6] at e2
  cases e2
theorem own_fin (n : Nat) (x : Int32) (h0 : 0 ≤ x.toInt) (h1 : x.toInt < n) : ∃ i : Fin n, x = Int32.ofNat i.val :=
  ⟨⟨x.toNatClampNeg, by show x.toInt.toNat < n; omega⟩, (back32 (by rw [Int32.lt_iff_toInt_lt]; show ¬ x.toInt < 0; omega)).1.symm⟩
theorem own_cast {tb : Tables} {S S' : State} (q : S = S') (g : Go tb e below G S') : Go tb e below G S := q ▸ g
/-- the end of a body that may intern -/
def EndW (s : State) (Q : Option Value → Heap → List Loc → Prop) (ce sl : Nat) (o : Outcome) (U' : State) : Prop := ∃ v L, o = .returned v ∧ Q v U'.heap L ∧ ReturnedEndW s o U' L ce sl
theorem met_ofW {y : MethodName} {ws : List Jvm.Cond} {rm : Room} {as' : Array Value} {Q : Option Value → Heap → List Loc → Prop} {ce sl : Nat} {Px : State → Prop} (hpn : plainFor y = true) (hef : ∀ m, entryFrame m as' mx = mkF m 0 Ls [])
    (hbody : ∀ (p : Program) (e : Env) (s : State) (m : MethodId) (below : List Frame) (meth : Method) (c : Code) (T : State), Px s → Cx p (s.setVm s.vm) m meth c bs mx y.cls y.name rt Z → Stand p l e rm (s.setVm s.vm) m as' below meth c T [] 0 0 → s.Since s.vm 0 → T.heap = h → Go p.tables e below (EndW s Q ce sl) (T.setTop (mkF m 0 Ls []))) :
    MetFree l y (head1 (Jvm.Cond.code y bs mx rt :: ws) rm) (fun a U => a = as' ∧ Z.Warmed39 U.vm ∧ U.heap = h ∧ Px U) (fun _ _ _ _ _ => True) (fun _ U o U' => ∃ v L, o = .returned v ∧ Q v U'.heap L ∧ ReturnedEndW U o U' L ce sl) := by
  refine MetFree.of_bodySF hpn hisR ?_
  intro p e s m args below meth c s₁ Bd hml0 hP hK
  obtain ⟨rfl, hZ, hh, hpx⟩ := hP
  have X0 : Stand p l e rm s m _ below meth c s₁ [] 0 0 := Stand.of_body Bd
  have e0 : s₁.heap = h := by rw [← hh, Bd.state]; rfl
  obtain ⟨s₂, o, h1, h2, h3, h4⟩ := hbody p e s m below meth c s₁ hpx ⟨Bd.exec, Bd.bytes, hml0, findClass_of_methodNamed Bd.named, (name_of_methodNamed Bd.named Bd.method).1, Bd.returns, Bd.notSynchronized, hZ⟩ X0 ((State.WarmedH.refl s).since 0) e0
  exact ⟨s₂, o, castTop (hef m) h1, h2, h3, h4⟩
theorem met_ofW0 {y : MethodName} {ws : List Jvm.Cond} {rm : Room} {as' : Array Value} {Q : Option Value → Heap → List Loc → Prop} {ce sl : Nat} (hpn : plainFor y = true) (hef : ∀ m, entryFrame m as' mx = mkF m 0 Ls [])
    (hbody : ∀ (p : Program) (e : Env) (s : State) (m : MethodId) (below : List Frame) (meth : Method) (c : Code) (T : State), Cx p (s.setVm s.vm) m meth c bs mx y.cls y.name rt Z → Stand p l e rm (s.setVm s.vm) m as' below meth c T [] 0 0 → s.Since s.vm 0 → T.heap = h → Go p.tables e below (EndW s Q ce sl) (T.setTop (mkF m 0 Ls []))) :
    MetFree l y (head1 (Jvm.Cond.code y bs mx rt :: ws) rm) (fun a U => a = as' ∧ Z.Warmed39 U.vm ∧ U.heap = h) (fun _ _ _ _ _ => True) (fun _ U o U' => ∃ v L, o = .returned v ∧ Q v U'.heap L ∧ ReturnedEndW U o U' L ce sl) := by
  refine MetFree.of_bodySF hpn hisR ?_
  intro p e s m args below meth c s₁ Bd hml0 hP hK
  obtain ⟨rfl, hZ, hh⟩ := hP
  have X0 : Stand p l e rm s m _ below meth c s₁ [] 0 0 := Stand.of_body Bd
  have e0 : s₁.heap = h := by rw [← hh, Bd.state]; rfl
  obtain ⟨s₂, o, h1, h2, h3, h4⟩ := hbody p e s m below meth c s₁ ⟨Bd.exec, Bd.bytes, hml0, findClass_of_methodNamed Bd.named, (name_of_methodNamed Bd.named Bd.method).1, Bd.returns, Bd.notSynchronized, hZ⟩ X0 ((State.WarmedH.refl s).since 0) e0
  exact ⟨s₂, o, castTop (hef m) h1, h2, h3, h4⟩
theorem Cx.reb {s' : State} (C : Cx p s m meth c bs mx own mnm rt Z) (hZ : Z.Warmed39 s'.vm) (ho : s'.vm.findClass own = some m.cls) : Cx p s' m meth c bs mx own mnm rt Z := ⟨C.1, C.2.1, C.2.2.1, ho, C.nm, C.ret, C.locks, hZ⟩
theorem own_backH {y : MethodName} {yb : ByteArray} {ml : Nat} {yr : Option FieldType} {rm : Room} {len W : Nat} {as' : Array Value} {Q : Option Value → Heap → List Loc → Prop} {EL : List (String × Nat)} {vm0 : Vm}
    (hM : MetFree l y (head1 [Jvm.Cond.code y yb ml yr] rm) (fun a U => a = as' ∧ Z.Warmed39 U.vm ∧ U.heap = h ∧ CHv Z EL U.vm h) (fun _ _ _ _ _ => True) (fun _ U o U' => ∃ v L, o = .returned v ∧ Q v U'.heap L ∧ ReturnedEndW U o U' L rm.cells rm.slots))
    (hZ : Z.Warmed39 vm0) (wc : (Jvm.Cond.code y yb ml yr).before a0 Z = true) (wz : (Jvm.Cond.initialized y.cls).before a0 Z = true) (hf : rm.frames + 1 ≤ R.frames) (hl : W + (ml + 11) + rm.locals ≤ R.locals) (hEL : EW Z a0 EL) (H : CHv Z EL vm0 h) :
    BackS l R p e below (s.setVm vm0) args y len W (fun A a => a = as' ∧ A.U.heap = h ∧ A.cells + rm.cells ≤ R.cells ∧ A.slots + rm.slots ≤ R.slots)
      (fun A _ v B => ∃ L, Q v B.U.heap L ∧ B.locs = A.locs ++ L ∧ B.cells = A.cells + rm.cells ∧ B.slots = A.slots + rm.slots) := by
  refine BackS.of_freeW (bytes := yb) (maxL := ml) (ret := yr) (E := fun _ _ o t L k n => k = rm.cells ∧ n = rm.slots ∧ ∃ v, o = .returned v ∧ Q v t.heap L) hM hf hl (fun m meth c A a Y hp => ?_) (fun m meth c A a g mk Y hp => ?_) (fun _ _ _ _ _ _ _ _ _ => trivial) ?_ ?_
  · have hU : Z.Warmed39 A.U.vm := wtrans (s := s.setVm vm0) hZ Y.warmed
    exact ⟨by show (Jvm.Cond.and _ .tt).before a A.U = true; rw [Cond.before_and, mv hU wc]; rfl, mv hU wc, mv hU wz, hp.2.2.1, hp.2.2.2⟩
  · exact ⟨hp.1, wtrans (s := s.setVm vm0) hZ Y.warmed, hp.2.1, (CHv.at Y hZ hEL H).1⟩
  · rintro a first o t ⟨v, L, h1, h2, h3⟩
    exact ⟨L, _, _, h3, rfl, rfl, v, h1, h2⟩
  · rintro m meth c A a g mk v t L k n Y hp - - ⟨e1, e2, v', e3, e4⟩
    cases e3; subst e1 e2
    exact ⟨L, e4, rfl, rfl, rfl⟩
theorem g_callIH {vm0 : Vm} {k0 : Nat} (C : Cx p (s.setVm vm0) m meth c bs mx own mnm rt Z) (X : Stand p l e R (s.setVm vm0) m args below meth c T locs cells slots) (hS : s.Since vm0 k0) (hk : k0 ≤ h.size) {EL : List (String × Nat)} (hEL : EW Z a0 EL) (Hc : CHv Z EL vm0 h) {rm : Room} {as' : Array Value} {Q : Option Value → Heap → List Loc → Prop} {ml : Nat} {yb : ByteArray} {ce sl W : Nat} {argsL : List Value} {ps : List FieldType} {pr : Option FieldType} {y : MethodName} {i : Nat} {b : Addr} (hy1 : y.name = "<init>") (hd : decode bs pc = .ok (.invokespecial i, 3)) (w1 : (Jvm.Cond.methodLink own i y).before a0 Z = true) (w2 : (Jvm.Cond.instanceMethod y).before a0 Z = true) (w3 : (Jvm.Cond.initialized y.cls).before a0 Z = true) (w4 : (Jvm.Cond.code y yb ml none).before a0 Z = true) (hy : y.cls ≠ "java/lang/invoke/MethodHandle" ∧ y.cls ≠ "java/lang/invoke/VarHandle")
    (hM : MetFree l y (head1 [Jvm.Cond.code y yb ml none] rm) (fun a U => a = as' ∧ Z.Warmed39 U.vm ∧ U.heap = h ∧ CHv Z EL U.vm h) (fun _ _ _ _ _ => True) (fun _ U o U' => ∃ v L, o = .returned v ∧ Q v U'.heap L ∧ ReturnedEndW U o U' L rm.cells rm.slots)) (hf : rm.frames + 1 ≤ R.frames) (hlo : W + (ml + 11) + rm.locals ≤ R.locals) (hce : cells + rm.cells = ce) (hsl : slots + rm.slots = sl) (hce' : ce ≤ R.cells) (hsl' : sl ≤ R.slots) (has : (.ref b :: argsL).toArray = as') (eT : T.heap = h) (hsz : Ls.size = mx) (hpd : parseMethodDescriptor y.desc = some ⟨ps, pr⟩) (hln : argsL.length = ps.length) (hW : (st.map fun v => v.category).sum ≤ W) (hn : pc + 3 = pc')
    (hr : ∀ v T' L, Cx p (s.setVm T'.vm) m meth c bs mx own mnm rt Z → Stand p l e R (s.setVm T'.vm) m args below meth c T' (locs ++ L) ce sl → s.Since T'.vm T'.heap.size → Q v T'.heap L → Go p.tables e below G (T'.setTop (mkF m pc' Ls (v.toList ++ st)))) : Go p.tables e below G (T.setTop (mkF m pc Ls (argsL.reverse ++ .ref b :: st))) := by
  subst hn hce hsl has
  obtain ⟨v, vm1, ⟨T', L', k', n'⟩, -, X', hS1, hg1, ⟨Lc, hQ, l', y', z'⟩, st'⟩ := X.specialBackS C.1 (y := y) hy1 C.hown (mvT C.hZ w1) (mvT C.hZ w2) (mvT C.hZ w4) hy (own_backH (W := W) hM C.hZ w4 w3 hf hlo hEL Hc) (g := mkF m pc Ls (argsL.reverse ++ .ref b :: st)) rfl (hsz.trans C.2.2.1.symm) (Steps.refl _) (a := b) (argsL := argsL) (rest := st) (lenOf hpd hln) rfl (by show 2 * 0 + _ ≤ _; omega) (hb C.2.1 hd) (fun _ _ => ⟨rfl, eT, hce', hsl'⟩)
  dsimp only [Pt.U, Pt.locs, Pt.cells, Pt.slots] at X' hS1 hg1 l' y' z' st' hQ
  subst l' y' z'
  obtain ⟨X2, S2, hZ2, ho2⟩ := rebS hS (Nat.le_trans hk (Nat.le_of_eq (congrArg Array.size eT).symm)) X' hS1 hg1 C.hZ C.hown
  exact (hr v T' Lc (C.reb hZ2 ho2) X2 S2 hQ).step fun t k => st'.trans k
theorem g_ldcH {vm0 : Vm} {k0 : Nat} (C : Cx p (s.setVm vm0) m meth c bs mx own mnm rt Z) (X : Stand p l e R (s.setVm vm0) m args below meth c T locs cells slots) (hS : s.Since vm0 k0) (hk : k0 ≤ h.size) {EL : List (String × Nat)} (hEL : EW Z a0 EL) (Hc : CHv Z EL vm0 h) {i n ce sl : Nat} {text : String} {vs : List Value} {z : Int32} (hmem : (own, i) ∈ EL) (hd : decode bs pc = .ok (.ldc i, 2)) (w : (Jvm.Cond.stringLink own i text).before a0 Z = true) (wS : ∀ a ∈ Bundle.stringAtoms, a.before a0 Z = true) (eT : T.heap = h) (ht : (∀ c ∈ text.toList, c.toNat < 256) ∧ text.toList.map (fun c => Value.int (Jvm.Lit.byteI c.toNat.toUInt16)) = vs) (hz : ¬ z < 0) (hzl : z.toNatClampNeg = vs.length) (hn4 : 4 * text.toList.length ≤ n) (hbig : n ≤ 536870912) (hce : cells + 2 = ce) (hsl : slots + (n + 4) = sl) (hce' : ce ≤ R.cells) (hsl' : sl ≤ R.slots) (hn : pc + 2 = pc')
    (hr : ∀ a T' h' k1 b k, Cx p (s.setVm T'.vm) m meth c bs mx own mnm rt Z → Stand p l e R (s.setVm T'.vm) m args below meth c T' locs ce sl → T'.heap = h' → Ext h h' → s.Since T'.vm k1 → k1 ≤ h'.size → Exa Z h' a "java/lang/String" → Fld Z h' a "java/lang/String" "coder" "B" (.int 0) → Fld Z h' a "java/lang/String" "value" "[B" (.ref b) → Arv Z h' b k .byte z vs (.int 0) → Lit (s.setVm T'.vm) own i a → CHr Z EL vm0 h T'.vm h' → (∀ x, Safe Z EL T'.vm h' x → x ≠ a ∧ x ≠ b) → Go p.tables e below G (T'.setTop (mkF m pc' Ls (.ref a :: st)))) : Go p.tables e below G (T.setTop (mkF m pc Ls st)) := by
  subst hn hce hsl
  obtain ⟨a, T', h', k1, b, k, X', e', E', hS', hk', hZ', ho', A1, A2, A3, A4, -, -, A5, A6, A7, st'⟩ := ldcCH X C.1 C.hZ C.hown w wS eT hS hk hEL hmem Hc ht hz hzl (g := mkF m pc Ls st) rfl (hb C.2.1 hd) hn4 hbig hce' hsl'
  exact (hr a T' h' k1 b k (C.reb hZ' ho') X' e' E' hS' hk' A1 A2 A3 A4 A6 A5 A7).step st'
theorem g_ldcAgain {vm0 : Vm} (C : Cx p (s.setVm vm0) m meth c bs mx own mnm rt Z) (X : Stand p l e R (s.setVm vm0) m args below meth c T locs cells slots) {i : Nat} {text : String} {a : Addr} (hd : decode bs pc = .ok (.ldc i, 2)) (w : (Jvm.Cond.stringLink own i text).before a0 Z = true) (L : Lit (s.setVm vm0) own i a) (hn : pc + 2 = pc')
    (hr : Go p.tables e below G (T.setTop (mkF m pc' Ls (.ref a :: st)))) : Go p.tables e below G (T.setTop (mkF m pc Ls st)) := by
  subst hn
  exact hr.step fun t k => ldcAgain X C.1 C.hZ C.hown w L (g := mkF m pc Ls st) rfl (hb C.2.1 hd) _ k
theorem g_retNW {vm0 : Vm} {k0 : Nat} {t : FieldType} (C : Cx p (s.setVm vm0) m meth c bs mx own mnm (some t) Z) (X : Stand p l e R (s.setVm vm0) m args below meth c T locs cells slots) (hS : s.Since vm0 k0) (hk : k0 ≤ T.heap.size) {Q : Option Value → Heap → List Loc → Prop} {ce sl : Nat} {z : Int32} (ht : t = .boolean ∨ t = .byte ∨ t = .char ∨ t = .short) (hd : decode bs pc = .ok (.ireturn, 1)) (hc : cells ≤ ce) (hs : slots ≤ sl) (hQ : Q (some (.int (nar t z))) T.heap locs) : Go p.tables e below (EndW s Q ce sl) (T.setTop (mkF m pc Ls (.int z :: st))) := by
  obtain ⟨fs, hr, hrun, hended, q1, q2, q3, q4⟩ := X.leaveW hS hk (v := (some (.int (nar t z)))) (fun h => by rw [C.ret] at h; cases h) C.locks
  exact ⟨_, _, retN X C.1 C.ret ht (hb C.2.1 hd) hr, hrun, hended, _, _, rfl, hQ, q1, q2, q3, q4.mono hc hs⟩
theorem g_retVW {vm0 : Vm} {k0 : Nat} (C : Cx p (s.setVm vm0) m meth c bs mx own mnm none Z) (X : Stand p l e R (s.setVm vm0) m args below meth c T locs cells slots) (hS : s.Since vm0 k0) (hk : k0 ≤ T.heap.size) {Q : Option Value → Heap → List Loc → Prop} {ce sl : Nat}  (hd : decode bs pc = .ok (.return_, 1)) (hc : cells ≤ ce) (hs : slots ≤ sl) (hQ : Q none T.heap locs) : Go p.tables e below (EndW s Q ce sl) (T.setTop (mkF m pc Ls [])) := by
  obtain ⟨fs, hr, hrun, hended, q1, q2, q3, q4⟩ := X.leaveW hS hk (v := none) (fun _ => rfl) C.locks
  exact ⟨_, _, X.returnOut C.1 C.ret (hb C.2.1 hd) hr, hrun, hended, _, _, rfl, hQ, q1, q2, q3, q4.mono hc hs⟩
end OwnKit
theorem own_neqi {args : Array Value} {s : State} {t : Term} {x v : Int32} (ht : t.eval args s none [] s = some (.int x)) (h : (Jvm.Cond.not (Jvm.Cond.eq t (.int v))).value args s none s [] = some true) : ¬ (x = v) := by
  have q := not_v h
  intro e
  subst e
  simp [Cond.value, Term.eval, ht] at q
theorem own_arv_ne {Z : State} {h : Heap} {a b : Addr} {k k' : ClassId} {ty ty' : FieldType} {n n' : Int32} {vs vs' : List Value} {d d' : Value} (A : Arv Z h a k ty n vs d) (B : Arv Z h b k' ty' n' vs' d') (q : ¬ (n.toNatClampNeg = n'.toNatClampNeg)) : ¬ (a = b) := by
  rintro rfl
  obtain ⟨c, A1, -, S1, -⟩ := A
  obtain ⟨c', B1, -, S2, -⟩ := B
  cases A1.1.symm.trans B1.1
  exact q (S1.symm.trans S2)
theorem own_wS {a0 : Array Value} {Z : State} (hw : ∀ d ∈ tables_1, d.before a0 Z = true) : ∀ a ∈ Bundle.stringAtoms, a.before a0 Z = true := by
  intro a ha
  simp only [Bundle.stringAtoms, Bundle.sN, List.mem_cons, List.not_mem_nil, or_false] at ha
  rcases ha with rfl | rfl | rfl | rfl | rfl | rfl | rfl
  · exact (hw _ (List.mem_of_getElem? (i := 3) rfl))
  · exact (hw _ (List.mem_of_getElem? (i := 2) rfl))
  · exact (hw _ (List.mem_of_getElem? (i := 19) rfl))
  · exact (hw _ (List.mem_of_getElem? (i := 29) rfl))
  · exact (hw _ (List.mem_of_getElem? (i := 27) rfl))
  · exact (hw _ (List.mem_of_getElem? (i := 56) rfl))
  · exact (hw _ (List.mem_of_getElem? (i := 57) rfl))
def own_EL : List (String × Nat) := [("java/lang/String", 7)]
theorem own_ew {a0 : Array Value} {Z : State} (hw : ∀ d ∈ tables_1, d.before a0 Z = true) : EW Z a0 own_EL := EW.cons (hw _ (List.mem_of_getElem? (i := 55) rfl)) (by decide) EW.nil
def FX (Z : State) (h : Heap) (cs : Int32) : Prop := (Sta Z h "java/lang/String" "COMPACT_STRINGS" "Z" (.int cs))
theorem d5_0 : decode jdk_52_method_21_code 0 = .ok (.iconst 0, 1) := by decide +kernel
theorem d5_1 : decode jdk_52_method_21_code 1 = .ok (.istore 5, 2) := by decide +kernel
theorem d5_3 : decode jdk_52_method_21_code 3 = .ok (.iload 5, 2) := by decide +kernel
theorem d5_5 : decode jdk_52_method_21_code 5 = .ok (.iload 4, 2) := by decide +kernel
theorem d5_7 : decode jdk_52_method_21_code 7 = .ok (.if_icmp .ge 37, 3) := by decide +kernel
theorem d5_10 : decode jdk_52_method_21_code 10 = .ok (.aload_n 0, 1) := by decide +kernel
theorem d5_11 : decode jdk_52_method_21_code 11 = .ok (.iload_n 1, 1) := by decide +kernel
theorem d5_12 : decode jdk_52_method_21_code 12 = .ok (.caload, 1) := by decide +kernel
theorem d5_13 : decode jdk_52_method_21_code 13 = .ok (.istore 6, 2) := by decide +kernel
theorem d5_15 : decode jdk_52_method_21_code 15 = .ok (.iload 6, 2) := by decide +kernel
theorem d5_17 : decode jdk_52_method_21_code 17 = .ok (.sipush 255, 3) := by decide +kernel
theorem d5_20 : decode jdk_52_method_21_code 20 = .ok (.if_icmp .le 6, 3) := by decide +kernel
theorem d5_26 : decode jdk_52_method_21_code 26 = .ok (.aload_n 2, 1) := by decide +kernel
theorem d5_27 : decode jdk_52_method_21_code 27 = .ok (.iload_n 3, 1) := by decide +kernel
theorem d5_28 : decode jdk_52_method_21_code 28 = .ok (.iload 6, 2) := by decide +kernel
theorem d5_30 : decode jdk_52_method_21_code 30 = .ok (.i2b, 1) := by decide +kernel
theorem d5_31 : decode jdk_52_method_21_code 31 = .ok (.bastore, 1) := by decide +kernel
theorem d5_32 : decode jdk_52_method_21_code 32 = .ok (.iinc 1 1, 3) := by decide +kernel
theorem d5_35 : decode jdk_52_method_21_code 35 = .ok (.iinc 3 1, 3) := by decide +kernel
theorem d5_38 : decode jdk_52_method_21_code 38 = .ok (.iinc 5 1, 3) := by decide +kernel
theorem d5_41 : decode jdk_52_method_21_code 41 = .ok (.goto (-38), 3) := by decide +kernel
theorem d5_44 : decode jdk_52_method_21_code 44 = .ok (.iload 4, 2) := by decide +kernel
theorem d5_46 : decode jdk_52_method_21_code 46 = .ok (.ireturn, 1) := by decide +kernel
def F5_1  : Int32 := (1 : Int32)
theorem F5_1_l0   : F5_1  = (1 : Int32) := rfl
theorem ef_5_1 (m : MethodId) (a1 : Addr) (a3 : Addr) : entryFrame m #[(.ref a1), (.int (0 : Int32)), (.ref a3), (.int (0 : Int32)), (.int (1 : Int32))] 7 = mkF m 0 #[.val (.ref a1), .val (.int (0 : Int32)), .val (.ref a3), .val (.int (0 : Int32)), .val (.int (1 : Int32)), .unset, .unset] [] := by first | (simp [entryFrame, mkF, argsToLocals, Value.category]; done) | rfl
def Q_5_1 (Z : State) (a1 : Addr) (a3 : Addr) (kc : ClassId) (kb : ClassId) (x0 : Int32) (cs : Int32) (h0 : Heap) (n0 : Nat) (v : Option Value) (h : Heap) (L : List Loc) : Prop := (v = some (.int (F5_1 ))) ∧ (Fr n0 L) ∧ (Keep h0 h [a3]) ∧ (Arv Z h a3 kb .byte (1 : Int32) [(.int (nar .byte x0.toInt8.toInt32))] (.int (0 : Int32)))
set_option maxRecDepth 65536 in
set_option maxHeartbeats 40000000 in
theorem rm5_1 (l : Launch) (Z : State) (a0 : Array Value) (hw : ∀ d ∈ tables_1, d.before a0 Z = true) (ws : List Jvm.Cond) (a1 : Addr) (a3 : Addr) (kc : ClassId) (kb : ClassId) (x0 : Int32) (cs : Int32) (h0 : Heap) (n0 : Nat) (Z0 : n0 ≤ h0.size) (hF : FX Z h0 cs) (V_c : Arv Z h0 a1 kc .char (1 : Int32) [(.int x0)] (.int (0 : Int32))) (V_b : Arv Z h0 a3 kb .byte (1 : Int32) [(.int (0 : Int32))] (.int (0 : Int32))) (hx0 : ¬ ((255 : Int32) < x0)) (gn_a3 : n0 ≤ a3) (ne13 : ¬ (a1 = a3)) :
    MetFree l (⟨"java/lang/StringUTF16", "compress", "([CI[BII)I"⟩ : MethodName) (head1 (Jvm.Cond.code (⟨"java/lang/StringUTF16", "compress", "([CI[BII)I"⟩ : MethodName) jdk_52_method_21_code 7 (some .int) :: ws) ({ frames := 0, cells := 0, slots := 0, locals := 0 } : Room)) (fun a U => a = #[(.ref a1), (.int (0 : Int32)), (.ref a3), (.int (0 : Int32)), (.int (1 : Int32))] ∧ Z.Warmed39 U.vm ∧ U.heap = h0) (fun _ _ _ _ _ => True) (fun _ U o U' => ∃ v L, o = .returned v ∧ Q_5_1 Z a1 a3 kc kb x0 cs h0 n0 v U'.heap L ∧ FrameEnd U o U' L ({ frames := 0, cells := 0, slots := 0, locals := 0 } : Room).cells ({ frames := 0, cells := 0, slots := 0, locals := 0 } : Room).slots) := by
  refine met_of (Ls := #[.val (.ref a1), .val (.int (0 : Int32)), .val (.ref a3), .val (.int (0 : Int32)), .val (.int (1 : Int32)), .unset, .unset]) (plainFor_of_name (by first | (simp [plainName, overriddenIn]; done) | decide +kernel)) (fun m => ef_5_1 m a1 a3) ?_
  intro p e s m below meth c T0 C X0 e0
  have S_cs := hF
  have N0 := Fr.nil n0
  have K0 : Keep h0 h0 [a3] := Keep.refl h0 _
  refine g_iconst (pc' := 1) (v := (0 : Int32)) C X0 d5_0 rfl rfl ?_
  refine g_istore (pc' := 3) (Ls' := #[.val (.ref a1), .val (.int (0 : Int32)), .val (.ref a3), .val (.int (0 : Int32)), .val (.int (1 : Int32)), .val (.int (0 : Int32)), .unset]) C X0 d5_1 rfl rfl ?_
  refine g_iload (pc' := 5) C X0 d5_3 rfl rfl ?_
  refine g_iload (pc' := 7) C X0 d5_5 rfl rfl ?_
  refine g_icmpN (pc' := 10) C X0 d5_7 (tlt (show (0 : Int32) < (1 : Int32) from (by decide))).2.1 rfl ?_
  refine g_aloadN (pc' := 11) C X0 d5_10 rfl rfl rfl ?_
  refine g_iloadN (pc' := 12) C X0 d5_11 rfl rfl ?_
  refine g_ldC (pc' := 13) (v := (.int x0)) C X0 d5_12 e0 V_c ⟨by decide, by decide⟩ rfl rfl ?_
  refine g_istore (pc' := 15) (Ls' := #[.val (.ref a1), .val (.int (0 : Int32)), .val (.ref a3), .val (.int (0 : Int32)), .val (.int (1 : Int32)), .val (.int (0 : Int32)), .val (.int x0)]) C X0 d5_13 rfl rfl ?_
  refine g_iload (pc' := 17) C X0 d5_15 rfl rfl ?_
  refine g_sipush (pc' := 20) (v := (255 : Int32)) C X0 d5_17 rfl rfl ?_
  refine g_icmpY (pc' := 26) C X0 d5_20 (flt hx0).2.2.2 (by decide) (by decide) ?_
  refine g_aloadN (pc' := 27) C X0 d5_26 rfl rfl rfl ?_
  refine g_iloadN (pc' := 28) C X0 d5_27 rfl rfl ?_
  refine g_iload (pc' := 30) C X0 d5_28 rfl rfl ?_
  refine g_i2b (pc' := 31) C X0 d5_30 rfl ?_
  refine g_stB (pc' := 32) (i := 0) C X0 d5_31 e0 V_b ⟨by decide, by decide⟩ rfl (show (0 : Nat) < 1 from by decide) rfl (fun T1 h1 X1 e1 W1 V1q => ?_)
  have V1 : Arv Z h1 a3 kb .byte (1 : Int32) [(.int (nar .byte x0.toInt8.toInt32))] (.int (0 : Int32)) := V1q
  have S_cs_1 := S_cs.wr W1
  have V_c_1 := V_c.other W1 ne13
  have Z1 := Nat.le_trans Z0 (Nat.le_of_eq W1.size.symm)
  have N1 := Fr.snoc X1 N0 gn_a3
  have K1 := K0.wr W1 (Or.inl (List.mem_of_getElem? (i := 0) rfl))
  refine g_iinc (pc' := 35) (Ls' := #[.val (.ref a1), .val (.int ((0 : Int32) + (1 : Int32))), .val (.ref a3), .val (.int (0 : Int32)), .val (.int (1 : Int32)), .val (.int (0 : Int32)), .val (.int x0)]) C X1 d5_32 rfl rfl rfl ?_
  refine g_iinc (pc' := 38) (Ls' := #[.val (.ref a1), .val (.int ((0 : Int32) + (1 : Int32))), .val (.ref a3), .val (.int ((0 : Int32) + (1 : Int32))), .val (.int (1 : Int32)), .val (.int (0 : Int32)), .val (.int x0)]) C X1 d5_35 rfl rfl rfl ?_
  refine g_iinc (pc' := 41) (Ls' := #[.val (.ref a1), .val (.int ((0 : Int32) + (1 : Int32))), .val (.ref a3), .val (.int ((0 : Int32) + (1 : Int32))), .val (.int (1 : Int32)), .val (.int ((0 : Int32) + (1 : Int32))), .val (.int x0)]) C X1 d5_38 rfl rfl rfl ?_
  refine g_goto (pc' := 3) C X1 d5_41 (by decide) (by decide) ?_
  refine g_iload (pc' := 5) C X1 d5_3 rfl rfl ?_
  refine g_iload (pc' := 7) C X1 d5_5 rfl rfl ?_
  refine g_icmpY (pc' := 44) C X1 d5_7 (flt (show ¬ (((0 : Int32) + (1 : Int32)) < (1 : Int32)) from (by decide))).2.1 (by decide) (by decide) ?_
  refine g_iload (pc' := 46) C X1 d5_44 rfl rfl ?_
  exact g_retI C X1 d5_46 (by decide) (by decide) ⟨congrArg (fun z => some (Value.int z)) (F5_1_l0  ).symm, N1, (by rw [e1]; exact K1), (by rw [e1]; exact V1)⟩
theorem d4_0 : decode jdk_52_method_16_code 0 = .ok (.iload_n 2, 1) := by decide +kernel
theorem d4_1 : decode jdk_52_method_16_code 1 = .ok (.newarray .byte, 2) := by decide +kernel
theorem d4_3 : decode jdk_52_method_16_code 3 = .ok (.astore_n 3, 1) := by decide +kernel
theorem d4_4 : decode jdk_52_method_16_code 4 = .ok (.aload_n 0, 1) := by decide +kernel
theorem d4_5 : decode jdk_52_method_16_code 5 = .ok (.iload_n 1, 1) := by decide +kernel
theorem d4_6 : decode jdk_52_method_16_code 6 = .ok (.aload_n 3, 1) := by decide +kernel
theorem d4_7 : decode jdk_52_method_16_code 7 = .ok (.iconst 0, 1) := by decide +kernel
theorem d4_8 : decode jdk_52_method_16_code 8 = .ok (.iload_n 2, 1) := by decide +kernel
theorem d4_9 : decode jdk_52_method_16_code 9 = .ok (.invokestatic 115, 3) := by decide +kernel
theorem pd_0 : parseMethodDescriptor "([CI[BII)I" = some ⟨[(.array .char), .int, (.array .byte), .int, .int], some .int⟩ := by decide +kernel
theorem d4_12 : decode jdk_52_method_16_code 12 = .ok (.istore 4, 2) := by decide +kernel
theorem d4_14 : decode jdk_52_method_16_code 14 = .ok (.iload 4, 2) := by decide +kernel
theorem d4_16 : decode jdk_52_method_16_code 16 = .ok (.iload_n 2, 1) := by decide +kernel
theorem d4_17 : decode jdk_52_method_16_code 17 = .ok (.if_icmp .eq 40, 3) := by decide +kernel
theorem d4_57 : decode jdk_52_method_16_code 57 = .ok (.aload_n 3, 1) := by decide +kernel
theorem d4_58 : decode jdk_52_method_16_code 58 = .ok (.areturn, 1) := by decide +kernel
theorem ef_4_1 (m : MethodId) (a1 : Addr) : entryFrame m #[(.ref a1), (.int (0 : Int32)), (.int (1 : Int32))] 6 = mkF m 0 #[.val (.ref a1), .val (.int (0 : Int32)), .val (.int (1 : Int32)), .unset, .unset, .unset] [] := by first | (simp [entryFrame, mkF, argsToLocals, Value.category]; done) | rfl
def Q_4_1 (Z : State) (a1 : Addr) (kc : ClassId) (x0 : Int32) (cs : Int32) (h0 : Heap) (n0 : Nat) (v : Option Value) (h : Heap) (L : List Loc) : Prop := ∃ r : Addr, ∃ kb : ClassId, (v = some (.ref r)) ∧ (Fr n0 L) ∧ (Keep h0 h []) ∧ (h0.size ≤ r) ∧ (n0 ≤ r) ∧ (Arv Z h r kb .byte (1 : Int32) [(.int (nar .byte x0.toInt8.toInt32))] (.int (0 : Int32)))
set_option maxRecDepth 65536 in
set_option maxHeartbeats 40000000 in
theorem rm4_1 (l : Launch) (Z : State) (a0 : Array Value) (hw : ∀ d ∈ tables_1, d.before a0 Z = true) (ws : List Jvm.Cond) (a1 : Addr) (kc : ClassId) (x0 : Int32) (cs : Int32) (h0 : Heap) (n0 : Nat) (Z0 : n0 ≤ h0.size) (hF : FX Z h0 cs) (V_c : Arv Z h0 a1 kc .char (1 : Int32) [(.int x0)] (.int (0 : Int32))) (hx0 : ¬ ((255 : Int32) < x0)) :
    MetFree l (⟨"java/lang/StringUTF16", "compress", "([CII)[B"⟩ : MethodName) (head1 (Jvm.Cond.code (⟨"java/lang/StringUTF16", "compress", "([CII)[B"⟩ : MethodName) jdk_52_method_16_code 6 (some (.array .byte)) :: ws) ({ frames := 1, cells := 1, slots := 1, locals := 18 } : Room)) (fun a U => a = #[(.ref a1), (.int (0 : Int32)), (.int (1 : Int32))] ∧ Z.Warmed39 U.vm ∧ U.heap = h0) (fun _ _ _ _ _ => True) (fun _ U o U' => ∃ v L, o = .returned v ∧ Q_4_1 Z a1 kc x0 cs h0 n0 v U'.heap L ∧ FrameEnd U o U' L ({ frames := 1, cells := 1, slots := 1, locals := 18 } : Room).cells ({ frames := 1, cells := 1, slots := 1, locals := 18 } : Room).slots) := by
  refine met_of (Ls := #[.val (.ref a1), .val (.int (0 : Int32)), .val (.int (1 : Int32)), .unset, .unset, .unset]) (plainFor_of_name (by first | (simp [plainName, overriddenIn]; done) | decide +kernel)) (fun m => ef_4_1 m a1) ?_
  intro p e s m below meth c T0 C X0 e0
  have S_cs := hF
  have N0 := Fr.nil n0
  have K0 : Keep h0 h0 [] := Keep.refl h0 _
  refine g_iloadN (pc' := 1) C X0 d4_0 rfl rfl ?_
  refine g_newP (pc' := 3) (cap := 1) C X0 d4_1 (hw _ (List.mem_of_getElem? (i := 19) rfl)) e0 (by decide) (by decide) (by decide) (ce := 1) (sl := 1) rfl rfl (by decide) (by decide) rfl (fun T1 h1 b1 k1 g1 X1 e1 E1 A1 => ?_)
  have ne1_2 : ¬ (a1 = b1) := Nat.ne_of_lt (Nat.lt_of_lt_of_le V_c.lt (Nat.le_of_eq g1.symm))
  have S_cs_1 := S_cs.ext E1
  have V_c_1 := V_c.ext E1
  have gn_b1 : n0 ≤ b1 := Nat.le_trans Z0 (Nat.le_of_eq g1.symm)
  have Z1 := Nat.le_trans Z0 E1.1
  have sz_b1 : h0.size ≤ b1 := Nat.le_trans K0.1 (Nat.le_of_eq g1.symm)
  have K1 := K0.ext E1
  have V1 : Arv Z h1 b1 k1 .byte (1 : Int32) [(.int (0 : Int32))] (.int (0 : Int32)) := A1.pad (pad_rep [] (.int (0 : Int32)) 1)
  refine g_astoreN (pc' := 4) (Ls' := #[.val (.ref a1), .val (.int (0 : Int32)), .val (.int (1 : Int32)), .val (.ref b1), .unset, .unset]) C X1 d4_3 rfl rfl rfl ?_
  refine g_aloadN (pc' := 5) C X1 d4_4 rfl rfl rfl ?_
  refine g_iloadN (pc' := 6) C X1 d4_5 rfl rfl ?_
  refine g_aloadN (pc' := 7) C X1 d4_6 rfl rfl rfl ?_
  refine g_iconst (pc' := 8) (v := (0 : Int32)) C X1 d4_7 rfl rfl ?_
  refine g_iloadN (pc' := 9) C X1 d4_8 rfl rfl ?_
  refine g_callS (y := (⟨"java/lang/StringUTF16", "compress", "([CI[BII)I"⟩ : MethodName)) (argsL := [(.ref a1), (.int (0 : Int32)), (.ref b1), (.int (0 : Int32)), (.int (1 : Int32))]) (st := []) (pc' := 12) C X1 d4_9 (hw _ (List.mem_of_getElem? (i := 20) rfl)) (hw _ (List.mem_of_getElem? (i := 21) rfl)) (hw _ (List.mem_of_getElem? (i := 17) rfl)) (hw _ (List.mem_of_getElem? (i := 22) rfl)) (by decide) (rm5_1 l Z a0 hw [] a1 b1 kc k1 x0 cs h1 n0 Z1 S_cs_1 V_c_1 V1 hx0 gn_b1 ne1_2) (W := 0) (by decide) (by decide) (ce := 1) (sl := 1) rfl rfl (by decide) (by decide) rfl e1 rfl pd_0 rfl (Nat.le_refl _) rfl (fun v3 T3 L3 X3 Q3 => ?_)
  obtain ⟨q3, Nq3, Kq3, P3_0⟩ := Q3
  have N3 := Fr.app N0 Nq3
  have S_cs_3 := own_sta_keep S_cs_1 Kq3 ((allS (by obtain ⟨c_, A_, _⟩ := V1; exact ⟨c_, A_.1, A_.plain⟩) all0))
  have V_c_3 := V_c_1.keep Kq3 (ninS ne1_2 nin0)
  have Z3 := Nat.le_trans Z1 Kq3.1
  have K3 := K1.trans Kq3 (allS (Or.inr sz_b1) all0)
  rw [F5_1_l0 ] at q3
  subst q3
  show Go p.tables e below _ (T3.setTop (mkF m 12 #[.val (.ref a1), .val (.int (0 : Int32)), .val (.int (1 : Int32)), .val (.ref b1), .unset, .unset] [(.int (1 : Int32))]))
  refine g_istore (pc' := 14) (Ls' := #[.val (.ref a1), .val (.int (0 : Int32)), .val (.int (1 : Int32)), .val (.ref b1), .val (.int (1 : Int32)), .unset]) C X3 d4_12 rfl rfl ?_
  refine g_iload (pc' := 16) C X3 d4_14 rfl rfl ?_
  refine g_iloadN (pc' := 17) C X3 d4_16 rfl rfl ?_
  refine g_icmpY (pc' := 57) C X3 d4_17 (teq (show (1 : Int32) = (1 : Int32) from (by decide))).1 (by decide) (by decide) ?_
  refine g_aloadN (pc' := 58) C X3 d4_57 rfl rfl rfl ?_
  exact g_retA C X3 rfl rfl rfl d4_58 (by decide) (by decide) ⟨b1, k1, rfl, N3, K3, sz_b1, gn_b1, P3_0⟩
theorem d6_0 : decode jdk_52_method_15_code 0 = .ok (.iload_n 1, 1) := by decide +kernel
theorem d6_1 : decode jdk_52_method_15_code 1 = .ok (.aload_n 0, 1) := by decide +kernel
theorem d6_2 : decode jdk_52_method_15_code 2 = .ok (.arraylength, 1) := by decide +kernel
theorem d6_3 : decode jdk_52_method_15_code 3 = .ok (.isub, 1) := by decide +kernel
theorem d6_4 : decode jdk_52_method_15_code 4 = .ok (.bipush 31, 2) := by decide +kernel
theorem d6_6 : decode jdk_52_method_15_code 6 = .ok (.iushr, 1) := by decide +kernel
theorem d6_7 : decode jdk_52_method_15_code 7 = .ok (.i2b, 1) := by decide +kernel
theorem d6_8 : decode jdk_52_method_15_code 8 = .ok (.ireturn, 1) := by decide +kernel
def F6_1  : Int32 := (0 : Int32)
theorem F6_1_l0   : F6_1  = (0 : Int32) := rfl
theorem ef_6_1 (m : MethodId) (a1 : Addr) : entryFrame m #[(.ref a1), (.int (1 : Int32))] 2 = mkF m 0 #[.val (.ref a1), .val (.int (1 : Int32))] [] := by first | (simp [entryFrame, mkF, argsToLocals, Value.category]; done) | rfl
def Q_6_1 (Z : State) (a1 : Addr) (kb : ClassId) (x0 : Int32) (cs : Int32) (h0 : Heap) (n0 : Nat) (v : Option Value) (h : Heap) (L : List Loc) : Prop := v = some (.int (F6_1 )) ∧ Fr n0 L ∧ h = h0
set_option maxRecDepth 65536 in
set_option maxHeartbeats 40000000 in
theorem rm6_1 (l : Launch) (Z : State) (a0 : Array Value) (hw : ∀ d ∈ tables_1, d.before a0 Z = true) (ws : List Jvm.Cond) (a1 : Addr) (kb : ClassId) (x0 : Int32) (cs : Int32) (h0 : Heap) (n0 : Nat) (hF : FX Z h0 cs) (V_b : Arv Z h0 a1 kb .byte (1 : Int32) [(.int x0)] (.int (0 : Int32))) :
    MetFree l (⟨"java/lang/StringUTF16", "coderFromArrayLen", "([BI)B"⟩ : MethodName) (head1 (Jvm.Cond.code (⟨"java/lang/StringUTF16", "coderFromArrayLen", "([BI)B"⟩ : MethodName) jdk_52_method_15_code 2 (some .byte) :: ws) ({ frames := 0, cells := 0, slots := 0, locals := 0 } : Room)) (fun a U => a = #[(.ref a1), (.int (1 : Int32))] ∧ Z.Warmed39 U.vm ∧ U.heap = h0) (fun _ _ _ _ _ => True) (fun _ U o U' => ∃ v L, o = .returned v ∧ Q_6_1 Z a1 kb x0 cs h0 n0 v U'.heap L ∧ FrameEnd U o U' L ({ frames := 0, cells := 0, slots := 0, locals := 0 } : Room).cells ({ frames := 0, cells := 0, slots := 0, locals := 0 } : Room).slots) := by
  refine met_of (Ls := #[.val (.ref a1), .val (.int (1 : Int32))]) (plainFor_of_name (by first | (simp [plainName, overriddenIn]; done) | decide +kernel)) (fun m => ef_6_1 m a1) ?_
  intro p e s m below meth c T0 C X0 e0
  have S_cs := hF
  have N0 := Fr.nil n0
  refine g_iloadN (pc' := 1) C X0 d6_0 rfl rfl ?_
  refine g_aloadN (pc' := 2) C X0 d6_1 rfl rfl rfl ?_
  refine g_len (pc' := 3) C X0 d6_2 e0 V_b rfl ?_
  refine g_isub (pc' := 4) C X0 d6_3 rfl ?_
  refine own_cast (congrArg (fun z => T0.setTop (mkF m 4 #[.val (.ref a1), .val (.int (1 : Int32))] (.int z :: []))) (show ((1 : Int32) - (1 : Int32)) = (0 : Int32) from by decide)) ?_
  refine g_bipush (pc' := 6) (v := (31 : Int32)) C X0 d6_4 rfl rfl ?_
  refine g_iushr (pc' := 7) C X0 d6_6 rfl ?_
  refine own_cast (congrArg (fun z => T0.setTop (mkF m 7 #[.val (.ref a1), .val (.int (1 : Int32))] (.int z :: []))) (show (((0 : Int32).toUInt32 >>> ((31 : Int32) &&& 31).toUInt32).toInt32) = (0 : Int32) from by decide)) ?_
  refine g_i2b (pc' := 8) C X0 d6_7 rfl ?_
  refine own_cast (congrArg (fun z => T0.setTop (mkF m 8 #[.val (.ref a1), .val (.int (1 : Int32))] (.int z :: []))) (show (0 : Int32).toInt8.toInt32 = (0 : Int32) from by decide)) ?_
  exact g_retN C X0 (by simp) d6_8 (by decide) (by decide) ⟨congrArg (fun z => some (Value.int z)) (F6_1_l0  ).symm, N0, e0⟩
theorem d2_0 : decode jdk_42_method_149_code 0 = .ok (.aload_n 0, 1) := by decide +kernel
theorem d2_1 : decode jdk_42_method_149_code 1 = .ok (.invokespecial 1, 3) := by decide +kernel
theorem d2_4 : decode jdk_42_method_149_code 4 = .ok (.iload_n 3, 1) := by decide +kernel
theorem d2_5 : decode jdk_42_method_149_code 5 = .ok (.ifCond .ne 22, 3) := by decide +kernel
theorem d2_27 : decode jdk_42_method_149_code 27 = .ok (.getstatic 38, 3) := by decide +kernel
theorem d2_30 : decode jdk_42_method_149_code 30 = .ok (.ifCond .eq 28, 3) := by decide +kernel
theorem d2_33 : decode jdk_42_method_149_code 33 = .ok (.aload_n 1, 1) := by decide +kernel
theorem d2_34 : decode jdk_42_method_149_code 34 = .ok (.iload_n 2, 1) := by decide +kernel
theorem d2_35 : decode jdk_42_method_149_code 35 = .ok (.iload_n 3, 1) := by decide +kernel
theorem d2_36 : decode jdk_42_method_149_code 36 = .ok (.invokestatic 177, 3) := by decide +kernel
theorem pd_1 : parseMethodDescriptor "([CII)[B" = some ⟨[(.array .char), .int, .int], some (.array .byte)⟩ := by decide +kernel
theorem d2_39 : decode jdk_42_method_149_code 39 = .ok (.astore 5, 2) := by decide +kernel
theorem d2_41 : decode jdk_42_method_149_code 41 = .ok (.aload_n 0, 1) := by decide +kernel
theorem d2_42 : decode jdk_42_method_149_code 42 = .ok (.aload 5, 2) := by decide +kernel
theorem d2_44 : decode jdk_42_method_149_code 44 = .ok (.iload_n 3, 1) := by decide +kernel
theorem d2_45 : decode jdk_42_method_149_code 45 = .ok (.invokestatic 47, 3) := by decide +kernel
theorem pd_2 : parseMethodDescriptor "([BI)B" = some ⟨[(.array .byte), .int], some .byte⟩ := by decide +kernel
theorem d2_48 : decode jdk_42_method_149_code 48 = .ok (.putfield 15, 3) := by decide +kernel
theorem d2_51 : decode jdk_42_method_149_code 51 = .ok (.aload_n 0, 1) := by decide +kernel
theorem d2_52 : decode jdk_42_method_149_code 52 = .ok (.aload 5, 2) := by decide +kernel
theorem d2_54 : decode jdk_42_method_149_code 54 = .ok (.putfield 9, 3) := by decide +kernel
theorem d2_57 : decode jdk_42_method_149_code 57 = .ok (.return_, 1) := by decide +kernel
theorem ef_2_1 (m : MethodId) (a1 : Addr) (a2 : Addr) : entryFrame m #[(.ref a1), (.ref a2), (.int (0 : Int32)), (.int (1 : Int32)), .null] 6 = mkF m 0 #[.val (.ref a1), .val (.ref a2), .val (.int (0 : Int32)), .val (.int (1 : Int32)), .val .null, .unset] [] := by first | (simp [entryFrame, mkF, argsToLocals, Value.category]; done) | rfl
def Q_2_1 (Z : State) (a1 : Addr) (a2 : Addr) (kc : ClassId) (x0 : Int32) (cs : Int32) (h0 : Heap) (n0 : Nat) (v : Option Value) (h : Heap) (L : List Loc) : Prop := (v = none) ∧ (Fr n0 L) ∧ (Keep h0 h [a1]) ∧ (Exa Z h a1 "java/lang/String")
set_option maxRecDepth 65536 in
set_option maxHeartbeats 40000000 in
theorem rm2_1 (l : Launch) (Z : State) (a0 : Array Value) (hw : ∀ d ∈ tables_1, d.before a0 Z = true) (ws : List Jvm.Cond) (a1 : Addr) (a2 : Addr) (kc : ClassId) (x0 : Int32) (cs : Int32) (h0 : Heap) (n0 : Nat) (Z0 : n0 ≤ h0.size) (hF : FX Z h0 cs) (E_a1 : Exa Z h0 a1 "java/lang/String") (Fc_a1 : Fld Z h0 a1 "java/lang/String" "coder" "B" (.int (0 : Int32))) (Fv_a1 : Fld Z h0 a1 "java/lang/String" "value" "[B" .null) (V_c : Arv Z h0 a2 kc .char (1 : Int32) [(.int x0)] (.int (0 : Int32))) (hcs : ¬ (cs = (0 : Int32))) (hx0 : ¬ ((255 : Int32) < x0)) (gn_a1 : n0 ≤ a1) (ne21 : ¬ (a2 = a1)) :
    MetFree l (⟨"java/lang/String", "<init>", "([CIILjava/lang/Void;)V"⟩ : MethodName) (head1 (Jvm.Cond.code (⟨"java/lang/String", "<init>", "([CIILjava/lang/Void;)V"⟩ : MethodName) jdk_42_method_149_code 6 none :: ws) ({ frames := 2, cells := 1, slots := 1, locals := 35 } : Room)) (fun a U => a = #[(.ref a1), (.ref a2), (.int (0 : Int32)), (.int (1 : Int32)), .null] ∧ Z.Warmed39 U.vm ∧ U.heap = h0) (fun _ _ _ _ _ => True) (fun _ U o U' => ∃ v L, o = .returned v ∧ Q_2_1 Z a1 a2 kc x0 cs h0 n0 v U'.heap L ∧ FrameEnd U o U' L ({ frames := 2, cells := 1, slots := 1, locals := 35 } : Room).cells ({ frames := 2, cells := 1, slots := 1, locals := 35 } : Room).slots) := by
  refine met_of (Ls := #[.val (.ref a1), .val (.ref a2), .val (.int (0 : Int32)), .val (.int (1 : Int32)), .val .null, .unset]) (plainFor_of_name (by first | (simp [plainName, overriddenIn]; done) | decide +kernel)) (fun m => ef_2_1 m a1 a2) ?_
  intro p e s m below meth c T0 C X0 e0
  have S_cs := hF
  have N0 := Fr.nil n0
  have K0 : Keep h0 h0 [a1] := Keep.refl h0 _
  refine g_aloadN (pc' := 1) C X0 d2_0 rfl rfl rfl ?_
  refine g_initO (W := 0) (pc' := 4) C X0 d2_1 (hw _ (List.mem_of_getElem? (i := 11) rfl)) (hw _ (List.mem_of_getElem? (i := 12) rfl)) (hw _ (List.mem_of_getElem? (i := 13) rfl)) e0 rfl (by decide) (Nat.le_refl _) (by decide) rfl (fun T1 X1 e1 => ?_)
  refine g_iloadN (pc' := 5) C X1 d2_4 rfl rfl ?_
  refine g_ifY (pc' := 27) C X1 d2_5 (feq (show ¬ ((1 : Int32) = (0 : Int32)) from (by decide))).2 (by decide) (by decide) ?_
  refine g_getS (pc' := 30) C X1 d2_27 (host := "") (Or.inl (hw _ (List.mem_of_getElem? (i := 14) rfl))) Via.refl e1 S_cs rfl (fun T2 X2 e2 => ?_)
  refine g_ifN (pc' := 33) C X2 d2_30 (feq hcs).1 rfl ?_
  refine g_aloadN (pc' := 34) C X2 d2_33 rfl rfl rfl ?_
  refine g_iloadN (pc' := 35) C X2 d2_34 rfl rfl ?_
  refine g_iloadN (pc' := 36) C X2 d2_35 rfl rfl ?_
  refine g_callS (y := (⟨"java/lang/StringUTF16", "compress", "([CII)[B"⟩ : MethodName)) (argsL := [(.ref a2), (.int (0 : Int32)), (.int (1 : Int32))]) (st := []) (pc' := 39) C X2 d2_36 (hw _ (List.mem_of_getElem? (i := 15) rfl)) (hw _ (List.mem_of_getElem? (i := 16) rfl)) (hw _ (List.mem_of_getElem? (i := 17) rfl)) (hw _ (List.mem_of_getElem? (i := 18) rfl)) (by decide) (rm4_1 l Z a0 hw [] a2 kc x0 cs h0 n0 Z0 hF V_c hx0) (W := 0) (by decide) (by decide) (ce := 1) (sl := 1) rfl rfl (by decide) (by decide) rfl e2 rfl pd_1 rfl (Nat.le_refl _) rfl (fun v3 T3 L3 X3 Q3 => ?_)
  obtain ⟨r3, kb3, q3, Nq3, Kq3, sz3_r, gn_r3, P3_0⟩ := Q3
  have N3 := Fr.app N0 Nq3
  have ne3_4 : ¬ (a1 = r3) := Nat.ne_of_lt (Nat.lt_of_lt_of_le E_a1.lt sz3_r)
  have ne3_5 : ¬ (a2 = r3) := Nat.ne_of_lt (Nat.lt_of_lt_of_le V_c.lt sz3_r)
  have S_cs_3 := own_sta_keep S_cs Kq3 (fun _ q => nomatch q)
  have E_a1_3 := E_a1.keep Kq3
  have Fc_a1_3 := Fc_a1.keep Kq3 nin0
  have Fv_a1_3 := Fv_a1.keep Kq3 nin0
  have V_c_3 := V_c.keep Kq3 nin0
  have Z3 := Nat.le_trans Z0 Kq3.1
  have sz_r3 := Nat.le_trans K0.1 sz3_r
  have K3 := K0.trans Kq3 all0
  subst q3
  show Go p.tables e below _ (T3.setTop (mkF m 39 #[.val (.ref a1), .val (.ref a2), .val (.int (0 : Int32)), .val (.int (1 : Int32)), .val .null, .unset] [(.ref r3)]))
  refine g_astore (pc' := 41) (Ls' := #[.val (.ref a1), .val (.ref a2), .val (.int (0 : Int32)), .val (.int (1 : Int32)), .val .null, .val (.ref r3)]) C X3 d2_39 rfl rfl rfl ?_
  refine g_aloadN (pc' := 42) C X3 d2_41 rfl rfl rfl ?_
  refine g_aload (pc' := 44) C X3 d2_42 rfl rfl rfl ?_
  refine g_iloadN (pc' := 45) C X3 d2_44 rfl rfl ?_
  refine g_callS (y := (⟨"java/lang/StringUTF16", "coderFromArrayLen", "([BI)B"⟩ : MethodName)) (argsL := [(.ref r3), (.int (1 : Int32))]) (st := [(.ref a1)]) (pc' := 48) C X3 d2_45 (hw _ (List.mem_of_getElem? (i := 23) rfl)) (hw _ (List.mem_of_getElem? (i := 24) rfl)) (hw _ (List.mem_of_getElem? (i := 17) rfl)) (hw _ (List.mem_of_getElem? (i := 25) rfl)) (by decide) (rm6_1 l Z a0 hw [] r3 kb3 (nar .byte x0.toInt8.toInt32) cs T3.heap n0 S_cs_3 P3_0) (W := 1) (by decide) (by decide) (ce := 1) (sl := 1) rfl rfl (by decide) (by decide) rfl rfl rfl pd_2 rfl (Nat.le_refl _) rfl (fun v6 T6 L6 X6 Q6 => ?_)
  obtain ⟨q6, Nq6, e6⟩ := Q6
  have N6 := Fr.app N3 Nq6
  subst q6
  show Go p.tables e below _ (T6.setTop (mkF m 48 #[.val (.ref a1), .val (.ref a2), .val (.int (0 : Int32)), .val (.int (1 : Int32)), .val .null, .val (.ref r3)] [(.int F6_1), (.ref a1)]))
  refine g_putFN (pc' := 51) (v' := (.int (nar .byte F6_1))) C X6 d2_48 (hw _ (List.mem_of_getElem? (i := 26) rfl)) Via.refl e6 Fc_a1_3 E_a1_3 (Or.inr ⟨(hw _ (List.mem_of_getElem? (i := 27) rfl)), rfl, rfl⟩) (hw _ (List.mem_of_getElem? (i := 2) rfl)) (ty := .byte) (by decide) rfl (fits_nar_byte _) rfl (fun T7 h7 X7 e7 W7 => ?_)
  have F7 := Fc_a1_3.same W7
  have S_cs_7 := S_cs_3.wr W7
  have E_a1_7 := E_a1_3.wr W7
  have Fv_a1_7 := Fv_a1_3.other W7 (Or.inr (slot_ne (Or.inr (hw _ (List.mem_of_getElem? (i := 29) rfl))) (Or.inr (hw _ (List.mem_of_getElem? (i := 27) rfl))) (by decide) (t := (.array .byte)) (t' := .byte) (by decide) (by decide)))
  have V_c_7 := V_c_3.other W7 ne21
  have P3_0_7 := P3_0.other W7 (Ne.symm ne3_4)
  have Z7 := Nat.le_trans Z3 (Nat.le_of_eq W7.size.symm)
  have N7 := Fr.snoc X7 N6 gn_a1
  have K7 := K3.wr W7 (Or.inl (List.mem_of_getElem? (i := 0) rfl))
  refine g_aloadN (pc' := 52) C X7 d2_51 rfl rfl rfl ?_
  refine g_aload (pc' := 54) C X7 d2_52 rfl rfl rfl ?_
  refine g_putF (pc' := 57) C X7 d2_54 (host := "") (Or.inl (hw _ (List.mem_of_getElem? (i := 28) rfl))) Via.refl e7 Fv_a1_7 E_a1_7 (Or.inr ⟨(hw _ (List.mem_of_getElem? (i := 29) rfl)), rfl, rfl⟩) (hw _ (List.mem_of_getElem? (i := 2) rfl)) (ty := (.array .byte)) (by decide) rfl rfl rfl (fun T8 h8 X8 e8 W8 => ?_)
  have F8 := Fv_a1_7.same W8
  have S_cs_8 := S_cs_7.wr W8
  have E_a1_8 := E_a1_7.wr W8
  have V_c_8 := V_c_7.other W8 ne21
  have P3_0_8 := P3_0_7.other W8 (Ne.symm ne3_4)
  have F7_8 := F7.other W8 (Or.inr (slot_ne (Or.inr (hw _ (List.mem_of_getElem? (i := 27) rfl))) (Or.inr (hw _ (List.mem_of_getElem? (i := 29) rfl))) (by decide) (t := .byte) (t' := (.array .byte)) (by decide) (by decide)))
  have Z8 := Nat.le_trans Z7 (Nat.le_of_eq W8.size.symm)
  have N8 := Fr.snoc X8 N7 gn_a1
  have K8 := K7.wr W8 (Or.inl (List.mem_of_getElem? (i := 0) rfl))
  exact g_retV C X8 d2_57 (by decide) (by decide) ⟨rfl, N8, (by rw [e8]; exact K8), (by rw [e8]; exact E_a1_8)⟩
theorem d1_0 : decode jdk_42_method_3_code 0 = .ok (.aload_n 0, 1) := by decide +kernel
theorem d1_1 : decode jdk_42_method_3_code 1 = .ok (.aload_n 1, 1) := by decide +kernel
theorem d1_2 : decode jdk_42_method_3_code 2 = .ok (.iconst 0, 1) := by decide +kernel
theorem d1_3 : decode jdk_42_method_3_code 3 = .ok (.aload_n 1, 1) := by decide +kernel
theorem d1_4 : decode jdk_42_method_3_code 4 = .ok (.arraylength, 1) := by decide +kernel
theorem d1_5 : decode jdk_42_method_3_code 5 = .ok (.aconst_null, 1) := by decide +kernel
theorem d1_6 : decode jdk_42_method_3_code 6 = .ok (.invokespecial 27, 3) := by decide +kernel
theorem pd_3 : parseMethodDescriptor "([CIILjava/lang/Void;)V" = some ⟨[(.array .char), .int, .int, (.object "java/lang/Void")], none⟩ := by decide +kernel
theorem d1_9 : decode jdk_42_method_3_code 9 = .ok (.return_, 1) := by decide +kernel
theorem ef_1_1 (m : MethodId) (a1 : Addr) (a2 : Addr) : entryFrame m #[(.ref a1), (.ref a2)] 2 = mkF m 0 #[.val (.ref a1), .val (.ref a2)] [] := by first | (simp [entryFrame, mkF, argsToLocals, Value.category]; done) | rfl
def Q_1_1 (Z : State) (a1 : Addr) (a2 : Addr) (kc : ClassId) (x0 : Int32) (cs : Int32) (h0 : Heap) (n0 : Nat) (v : Option Value) (h : Heap) (L : List Loc) : Prop := (v = none) ∧ (Fr n0 L) ∧ (Keep h0 h [a1]) ∧ (Exa Z h a1 "java/lang/String")
set_option maxRecDepth 65536 in
set_option maxHeartbeats 40000000 in
theorem rm1_1 (l : Launch) (Z : State) (a0 : Array Value) (hw : ∀ d ∈ tables_1, d.before a0 Z = true) (ws : List Jvm.Cond) (a1 : Addr) (a2 : Addr) (kc : ClassId) (x0 : Int32) (cs : Int32) (h0 : Heap) (n0 : Nat) (Z0 : n0 ≤ h0.size) (hF : FX Z h0 cs) (E_a1 : Exa Z h0 a1 "java/lang/String") (Fc_a1 : Fld Z h0 a1 "java/lang/String" "coder" "B" (.int (0 : Int32))) (Fv_a1 : Fld Z h0 a1 "java/lang/String" "value" "[B" .null) (V_c : Arv Z h0 a2 kc .char (1 : Int32) [(.int x0)] (.int (0 : Int32))) (hcs : ¬ (cs = (0 : Int32))) (hx0 : ¬ ((255 : Int32) < x0)) (gn_a1 : n0 ≤ a1) (ne21 : ¬ (a2 = a1)) :
    MetFree l (⟨"java/lang/String", "<init>", "([C)V"⟩ : MethodName) (head1 (Jvm.Cond.code (⟨"java/lang/String", "<init>", "([C)V"⟩ : MethodName) jdk_42_method_3_code 2 none :: ws) ({ frames := 3, cells := 1, slots := 1, locals := 52 } : Room)) (fun a U => a = #[(.ref a1), (.ref a2)] ∧ Z.Warmed39 U.vm ∧ U.heap = h0) (fun _ _ _ _ _ => True) (fun _ U o U' => ∃ v L, o = .returned v ∧ Q_1_1 Z a1 a2 kc x0 cs h0 n0 v U'.heap L ∧ FrameEnd U o U' L ({ frames := 3, cells := 1, slots := 1, locals := 52 } : Room).cells ({ frames := 3, cells := 1, slots := 1, locals := 52 } : Room).slots) := by
  refine met_of (Ls := #[.val (.ref a1), .val (.ref a2)]) (plainFor_of_name (by first | (simp [plainName, overriddenIn]; done) | decide +kernel)) (fun m => ef_1_1 m a1 a2) ?_
  intro p e s m below meth c T0 C X0 e0
  have S_cs := hF
  have N0 := Fr.nil n0
  have K0 : Keep h0 h0 [a1] := Keep.refl h0 _
  refine g_aloadN (pc' := 1) C X0 d1_0 rfl rfl rfl ?_
  refine g_aloadN (pc' := 2) C X0 d1_1 rfl rfl rfl ?_
  refine g_iconst (pc' := 3) (v := (0 : Int32)) C X0 d1_2 rfl rfl ?_
  refine g_aloadN (pc' := 4) C X0 d1_3 rfl rfl rfl ?_
  refine g_len (pc' := 5) C X0 d1_4 e0 V_c rfl ?_
  refine g_null (pc' := 6) C X0 d1_5 rfl ?_
  refine g_callI (b := a1) (y := (⟨"java/lang/String", "<init>", "([CIILjava/lang/Void;)V"⟩ : MethodName)) (argsL := [(.ref a2), (.int (0 : Int32)), (.int (1 : Int32)), .null]) (st := []) (pc' := 9) C X0 rfl d1_6 (hw _ (List.mem_of_getElem? (i := 7) rfl)) (hw _ (List.mem_of_getElem? (i := 8) rfl)) (hw _ (List.mem_of_getElem? (i := 3) rfl)) (hw _ (List.mem_of_getElem? (i := 10) rfl)) (by decide) (rm2_1 l Z a0 hw [] a1 a2 kc x0 cs h0 n0 Z0 hF E_a1 Fc_a1 Fv_a1 V_c hcs hx0 gn_a1 ne21) (W := 0) (by decide) (by decide) (ce := 1) (sl := 1) rfl rfl (by decide) (by decide) rfl e0 rfl pd_3 rfl (Nat.le_refl _) rfl (fun v1 T1 L1 X1 Q1 => ?_)
  obtain ⟨q1, Nq1, Kq1, P1_0⟩ := Q1
  have N1 := Fr.app N0 Nq1
  have S_cs_1 := own_sta_keep S_cs Kq1 ((allS (by obtain ⟨c_, _, h1_, _, _, h2_, _⟩ := E_a1; exact ⟨c_, h1_, h2_⟩) all0))
  have V_c_1 := V_c.keep Kq1 (ninS ne21 nin0)
  have Z1 := Nat.le_trans Z0 Kq1.1
  have K1 := K0.trans Kq1 (allS (Or.inl (List.mem_of_getElem? (i := 0) rfl)) all0)
  subst q1
  show Go p.tables e below _ (T1.setTop (mkF m 9 #[.val (.ref a1), .val (.ref a2)] []))
  exact g_retV C X1 d1_9 (by decide) (by decide) ⟨rfl, N1, K1, P1_0⟩
def F5_2  : Int32 := (2 : Int32)
theorem F5_2_l0   : F5_2  = (2 : Int32) := rfl
theorem ef_5_2 (m : MethodId) (a1 : Addr) (a3 : Addr) : entryFrame m #[(.ref a1), (.int (0 : Int32)), (.ref a3), (.int (0 : Int32)), (.int (2 : Int32))] 7 = mkF m 0 #[.val (.ref a1), .val (.int (0 : Int32)), .val (.ref a3), .val (.int (0 : Int32)), .val (.int (2 : Int32)), .unset, .unset] [] := by first | (simp [entryFrame, mkF, argsToLocals, Value.category]; done) | rfl
def Q_5_2 (Z : State) (a1 : Addr) (a3 : Addr) (kc : ClassId) (kb : ClassId) (x0 : Int32) (x1 : Int32) (cs : Int32) (h0 : Heap) (n0 : Nat) (v : Option Value) (h : Heap) (L : List Loc) : Prop := (v = some (.int (F5_2 ))) ∧ (Fr n0 L) ∧ (Keep h0 h [a3]) ∧ (Arv Z h a3 kb .byte (2 : Int32) [(.int (nar .byte x0.toInt8.toInt32)), (.int (nar .byte x1.toInt8.toInt32))] (.int (0 : Int32)))
set_option maxRecDepth 65536 in
set_option maxHeartbeats 40000000 in
theorem rm5_2 (l : Launch) (Z : State) (a0 : Array Value) (hw : ∀ d ∈ tables_1, d.before a0 Z = true) (ws : List Jvm.Cond) (a1 : Addr) (a3 : Addr) (kc : ClassId) (kb : ClassId) (x0 : Int32) (x1 : Int32) (cs : Int32) (h0 : Heap) (n0 : Nat) (Z0 : n0 ≤ h0.size) (hF : FX Z h0 cs) (V_c : Arv Z h0 a1 kc .char (2 : Int32) [(.int x0), (.int x1)] (.int (0 : Int32))) (V_b : Arv Z h0 a3 kb .byte (2 : Int32) [(.int (0 : Int32)), (.int (0 : Int32))] (.int (0 : Int32))) (hx0 : ¬ ((255 : Int32) < x0)) (hx1 : ¬ ((255 : Int32) < x1)) (gn_a3 : n0 ≤ a3) (ne13 : ¬ (a1 = a3)) :
    MetFree l (⟨"java/lang/StringUTF16", "compress", "([CI[BII)I"⟩ : MethodName) (head1 (Jvm.Cond.code (⟨"java/lang/StringUTF16", "compress", "([CI[BII)I"⟩ : MethodName) jdk_52_method_21_code 7 (some .int) :: ws) ({ frames := 0, cells := 0, slots := 0, locals := 0 } : Room)) (fun a U => a = #[(.ref a1), (.int (0 : Int32)), (.ref a3), (.int (0 : Int32)), (.int (2 : Int32))] ∧ Z.Warmed39 U.vm ∧ U.heap = h0) (fun _ _ _ _ _ => True) (fun _ U o U' => ∃ v L, o = .returned v ∧ Q_5_2 Z a1 a3 kc kb x0 x1 cs h0 n0 v U'.heap L ∧ FrameEnd U o U' L ({ frames := 0, cells := 0, slots := 0, locals := 0 } : Room).cells ({ frames := 0, cells := 0, slots := 0, locals := 0 } : Room).slots) := by
  refine met_of (Ls := #[.val (.ref a1), .val (.int (0 : Int32)), .val (.ref a3), .val (.int (0 : Int32)), .val (.int (2 : Int32)), .unset, .unset]) (plainFor_of_name (by first | (simp [plainName, overriddenIn]; done) | decide +kernel)) (fun m => ef_5_2 m a1 a3) ?_
  intro p e s m below meth c T0 C X0 e0
  have S_cs := hF
  have N0 := Fr.nil n0
  have K0 : Keep h0 h0 [a3] := Keep.refl h0 _
  refine g_iconst (pc' := 1) (v := (0 : Int32)) C X0 d5_0 rfl rfl ?_
  refine g_istore (pc' := 3) (Ls' := #[.val (.ref a1), .val (.int (0 : Int32)), .val (.ref a3), .val (.int (0 : Int32)), .val (.int (2 : Int32)), .val (.int (0 : Int32)), .unset]) C X0 d5_1 rfl rfl ?_
  refine g_iload (pc' := 5) C X0 d5_3 rfl rfl ?_
  refine g_iload (pc' := 7) C X0 d5_5 rfl rfl ?_
  refine g_icmpN (pc' := 10) C X0 d5_7 (tlt (show (0 : Int32) < (2 : Int32) from (by decide))).2.1 rfl ?_
  refine g_aloadN (pc' := 11) C X0 d5_10 rfl rfl rfl ?_
  refine g_iloadN (pc' := 12) C X0 d5_11 rfl rfl ?_
  refine g_ldC (pc' := 13) (v := (.int x0)) C X0 d5_12 e0 V_c ⟨by decide, by decide⟩ rfl rfl ?_
  refine g_istore (pc' := 15) (Ls' := #[.val (.ref a1), .val (.int (0 : Int32)), .val (.ref a3), .val (.int (0 : Int32)), .val (.int (2 : Int32)), .val (.int (0 : Int32)), .val (.int x0)]) C X0 d5_13 rfl rfl ?_
  refine g_iload (pc' := 17) C X0 d5_15 rfl rfl ?_
  refine g_sipush (pc' := 20) (v := (255 : Int32)) C X0 d5_17 rfl rfl ?_
  refine g_icmpY (pc' := 26) C X0 d5_20 (flt hx0).2.2.2 (by decide) (by decide) ?_
  refine g_aloadN (pc' := 27) C X0 d5_26 rfl rfl rfl ?_
  refine g_iloadN (pc' := 28) C X0 d5_27 rfl rfl ?_
  refine g_iload (pc' := 30) C X0 d5_28 rfl rfl ?_
  refine g_i2b (pc' := 31) C X0 d5_30 rfl ?_
  refine g_stB (pc' := 32) (i := 0) C X0 d5_31 e0 V_b ⟨by decide, by decide⟩ rfl (show (0 : Nat) < 2 from by decide) rfl (fun T1 h1 X1 e1 W1 V1q => ?_)
  have V1 : Arv Z h1 a3 kb .byte (2 : Int32) [(.int (nar .byte x0.toInt8.toInt32)), (.int (0 : Int32))] (.int (0 : Int32)) := V1q
  have S_cs_1 := S_cs.wr W1
  have V_c_1 := V_c.other W1 ne13
  have Z1 := Nat.le_trans Z0 (Nat.le_of_eq W1.size.symm)
  have N1 := Fr.snoc X1 N0 gn_a3
  have K1 := K0.wr W1 (Or.inl (List.mem_of_getElem? (i := 0) rfl))
  refine g_iinc (pc' := 35) (Ls' := #[.val (.ref a1), .val (.int ((0 : Int32) + (1 : Int32))), .val (.ref a3), .val (.int (0 : Int32)), .val (.int (2 : Int32)), .val (.int (0 : Int32)), .val (.int x0)]) C X1 d5_32 rfl rfl rfl ?_
  refine g_iinc (pc' := 38) (Ls' := #[.val (.ref a1), .val (.int ((0 : Int32) + (1 : Int32))), .val (.ref a3), .val (.int ((0 : Int32) + (1 : Int32))), .val (.int (2 : Int32)), .val (.int (0 : Int32)), .val (.int x0)]) C X1 d5_35 rfl rfl rfl ?_
  refine g_iinc (pc' := 41) (Ls' := #[.val (.ref a1), .val (.int ((0 : Int32) + (1 : Int32))), .val (.ref a3), .val (.int ((0 : Int32) + (1 : Int32))), .val (.int (2 : Int32)), .val (.int ((0 : Int32) + (1 : Int32))), .val (.int x0)]) C X1 d5_38 rfl rfl rfl ?_
  refine g_goto (pc' := 3) C X1 d5_41 (by decide) (by decide) ?_
  refine g_iload (pc' := 5) C X1 d5_3 rfl rfl ?_
  refine g_iload (pc' := 7) C X1 d5_5 rfl rfl ?_
  refine g_icmpN (pc' := 10) C X1 d5_7 (tlt (show ((0 : Int32) + (1 : Int32)) < (2 : Int32) from (by decide))).2.1 rfl ?_
  refine g_aloadN (pc' := 11) C X1 d5_10 rfl rfl rfl ?_
  refine g_iloadN (pc' := 12) C X1 d5_11 rfl rfl ?_
  refine g_ldC (pc' := 13) (v := (.int x1)) C X1 d5_12 e1 V_c_1 ⟨by decide, by decide⟩ rfl rfl ?_
  refine g_istore (pc' := 15) (Ls' := #[.val (.ref a1), .val (.int ((0 : Int32) + (1 : Int32))), .val (.ref a3), .val (.int ((0 : Int32) + (1 : Int32))), .val (.int (2 : Int32)), .val (.int ((0 : Int32) + (1 : Int32))), .val (.int x1)]) C X1 d5_13 rfl rfl ?_
  refine g_iload (pc' := 17) C X1 d5_15 rfl rfl ?_
  refine g_sipush (pc' := 20) (v := (255 : Int32)) C X1 d5_17 rfl rfl ?_
  refine g_icmpY (pc' := 26) C X1 d5_20 (flt hx1).2.2.2 (by decide) (by decide) ?_
  refine g_aloadN (pc' := 27) C X1 d5_26 rfl rfl rfl ?_
  refine g_iloadN (pc' := 28) C X1 d5_27 rfl rfl ?_
  refine g_iload (pc' := 30) C X1 d5_28 rfl rfl ?_
  refine g_i2b (pc' := 31) C X1 d5_30 rfl ?_
  refine g_stB (pc' := 32) (i := 1) C X1 d5_31 e1 V1 ⟨by decide, by decide⟩ rfl (show (1 : Nat) < 2 from by decide) rfl (fun T2 h2 X2 e2 W2 V2q => ?_)
  have V2 : Arv Z h2 a3 kb .byte (2 : Int32) [(.int (nar .byte x0.toInt8.toInt32)), (.int (nar .byte x1.toInt8.toInt32))] (.int (0 : Int32)) := V2q
  have S_cs_2 := S_cs_1.wr W2
  have V_c_2 := V_c_1.other W2 ne13
  have Z2 := Nat.le_trans Z1 (Nat.le_of_eq W2.size.symm)
  have N2 := Fr.snoc X2 N1 gn_a3
  have K2 := K1.wr W2 (Or.inl (List.mem_of_getElem? (i := 0) rfl))
  refine g_iinc (pc' := 35) (Ls' := #[.val (.ref a1), .val (.int (((0 : Int32) + (1 : Int32)) + (1 : Int32))), .val (.ref a3), .val (.int ((0 : Int32) + (1 : Int32))), .val (.int (2 : Int32)), .val (.int ((0 : Int32) + (1 : Int32))), .val (.int x1)]) C X2 d5_32 rfl rfl rfl ?_
  refine g_iinc (pc' := 38) (Ls' := #[.val (.ref a1), .val (.int (((0 : Int32) + (1 : Int32)) + (1 : Int32))), .val (.ref a3), .val (.int (((0 : Int32) + (1 : Int32)) + (1 : Int32))), .val (.int (2 : Int32)), .val (.int ((0 : Int32) + (1 : Int32))), .val (.int x1)]) C X2 d5_35 rfl rfl rfl ?_
  refine g_iinc (pc' := 41) (Ls' := #[.val (.ref a1), .val (.int (((0 : Int32) + (1 : Int32)) + (1 : Int32))), .val (.ref a3), .val (.int (((0 : Int32) + (1 : Int32)) + (1 : Int32))), .val (.int (2 : Int32)), .val (.int (((0 : Int32) + (1 : Int32)) + (1 : Int32))), .val (.int x1)]) C X2 d5_38 rfl rfl rfl ?_
  refine g_goto (pc' := 3) C X2 d5_41 (by decide) (by decide) ?_
  refine g_iload (pc' := 5) C X2 d5_3 rfl rfl ?_
  refine g_iload (pc' := 7) C X2 d5_5 rfl rfl ?_
  refine g_icmpY (pc' := 44) C X2 d5_7 (flt (show ¬ ((((0 : Int32) + (1 : Int32)) + (1 : Int32)) < (2 : Int32)) from (by decide))).2.1 (by decide) (by decide) ?_
  refine g_iload (pc' := 46) C X2 d5_44 rfl rfl ?_
  exact g_retI C X2 d5_46 (by decide) (by decide) ⟨congrArg (fun z => some (Value.int z)) (F5_2_l0  ).symm, N2, (by rw [e2]; exact K2), (by rw [e2]; exact V2)⟩
theorem ef_4_2 (m : MethodId) (a1 : Addr) : entryFrame m #[(.ref a1), (.int (0 : Int32)), (.int (2 : Int32))] 6 = mkF m 0 #[.val (.ref a1), .val (.int (0 : Int32)), .val (.int (2 : Int32)), .unset, .unset, .unset] [] := by first | (simp [entryFrame, mkF, argsToLocals, Value.category]; done) | rfl
def Q_4_2 (Z : State) (a1 : Addr) (kc : ClassId) (x0 : Int32) (x1 : Int32) (cs : Int32) (h0 : Heap) (n0 : Nat) (v : Option Value) (h : Heap) (L : List Loc) : Prop := ∃ r : Addr, ∃ kb : ClassId, (v = some (.ref r)) ∧ (Fr n0 L) ∧ (Keep h0 h []) ∧ (h0.size ≤ r) ∧ (n0 ≤ r) ∧ (Arv Z h r kb .byte (2 : Int32) [(.int (nar .byte x0.toInt8.toInt32)), (.int (nar .byte x1.toInt8.toInt32))] (.int (0 : Int32)))
set_option maxRecDepth 65536 in
set_option maxHeartbeats 40000000 in
theorem rm4_2 (l : Launch) (Z : State) (a0 : Array Value) (hw : ∀ d ∈ tables_1, d.before a0 Z = true) (ws : List Jvm.Cond) (a1 : Addr) (kc : ClassId) (x0 : Int32) (x1 : Int32) (cs : Int32) (h0 : Heap) (n0 : Nat) (Z0 : n0 ≤ h0.size) (hF : FX Z h0 cs) (V_c : Arv Z h0 a1 kc .char (2 : Int32) [(.int x0), (.int x1)] (.int (0 : Int32))) (hx0 : ¬ ((255 : Int32) < x0)) (hx1 : ¬ ((255 : Int32) < x1)) :
    MetFree l (⟨"java/lang/StringUTF16", "compress", "([CII)[B"⟩ : MethodName) (head1 (Jvm.Cond.code (⟨"java/lang/StringUTF16", "compress", "([CII)[B"⟩ : MethodName) jdk_52_method_16_code 6 (some (.array .byte)) :: ws) ({ frames := 1, cells := 1, slots := 2, locals := 18 } : Room)) (fun a U => a = #[(.ref a1), (.int (0 : Int32)), (.int (2 : Int32))] ∧ Z.Warmed39 U.vm ∧ U.heap = h0) (fun _ _ _ _ _ => True) (fun _ U o U' => ∃ v L, o = .returned v ∧ Q_4_2 Z a1 kc x0 x1 cs h0 n0 v U'.heap L ∧ FrameEnd U o U' L ({ frames := 1, cells := 1, slots := 2, locals := 18 } : Room).cells ({ frames := 1, cells := 1, slots := 2, locals := 18 } : Room).slots) := by
  refine met_of (Ls := #[.val (.ref a1), .val (.int (0 : Int32)), .val (.int (2 : Int32)), .unset, .unset, .unset]) (plainFor_of_name (by first | (simp [plainName, overriddenIn]; done) | decide +kernel)) (fun m => ef_4_2 m a1) ?_
  intro p e s m below meth c T0 C X0 e0
  have S_cs := hF
  have N0 := Fr.nil n0
  have K0 : Keep h0 h0 [] := Keep.refl h0 _
  refine g_iloadN (pc' := 1) C X0 d4_0 rfl rfl ?_
  refine g_newP (pc' := 3) (cap := 2) C X0 d4_1 (hw _ (List.mem_of_getElem? (i := 19) rfl)) e0 (by decide) (by decide) (by decide) (ce := 1) (sl := 2) rfl rfl (by decide) (by decide) rfl (fun T1 h1 b1 k1 g1 X1 e1 E1 A1 => ?_)
  have ne1_2 : ¬ (a1 = b1) := Nat.ne_of_lt (Nat.lt_of_lt_of_le V_c.lt (Nat.le_of_eq g1.symm))
  have S_cs_1 := S_cs.ext E1
  have V_c_1 := V_c.ext E1
  have gn_b1 : n0 ≤ b1 := Nat.le_trans Z0 (Nat.le_of_eq g1.symm)
  have Z1 := Nat.le_trans Z0 E1.1
  have sz_b1 : h0.size ≤ b1 := Nat.le_trans K0.1 (Nat.le_of_eq g1.symm)
  have K1 := K0.ext E1
  have V1 : Arv Z h1 b1 k1 .byte (2 : Int32) [(.int (0 : Int32)), (.int (0 : Int32))] (.int (0 : Int32)) := A1.pad (pad_rep [] (.int (0 : Int32)) 2)
  refine g_astoreN (pc' := 4) (Ls' := #[.val (.ref a1), .val (.int (0 : Int32)), .val (.int (2 : Int32)), .val (.ref b1), .unset, .unset]) C X1 d4_3 rfl rfl rfl ?_
  refine g_aloadN (pc' := 5) C X1 d4_4 rfl rfl rfl ?_
  refine g_iloadN (pc' := 6) C X1 d4_5 rfl rfl ?_
  refine g_aloadN (pc' := 7) C X1 d4_6 rfl rfl rfl ?_
  refine g_iconst (pc' := 8) (v := (0 : Int32)) C X1 d4_7 rfl rfl ?_
  refine g_iloadN (pc' := 9) C X1 d4_8 rfl rfl ?_
  refine g_callS (y := (⟨"java/lang/StringUTF16", "compress", "([CI[BII)I"⟩ : MethodName)) (argsL := [(.ref a1), (.int (0 : Int32)), (.ref b1), (.int (0 : Int32)), (.int (2 : Int32))]) (st := []) (pc' := 12) C X1 d4_9 (hw _ (List.mem_of_getElem? (i := 20) rfl)) (hw _ (List.mem_of_getElem? (i := 21) rfl)) (hw _ (List.mem_of_getElem? (i := 17) rfl)) (hw _ (List.mem_of_getElem? (i := 22) rfl)) (by decide) (rm5_2 l Z a0 hw [] a1 b1 kc k1 x0 x1 cs h1 n0 Z1 S_cs_1 V_c_1 V1 hx0 hx1 gn_b1 ne1_2) (W := 0) (by decide) (by decide) (ce := 1) (sl := 2) rfl rfl (by decide) (by decide) rfl e1 rfl pd_0 rfl (Nat.le_refl _) rfl (fun v3 T3 L3 X3 Q3 => ?_)
  obtain ⟨q3, Nq3, Kq3, P3_0⟩ := Q3
  have N3 := Fr.app N0 Nq3
  have S_cs_3 := own_sta_keep S_cs_1 Kq3 ((allS (by obtain ⟨c_, A_, _⟩ := V1; exact ⟨c_, A_.1, A_.plain⟩) all0))
  have V_c_3 := V_c_1.keep Kq3 (ninS ne1_2 nin0)
  have Z3 := Nat.le_trans Z1 Kq3.1
  have K3 := K1.trans Kq3 (allS (Or.inr sz_b1) all0)
  rw [F5_2_l0 ] at q3
  subst q3
  show Go p.tables e below _ (T3.setTop (mkF m 12 #[.val (.ref a1), .val (.int (0 : Int32)), .val (.int (2 : Int32)), .val (.ref b1), .unset, .unset] [(.int (2 : Int32))]))
  refine g_istore (pc' := 14) (Ls' := #[.val (.ref a1), .val (.int (0 : Int32)), .val (.int (2 : Int32)), .val (.ref b1), .val (.int (2 : Int32)), .unset]) C X3 d4_12 rfl rfl ?_
  refine g_iload (pc' := 16) C X3 d4_14 rfl rfl ?_
  refine g_iloadN (pc' := 17) C X3 d4_16 rfl rfl ?_
  refine g_icmpY (pc' := 57) C X3 d4_17 (teq (show (2 : Int32) = (2 : Int32) from (by decide))).1 (by decide) (by decide) ?_
  refine g_aloadN (pc' := 58) C X3 d4_57 rfl rfl rfl ?_
  exact g_retA C X3 rfl rfl rfl d4_58 (by decide) (by decide) ⟨b1, k1, rfl, N3, K3, sz_b1, gn_b1, P3_0⟩
def F6_2  : Int32 := (0 : Int32)
theorem F6_2_l0   : F6_2  = (0 : Int32) := rfl
theorem ef_6_2 (m : MethodId) (a1 : Addr) : entryFrame m #[(.ref a1), (.int (2 : Int32))] 2 = mkF m 0 #[.val (.ref a1), .val (.int (2 : Int32))] [] := by first | (simp [entryFrame, mkF, argsToLocals, Value.category]; done) | rfl
def Q_6_2 (Z : State) (a1 : Addr) (kb : ClassId) (x0 : Int32) (x1 : Int32) (cs : Int32) (h0 : Heap) (n0 : Nat) (v : Option Value) (h : Heap) (L : List Loc) : Prop := v = some (.int (F6_2 )) ∧ Fr n0 L ∧ h = h0
set_option maxRecDepth 65536 in
set_option maxHeartbeats 40000000 in
theorem rm6_2 (l : Launch) (Z : State) (a0 : Array Value) (hw : ∀ d ∈ tables_1, d.before a0 Z = true) (ws : List Jvm.Cond) (a1 : Addr) (kb : ClassId) (x0 : Int32) (x1 : Int32) (cs : Int32) (h0 : Heap) (n0 : Nat) (hF : FX Z h0 cs) (V_b : Arv Z h0 a1 kb .byte (2 : Int32) [(.int x0), (.int x1)] (.int (0 : Int32))) :
    MetFree l (⟨"java/lang/StringUTF16", "coderFromArrayLen", "([BI)B"⟩ : MethodName) (head1 (Jvm.Cond.code (⟨"java/lang/StringUTF16", "coderFromArrayLen", "([BI)B"⟩ : MethodName) jdk_52_method_15_code 2 (some .byte) :: ws) ({ frames := 0, cells := 0, slots := 0, locals := 0 } : Room)) (fun a U => a = #[(.ref a1), (.int (2 : Int32))] ∧ Z.Warmed39 U.vm ∧ U.heap = h0) (fun _ _ _ _ _ => True) (fun _ U o U' => ∃ v L, o = .returned v ∧ Q_6_2 Z a1 kb x0 x1 cs h0 n0 v U'.heap L ∧ FrameEnd U o U' L ({ frames := 0, cells := 0, slots := 0, locals := 0 } : Room).cells ({ frames := 0, cells := 0, slots := 0, locals := 0 } : Room).slots) := by
  refine met_of (Ls := #[.val (.ref a1), .val (.int (2 : Int32))]) (plainFor_of_name (by first | (simp [plainName, overriddenIn]; done) | decide +kernel)) (fun m => ef_6_2 m a1) ?_
  intro p e s m below meth c T0 C X0 e0
  have S_cs := hF
  have N0 := Fr.nil n0
  refine g_iloadN (pc' := 1) C X0 d6_0 rfl rfl ?_
  refine g_aloadN (pc' := 2) C X0 d6_1 rfl rfl rfl ?_
  refine g_len (pc' := 3) C X0 d6_2 e0 V_b rfl ?_
  refine g_isub (pc' := 4) C X0 d6_3 rfl ?_
  refine own_cast (congrArg (fun z => T0.setTop (mkF m 4 #[.val (.ref a1), .val (.int (2 : Int32))] (.int z :: []))) (show ((2 : Int32) - (2 : Int32)) = (0 : Int32) from by decide)) ?_
  refine g_bipush (pc' := 6) (v := (31 : Int32)) C X0 d6_4 rfl rfl ?_
  refine g_iushr (pc' := 7) C X0 d6_6 rfl ?_
  refine own_cast (congrArg (fun z => T0.setTop (mkF m 7 #[.val (.ref a1), .val (.int (2 : Int32))] (.int z :: []))) (show (((0 : Int32).toUInt32 >>> ((31 : Int32) &&& 31).toUInt32).toInt32) = (0 : Int32) from by decide)) ?_
  refine g_i2b (pc' := 8) C X0 d6_7 rfl ?_
  refine own_cast (congrArg (fun z => T0.setTop (mkF m 8 #[.val (.ref a1), .val (.int (2 : Int32))] (.int z :: []))) (show (0 : Int32).toInt8.toInt32 = (0 : Int32) from by decide)) ?_
  exact g_retN C X0 (by simp) d6_8 (by decide) (by decide) ⟨congrArg (fun z => some (Value.int z)) (F6_2_l0  ).symm, N0, e0⟩
theorem ef_2_2 (m : MethodId) (a1 : Addr) (a2 : Addr) : entryFrame m #[(.ref a1), (.ref a2), (.int (0 : Int32)), (.int (2 : Int32)), .null] 6 = mkF m 0 #[.val (.ref a1), .val (.ref a2), .val (.int (0 : Int32)), .val (.int (2 : Int32)), .val .null, .unset] [] := by first | (simp [entryFrame, mkF, argsToLocals, Value.category]; done) | rfl
def Q_2_2 (Z : State) (a1 : Addr) (a2 : Addr) (kc : ClassId) (x0 : Int32) (x1 : Int32) (cs : Int32) (h0 : Heap) (n0 : Nat) (v : Option Value) (h : Heap) (L : List Loc) : Prop := (v = none) ∧ (Fr n0 L) ∧ (Keep h0 h [a1]) ∧ (Exa Z h a1 "java/lang/String")
set_option maxRecDepth 65536 in
set_option maxHeartbeats 40000000 in
theorem rm2_2 (l : Launch) (Z : State) (a0 : Array Value) (hw : ∀ d ∈ tables_1, d.before a0 Z = true) (ws : List Jvm.Cond) (a1 : Addr) (a2 : Addr) (kc : ClassId) (x0 : Int32) (x1 : Int32) (cs : Int32) (h0 : Heap) (n0 : Nat) (Z0 : n0 ≤ h0.size) (hF : FX Z h0 cs) (E_a1 : Exa Z h0 a1 "java/lang/String") (Fc_a1 : Fld Z h0 a1 "java/lang/String" "coder" "B" (.int (0 : Int32))) (Fv_a1 : Fld Z h0 a1 "java/lang/String" "value" "[B" .null) (V_c : Arv Z h0 a2 kc .char (2 : Int32) [(.int x0), (.int x1)] (.int (0 : Int32))) (hcs : ¬ (cs = (0 : Int32))) (hx0 : ¬ ((255 : Int32) < x0)) (hx1 : ¬ ((255 : Int32) < x1)) (gn_a1 : n0 ≤ a1) (ne21 : ¬ (a2 = a1)) :
    MetFree l (⟨"java/lang/String", "<init>", "([CIILjava/lang/Void;)V"⟩ : MethodName) (head1 (Jvm.Cond.code (⟨"java/lang/String", "<init>", "([CIILjava/lang/Void;)V"⟩ : MethodName) jdk_42_method_149_code 6 none :: ws) ({ frames := 2, cells := 1, slots := 2, locals := 35 } : Room)) (fun a U => a = #[(.ref a1), (.ref a2), (.int (0 : Int32)), (.int (2 : Int32)), .null] ∧ Z.Warmed39 U.vm ∧ U.heap = h0) (fun _ _ _ _ _ => True) (fun _ U o U' => ∃ v L, o = .returned v ∧ Q_2_2 Z a1 a2 kc x0 x1 cs h0 n0 v U'.heap L ∧ FrameEnd U o U' L ({ frames := 2, cells := 1, slots := 2, locals := 35 } : Room).cells ({ frames := 2, cells := 1, slots := 2, locals := 35 } : Room).slots) := by
  refine met_of (Ls := #[.val (.ref a1), .val (.ref a2), .val (.int (0 : Int32)), .val (.int (2 : Int32)), .val .null, .unset]) (plainFor_of_name (by first | (simp [plainName, overriddenIn]; done) | decide +kernel)) (fun m => ef_2_2 m a1 a2) ?_
  intro p e s m below meth c T0 C X0 e0
  have S_cs := hF
  have N0 := Fr.nil n0
  have K0 : Keep h0 h0 [a1] := Keep.refl h0 _
  refine g_aloadN (pc' := 1) C X0 d2_0 rfl rfl rfl ?_
  refine g_initO (W := 0) (pc' := 4) C X0 d2_1 (hw _ (List.mem_of_getElem? (i := 11) rfl)) (hw _ (List.mem_of_getElem? (i := 12) rfl)) (hw _ (List.mem_of_getElem? (i := 13) rfl)) e0 rfl (by decide) (Nat.le_refl _) (by decide) rfl (fun T1 X1 e1 => ?_)
  refine g_iloadN (pc' := 5) C X1 d2_4 rfl rfl ?_
  refine g_ifY (pc' := 27) C X1 d2_5 (feq (show ¬ ((2 : Int32) = (0 : Int32)) from (by decide))).2 (by decide) (by decide) ?_
  refine g_getS (pc' := 30) C X1 d2_27 (host := "") (Or.inl (hw _ (List.mem_of_getElem? (i := 14) rfl))) Via.refl e1 S_cs rfl (fun T2 X2 e2 => ?_)
  refine g_ifN (pc' := 33) C X2 d2_30 (feq hcs).1 rfl ?_
  refine g_aloadN (pc' := 34) C X2 d2_33 rfl rfl rfl ?_
  refine g_iloadN (pc' := 35) C X2 d2_34 rfl rfl ?_
  refine g_iloadN (pc' := 36) C X2 d2_35 rfl rfl ?_
  refine g_callS (y := (⟨"java/lang/StringUTF16", "compress", "([CII)[B"⟩ : MethodName)) (argsL := [(.ref a2), (.int (0 : Int32)), (.int (2 : Int32))]) (st := []) (pc' := 39) C X2 d2_36 (hw _ (List.mem_of_getElem? (i := 15) rfl)) (hw _ (List.mem_of_getElem? (i := 16) rfl)) (hw _ (List.mem_of_getElem? (i := 17) rfl)) (hw _ (List.mem_of_getElem? (i := 18) rfl)) (by decide) (rm4_2 l Z a0 hw [] a2 kc x0 x1 cs h0 n0 Z0 hF V_c hx0 hx1) (W := 0) (by decide) (by decide) (ce := 1) (sl := 2) rfl rfl (by decide) (by decide) rfl e2 rfl pd_1 rfl (Nat.le_refl _) rfl (fun v3 T3 L3 X3 Q3 => ?_)
  obtain ⟨r3, kb3, q3, Nq3, Kq3, sz3_r, gn_r3, P3_0⟩ := Q3
  have N3 := Fr.app N0 Nq3
  have ne3_4 : ¬ (a1 = r3) := Nat.ne_of_lt (Nat.lt_of_lt_of_le E_a1.lt sz3_r)
  have ne3_5 : ¬ (a2 = r3) := Nat.ne_of_lt (Nat.lt_of_lt_of_le V_c.lt sz3_r)
  have S_cs_3 := own_sta_keep S_cs Kq3 (fun _ q => nomatch q)
  have E_a1_3 := E_a1.keep Kq3
  have Fc_a1_3 := Fc_a1.keep Kq3 nin0
  have Fv_a1_3 := Fv_a1.keep Kq3 nin0
  have V_c_3 := V_c.keep Kq3 nin0
  have Z3 := Nat.le_trans Z0 Kq3.1
  have sz_r3 := Nat.le_trans K0.1 sz3_r
  have K3 := K0.trans Kq3 all0
  subst q3
  show Go p.tables e below _ (T3.setTop (mkF m 39 #[.val (.ref a1), .val (.ref a2), .val (.int (0 : Int32)), .val (.int (2 : Int32)), .val .null, .unset] [(.ref r3)]))
  refine g_astore (pc' := 41) (Ls' := #[.val (.ref a1), .val (.ref a2), .val (.int (0 : Int32)), .val (.int (2 : Int32)), .val .null, .val (.ref r3)]) C X3 d2_39 rfl rfl rfl ?_
  refine g_aloadN (pc' := 42) C X3 d2_41 rfl rfl rfl ?_
  refine g_aload (pc' := 44) C X3 d2_42 rfl rfl rfl ?_
  refine g_iloadN (pc' := 45) C X3 d2_44 rfl rfl ?_
  refine g_callS (y := (⟨"java/lang/StringUTF16", "coderFromArrayLen", "([BI)B"⟩ : MethodName)) (argsL := [(.ref r3), (.int (2 : Int32))]) (st := [(.ref a1)]) (pc' := 48) C X3 d2_45 (hw _ (List.mem_of_getElem? (i := 23) rfl)) (hw _ (List.mem_of_getElem? (i := 24) rfl)) (hw _ (List.mem_of_getElem? (i := 17) rfl)) (hw _ (List.mem_of_getElem? (i := 25) rfl)) (by decide) (rm6_2 l Z a0 hw [] r3 kb3 (nar .byte x0.toInt8.toInt32) (nar .byte x1.toInt8.toInt32) cs T3.heap n0 S_cs_3 P3_0) (W := 1) (by decide) (by decide) (ce := 1) (sl := 2) rfl rfl (by decide) (by decide) rfl rfl rfl pd_2 rfl (Nat.le_refl _) rfl (fun v6 T6 L6 X6 Q6 => ?_)
  obtain ⟨q6, Nq6, e6⟩ := Q6
  have N6 := Fr.app N3 Nq6
  subst q6
  show Go p.tables e below _ (T6.setTop (mkF m 48 #[.val (.ref a1), .val (.ref a2), .val (.int (0 : Int32)), .val (.int (2 : Int32)), .val .null, .val (.ref r3)] [(.int F6_2), (.ref a1)]))
  refine g_putFN (pc' := 51) (v' := (.int (nar .byte F6_2))) C X6 d2_48 (hw _ (List.mem_of_getElem? (i := 26) rfl)) Via.refl e6 Fc_a1_3 E_a1_3 (Or.inr ⟨(hw _ (List.mem_of_getElem? (i := 27) rfl)), rfl, rfl⟩) (hw _ (List.mem_of_getElem? (i := 2) rfl)) (ty := .byte) (by decide) rfl (fits_nar_byte _) rfl (fun T7 h7 X7 e7 W7 => ?_)
  have F7 := Fc_a1_3.same W7
  have S_cs_7 := S_cs_3.wr W7
  have E_a1_7 := E_a1_3.wr W7
  have Fv_a1_7 := Fv_a1_3.other W7 (Or.inr (slot_ne (Or.inr (hw _ (List.mem_of_getElem? (i := 29) rfl))) (Or.inr (hw _ (List.mem_of_getElem? (i := 27) rfl))) (by decide) (t := (.array .byte)) (t' := .byte) (by decide) (by decide)))
  have V_c_7 := V_c_3.other W7 ne21
  have P3_0_7 := P3_0.other W7 (Ne.symm ne3_4)
  have Z7 := Nat.le_trans Z3 (Nat.le_of_eq W7.size.symm)
  have N7 := Fr.snoc X7 N6 gn_a1
  have K7 := K3.wr W7 (Or.inl (List.mem_of_getElem? (i := 0) rfl))
  refine g_aloadN (pc' := 52) C X7 d2_51 rfl rfl rfl ?_
  refine g_aload (pc' := 54) C X7 d2_52 rfl rfl rfl ?_
  refine g_putF (pc' := 57) C X7 d2_54 (host := "") (Or.inl (hw _ (List.mem_of_getElem? (i := 28) rfl))) Via.refl e7 Fv_a1_7 E_a1_7 (Or.inr ⟨(hw _ (List.mem_of_getElem? (i := 29) rfl)), rfl, rfl⟩) (hw _ (List.mem_of_getElem? (i := 2) rfl)) (ty := (.array .byte)) (by decide) rfl rfl rfl (fun T8 h8 X8 e8 W8 => ?_)
  have F8 := Fv_a1_7.same W8
  have S_cs_8 := S_cs_7.wr W8
  have E_a1_8 := E_a1_7.wr W8
  have V_c_8 := V_c_7.other W8 ne21
  have P3_0_8 := P3_0_7.other W8 (Ne.symm ne3_4)
  have F7_8 := F7.other W8 (Or.inr (slot_ne (Or.inr (hw _ (List.mem_of_getElem? (i := 27) rfl))) (Or.inr (hw _ (List.mem_of_getElem? (i := 29) rfl))) (by decide) (t := .byte) (t' := (.array .byte)) (by decide) (by decide)))
  have Z8 := Nat.le_trans Z7 (Nat.le_of_eq W8.size.symm)
  have N8 := Fr.snoc X8 N7 gn_a1
  have K8 := K7.wr W8 (Or.inl (List.mem_of_getElem? (i := 0) rfl))
  exact g_retV C X8 d2_57 (by decide) (by decide) ⟨rfl, N8, (by rw [e8]; exact K8), (by rw [e8]; exact E_a1_8)⟩
theorem ef_1_2 (m : MethodId) (a1 : Addr) (a2 : Addr) : entryFrame m #[(.ref a1), (.ref a2)] 2 = mkF m 0 #[.val (.ref a1), .val (.ref a2)] [] := by first | (simp [entryFrame, mkF, argsToLocals, Value.category]; done) | rfl
def Q_1_2 (Z : State) (a1 : Addr) (a2 : Addr) (kc : ClassId) (x0 : Int32) (x1 : Int32) (cs : Int32) (h0 : Heap) (n0 : Nat) (v : Option Value) (h : Heap) (L : List Loc) : Prop := (v = none) ∧ (Fr n0 L) ∧ (Keep h0 h [a1]) ∧ (Exa Z h a1 "java/lang/String")
set_option maxRecDepth 65536 in
set_option maxHeartbeats 40000000 in
theorem rm1_2 (l : Launch) (Z : State) (a0 : Array Value) (hw : ∀ d ∈ tables_1, d.before a0 Z = true) (ws : List Jvm.Cond) (a1 : Addr) (a2 : Addr) (kc : ClassId) (x0 : Int32) (x1 : Int32) (cs : Int32) (h0 : Heap) (n0 : Nat) (Z0 : n0 ≤ h0.size) (hF : FX Z h0 cs) (E_a1 : Exa Z h0 a1 "java/lang/String") (Fc_a1 : Fld Z h0 a1 "java/lang/String" "coder" "B" (.int (0 : Int32))) (Fv_a1 : Fld Z h0 a1 "java/lang/String" "value" "[B" .null) (V_c : Arv Z h0 a2 kc .char (2 : Int32) [(.int x0), (.int x1)] (.int (0 : Int32))) (hcs : ¬ (cs = (0 : Int32))) (hx0 : ¬ ((255 : Int32) < x0)) (hx1 : ¬ ((255 : Int32) < x1)) (gn_a1 : n0 ≤ a1) (ne21 : ¬ (a2 = a1)) :
    MetFree l (⟨"java/lang/String", "<init>", "([C)V"⟩ : MethodName) (head1 (Jvm.Cond.code (⟨"java/lang/String", "<init>", "([C)V"⟩ : MethodName) jdk_42_method_3_code 2 none :: ws) ({ frames := 3, cells := 1, slots := 2, locals := 52 } : Room)) (fun a U => a = #[(.ref a1), (.ref a2)] ∧ Z.Warmed39 U.vm ∧ U.heap = h0) (fun _ _ _ _ _ => True) (fun _ U o U' => ∃ v L, o = .returned v ∧ Q_1_2 Z a1 a2 kc x0 x1 cs h0 n0 v U'.heap L ∧ FrameEnd U o U' L ({ frames := 3, cells := 1, slots := 2, locals := 52 } : Room).cells ({ frames := 3, cells := 1, slots := 2, locals := 52 } : Room).slots) := by
  refine met_of (Ls := #[.val (.ref a1), .val (.ref a2)]) (plainFor_of_name (by first | (simp [plainName, overriddenIn]; done) | decide +kernel)) (fun m => ef_1_2 m a1 a2) ?_
  intro p e s m below meth c T0 C X0 e0
  have S_cs := hF
  have N0 := Fr.nil n0
  have K0 : Keep h0 h0 [a1] := Keep.refl h0 _
  refine g_aloadN (pc' := 1) C X0 d1_0 rfl rfl rfl ?_
  refine g_aloadN (pc' := 2) C X0 d1_1 rfl rfl rfl ?_
  refine g_iconst (pc' := 3) (v := (0 : Int32)) C X0 d1_2 rfl rfl ?_
  refine g_aloadN (pc' := 4) C X0 d1_3 rfl rfl rfl ?_
  refine g_len (pc' := 5) C X0 d1_4 e0 V_c rfl ?_
  refine g_null (pc' := 6) C X0 d1_5 rfl ?_
  refine g_callI (b := a1) (y := (⟨"java/lang/String", "<init>", "([CIILjava/lang/Void;)V"⟩ : MethodName)) (argsL := [(.ref a2), (.int (0 : Int32)), (.int (2 : Int32)), .null]) (st := []) (pc' := 9) C X0 rfl d1_6 (hw _ (List.mem_of_getElem? (i := 7) rfl)) (hw _ (List.mem_of_getElem? (i := 8) rfl)) (hw _ (List.mem_of_getElem? (i := 3) rfl)) (hw _ (List.mem_of_getElem? (i := 10) rfl)) (by decide) (rm2_2 l Z a0 hw [] a1 a2 kc x0 x1 cs h0 n0 Z0 hF E_a1 Fc_a1 Fv_a1 V_c hcs hx0 hx1 gn_a1 ne21) (W := 0) (by decide) (by decide) (ce := 1) (sl := 2) rfl rfl (by decide) (by decide) rfl e0 rfl pd_3 rfl (Nat.le_refl _) rfl (fun v1 T1 L1 X1 Q1 => ?_)
  obtain ⟨q1, Nq1, Kq1, P1_0⟩ := Q1
  have N1 := Fr.app N0 Nq1
  have S_cs_1 := own_sta_keep S_cs Kq1 ((allS (by obtain ⟨c_, _, h1_, _, _, h2_, _⟩ := E_a1; exact ⟨c_, h1_, h2_⟩) all0))
  have V_c_1 := V_c.keep Kq1 (ninS ne21 nin0)
  have Z1 := Nat.le_trans Z0 Kq1.1
  have K1 := K0.trans Kq1 (allS (Or.inl (List.mem_of_getElem? (i := 0) rfl)) all0)
  subst q1
  show Go p.tables e below _ (T1.setTop (mkF m 9 #[.val (.ref a1), .val (.ref a2)] []))
  exact g_retV C X1 d1_9 (by decide) (by decide) ⟨rfl, N1, K1, P1_0⟩
theorem d2_8 : decode jdk_42_method_149_code 8 = .ok (.aload_n 0, 1) := by decide +kernel
theorem d2_9 : decode jdk_42_method_149_code 9 = .ok (.ldc 7, 2) := by decide +kernel
theorem d2_11 : decode jdk_42_method_149_code 11 = .ok (.getfield 9, 3) := by decide +kernel
theorem d2_14 : decode jdk_42_method_149_code 14 = .ok (.putfield 9, 3) := by decide +kernel
theorem d2_17 : decode jdk_42_method_149_code 17 = .ok (.aload_n 0, 1) := by decide +kernel
theorem d2_18 : decode jdk_42_method_149_code 18 = .ok (.ldc 7, 2) := by decide +kernel
theorem d2_20 : decode jdk_42_method_149_code 20 = .ok (.getfield 15, 3) := by decide +kernel
theorem d2_23 : decode jdk_42_method_149_code 23 = .ok (.putfield 15, 3) := by decide +kernel
theorem d2_26 : decode jdk_42_method_149_code 26 = .ok (.return_, 1) := by decide +kernel
theorem ef_2_0 (m : MethodId) (a1 : Addr) (a2 : Addr) : entryFrame m #[(.ref a1), (.ref a2), (.int (0 : Int32)), (.int (0 : Int32)), .null] 6 = mkF m 0 #[.val (.ref a1), .val (.ref a2), .val (.int (0 : Int32)), .val (.int (0 : Int32)), .val .null, .unset] [] := by first | (simp [entryFrame, mkF, argsToLocals, Value.category]; done) | rfl
def Q_2_0 (Z : State) (a1 : Addr) (a2 : Addr) (cs : Int32) (h0 : Heap) (n0 : Nat) (v : Option Value) (h : Heap) (L : List Loc) : Prop := (v = none) ∧ (Fr n0 L) ∧ (Keep h0 h [a1]) ∧ (Exa Z h a1 "java/lang/String")
set_option maxRecDepth 65536 in
set_option maxHeartbeats 40000000 in
theorem rm2_0 (l : Launch) (Z : State) (a0 : Array Value) (hw : ∀ d ∈ tables_1, d.before a0 Z = true) (ws : List Jvm.Cond) (a1 : Addr) (a2 : Addr) (cs : Int32) (h0 : Heap) (n0 : Nat) (Z0 : n0 ≤ h0.size) (hF : FX Z h0 cs) (E_a1 : Exa Z h0 a1 "java/lang/String") (Fc_a1 : Fld Z h0 a1 "java/lang/String" "coder" "B" (.int (0 : Int32))) (Fv_a1 : Fld Z h0 a1 "java/lang/String" "value" "[B" .null) (gn_a1 : n0 ≤ a1) :
    MetFree l (⟨"java/lang/String", "<init>", "([CIILjava/lang/Void;)V"⟩ : MethodName) (head1 (Jvm.Cond.code (⟨"java/lang/String", "<init>", "([CIILjava/lang/Void;)V"⟩ : MethodName) jdk_42_method_149_code 6 none :: ws) ({ frames := 1, cells := 4, slots := 8, locals := 12 } : Room)) (fun a U => a = #[(.ref a1), (.ref a2), (.int (0 : Int32)), (.int (0 : Int32)), .null] ∧ Z.Warmed39 U.vm ∧ U.heap = h0 ∧ (fun U => CHv Z own_EL U.vm h0) U) (fun _ _ _ _ _ => True) (fun _ U o U' => ∃ v L, o = .returned v ∧ Q_2_0 Z a1 a2 cs h0 n0 v U'.heap L ∧ ReturnedEndW U o U' L ({ frames := 1, cells := 4, slots := 8, locals := 12 } : Room).cells ({ frames := 1, cells := 4, slots := 8, locals := 12 } : Room).slots) := by
  refine met_ofW (Ls := #[.val (.ref a1), .val (.ref a2), .val (.int (0 : Int32)), .val (.int (0 : Int32)), .val .null, .unset]) (plainFor_of_name (by first | (simp [plainName, overriddenIn]; done) | decide +kernel)) (fun m => ef_2_0 m a1 a2) ?_
  intro p e s m below meth c T0 hpx C X0 hS e0
  have S_cs := hF
  have N0 := Fr.nil n0
  have K0 : Keep h0 h0 [a1] := Keep.refl h0 _
  refine g_aloadN (pc' := 1) C X0 d2_0 rfl rfl rfl ?_
  refine g_initO (W := 0) (pc' := 4) C X0 d2_1 (hw _ (List.mem_of_getElem? (i := 11) rfl)) (hw _ (List.mem_of_getElem? (i := 12) rfl)) (hw _ (List.mem_of_getElem? (i := 13) rfl)) e0 rfl (by decide) (Nat.le_refl _) (by decide) rfl (fun T1 X1 e1 => ?_)
  refine g_iloadN (pc' := 5) C X1 d2_4 rfl rfl ?_
  refine g_ifN (pc' := 8) C X1 d2_5 (teq (show (0 : Int32) = (0 : Int32) from (by decide))).2 rfl ?_
  refine g_aloadN (pc' := 9) C X1 d2_8 rfl rfl rfl ?_
  refine g_ldcH (vs := []) (z := (0 : Int32)) (pc' := 11) (n := 0) C X1 hS (Nat.zero_le _) (own_ew hw) hpx (by decide) d2_9 (hw _ (List.mem_of_getElem? (i := 55) rfl)) (own_wS hw) e1 ⟨by decide, rfl⟩ (by decide) rfl (by decide) (by decide) (ce := 2) (sl := 4) rfl rfl (by decide) (by decide) rfl (fun b2 T2 h2 k2 bb2 kk2 C X2 e2 E2 hS Kz2 A2 Fc2 Fv2 V2 L2 ch2 sx2 => ?_)
  have S_cs_2 := S_cs.ext E2
  have E_a1_2 := E_a1.ext E2
  have Fc_a1_2 := Fc_a1.ext E2
  have Fv_a1_2 := Fv_a1.ext E2
  have Z2 := Nat.le_trans Z0 E2.1
  have K2 := K0.ext E2
  refine g_getF (pc' := 14) C X2 d2_11 (host := "") (Or.inl (hw _ (List.mem_of_getElem? (i := 28) rfl))) Via.refl e2 Fv2 rfl (fun T3 X3 e3 => ?_)
  refine g_putF (pc' := 17) C X3 d2_14 (host := "") (Or.inl (hw _ (List.mem_of_getElem? (i := 28) rfl))) Via.refl e3 Fv_a1_2 E_a1_2 (Or.inr ⟨(hw _ (List.mem_of_getElem? (i := 29) rfl)), rfl, rfl⟩) (hw _ (List.mem_of_getElem? (i := 2) rfl)) (ty := (.array .byte)) (by decide) rfl rfl rfl (fun T4 h4 X4 e4 W4 => ?_)
  have F4 := Fv_a1_2.same W4
  have S_cs_4 := S_cs_2.wr W4
  have E_a1_4 := E_a1_2.wr W4
  have Fc_a1_4 := Fc_a1_2.other W4 (Or.inr (slot_ne (Or.inr (hw _ (List.mem_of_getElem? (i := 27) rfl))) (Or.inr (hw _ (List.mem_of_getElem? (i := 29) rfl))) (by decide) (t := .byte) (t' := (.array .byte)) (by decide) (by decide)))
  have A2_4 := A2.wr W4
  have Fc2_4 := Fc2.other W4 (Or.inr (slot_ne (Or.inr (hw _ (List.mem_of_getElem? (i := 27) rfl))) (Or.inr (hw _ (List.mem_of_getElem? (i := 29) rfl))) (by decide) (t := .byte) (t' := (.array .byte)) (by decide) (by decide)))
  have Z4 := Nat.le_trans Z2 (Nat.le_of_eq W4.size.symm)
  have Kz4 := Nat.le_trans Kz2 (Nat.le_of_eq W4.size.symm)
  have N4 := Fr.snoc X4 N0 gn_a1
  have K4 := K2.wr W4 (Or.inl (List.mem_of_getElem? (i := 0) rfl))
  refine g_aloadN (pc' := 18) C X4 d2_17 rfl rfl rfl ?_
  refine g_ldcAgain (pc' := 20) C X4 d2_18 (hw _ (List.mem_of_getElem? (i := 55) rfl)) L2 rfl ?_
  refine g_getF (pc' := 23) C X4 d2_20 (host := "") (Or.inl (hw _ (List.mem_of_getElem? (i := 26) rfl))) Via.refl e4 Fc2_4 rfl (fun T6 X6 e6 => ?_)
  refine g_putFN (pc' := 26) (v' := (.int (0 : Int32))) C X6 d2_23 (hw _ (List.mem_of_getElem? (i := 26) rfl)) Via.refl e6 Fc_a1_4 E_a1_4 (Or.inr ⟨(hw _ (List.mem_of_getElem? (i := 27) rfl)), rfl, rfl⟩) (hw _ (List.mem_of_getElem? (i := 2) rfl)) (ty := .byte) (by decide) rfl (by decide) rfl (fun T7 h7 X7 e7 W7 => ?_)
  have F7 := Fc_a1_4.same W7
  have S_cs_7 := S_cs_4.wr W7
  have E_a1_7 := E_a1_4.wr W7
  have A2_7 := A2_4.wr W7
  have F4_7 := F4.other W7 (Or.inr (slot_ne (Or.inr (hw _ (List.mem_of_getElem? (i := 29) rfl))) (Or.inr (hw _ (List.mem_of_getElem? (i := 27) rfl))) (by decide) (t := (.array .byte)) (t' := .byte) (by decide) (by decide)))
  have Z7 := Nat.le_trans Z4 (Nat.le_of_eq W7.size.symm)
  have Kz7 := Nat.le_trans Kz4 (Nat.le_of_eq W7.size.symm)
  have N7 := Fr.snoc X7 N4 gn_a1
  have K7 := K4.wr W7 (Or.inl (List.mem_of_getElem? (i := 0) rfl))
  exact g_retVW C X7 hS (by rw [e7]; exact Kz7) d2_26 (by decide) (by decide) ⟨rfl, N7, (by rw [e7]; exact K7), (by rw [e7]; exact E_a1_7)⟩
theorem ef_1_0 (m : MethodId) (a1 : Addr) (a2 : Addr) : entryFrame m #[(.ref a1), (.ref a2)] 2 = mkF m 0 #[.val (.ref a1), .val (.ref a2)] [] := by first | (simp [entryFrame, mkF, argsToLocals, Value.category]; done) | rfl
def Q_1_0 (Z : State) (a1 : Addr) (a2 : Addr) (kc : ClassId) (cs : Int32) (h0 : Heap) (n0 : Nat) (v : Option Value) (h : Heap) (L : List Loc) : Prop := (v = none) ∧ (Fr n0 L) ∧ (Keep h0 h [a1]) ∧ (Exa Z h a1 "java/lang/String")
set_option maxRecDepth 65536 in
set_option maxHeartbeats 40000000 in
theorem rm1_0 (l : Launch) (Z : State) (a0 : Array Value) (hw : ∀ d ∈ tables_1, d.before a0 Z = true) (ws : List Jvm.Cond) (a1 : Addr) (a2 : Addr) (kc : ClassId) (cs : Int32) (h0 : Heap) (n0 : Nat) (Z0 : n0 ≤ h0.size) (hF : FX Z h0 cs) (E_a1 : Exa Z h0 a1 "java/lang/String") (Fc_a1 : Fld Z h0 a1 "java/lang/String" "coder" "B" (.int (0 : Int32))) (Fv_a1 : Fld Z h0 a1 "java/lang/String" "value" "[B" .null) (V_c : Arv Z h0 a2 kc .char (0 : Int32) [] (.int (0 : Int32))) (gn_a1 : n0 ≤ a1) :
    MetFree l (⟨"java/lang/String", "<init>", "([C)V"⟩ : MethodName) (head1 (Jvm.Cond.code (⟨"java/lang/String", "<init>", "([C)V"⟩ : MethodName) jdk_42_method_3_code 2 none :: ws) ({ frames := 2, cells := 4, slots := 8, locals := 29 } : Room)) (fun a U => a = #[(.ref a1), (.ref a2)] ∧ Z.Warmed39 U.vm ∧ U.heap = h0 ∧ (fun U => CHv Z own_EL U.vm h0) U) (fun _ _ _ _ _ => True) (fun _ U o U' => ∃ v L, o = .returned v ∧ Q_1_0 Z a1 a2 kc cs h0 n0 v U'.heap L ∧ ReturnedEndW U o U' L ({ frames := 2, cells := 4, slots := 8, locals := 29 } : Room).cells ({ frames := 2, cells := 4, slots := 8, locals := 29 } : Room).slots) := by
  refine met_ofW (Ls := #[.val (.ref a1), .val (.ref a2)]) (plainFor_of_name (by first | (simp [plainName, overriddenIn]; done) | decide +kernel)) (fun m => ef_1_0 m a1 a2) ?_
  intro p e s m below meth c T0 hpx C X0 hS e0
  have S_cs := hF
  have N0 := Fr.nil n0
  have K0 : Keep h0 h0 [a1] := Keep.refl h0 _
  refine g_aloadN (pc' := 1) C X0 d1_0 rfl rfl rfl ?_
  refine g_aloadN (pc' := 2) C X0 d1_1 rfl rfl rfl ?_
  refine g_iconst (pc' := 3) (v := (0 : Int32)) C X0 d1_2 rfl rfl ?_
  refine g_aloadN (pc' := 4) C X0 d1_3 rfl rfl rfl ?_
  refine g_len (pc' := 5) C X0 d1_4 e0 V_c rfl ?_
  refine g_null (pc' := 6) C X0 d1_5 rfl ?_
  refine g_callIH (b := a1) (y := (⟨"java/lang/String", "<init>", "([CIILjava/lang/Void;)V"⟩ : MethodName)) (argsL := [(.ref a2), (.int (0 : Int32)), (.int (0 : Int32)), .null]) (st := []) (pc' := 9) C X0 hS (Nat.zero_le _) (own_ew hw) hpx rfl d1_6 (hw _ (List.mem_of_getElem? (i := 7) rfl)) (hw _ (List.mem_of_getElem? (i := 8) rfl)) (hw _ (List.mem_of_getElem? (i := 3) rfl)) (hw _ (List.mem_of_getElem? (i := 10) rfl)) (by decide) (rm2_0 l Z a0 hw [] a1 a2 cs h0 n0 Z0 hF E_a1 Fc_a1 Fv_a1 gn_a1) (W := 0) (by decide) (by decide) (ce := 4) (sl := 8) rfl rfl (by decide) (by decide) rfl e0 rfl pd_3 rfl (Nat.le_refl _) rfl (fun v1 T1 L1 C X1 hS Q1 => ?_)
  obtain ⟨q1, Nq1, Kq1, P1_0⟩ := Q1
  have N1 := Fr.app N0 Nq1
  have S_cs_1 := own_sta_keep S_cs Kq1 ((allS (by obtain ⟨c_, _, h1_, _, _, h2_, _⟩ := E_a1; exact ⟨c_, h1_, h2_⟩) all0))
  have Z1 := Nat.le_trans Z0 Kq1.1
  have Kz1 := Nat.le_trans (Nat.zero_le _) Kq1.1
  have K1 := K0.trans Kq1 (allS (Or.inl (List.mem_of_getElem? (i := 0) rfl)) all0)
  subst q1
  show Go p.tables e below _ (T1.setTop (mkF m 9 #[.val (.ref a1), .val (.ref a2)] []))
  exact g_retVW C X1 hS (Nat.le_refl _) d1_9 (by decide) (by decide) ⟨rfl, N1, K1, P1_0⟩
theorem d7_0 : decode prog_39_method_1_code 0 = .ok (.aload_n 0, 1) := by decide +kernel
theorem d7_1 : decode prog_39_method_1_code 1 = .ok (.invokespecial 1, 3) := by decide +kernel
theorem d7_4 : decode prog_39_method_1_code 4 = .ok (.aload_n 0, 1) := by decide +kernel
theorem d7_5 : decode prog_39_method_1_code 5 = .ok (.aload_n 1, 1) := by decide +kernel
theorem d7_6 : decode prog_39_method_1_code 6 = .ok (.putfield 7, 3) := by decide +kernel
theorem d7_9 : decode prog_39_method_1_code 9 = .ok (.aload_n 0, 1) := by decide +kernel
theorem d7_10 : decode prog_39_method_1_code 10 = .ok (.aload_n 2, 1) := by decide +kernel
theorem d7_11 : decode prog_39_method_1_code 11 = .ok (.putfield 13, 3) := by decide +kernel
theorem d7_14 : decode prog_39_method_1_code 14 = .ok (.aload_n 0, 1) := by decide +kernel
theorem d7_15 : decode prog_39_method_1_code 15 = .ok (.aload_n 3, 1) := by decide +kernel
theorem d7_16 : decode prog_39_method_1_code 16 = .ok (.putfield 16, 3) := by decide +kernel
theorem d7_19 : decode prog_39_method_1_code 19 = .ok (.aload_n 0, 1) := by decide +kernel
theorem d7_20 : decode prog_39_method_1_code 20 = .ok (.aload 4, 2) := by decide +kernel
theorem d7_22 : decode prog_39_method_1_code 22 = .ok (.putfield 20, 3) := by decide +kernel
theorem d7_25 : decode prog_39_method_1_code 25 = .ok (.return_, 1) := by decide +kernel
theorem ef_7n (m : MethodId) (a1 : Addr) (a2 : Addr) : entryFrame m #[(.ref a1), (.ref a2), .null, .null, .null] 5 = mkF m 0 #[.val (.ref a1), .val (.ref a2), .val .null, .val .null, .val .null] [] := by first | (simp [entryFrame, mkF, argsToLocals, Value.category]; done) | rfl
def Q_7n (Z : State) (a1 : Addr) (a2 : Addr) (cs : Int32) (h0 : Heap) (n0 : Nat) (v : Option Value) (h : Heap) (L : List Loc) : Prop := (v = none) ∧ (Fr n0 L) ∧ (Keep h0 h [a1]) ∧ (Exa Z h a1 "com/example/caseloom/caseloom/model/Transition") ∧ (Fld Z h a1 "com/example/caseloom/caseloom/model/Transition" "label" "Ljava/lang/String;" .null)
set_option maxRecDepth 65536 in
set_option maxHeartbeats 40000000 in
theorem rm7n (l : Launch) (Z : State) (a0 : Array Value) (hw : ∀ d ∈ tables_1, d.before a0 Z = true) (ws : List Jvm.Cond) (a1 : Addr) (a2 : Addr) (cs : Int32) (h0 : Heap) (n0 : Nat) (Z0 : n0 ≤ h0.size) (hF : FX Z h0 cs) (E_a1 : Exa Z h0 a1 "com/example/caseloom/caseloom/model/Transition") (F_id : Fld Z h0 a1 "com/example/caseloom/caseloom/model/Transition" "id" "Ljava/lang/String;" .null) (F_label : Fld Z h0 a1 "com/example/caseloom/caseloom/model/Transition" "label" "Ljava/lang/String;" .null) (F_inputs : Fld Z h0 a1 "com/example/caseloom/caseloom/model/Transition" "inputs" "Lcom/example/caseloom/caseloom/model/Marking;" .null) (F_outputs : Fld Z h0 a1 "com/example/caseloom/caseloom/model/Transition" "outputs" "Lcom/example/caseloom/caseloom/model/Marking;" .null) (gn_a1 : n0 ≤ a1) :
    MetFree l (⟨"com/example/caseloom/caseloom/model/Transition", "<init>", "(Ljava/lang/String;Ljava/lang/String;Lcom/example/caseloom/caseloom/model/Marking;Lcom/example/caseloom/caseloom/model/Marking;)V"⟩ : MethodName) (head1 (Jvm.Cond.code (⟨"com/example/caseloom/caseloom/model/Transition", "<init>", "(Ljava/lang/String;Ljava/lang/String;Lcom/example/caseloom/caseloom/model/Marking;Lcom/example/caseloom/caseloom/model/Marking;)V"⟩ : MethodName) prog_39_method_1_code 5 none :: ws) ({ frames := 1, cells := 0, slots := 0, locals := 12 } : Room)) (fun a U => a = #[(.ref a1), (.ref a2), .null, .null, .null] ∧ Z.Warmed39 U.vm ∧ U.heap = h0) (fun _ _ _ _ _ => True) (fun _ U o U' => ∃ v L, o = .returned v ∧ Q_7n Z a1 a2 cs h0 n0 v U'.heap L ∧ FrameEnd U o U' L ({ frames := 1, cells := 0, slots := 0, locals := 12 } : Room).cells ({ frames := 1, cells := 0, slots := 0, locals := 12 } : Room).slots) := by
  refine met_of (Ls := #[.val (.ref a1), .val (.ref a2), .val .null, .val .null, .val .null]) (plainFor_of_name (by first | (simp [plainName, overriddenIn]; done) | decide +kernel)) (fun m => ef_7n m a1 a2) ?_
  intro p e s m below meth c T0 C X0 e0
  have S_cs := hF
  have N0 := Fr.nil n0
  have K0 : Keep h0 h0 [a1] := Keep.refl h0 _
  refine g_aloadN (pc' := 1) C X0 d7_0 rfl rfl rfl ?_
  refine g_initO (W := 0) (pc' := 4) C X0 d7_1 (hw _ (List.mem_of_getElem? (i := 36) rfl)) (hw _ (List.mem_of_getElem? (i := 12) rfl)) (hw _ (List.mem_of_getElem? (i := 13) rfl)) e0 rfl (by decide) (Nat.le_refl _) (by decide) rfl (fun T1 X1 e1 => ?_)
  refine g_aloadN (pc' := 5) C X1 d7_4 rfl rfl rfl ?_
  refine g_aloadN (pc' := 6) C X1 d7_5 rfl rfl rfl ?_
  refine g_putF (pc' := 9) C X1 d7_6 (host := "") (Or.inl (hw _ (List.mem_of_getElem? (i := 37) rfl))) Via.refl e1 F_id E_a1 (Or.inr ⟨(hw _ (List.mem_of_getElem? (i := 38) rfl)), rfl, rfl⟩) (hw _ (List.mem_of_getElem? (i := 31) rfl)) (ty := (.object "java/lang/String")) (by decide) rfl rfl rfl (fun T2 h2 X2 e2 W2 => ?_)
  have F2 := F_id.same W2
  have S_cs_2 := S_cs.wr W2
  have E_a1_2 := E_a1.wr W2
  have F_label_2 := F_label.other W2 (Or.inr (slot_ne (Or.inr (hw _ (List.mem_of_getElem? (i := 40) rfl))) (Or.inr (hw _ (List.mem_of_getElem? (i := 38) rfl))) (by decide) (t := (.object "java/lang/String")) (t' := (.object "java/lang/String")) (by decide) (by decide)))
  have F_inputs_2 := F_inputs.other W2 (Or.inr (slot_ne (Or.inr (hw _ (List.mem_of_getElem? (i := 42) rfl))) (Or.inr (hw _ (List.mem_of_getElem? (i := 38) rfl))) (by decide) (t := (.object "com/example/caseloom/caseloom/model/Marking")) (t' := (.object "java/lang/String")) (by decide) (by decide)))
  have F_outputs_2 := F_outputs.other W2 (Or.inr (slot_ne (Or.inr (hw _ (List.mem_of_getElem? (i := 44) rfl))) (Or.inr (hw _ (List.mem_of_getElem? (i := 38) rfl))) (by decide) (t := (.object "com/example/caseloom/caseloom/model/Marking")) (t' := (.object "java/lang/String")) (by decide) (by decide)))
  have Z2 := Nat.le_trans Z0 (Nat.le_of_eq W2.size.symm)
  have N2 := Fr.snoc X2 N0 gn_a1
  have K2 := K0.wr W2 (Or.inl (List.mem_of_getElem? (i := 0) rfl))
  refine g_aloadN (pc' := 10) C X2 d7_9 rfl rfl rfl ?_
  refine g_aloadN (pc' := 11) C X2 d7_10 rfl rfl rfl ?_
  refine g_putF (pc' := 14) C X2 d7_11 (host := "") (Or.inl (hw _ (List.mem_of_getElem? (i := 39) rfl))) Via.refl e2 F_label_2 E_a1_2 (Or.inr ⟨(hw _ (List.mem_of_getElem? (i := 40) rfl)), rfl, rfl⟩) (hw _ (List.mem_of_getElem? (i := 31) rfl)) (ty := (.object "java/lang/String")) (by decide) rfl rfl rfl (fun T3 h3 X3 e3 W3 => ?_)
  have F3 := F_label_2.same W3
  have S_cs_3 := S_cs_2.wr W3
  have E_a1_3 := E_a1_2.wr W3
  have F_inputs_3 := F_inputs_2.other W3 (Or.inr (slot_ne (Or.inr (hw _ (List.mem_of_getElem? (i := 42) rfl))) (Or.inr (hw _ (List.mem_of_getElem? (i := 40) rfl))) (by decide) (t := (.object "com/example/caseloom/caseloom/model/Marking")) (t' := (.object "java/lang/String")) (by decide) (by decide)))
  have F_outputs_3 := F_outputs_2.other W3 (Or.inr (slot_ne (Or.inr (hw _ (List.mem_of_getElem? (i := 44) rfl))) (Or.inr (hw _ (List.mem_of_getElem? (i := 40) rfl))) (by decide) (t := (.object "com/example/caseloom/caseloom/model/Marking")) (t' := (.object "java/lang/String")) (by decide) (by decide)))
  have F2_3 := F2.other W3 (Or.inr (slot_ne (Or.inr (hw _ (List.mem_of_getElem? (i := 38) rfl))) (Or.inr (hw _ (List.mem_of_getElem? (i := 40) rfl))) (by decide) (t := (.object "java/lang/String")) (t' := (.object "java/lang/String")) (by decide) (by decide)))
  have Z3 := Nat.le_trans Z2 (Nat.le_of_eq W3.size.symm)
  have N3 := Fr.snoc X3 N2 gn_a1
  have K3 := K2.wr W3 (Or.inl (List.mem_of_getElem? (i := 0) rfl))
  refine g_aloadN (pc' := 15) C X3 d7_14 rfl rfl rfl ?_
  refine g_aloadN (pc' := 16) C X3 d7_15 rfl rfl rfl ?_
  refine g_putF (pc' := 19) C X3 d7_16 (host := "") (Or.inl (hw _ (List.mem_of_getElem? (i := 41) rfl))) Via.refl e3 F_inputs_3 E_a1_3 (Or.inr ⟨(hw _ (List.mem_of_getElem? (i := 42) rfl)), rfl, rfl⟩) (hw _ (List.mem_of_getElem? (i := 31) rfl)) (ty := (.object "com/example/caseloom/caseloom/model/Marking")) (by decide) rfl rfl rfl (fun T4 h4 X4 e4 W4 => ?_)
  have F4 := F_inputs_3.same W4
  have S_cs_4 := S_cs_3.wr W4
  have E_a1_4 := E_a1_3.wr W4
  have F_outputs_4 := F_outputs_3.other W4 (Or.inr (slot_ne (Or.inr (hw _ (List.mem_of_getElem? (i := 44) rfl))) (Or.inr (hw _ (List.mem_of_getElem? (i := 42) rfl))) (by decide) (t := (.object "com/example/caseloom/caseloom/model/Marking")) (t' := (.object "com/example/caseloom/caseloom/model/Marking")) (by decide) (by decide)))
  have F2_4 := F2_3.other W4 (Or.inr (slot_ne (Or.inr (hw _ (List.mem_of_getElem? (i := 38) rfl))) (Or.inr (hw _ (List.mem_of_getElem? (i := 42) rfl))) (by decide) (t := (.object "java/lang/String")) (t' := (.object "com/example/caseloom/caseloom/model/Marking")) (by decide) (by decide)))
  have F3_4 := F3.other W4 (Or.inr (slot_ne (Or.inr (hw _ (List.mem_of_getElem? (i := 40) rfl))) (Or.inr (hw _ (List.mem_of_getElem? (i := 42) rfl))) (by decide) (t := (.object "java/lang/String")) (t' := (.object "com/example/caseloom/caseloom/model/Marking")) (by decide) (by decide)))
  have Z4 := Nat.le_trans Z3 (Nat.le_of_eq W4.size.symm)
  have N4 := Fr.snoc X4 N3 gn_a1
  have K4 := K3.wr W4 (Or.inl (List.mem_of_getElem? (i := 0) rfl))
  refine g_aloadN (pc' := 20) C X4 d7_19 rfl rfl rfl ?_
  refine g_aload (pc' := 22) C X4 d7_20 rfl rfl rfl ?_
  refine g_putF (pc' := 25) C X4 d7_22 (host := "") (Or.inl (hw _ (List.mem_of_getElem? (i := 43) rfl))) Via.refl e4 F_outputs_4 E_a1_4 (Or.inr ⟨(hw _ (List.mem_of_getElem? (i := 44) rfl)), rfl, rfl⟩) (hw _ (List.mem_of_getElem? (i := 31) rfl)) (ty := (.object "com/example/caseloom/caseloom/model/Marking")) (by decide) rfl rfl rfl (fun T5 h5 X5 e5 W5 => ?_)
  have F5 := F_outputs_4.same W5
  have S_cs_5 := S_cs_4.wr W5
  have E_a1_5 := E_a1_4.wr W5
  have F2_5 := F2_4.other W5 (Or.inr (slot_ne (Or.inr (hw _ (List.mem_of_getElem? (i := 38) rfl))) (Or.inr (hw _ (List.mem_of_getElem? (i := 44) rfl))) (by decide) (t := (.object "java/lang/String")) (t' := (.object "com/example/caseloom/caseloom/model/Marking")) (by decide) (by decide)))
  have F3_5 := F3_4.other W5 (Or.inr (slot_ne (Or.inr (hw _ (List.mem_of_getElem? (i := 40) rfl))) (Or.inr (hw _ (List.mem_of_getElem? (i := 44) rfl))) (by decide) (t := (.object "java/lang/String")) (t' := (.object "com/example/caseloom/caseloom/model/Marking")) (by decide) (by decide)))
  have F4_5 := F4.other W5 (Or.inr (slot_ne (Or.inr (hw _ (List.mem_of_getElem? (i := 42) rfl))) (Or.inr (hw _ (List.mem_of_getElem? (i := 44) rfl))) (by decide) (t := (.object "com/example/caseloom/caseloom/model/Marking")) (t' := (.object "com/example/caseloom/caseloom/model/Marking")) (by decide) (by decide)))
  have Z5 := Nat.le_trans Z4 (Nat.le_of_eq W5.size.symm)
  have N5 := Fr.snoc X5 N4 gn_a1
  have K5 := K4.wr W5 (Or.inl (List.mem_of_getElem? (i := 0) rfl))
  exact g_retV C X5 d7_25 (by decide) (by decide) ⟨rfl, N5, (by rw [e5]; exact K5), (by rw [e5]; exact E_a1_5), (by rw [e5]; exact F3_5)⟩
theorem ef_7r (m : MethodId) (a1 : Addr) (a2 : Addr) (a3 : Addr) : entryFrame m #[(.ref a1), (.ref a2), (.ref a3), .null, .null] 5 = mkF m 0 #[.val (.ref a1), .val (.ref a2), .val (.ref a3), .val .null, .val .null] [] := by first | (simp [entryFrame, mkF, argsToLocals, Value.category]; done) | rfl
def Q_7r (Z : State) (a1 : Addr) (a2 : Addr) (a3 : Addr) (cs : Int32) (h0 : Heap) (n0 : Nat) (v : Option Value) (h : Heap) (L : List Loc) : Prop := (v = none) ∧ (Fr n0 L) ∧ (Keep h0 h [a1]) ∧ (Exa Z h a1 "com/example/caseloom/caseloom/model/Transition") ∧ (Fld Z h a1 "com/example/caseloom/caseloom/model/Transition" "label" "Ljava/lang/String;" (.ref a3))
set_option maxRecDepth 65536 in
set_option maxHeartbeats 40000000 in
theorem rm7r (l : Launch) (Z : State) (a0 : Array Value) (hw : ∀ d ∈ tables_1, d.before a0 Z = true) (ws : List Jvm.Cond) (a1 : Addr) (a2 : Addr) (a3 : Addr) (cs : Int32) (h0 : Heap) (n0 : Nat) (Z0 : n0 ≤ h0.size) (hF : FX Z h0 cs) (E_a1 : Exa Z h0 a1 "com/example/caseloom/caseloom/model/Transition") (F_id : Fld Z h0 a1 "com/example/caseloom/caseloom/model/Transition" "id" "Ljava/lang/String;" .null) (F_label : Fld Z h0 a1 "com/example/caseloom/caseloom/model/Transition" "label" "Ljava/lang/String;" .null) (F_inputs : Fld Z h0 a1 "com/example/caseloom/caseloom/model/Transition" "inputs" "Lcom/example/caseloom/caseloom/model/Marking;" .null) (F_outputs : Fld Z h0 a1 "com/example/caseloom/caseloom/model/Transition" "outputs" "Lcom/example/caseloom/caseloom/model/Marking;" .null) (gn_a1 : n0 ≤ a1) :
    MetFree l (⟨"com/example/caseloom/caseloom/model/Transition", "<init>", "(Ljava/lang/String;Ljava/lang/String;Lcom/example/caseloom/caseloom/model/Marking;Lcom/example/caseloom/caseloom/model/Marking;)V"⟩ : MethodName) (head1 (Jvm.Cond.code (⟨"com/example/caseloom/caseloom/model/Transition", "<init>", "(Ljava/lang/String;Ljava/lang/String;Lcom/example/caseloom/caseloom/model/Marking;Lcom/example/caseloom/caseloom/model/Marking;)V"⟩ : MethodName) prog_39_method_1_code 5 none :: ws) ({ frames := 1, cells := 0, slots := 0, locals := 12 } : Room)) (fun a U => a = #[(.ref a1), (.ref a2), (.ref a3), .null, .null] ∧ Z.Warmed39 U.vm ∧ U.heap = h0) (fun _ _ _ _ _ => True) (fun _ U o U' => ∃ v L, o = .returned v ∧ Q_7r Z a1 a2 a3 cs h0 n0 v U'.heap L ∧ FrameEnd U o U' L ({ frames := 1, cells := 0, slots := 0, locals := 12 } : Room).cells ({ frames := 1, cells := 0, slots := 0, locals := 12 } : Room).slots) := by
  refine met_of (Ls := #[.val (.ref a1), .val (.ref a2), .val (.ref a3), .val .null, .val .null]) (plainFor_of_name (by first | (simp [plainName, overriddenIn]; done) | decide +kernel)) (fun m => ef_7r m a1 a2 a3) ?_
  intro p e s m below meth c T0 C X0 e0
  have S_cs := hF
  have N0 := Fr.nil n0
  have K0 : Keep h0 h0 [a1] := Keep.refl h0 _
  refine g_aloadN (pc' := 1) C X0 d7_0 rfl rfl rfl ?_
  refine g_initO (W := 0) (pc' := 4) C X0 d7_1 (hw _ (List.mem_of_getElem? (i := 36) rfl)) (hw _ (List.mem_of_getElem? (i := 12) rfl)) (hw _ (List.mem_of_getElem? (i := 13) rfl)) e0 rfl (by decide) (Nat.le_refl _) (by decide) rfl (fun T1 X1 e1 => ?_)
  refine g_aloadN (pc' := 5) C X1 d7_4 rfl rfl rfl ?_
  refine g_aloadN (pc' := 6) C X1 d7_5 rfl rfl rfl ?_
  refine g_putF (pc' := 9) C X1 d7_6 (host := "") (Or.inl (hw _ (List.mem_of_getElem? (i := 37) rfl))) Via.refl e1 F_id E_a1 (Or.inr ⟨(hw _ (List.mem_of_getElem? (i := 38) rfl)), rfl, rfl⟩) (hw _ (List.mem_of_getElem? (i := 31) rfl)) (ty := (.object "java/lang/String")) (by decide) rfl rfl rfl (fun T2 h2 X2 e2 W2 => ?_)
  have F2 := F_id.same W2
  have S_cs_2 := S_cs.wr W2
  have E_a1_2 := E_a1.wr W2
  have F_label_2 := F_label.other W2 (Or.inr (slot_ne (Or.inr (hw _ (List.mem_of_getElem? (i := 40) rfl))) (Or.inr (hw _ (List.mem_of_getElem? (i := 38) rfl))) (by decide) (t := (.object "java/lang/String")) (t' := (.object "java/lang/String")) (by decide) (by decide)))
  have F_inputs_2 := F_inputs.other W2 (Or.inr (slot_ne (Or.inr (hw _ (List.mem_of_getElem? (i := 42) rfl))) (Or.inr (hw _ (List.mem_of_getElem? (i := 38) rfl))) (by decide) (t := (.object "com/example/caseloom/caseloom/model/Marking")) (t' := (.object "java/lang/String")) (by decide) (by decide)))
  have F_outputs_2 := F_outputs.other W2 (Or.inr (slot_ne (Or.inr (hw _ (List.mem_of_getElem? (i := 44) rfl))) (Or.inr (hw _ (List.mem_of_getElem? (i := 38) rfl))) (by decide) (t := (.object "com/example/caseloom/caseloom/model/Marking")) (t' := (.object "java/lang/String")) (by decide) (by decide)))
  have Z2 := Nat.le_trans Z0 (Nat.le_of_eq W2.size.symm)
  have N2 := Fr.snoc X2 N0 gn_a1
  have K2 := K0.wr W2 (Or.inl (List.mem_of_getElem? (i := 0) rfl))
  refine g_aloadN (pc' := 10) C X2 d7_9 rfl rfl rfl ?_
  refine g_aloadN (pc' := 11) C X2 d7_10 rfl rfl rfl ?_
  refine g_putF (pc' := 14) C X2 d7_11 (host := "") (Or.inl (hw _ (List.mem_of_getElem? (i := 39) rfl))) Via.refl e2 F_label_2 E_a1_2 (Or.inr ⟨(hw _ (List.mem_of_getElem? (i := 40) rfl)), rfl, rfl⟩) (hw _ (List.mem_of_getElem? (i := 31) rfl)) (ty := (.object "java/lang/String")) (by decide) rfl rfl rfl (fun T3 h3 X3 e3 W3 => ?_)
  have F3 := F_label_2.same W3
  have S_cs_3 := S_cs_2.wr W3
  have E_a1_3 := E_a1_2.wr W3
  have F_inputs_3 := F_inputs_2.other W3 (Or.inr (slot_ne (Or.inr (hw _ (List.mem_of_getElem? (i := 42) rfl))) (Or.inr (hw _ (List.mem_of_getElem? (i := 40) rfl))) (by decide) (t := (.object "com/example/caseloom/caseloom/model/Marking")) (t' := (.object "java/lang/String")) (by decide) (by decide)))
  have F_outputs_3 := F_outputs_2.other W3 (Or.inr (slot_ne (Or.inr (hw _ (List.mem_of_getElem? (i := 44) rfl))) (Or.inr (hw _ (List.mem_of_getElem? (i := 40) rfl))) (by decide) (t := (.object "com/example/caseloom/caseloom/model/Marking")) (t' := (.object "java/lang/String")) (by decide) (by decide)))
  have F2_3 := F2.other W3 (Or.inr (slot_ne (Or.inr (hw _ (List.mem_of_getElem? (i := 38) rfl))) (Or.inr (hw _ (List.mem_of_getElem? (i := 40) rfl))) (by decide) (t := (.object "java/lang/String")) (t' := (.object "java/lang/String")) (by decide) (by decide)))
  have Z3 := Nat.le_trans Z2 (Nat.le_of_eq W3.size.symm)
  have N3 := Fr.snoc X3 N2 gn_a1
  have K3 := K2.wr W3 (Or.inl (List.mem_of_getElem? (i := 0) rfl))
  refine g_aloadN (pc' := 15) C X3 d7_14 rfl rfl rfl ?_
  refine g_aloadN (pc' := 16) C X3 d7_15 rfl rfl rfl ?_
  refine g_putF (pc' := 19) C X3 d7_16 (host := "") (Or.inl (hw _ (List.mem_of_getElem? (i := 41) rfl))) Via.refl e3 F_inputs_3 E_a1_3 (Or.inr ⟨(hw _ (List.mem_of_getElem? (i := 42) rfl)), rfl, rfl⟩) (hw _ (List.mem_of_getElem? (i := 31) rfl)) (ty := (.object "com/example/caseloom/caseloom/model/Marking")) (by decide) rfl rfl rfl (fun T4 h4 X4 e4 W4 => ?_)
  have F4 := F_inputs_3.same W4
  have S_cs_4 := S_cs_3.wr W4
  have E_a1_4 := E_a1_3.wr W4
  have F_outputs_4 := F_outputs_3.other W4 (Or.inr (slot_ne (Or.inr (hw _ (List.mem_of_getElem? (i := 44) rfl))) (Or.inr (hw _ (List.mem_of_getElem? (i := 42) rfl))) (by decide) (t := (.object "com/example/caseloom/caseloom/model/Marking")) (t' := (.object "com/example/caseloom/caseloom/model/Marking")) (by decide) (by decide)))
  have F2_4 := F2_3.other W4 (Or.inr (slot_ne (Or.inr (hw _ (List.mem_of_getElem? (i := 38) rfl))) (Or.inr (hw _ (List.mem_of_getElem? (i := 42) rfl))) (by decide) (t := (.object "java/lang/String")) (t' := (.object "com/example/caseloom/caseloom/model/Marking")) (by decide) (by decide)))
  have F3_4 := F3.other W4 (Or.inr (slot_ne (Or.inr (hw _ (List.mem_of_getElem? (i := 40) rfl))) (Or.inr (hw _ (List.mem_of_getElem? (i := 42) rfl))) (by decide) (t := (.object "java/lang/String")) (t' := (.object "com/example/caseloom/caseloom/model/Marking")) (by decide) (by decide)))
  have Z4 := Nat.le_trans Z3 (Nat.le_of_eq W4.size.symm)
  have N4 := Fr.snoc X4 N3 gn_a1
  have K4 := K3.wr W4 (Or.inl (List.mem_of_getElem? (i := 0) rfl))
  refine g_aloadN (pc' := 20) C X4 d7_19 rfl rfl rfl ?_
  refine g_aload (pc' := 22) C X4 d7_20 rfl rfl rfl ?_
  refine g_putF (pc' := 25) C X4 d7_22 (host := "") (Or.inl (hw _ (List.mem_of_getElem? (i := 43) rfl))) Via.refl e4 F_outputs_4 E_a1_4 (Or.inr ⟨(hw _ (List.mem_of_getElem? (i := 44) rfl)), rfl, rfl⟩) (hw _ (List.mem_of_getElem? (i := 31) rfl)) (ty := (.object "com/example/caseloom/caseloom/model/Marking")) (by decide) rfl rfl rfl (fun T5 h5 X5 e5 W5 => ?_)
  have F5 := F_outputs_4.same W5
  have S_cs_5 := S_cs_4.wr W5
  have E_a1_5 := E_a1_4.wr W5
  have F2_5 := F2_4.other W5 (Or.inr (slot_ne (Or.inr (hw _ (List.mem_of_getElem? (i := 38) rfl))) (Or.inr (hw _ (List.mem_of_getElem? (i := 44) rfl))) (by decide) (t := (.object "java/lang/String")) (t' := (.object "com/example/caseloom/caseloom/model/Marking")) (by decide) (by decide)))
  have F3_5 := F3_4.other W5 (Or.inr (slot_ne (Or.inr (hw _ (List.mem_of_getElem? (i := 40) rfl))) (Or.inr (hw _ (List.mem_of_getElem? (i := 44) rfl))) (by decide) (t := (.object "java/lang/String")) (t' := (.object "com/example/caseloom/caseloom/model/Marking")) (by decide) (by decide)))
  have F4_5 := F4.other W5 (Or.inr (slot_ne (Or.inr (hw _ (List.mem_of_getElem? (i := 42) rfl))) (Or.inr (hw _ (List.mem_of_getElem? (i := 44) rfl))) (by decide) (t := (.object "com/example/caseloom/caseloom/model/Marking")) (t' := (.object "com/example/caseloom/caseloom/model/Marking")) (by decide) (by decide)))
  have Z5 := Nat.le_trans Z4 (Nat.le_of_eq W5.size.symm)
  have N5 := Fr.snoc X5 N4 gn_a1
  have K5 := K4.wr W5 (Or.inl (List.mem_of_getElem? (i := 0) rfl))
  exact g_retV C X5 d7_25 (by decide) (by decide) ⟨rfl, N5, (by rw [e5]; exact K5), (by rw [e5]; exact E_a1_5), (by rw [e5]; exact F3_5)⟩
theorem d8_0 : decode prog_39_method_6_code 0 = .ok (.aload_n 0, 1) := by decide +kernel
theorem d8_1 : decode prog_39_method_6_code 1 = .ok (.getfield 13, 3) := by decide +kernel
theorem d8_4 : decode prog_39_method_6_code 4 = .ok (.ifnull 7, 3) := by decide +kernel
theorem d8_11 : decode prog_39_method_6_code 11 = .ok (.iconst 0, 1) := by decide +kernel
theorem d8_12 : decode prog_39_method_6_code 12 = .ok (.ireturn, 1) := by decide +kernel
def F8n  : Int32 := (0 : Int32)
theorem F8n_l0   : F8n  = (0 : Int32) := rfl
theorem ef_8n (m : MethodId) (a1 : Addr) : entryFrame m #[(.ref a1)] 1 = mkF m 0 #[.val (.ref a1)] [] := by first | (simp [entryFrame, mkF, argsToLocals, Value.category]; done) | rfl
def Q_8n (Z : State) (a1 : Addr) (cs : Int32) (h0 : Heap) (n0 : Nat) (v : Option Value) (h : Heap) (L : List Loc) : Prop := v = some (.int (F8n )) ∧ Fr n0 L ∧ h = h0
set_option maxRecDepth 65536 in
set_option maxHeartbeats 40000000 in
theorem rm8n (l : Launch) (Z : State) (a0 : Array Value) (hw : ∀ d ∈ tables_1, d.before a0 Z = true) (ws : List Jvm.Cond) (a1 : Addr) (cs : Int32) (h0 : Heap) (n0 : Nat) (hF : FX Z h0 cs) (F_label : Fld Z h0 a1 "com/example/caseloom/caseloom/model/Transition" "label" "Ljava/lang/String;" .null) :
    MetFree l (⟨"com/example/caseloom/caseloom/model/Transition", "isTask", "()Z"⟩ : MethodName) (head1 (Jvm.Cond.code (⟨"com/example/caseloom/caseloom/model/Transition", "isTask", "()Z"⟩ : MethodName) prog_39_method_6_code 1 (some .boolean) :: ws) ({ frames := 0, cells := 0, slots := 0, locals := 0 } : Room)) (fun a U => a = #[(.ref a1)] ∧ Z.Warmed39 U.vm ∧ U.heap = h0) (fun _ _ _ _ _ => True) (fun _ U o U' => ∃ v L, o = .returned v ∧ Q_8n Z a1 cs h0 n0 v U'.heap L ∧ FrameEnd U o U' L ({ frames := 0, cells := 0, slots := 0, locals := 0 } : Room).cells ({ frames := 0, cells := 0, slots := 0, locals := 0 } : Room).slots) := by
  refine met_of (Ls := #[.val (.ref a1)]) (plainFor_of_name (by first | (simp [plainName, overriddenIn]; done) | decide +kernel)) (fun m => ef_8n m a1) ?_
  intro p e s m below meth c T0 C X0 e0
  have S_cs := hF
  have N0 := Fr.nil n0
  refine g_aloadN (pc' := 1) C X0 d8_0 rfl rfl rfl ?_
  refine g_getF (pc' := 4) C X0 d8_1 (host := "") (Or.inl (hw _ (List.mem_of_getElem? (i := 39) rfl))) Via.refl e0 F_label rfl (fun T1 X1 e1 => ?_)
  refine g_ifnullY (pc' := 11) C X1 d8_4 (by decide) (by decide) ?_
  refine g_iconst (pc' := 12) (v := (0 : Int32)) C X1 d8_11 rfl rfl ?_
  exact g_retN C X1 (by simp) d8_12 (by decide) (by decide) ⟨congrArg (fun z => some (Value.int z)) (F8n_l0  ).symm, N0, e1⟩
theorem d9_0 : decode prog_39_method_3_code 0 = .ok (.aload_n 0, 1) := by decide +kernel
theorem d9_1 : decode prog_39_method_3_code 1 = .ok (.getfield 13, 3) := by decide +kernel
theorem d9_4 : decode prog_39_method_3_code 4 = .ok (.areturn, 1) := by decide +kernel
def F9n  : Value := .null
theorem F9n_l0   : F9n  = .null := rfl
theorem ef_9n (m : MethodId) (a1 : Addr) : entryFrame m #[(.ref a1)] 1 = mkF m 0 #[.val (.ref a1)] [] := by first | (simp [entryFrame, mkF, argsToLocals, Value.category]; done) | rfl
def Q_9n (Z : State) (a1 : Addr) (cs : Int32) (h0 : Heap) (n0 : Nat) (v : Option Value) (h : Heap) (L : List Loc) : Prop := v = some (F9n ) ∧ Fr n0 L ∧ h = h0
set_option maxRecDepth 65536 in
set_option maxHeartbeats 40000000 in
theorem rm9n (l : Launch) (Z : State) (a0 : Array Value) (hw : ∀ d ∈ tables_1, d.before a0 Z = true) (ws : List Jvm.Cond) (a1 : Addr) (cs : Int32) (h0 : Heap) (n0 : Nat) (hF : FX Z h0 cs) (F_label : Fld Z h0 a1 "com/example/caseloom/caseloom/model/Transition" "label" "Ljava/lang/String;" .null) :
    MetFree l (⟨"com/example/caseloom/caseloom/model/Transition", "label", "()Ljava/lang/String;"⟩ : MethodName) (head1 (Jvm.Cond.code (⟨"com/example/caseloom/caseloom/model/Transition", "label", "()Ljava/lang/String;"⟩ : MethodName) prog_39_method_3_code 1 (some (.object "java/lang/String")) :: ws) ({ frames := 0, cells := 0, slots := 0, locals := 0 } : Room)) (fun a U => a = #[(.ref a1)] ∧ Z.Warmed39 U.vm ∧ U.heap = h0) (fun _ _ _ _ _ => True) (fun _ U o U' => ∃ v L, o = .returned v ∧ Q_9n Z a1 cs h0 n0 v U'.heap L ∧ FrameEnd U o U' L ({ frames := 0, cells := 0, slots := 0, locals := 0 } : Room).cells ({ frames := 0, cells := 0, slots := 0, locals := 0 } : Room).slots) := by
  refine met_of (Ls := #[.val (.ref a1)]) (plainFor_of_name (by first | (simp [plainName, overriddenIn]; done) | decide +kernel)) (fun m => ef_9n m a1) ?_
  intro p e s m below meth c T0 C X0 e0
  have S_cs := hF
  have N0 := Fr.nil n0
  refine g_aloadN (pc' := 1) C X0 d9_0 rfl rfl rfl ?_
  refine g_getF (pc' := 4) C X0 d9_1 (host := "") (Or.inl (hw _ (List.mem_of_getElem? (i := 39) rfl))) Via.refl e0 F_label rfl (fun T1 X1 e1 => ?_)
  exact g_retA C X1 rfl rfl rfl d9_4 (by decide) (by decide) ⟨congrArg (fun z => some (z)) (F9n_l0  ).symm, N0, e1⟩
theorem d8_7 : decode prog_39_method_6_code 7 = .ok (.iconst 1, 1) := by decide +kernel
theorem d8_8 : decode prog_39_method_6_code 8 = .ok (.goto 4, 3) := by decide +kernel
def F8r  : Int32 := (1 : Int32)
theorem F8r_l0   : F8r  = (1 : Int32) := rfl
theorem ef_8r (m : MethodId) (a1 : Addr) : entryFrame m #[(.ref a1)] 1 = mkF m 0 #[.val (.ref a1)] [] := by first | (simp [entryFrame, mkF, argsToLocals, Value.category]; done) | rfl
def Q_8r (Z : State) (a1 : Addr) (wt : Addr) (cs : Int32) (h0 : Heap) (n0 : Nat) (v : Option Value) (h : Heap) (L : List Loc) : Prop := v = some (.int (F8r )) ∧ Fr n0 L ∧ h = h0
set_option maxRecDepth 65536 in
set_option maxHeartbeats 40000000 in
theorem rm8r (l : Launch) (Z : State) (a0 : Array Value) (hw : ∀ d ∈ tables_1, d.before a0 Z = true) (ws : List Jvm.Cond) (a1 : Addr) (wt : Addr) (cs : Int32) (h0 : Heap) (n0 : Nat) (hF : FX Z h0 cs) (F_label : Fld Z h0 a1 "com/example/caseloom/caseloom/model/Transition" "label" "Ljava/lang/String;" (.ref wt)) :
    MetFree l (⟨"com/example/caseloom/caseloom/model/Transition", "isTask", "()Z"⟩ : MethodName) (head1 (Jvm.Cond.code (⟨"com/example/caseloom/caseloom/model/Transition", "isTask", "()Z"⟩ : MethodName) prog_39_method_6_code 1 (some .boolean) :: ws) ({ frames := 0, cells := 0, slots := 0, locals := 0 } : Room)) (fun a U => a = #[(.ref a1)] ∧ Z.Warmed39 U.vm ∧ U.heap = h0) (fun _ _ _ _ _ => True) (fun _ U o U' => ∃ v L, o = .returned v ∧ Q_8r Z a1 wt cs h0 n0 v U'.heap L ∧ FrameEnd U o U' L ({ frames := 0, cells := 0, slots := 0, locals := 0 } : Room).cells ({ frames := 0, cells := 0, slots := 0, locals := 0 } : Room).slots) := by
  refine met_of (Ls := #[.val (.ref a1)]) (plainFor_of_name (by first | (simp [plainName, overriddenIn]; done) | decide +kernel)) (fun m => ef_8r m a1) ?_
  intro p e s m below meth c T0 C X0 e0
  have S_cs := hF
  have N0 := Fr.nil n0
  refine g_aloadN (pc' := 1) C X0 d8_0 rfl rfl rfl ?_
  refine g_getF (pc' := 4) C X0 d8_1 (host := "") (Or.inl (hw _ (List.mem_of_getElem? (i := 39) rfl))) Via.refl e0 F_label rfl (fun T1 X1 e1 => ?_)
  refine g_ifnullN (pc' := 7) C X1 d8_4 rfl ?_
  refine g_iconst (pc' := 8) (v := (1 : Int32)) C X1 d8_7 rfl rfl ?_
  refine g_goto (pc' := 12) C X1 d8_8 (by decide) (by decide) ?_
  exact g_retN C X1 (by simp) d8_12 (by decide) (by decide) ⟨congrArg (fun z => some (Value.int z)) (F8r_l0  ).symm, N0, e1⟩
def F9r (wt : Addr) : Addr := wt
theorem F9r_l0 (wt : Addr)  : F9r wt = wt := rfl
theorem ef_9r (m : MethodId) (a1 : Addr) : entryFrame m #[(.ref a1)] 1 = mkF m 0 #[.val (.ref a1)] [] := by first | (simp [entryFrame, mkF, argsToLocals, Value.category]; done) | rfl
def Q_9r (Z : State) (a1 : Addr) (wt : Addr) (cs : Int32) (h0 : Heap) (n0 : Nat) (v : Option Value) (h : Heap) (L : List Loc) : Prop := v = some (.ref (F9r wt)) ∧ Fr n0 L ∧ h = h0
set_option maxRecDepth 65536 in
set_option maxHeartbeats 40000000 in
theorem rm9r (l : Launch) (Z : State) (a0 : Array Value) (hw : ∀ d ∈ tables_1, d.before a0 Z = true) (ws : List Jvm.Cond) (a1 : Addr) (wt : Addr) (cs : Int32) (h0 : Heap) (n0 : Nat) (hF : FX Z h0 cs) (F_label : Fld Z h0 a1 "com/example/caseloom/caseloom/model/Transition" "label" "Ljava/lang/String;" (.ref wt)) :
    MetFree l (⟨"com/example/caseloom/caseloom/model/Transition", "label", "()Ljava/lang/String;"⟩ : MethodName) (head1 (Jvm.Cond.code (⟨"com/example/caseloom/caseloom/model/Transition", "label", "()Ljava/lang/String;"⟩ : MethodName) prog_39_method_3_code 1 (some (.object "java/lang/String")) :: ws) ({ frames := 0, cells := 0, slots := 0, locals := 0 } : Room)) (fun a U => a = #[(.ref a1)] ∧ Z.Warmed39 U.vm ∧ U.heap = h0) (fun _ _ _ _ _ => True) (fun _ U o U' => ∃ v L, o = .returned v ∧ Q_9r Z a1 wt cs h0 n0 v U'.heap L ∧ FrameEnd U o U' L ({ frames := 0, cells := 0, slots := 0, locals := 0 } : Room).cells ({ frames := 0, cells := 0, slots := 0, locals := 0 } : Room).slots) := by
  refine met_of (Ls := #[.val (.ref a1)]) (plainFor_of_name (by first | (simp [plainName, overriddenIn]; done) | decide +kernel)) (fun m => ef_9r m a1) ?_
  intro p e s m below meth c T0 C X0 e0
  have S_cs := hF
  have N0 := Fr.nil n0
  refine g_aloadN (pc' := 1) C X0 d9_0 rfl rfl rfl ?_
  refine g_getF (pc' := 4) C X0 d9_1 (host := "") (Or.inl (hw _ (List.mem_of_getElem? (i := 39) rfl))) Via.refl e0 F_label rfl (fun T1 X1 e1 => ?_)
  exact g_retA C X1 rfl rfl rfl d9_4 (by decide) (by decide) ⟨congrArg (fun z => some (Value.ref z)) (F9r_l0 wt ).symm, N0, e1⟩
theorem own_four (p : Int32) : (p &&& (3 : Int32)) = (0 : Int32) ∨ (p &&& (3 : Int32)) = (1 : Int32) ∨ (p &&& (3 : Int32)) = (2 : Int32) ∨ (p &&& (3 : Int32)) = (3 : Int32) := by
  have e : (p &&& (3 : Int32)).toInt = p.toInt % (2 ^ 2 : Nat) := c_mask p _ 2 (by decide) (by decide)
  obtain ⟨i, hi⟩ := own_fin 4 (p &&& (3 : Int32)) (by omega) (by omega)
  rw [hi]; clear hi; revert i; decide
theorem own_ch (p : Int32) : ¬ ((255 : Int32) < (nar .char (p &&& (255 : Int32)).toUInt32.toUInt16.toUInt32.toInt32)) := by
  have e : (p &&& (255 : Int32)).toInt = p.toInt % (2 ^ 8 : Nat) := c_mask p _ 8 (by decide) (by decide)
  have a := c_i2c (p &&& (255 : Int32))
  have b := c_i2c (p &&& (255 : Int32)).toUInt32.toUInt16.toUInt32.toInt32
  have q : (nar .char (p &&& (255 : Int32)).toUInt32.toUInt16.toUInt32.toInt32).toInt = (p &&& (255 : Int32)).toUInt32.toUInt16.toUInt32.toInt32.toUInt32.toUInt16.toUInt32.toInt32.toInt := rfl
  have z : (255 : Int32).toInt = 255 := by decide
  rw [Int32.lt_iff_toInt_lt]
  omega
theorem pd_4 : parseMethodDescriptor "([C)V" = some ⟨[(.array .char)], none⟩ := by decide +kernel
theorem pd_5 : parseMethodDescriptor "(Ljava/lang/String;Ljava/lang/String;Lcom/example/caseloom/caseloom/model/Marking;Lcom/example/caseloom/caseloom/model/Marking;)V" = some ⟨[(.object "java/lang/String"), (.object "java/lang/String"), (.object "com/example/caseloom/caseloom/model/Marking"), (.object "com/example/caseloom/caseloom/model/Marking")], none⟩ := by decide +kernel
theorem pd_6 : parseMethodDescriptor "()Z" = some ⟨[], some .boolean⟩ := by decide +kernel
theorem pd_7 : parseMethodDescriptor "()Ljava/lang/String;" = some ⟨[], some (.object "java/lang/String")⟩ := by decide +kernel
theorem ef_0 (m : MethodId) (p1 : Int32) (p2 : Int32) (p3 : Int32) (p4 : Int32) : entryFrame m #[(.int p1), (.int p2), (.int p3), (.int p4)] maxLocals = mkF m 0 #[.val (.int p1), .val (.int p2), .val (.int p3), .val (.int p4), .unset, .unset, .unset, .unset, .unset, .unset, .unset, .unset] [] := by first | (simp [entryFrame, mkF, argsToLocals, Value.category, maxLocals]; done) | rfl
def Q_0 (Z : State) (p1 : Int32) (p2 : Int32) (p3 : Int32) (p4 : Int32) (cs : Int32) (h0 : Heap) (n0 : Nat) (v : Option Value) (h : Heap) (L : List Loc) : Prop := v = some (.int 1) ∧ Fr n0 L
set_option maxRecDepth 65536 in
set_option maxHeartbeats 40000000 in
theorem rm0 (l : Launch) (Z : State) (a0 : Array Value) (hw : ∀ d ∈ tables_1, d.before a0 Z = true) (ws : List Jvm.Cond) (p1 : Int32) (p2 : Int32) (p3 : Int32) (p4 : Int32) (cs : Int32) (h0 : Heap) (n0 : Nat) (Z0 : n0 ≤ h0.size) (hF : FX Z h0 cs) (hcs : ¬ (cs = (0 : Int32))) :
    MetFree l x (head1 (Jvm.Cond.code x code maxLocals ret :: ws) room_1) (fun a U => a = #[(.int p1), (.int p2), (.int p3), (.int p4)] ∧ Z.Warmed39 U.vm ∧ U.heap = h0 ∧ (fun U => CHv Z own_EL U.vm h0) U) (fun _ _ _ _ _ => True) (fun _ U o U' => ∃ v L, o = .returned v ∧ Q_0 Z p1 p2 p3 p4 cs h0 n0 v U'.heap L ∧ ReturnedEndW U o U' L 10 22) := by
  refine met_ofW (Ls := #[.val (.int p1), .val (.int p2), .val (.int p3), .val (.int p4), .unset, .unset, .unset, .unset, .unset, .unset, .unset, .unset]) (plainFor_of_name (by first | (simp [plainName, overriddenIn]; done) | decide +kernel)) (fun m => ef_0 m p1 p2 p3 p4) ?_
  intro p e s m below meth c T0 hpx C X0 hS e0
  have S_cs := hF
  have N0 := Fr.nil n0
  refine g_iloadN (pc' := 1) C X0 at_0 rfl rfl ?_
  refine g_iconst (pc' := 2) (v := (3 : Int32)) C X0 at_1 rfl rfl ?_
  refine g_iand (pc' := 3) C X0 at_2 rfl ?_
  refine g_istore (pc' := 5) (Ls' := #[.val (.int p1), .val (.int p2), .val (.int p3), .val (.int p4), .val (.int (p1 &&& (3 : Int32))), .unset, .unset, .unset, .unset, .unset, .unset, .unset]) C X0 at_3 rfl rfl ?_
  refine g_iconst (pc' := 6) (v := (1 : Int32)) C X0 at_5 rfl rfl ?_
  refine g_newP (pc' := 8) (cap := 1) C X0 at_6 (hw _ (List.mem_of_getElem? (i := 0) rfl)) e0 (by decide) (by decide) (by decide) (ce := 1) (sl := 1) rfl rfl (by decide) (by decide) rfl (fun T1 h1 b1 k1 g1 X1 e1 E1 A1 => ?_)
  have sf1_2 := Safe.ext E1 hpx (Safe.new (Nat.le_of_eq g1.symm))
  have ch1 := hpx.ext E1
  have S_cs_1 := S_cs.ext E1
  have gn_b1 : n0 ≤ b1 := Nat.le_trans Z0 (Nat.le_of_eq g1.symm)
  have Z1 := Nat.le_trans Z0 E1.1
  have Kz1 := Nat.le_trans (Nat.zero_le _) E1.1
  have V1 : Arv Z h1 b1 k1 .char (1 : Int32) [(.int (0 : Int32))] (.int (0 : Int32)) := A1.pad (pad_rep [] (.int (0 : Int32)) 1)
  refine g_dup (pc' := 9) C X1 at_8 rfl rfl ?_
  refine g_iconst (pc' := 10) (v := (0 : Int32)) C X1 at_9 rfl rfl ?_
  refine g_iloadN (pc' := 11) C X1 at_10 rfl rfl ?_
  refine g_sipush (pc' := 14) (v := (255 : Int32)) C X1 at_11 rfl rfl ?_
  refine g_iand (pc' := 15) C X1 at_14 rfl ?_
  refine g_i2c (pc' := 16) C X1 at_15 rfl ?_
  refine g_stC (pc' := 17) (i := 0) C X1 at_16 e1 V1 ⟨by decide, by decide⟩ rfl (show (0 : Nat) < 1 from by decide) rfl (fun T3 h3 X3 e3 W3 V3q => ?_)
  have V3 : Arv Z h3 b1 k1 .char (1 : Int32) [(.int (nar .char (p4 &&& (255 : Int32)).toUInt32.toUInt16.toUInt32.toInt32))] (.int (0 : Int32)) := V3q
  have sf3_4 := Safe.wr W3 sf1_2 ch1 sf1_2
  have ch3 := ch1.wr W3 sf1_2
  have S_cs_3 := S_cs_1.wr W3
  have Z3 := Nat.le_trans Z1 (Nat.le_of_eq W3.size.symm)
  have Kz3 := Nat.le_trans Kz1 (Nat.le_of_eq W3.size.symm)
  have N3 := Fr.snoc X3 N0 gn_b1
  refine g_astore (pc' := 19) (Ls' := #[.val (.int p1), .val (.int p2), .val (.int p3), .val (.int p4), .val (.int (p1 &&& (3 : Int32))), .val (.ref b1), .unset, .unset, .unset, .unset, .unset, .unset]) C X3 at_17 rfl rfl rfl ?_
  refine g_new (pc' := 22) C X3 at_19 (hw _ (List.mem_of_getElem? (i := 1) rfl)) (hw _ (List.mem_of_getElem? (i := 2) rfl)) (hw _ (List.mem_of_getElem? (i := 3) rfl)) e3 (ce := 2) (sl := 5) rfl rfl (by decide) (by decide) rfl (fun T5 h5 b5 g5 X5 e5 E5 A5 D5 => ?_)
  have sf5_6 := Safe.ext E5 ch3 sf3_4
  have sf5_7 := Safe.ext E5 ch3 (Safe.new (Nat.le_of_eq g5.symm))
  have ch5 := ch3.ext E5
  have ne5_8 : ¬ (b1 = b5) := Nat.ne_of_lt (Nat.lt_of_lt_of_le V3.lt (Nat.le_of_eq g5.symm))
  have S_cs_5 := S_cs_3.ext E5
  have V3_5 := V3.ext E5
  have gn_b5 : n0 ≤ b5 := Nat.le_trans Z3 (Nat.le_of_eq g5.symm)
  have Z5 := Nat.le_trans Z3 E5.1
  have Kz5 := Nat.le_trans Kz3 E5.1
  have F5_coder : Fld Z h5 b5 "java/lang/String" "coder" "B" (.int (0 : Int32)) := D5 (Or.inr (hw _ (List.mem_of_getElem? (i := 27) rfl))) (ty := .byte) (by decide)
  have F5_value : Fld Z h5 b5 "java/lang/String" "value" "[B" .null := D5 (Or.inr (hw _ (List.mem_of_getElem? (i := 29) rfl))) (ty := (.array .byte)) (by decide)
  refine g_dup (pc' := 23) C X5 at_22 rfl rfl ?_
  refine g_aload (pc' := 25) C X5 at_23 rfl rfl rfl ?_
  refine g_callI (b := b5) (y := (⟨"java/lang/String", "<init>", "([C)V"⟩ : MethodName)) (argsL := [(.ref b1)]) (st := [(.ref b5)]) (pc' := 28) C X5 rfl at_25 (hw _ (List.mem_of_getElem? (i := 4) rfl)) (hw _ (List.mem_of_getElem? (i := 5) rfl)) (hw _ (List.mem_of_getElem? (i := 3) rfl)) (hw _ (List.mem_of_getElem? (i := 6) rfl)) (by decide) (rm1_1 l Z a0 hw [] b5 b1 k1 (nar .char (p4 &&& (255 : Int32)).toUInt32.toUInt16.toUInt32.toInt32) cs h5 n0 Z5 S_cs_5 A5 F5_coder F5_value V3_5 hcs (own_ch _) gn_b5 ne5_8) (W := 1) (by decide) (by decide) (ce := 3) (sl := 6) rfl rfl (by decide) (by decide) rfl e5 rfl pd_4 rfl (Nat.le_refl _) rfl (fun v9 T9 L9 X9 Q9 => ?_)
  obtain ⟨q9, Nq9, Kq9, P9_0⟩ := Q9
  have N9 := Fr.app N3 Nq9
  have hs9 : ∀ x ∈ [b5], Safe Z own_EL _ _ x := (sfS sf5_7 sf0)
  have sf9_10 := Safe.keep Kq9 hs9 ch5 sf5_6
  have sf9_11 := Safe.keep Kq9 hs9 ch5 sf5_7
  have ch9 := ch5.keep Kq9 hs9
  have S_cs_9 := own_sta_keep S_cs_5 Kq9 ((allS (by obtain ⟨c_, _, h1_, _, _, h2_, _⟩ := A5; exact ⟨c_, h1_, h2_⟩) all0))
  have V3_9 := V3_5.keep Kq9 (ninS ne5_8 nin0)
  have Z9 := Nat.le_trans Z5 Kq9.1
  have Kz9 := Nat.le_trans Kz5 Kq9.1
  subst q9
  show Go p.tables e below _ (T9.setTop (mkF m 28 #[.val (.int p1), .val (.int p2), .val (.int p3), .val (.int p4), .val (.int (p1 &&& (3 : Int32))), .val (.ref b1), .unset, .unset, .unset, .unset, .unset, .unset] [(.ref b5)]))
  refine g_astore (pc' := 30) (Ls' := #[.val (.int p1), .val (.int p2), .val (.int p3), .val (.int p4), .val (.int (p1 &&& (3 : Int32))), .val (.ref b1), .val (.ref b5), .unset, .unset, .unset, .unset, .unset]) C X9 at_28 rfl rfl rfl ?_
  rcases own_four p1 with s12 | s12 | s12 | s12
  · refine own_cast (show T9.setTop (mkF m 30 #[.val (.int p1), .val (.int p2), .val (.int p3), .val (.int p4), .val (.int (p1 &&& (3 : Int32))), .val (.ref b1), .val (.ref b5), .unset, .unset, .unset, .unset, .unset] []) = T9.setTop (mkF m 30 #[.val (.int p1), .val (.int p2), .val (.int p3), .val (.int p4), .val (.int (0 : Int32)), .val (.ref b1), .val (.ref b5), .unset, .unset, .unset, .unset, .unset] []) from by rw [s12]) ?_
    refine g_iload (pc' := 32) C X9 at_30 rfl rfl ?_
    refine g_ifN (pc' := 35) C X9 at_32 (teq (show (0 : Int32) = (0 : Int32) from (by decide))).2 rfl ?_
    refine g_null (pc' := 36) C X9 at_35 rfl ?_
    refine g_astore (pc' := 38) (Ls' := #[.val (.int p1), .val (.int p2), .val (.int p3), .val (.int p4), .val (.int (0 : Int32)), .val (.ref b1), .val (.ref b5), .val .null, .unset, .unset, .unset, .unset]) C X9 at_36 rfl rfl rfl ?_
    refine g_goto (pc' := 130) C X9 at_38 (by decide) (by decide) ?_
    refine g_new (pc' := 133) C X9 at_130 (hw _ (List.mem_of_getElem? (i := 30) rfl)) (hw _ (List.mem_of_getElem? (i := 31) rfl)) (hw _ (List.mem_of_getElem? (i := 32) rfl)) rfl (ce := 4) (sl := 10) rfl rfl (by decide) (by decide) rfl (fun T13 h13 b13 g13 X13 e13 E13 A13 D13 => ?_)
    have sf13_14 := Safe.ext E13 ch9 sf9_10
    have sf13_15 := Safe.ext E13 ch9 sf9_11
    have sf13_16 := Safe.ext E13 ch9 (Safe.new (Nat.le_of_eq g13.symm))
    have ch13 := ch9.ext E13
    have ne13_17 : ¬ (b1 = b13) := Nat.ne_of_lt (Nat.lt_of_lt_of_le V3_9.lt (Nat.le_of_eq g13.symm))
    have ne13_18 : ¬ (b5 = b13) := Nat.ne_of_lt (Nat.lt_of_lt_of_le P9_0.lt (Nat.le_of_eq g13.symm))
    have S_cs_13 := S_cs_9.ext E13
    have V3_13 := V3_9.ext E13
    have P9_0_13 := P9_0.ext E13
    have gn_b13 : n0 ≤ b13 := Nat.le_trans Z9 (Nat.le_of_eq g13.symm)
    have Z13 := Nat.le_trans Z9 E13.1
    have Kz13 := Nat.le_trans Kz9 E13.1
    have F13_id : Fld Z h13 b13 "com/example/caseloom/caseloom/model/Transition" "id" "Ljava/lang/String;" .null := D13 (Or.inr (hw _ (List.mem_of_getElem? (i := 38) rfl))) (ty := (.object "java/lang/String")) (by decide)
    have F13_label : Fld Z h13 b13 "com/example/caseloom/caseloom/model/Transition" "label" "Ljava/lang/String;" .null := D13 (Or.inr (hw _ (List.mem_of_getElem? (i := 40) rfl))) (ty := (.object "java/lang/String")) (by decide)
    have F13_inputs : Fld Z h13 b13 "com/example/caseloom/caseloom/model/Transition" "inputs" "Lcom/example/caseloom/caseloom/model/Marking;" .null := D13 (Or.inr (hw _ (List.mem_of_getElem? (i := 42) rfl))) (ty := (.object "com/example/caseloom/caseloom/model/Marking")) (by decide)
    have F13_outputs : Fld Z h13 b13 "com/example/caseloom/caseloom/model/Transition" "outputs" "Lcom/example/caseloom/caseloom/model/Marking;" .null := D13 (Or.inr (hw _ (List.mem_of_getElem? (i := 44) rfl))) (ty := (.object "com/example/caseloom/caseloom/model/Marking")) (by decide)
    refine g_dup (pc' := 134) C X13 at_133 rfl rfl ?_
    refine g_aload (pc' := 136) C X13 at_134 rfl rfl rfl ?_
    refine g_aload (pc' := 138) C X13 at_136 rfl rfl rfl ?_
    refine g_null (pc' := 139) C X13 at_138 rfl ?_
    refine g_null (pc' := 140) C X13 at_139 rfl ?_
    refine g_callI (b := b13) (y := (⟨"com/example/caseloom/caseloom/model/Transition", "<init>", "(Ljava/lang/String;Ljava/lang/String;Lcom/example/caseloom/caseloom/model/Marking;Lcom/example/caseloom/caseloom/model/Marking;)V"⟩ : MethodName)) (argsL := [(.ref b5), .null, .null, .null]) (st := [(.ref b13)]) (pc' := 143) C X13 rfl at_140 (hw _ (List.mem_of_getElem? (i := 33) rfl)) (hw _ (List.mem_of_getElem? (i := 34) rfl)) (hw _ (List.mem_of_getElem? (i := 32) rfl)) (hw _ (List.mem_of_getElem? (i := 35) rfl)) (by decide) (rm7n l Z a0 hw [] b13 b5 cs h13 n0 Z13 S_cs_13 A13 F13_id F13_label F13_inputs F13_outputs gn_b13) (W := 1) (by decide) (by decide) (ce := 4) (sl := 10) rfl rfl (by decide) (by decide) rfl e13 rfl pd_5 rfl (Nat.le_refl _) rfl (fun v19 T19 L19 X19 Q19 => ?_)
    obtain ⟨q19, Nq19, Kq19, P19_0, P19_1⟩ := Q19
    have N19 := Fr.app N9 Nq19
    have hs19 : ∀ x ∈ [b13], Safe Z own_EL _ _ x := (sfS sf13_16 sf0)
    have sf19_20 := Safe.keep Kq19 hs19 ch13 sf13_14
    have sf19_21 := Safe.keep Kq19 hs19 ch13 sf13_15
    have sf19_22 := Safe.keep Kq19 hs19 ch13 sf13_16
    have ch19 := ch13.keep Kq19 hs19
    have S_cs_19 := own_sta_keep S_cs_13 Kq19 ((allS (by obtain ⟨c_, _, h1_, _, _, h2_, _⟩ := A13; exact ⟨c_, h1_, h2_⟩) all0))
    have V3_19 := V3_13.keep Kq19 (ninS ne13_17 nin0)
    have P9_0_19 := P9_0_13.keep Kq19
    have Z19 := Nat.le_trans Z13 Kq19.1
    have Kz19 := Nat.le_trans Kz13 Kq19.1
    subst q19
    show Go p.tables e below _ (T19.setTop (mkF m 143 #[.val (.int p1), .val (.int p2), .val (.int p3), .val (.int p4), .val (.int (0 : Int32)), .val (.ref b1), .val (.ref b5), .val .null, .unset, .unset, .unset, .unset] [(.ref b13)]))
    refine g_astore (pc' := 145) (Ls' := #[.val (.int p1), .val (.int p2), .val (.int p3), .val (.int p4), .val (.int (0 : Int32)), .val (.ref b1), .val (.ref b5), .val .null, .val (.ref b13), .unset, .unset, .unset]) C X19 at_143 rfl rfl rfl ?_
    refine g_aload (pc' := 147) C X19 at_145 rfl rfl rfl ?_
    refine g_callV (b := b13) (z := (⟨"com/example/caseloom/caseloom/model/Transition", "isTask", "()Z"⟩ : MethodName)) (y := (⟨"com/example/caseloom/caseloom/model/Transition", "isTask", "()Z"⟩ : MethodName)) (argsL := []) (st := []) (pc' := 150) C X19 at_147 (hw _ (List.mem_of_getElem? (i := 45) rfl)) (hw _ (List.mem_of_getElem? (i := 46) rfl)) (notFace_of_selects (args := #[]) (mvT C.hZ (hw _ (List.mem_of_getElem? (i := 48) rfl)))) (hw _ (List.mem_of_getElem? (i := 48) rfl)) (hw _ (List.mem_of_getElem? (i := 47) rfl)) (hw _ (List.mem_of_getElem? (i := 32) rfl)) (hw _ (List.mem_of_getElem? (i := 49) rfl)) (by decide) (rm8n l Z a0 hw [] b13 cs T19.heap n0 S_cs_19 P19_1) (W := 0) (by decide) (by decide) (ce := 4) (sl := 10) rfl rfl (by decide) (by decide) rfl P19_0 rfl rfl pd_6 rfl (Nat.le_refl _) rfl (fun v23 T23 L23 X23 Q23 => ?_)
    obtain ⟨q23, Nq23, e23⟩ := Q23
    have N23 := Fr.app N19 Nq23
    rw [F8n_l0 ] at q23
    subst q23
    show Go p.tables e below _ (T23.setTop (mkF m 150 #[.val (.int p1), .val (.int p2), .val (.int p3), .val (.int p4), .val (.int (0 : Int32)), .val (.ref b1), .val (.ref b5), .val .null, .val (.ref b13), .unset, .unset, .unset] [(.int (0 : Int32))]))
    refine g_istore (pc' := 152) (Ls' := #[.val (.int p1), .val (.int p2), .val (.int p3), .val (.int p4), .val (.int (0 : Int32)), .val (.ref b1), .val (.ref b5), .val .null, .val (.ref b13), .val (.int (0 : Int32)), .unset, .unset]) C X23 at_150 rfl rfl ?_
    refine g_iload (pc' := 154) C X23 at_152 rfl rfl ?_
    refine g_ifY (pc' := 161) C X23 at_154 (teq (show (0 : Int32) = (0 : Int32) from (by decide))).1 (by decide) (by decide) ?_
    refine g_iconst (pc' := 162) (v := (0 : Int32)) C X23 at_161 rfl rfl ?_
    refine g_istore (pc' := 164) (Ls' := #[.val (.int p1), .val (.int p2), .val (.int p3), .val (.int p4), .val (.int (0 : Int32)), .val (.ref b1), .val (.ref b5), .val .null, .val (.ref b13), .val (.int (0 : Int32)), .val (.int (0 : Int32)), .unset]) C X23 at_162 rfl rfl ?_
    refine g_aload (pc' := 166) C X23 at_164 rfl rfl rfl ?_
    refine g_callV (b := b13) (z := (⟨"com/example/caseloom/caseloom/model/Transition", "label", "()Ljava/lang/String;"⟩ : MethodName)) (y := (⟨"com/example/caseloom/caseloom/model/Transition", "label", "()Ljava/lang/String;"⟩ : MethodName)) (argsL := []) (st := []) (pc' := 169) C X23 at_166 (hw _ (List.mem_of_getElem? (i := 50) rfl)) (hw _ (List.mem_of_getElem? (i := 51) rfl)) (notFace_of_selects (args := #[]) (mvT C.hZ (hw _ (List.mem_of_getElem? (i := 53) rfl)))) (hw _ (List.mem_of_getElem? (i := 53) rfl)) (hw _ (List.mem_of_getElem? (i := 52) rfl)) (hw _ (List.mem_of_getElem? (i := 32) rfl)) (hw _ (List.mem_of_getElem? (i := 54) rfl)) (by decide) (rm9n l Z a0 hw [] b13 cs T19.heap n0 S_cs_19 P19_1) (W := 0) (by decide) (by decide) (ce := 4) (sl := 10) rfl rfl (by decide) (by decide) rfl P19_0 e23 rfl pd_7 rfl (Nat.le_refl _) rfl (fun v24 T24 L24 X24 Q24 => ?_)
    obtain ⟨q24, Nq24, e24⟩ := Q24
    have N24 := Fr.app N23 Nq24
    rw [F9n_l0 ] at q24
    subst q24
    show Go p.tables e below _ (T24.setTop (mkF m 169 #[.val (.int p1), .val (.int p2), .val (.int p3), .val (.int p4), .val (.int (0 : Int32)), .val (.ref b1), .val (.ref b5), .val .null, .val (.ref b13), .val (.int (0 : Int32)), .val (.int (0 : Int32)), .unset] [.null]))
    refine g_astore (pc' := 171) (Ls' := #[.val (.int p1), .val (.int p2), .val (.int p3), .val (.int p4), .val (.int (0 : Int32)), .val (.ref b1), .val (.ref b5), .val .null, .val (.ref b13), .val (.int (0 : Int32)), .val (.int (0 : Int32)), .val .null]) C X24 at_169 rfl rfl rfl ?_
    refine g_iload (pc' := 173) C X24 at_171 rfl rfl ?_
    refine g_iload (pc' := 175) C X24 at_173 rfl rfl ?_
    refine g_icmpN (pc' := 178) C X24 at_175 (teq (show (0 : Int32) = (0 : Int32) from (by decide))).2 rfl ?_
    refine g_iload (pc' := 180) C X24 at_178 rfl rfl ?_
    refine g_aload (pc' := 182) C X24 at_180 rfl rfl rfl ?_
    refine g_ifnullY (pc' := 189) C X24 at_182 (by decide) (by decide) ?_
    refine g_iconst (pc' := 190) (v := (0 : Int32)) C X24 at_189 rfl rfl ?_
    refine g_icmpN (pc' := 193) C X24 at_190 (teq (show (0 : Int32) = (0 : Int32) from (by decide))).2 rfl ?_
    refine g_aload (pc' := 195) C X24 at_193 rfl rfl rfl ?_
    refine g_aload (pc' := 197) C X24 at_195 rfl rfl rfl ?_
    refine g_acmp (pc' := 200) (same := true) C X24 at_197 rfl rfl (decide_eq_true rfl) (by decide) (by decide) ?_
    refine g_iconst (pc' := 201) (v := (1 : Int32)) C X24 at_200 rfl rfl ?_
    refine g_goto (pc' := 205) C X24 at_201 (by decide) (by decide) ?_
    exact g_retNW C X24 hS (by rw [e24]; exact Kz19) (by simp) at_205 (by decide) (by decide) ⟨rfl, N24⟩
  · refine own_cast (show T9.setTop (mkF m 30 #[.val (.int p1), .val (.int p2), .val (.int p3), .val (.int p4), .val (.int (p1 &&& (3 : Int32))), .val (.ref b1), .val (.ref b5), .unset, .unset, .unset, .unset, .unset] []) = T9.setTop (mkF m 30 #[.val (.int p1), .val (.int p2), .val (.int p3), .val (.int p4), .val (.int (1 : Int32)), .val (.ref b1), .val (.ref b5), .unset, .unset, .unset, .unset, .unset] []) from by rw [s12]) ?_
    refine g_iload (pc' := 32) C X9 at_30 rfl rfl ?_
    refine g_ifY (pc' := 41) C X9 at_32 (feq (show ¬ ((1 : Int32) = (0 : Int32)) from (by decide))).2 (by decide) (by decide) ?_
    refine g_iload (pc' := 43) C X9 at_41 rfl rfl ?_
    refine g_iconst (pc' := 44) (v := (1 : Int32)) C X9 at_43 rfl rfl ?_
    refine g_icmpN (pc' := 47) C X9 at_44 (teq (show (1 : Int32) = (1 : Int32) from (by decide))).2 rfl ?_
    refine g_new (pc' := 50) C X9 at_47 (hw _ (List.mem_of_getElem? (i := 1) rfl)) (hw _ (List.mem_of_getElem? (i := 2) rfl)) (hw _ (List.mem_of_getElem? (i := 3) rfl)) rfl (ce := 4) (sl := 10) rfl rfl (by decide) (by decide) rfl (fun T25 h25 b25 g25 X25 e25 E25 A25 D25 => ?_)
    have sf25_26 := Safe.ext E25 ch9 sf9_10
    have sf25_27 := Safe.ext E25 ch9 sf9_11
    have sf25_28 := Safe.ext E25 ch9 (Safe.new (Nat.le_of_eq g25.symm))
    have ch25 := ch9.ext E25
    have ne25_29 : ¬ (b1 = b25) := Nat.ne_of_lt (Nat.lt_of_lt_of_le V3_9.lt (Nat.le_of_eq g25.symm))
    have ne25_30 : ¬ (b5 = b25) := Nat.ne_of_lt (Nat.lt_of_lt_of_le P9_0.lt (Nat.le_of_eq g25.symm))
    have S_cs_25 := S_cs_9.ext E25
    have V3_25 := V3_9.ext E25
    have P9_0_25 := P9_0.ext E25
    have gn_b25 : n0 ≤ b25 := Nat.le_trans Z9 (Nat.le_of_eq g25.symm)
    have Z25 := Nat.le_trans Z9 E25.1
    have Kz25 := Nat.le_trans Kz9 E25.1
    have F25_coder : Fld Z h25 b25 "java/lang/String" "coder" "B" (.int (0 : Int32)) := D25 (Or.inr (hw _ (List.mem_of_getElem? (i := 27) rfl))) (ty := .byte) (by decide)
    have F25_value : Fld Z h25 b25 "java/lang/String" "value" "[B" .null := D25 (Or.inr (hw _ (List.mem_of_getElem? (i := 29) rfl))) (ty := (.array .byte)) (by decide)
    refine g_dup (pc' := 51) C X25 at_50 rfl rfl ?_
    refine g_iconst (pc' := 52) (v := (0 : Int32)) C X25 at_51 rfl rfl ?_
    refine g_newP (pc' := 54) (cap := 0) C X25 at_52 (hw _ (List.mem_of_getElem? (i := 0) rfl)) e25 (by decide) (by decide) (by decide) (ce := 5) (sl := 10) rfl rfl (by decide) (by decide) rfl (fun T31 h31 b31 k31 g31 X31 e31 E31 A31 => ?_)
    have sf31_32 := Safe.ext E31 ch25 sf25_26
    have sf31_33 := Safe.ext E31 ch25 sf25_27
    have sf31_34 := Safe.ext E31 ch25 sf25_28
    have sf31_35 := Safe.ext E31 ch25 (Safe.new (Nat.le_of_eq g31.symm))
    have ch31 := ch25.ext E31
    have ne31_36 : ¬ (b1 = b31) := Nat.ne_of_lt (Nat.lt_of_lt_of_le V3_25.lt (Nat.le_of_eq g31.symm))
    have ne31_37 : ¬ (b5 = b31) := Nat.ne_of_lt (Nat.lt_of_lt_of_le P9_0_25.lt (Nat.le_of_eq g31.symm))
    have ne31_38 : ¬ (b25 = b31) := Nat.ne_of_lt (Nat.lt_of_lt_of_le A25.lt (Nat.le_of_eq g31.symm))
    have S_cs_31 := S_cs_25.ext E31
    have V3_31 := V3_25.ext E31
    have P9_0_31 := P9_0_25.ext E31
    have A25_31 := A25.ext E31
    have F25_coder_31 := F25_coder.ext E31
    have F25_value_31 := F25_value.ext E31
    have gn_b31 : n0 ≤ b31 := Nat.le_trans Z25 (Nat.le_of_eq g31.symm)
    have Z31 := Nat.le_trans Z25 E31.1
    have Kz31 := Nat.le_trans Kz25 E31.1
    have V31 : Arv Z h31 b31 k31 .char (0 : Int32) [] (.int (0 : Int32)) := A31.pad (pad_rep [] (.int (0 : Int32)) 0)
    refine g_callIH (b := b25) (y := (⟨"java/lang/String", "<init>", "([C)V"⟩ : MethodName)) (argsL := [(.ref b31)]) (st := [(.ref b25)]) (pc' := 57) C X31 hS Kz31 (own_ew hw) ch31 rfl at_54 (hw _ (List.mem_of_getElem? (i := 4) rfl)) (hw _ (List.mem_of_getElem? (i := 5) rfl)) (hw _ (List.mem_of_getElem? (i := 3) rfl)) (hw _ (List.mem_of_getElem? (i := 6) rfl)) (by decide) (rm1_0 l Z a0 hw [] b25 b31 k31 cs h31 n0 Z31 S_cs_31 A25_31 F25_coder_31 F25_value_31 V31 gn_b25) (W := 1) (by decide) (by decide) (ce := 9) (sl := 18) rfl rfl (by decide) (by decide) rfl e31 rfl pd_4 rfl (Nat.le_refl _) rfl (fun v39 T39 L39 C X39 hS Q39 => ?_)
    obtain ⟨q39, Nq39, Kq39, P39_0⟩ := Q39
    have N39 := Fr.app N9 Nq39
    have S_cs_39 := own_sta_keep S_cs_31 Kq39 ((allS (by obtain ⟨c_, _, h1_, _, _, h2_, _⟩ := A25_31; exact ⟨c_, h1_, h2_⟩) all0))
    have V3_39 := V3_31.keep Kq39 (ninS ne25_29 nin0)
    have P9_0_39 := P9_0_31.keep Kq39
    have V31_39 := V31.keep Kq39 (ninS (Ne.symm ne31_38) nin0)
    have Z39 := Nat.le_trans Z31 Kq39.1
    have Kz39 := Nat.le_trans Kz31 Kq39.1
    subst q39
    show Go p.tables e below _ (T39.setTop (mkF m 57 #[.val (.int p1), .val (.int p2), .val (.int p3), .val (.int p4), .val (.int (1 : Int32)), .val (.ref b1), .val (.ref b5), .unset, .unset, .unset, .unset, .unset] [(.ref b25)]))
    refine g_astore (pc' := 59) (Ls' := #[.val (.int p1), .val (.int p2), .val (.int p3), .val (.int p4), .val (.int (1 : Int32)), .val (.ref b1), .val (.ref b5), .val (.ref b25), .unset, .unset, .unset, .unset]) C X39 at_57 rfl rfl rfl ?_
    refine g_goto (pc' := 130) C X39 at_59 (by decide) (by decide) ?_
    refine g_new (pc' := 133) C X39 at_130 (hw _ (List.mem_of_getElem? (i := 30) rfl)) (hw _ (List.mem_of_getElem? (i := 31) rfl)) (hw _ (List.mem_of_getElem? (i := 32) rfl)) rfl (ce := 10) (sl := 22) rfl rfl (by decide) (by decide) rfl (fun T40 h40 b40 g40 X40 e40 E40 A40 D40 => ?_)
    have ne40_41 : ¬ (b1 = b40) := Nat.ne_of_lt (Nat.lt_of_lt_of_le V3_39.lt (Nat.le_of_eq g40.symm))
    have ne40_42 : ¬ (b5 = b40) := Nat.ne_of_lt (Nat.lt_of_lt_of_le P9_0_39.lt (Nat.le_of_eq g40.symm))
    have ne40_43 : ¬ (b31 = b40) := Nat.ne_of_lt (Nat.lt_of_lt_of_le V31_39.lt (Nat.le_of_eq g40.symm))
    have ne40_44 : ¬ (b25 = b40) := Nat.ne_of_lt (Nat.lt_of_lt_of_le P39_0.lt (Nat.le_of_eq g40.symm))
    have S_cs_40 := S_cs_39.ext E40
    have V3_40 := V3_39.ext E40
    have P9_0_40 := P9_0_39.ext E40
    have V31_40 := V31_39.ext E40
    have P39_0_40 := P39_0.ext E40
    have gn_b40 : n0 ≤ b40 := Nat.le_trans Z39 (Nat.le_of_eq g40.symm)
    have Z40 := Nat.le_trans Z39 E40.1
    have Kz40 := Nat.le_trans (Nat.le_refl _) E40.1
    have F40_id : Fld Z h40 b40 "com/example/caseloom/caseloom/model/Transition" "id" "Ljava/lang/String;" .null := D40 (Or.inr (hw _ (List.mem_of_getElem? (i := 38) rfl))) (ty := (.object "java/lang/String")) (by decide)
    have F40_label : Fld Z h40 b40 "com/example/caseloom/caseloom/model/Transition" "label" "Ljava/lang/String;" .null := D40 (Or.inr (hw _ (List.mem_of_getElem? (i := 40) rfl))) (ty := (.object "java/lang/String")) (by decide)
    have F40_inputs : Fld Z h40 b40 "com/example/caseloom/caseloom/model/Transition" "inputs" "Lcom/example/caseloom/caseloom/model/Marking;" .null := D40 (Or.inr (hw _ (List.mem_of_getElem? (i := 42) rfl))) (ty := (.object "com/example/caseloom/caseloom/model/Marking")) (by decide)
    have F40_outputs : Fld Z h40 b40 "com/example/caseloom/caseloom/model/Transition" "outputs" "Lcom/example/caseloom/caseloom/model/Marking;" .null := D40 (Or.inr (hw _ (List.mem_of_getElem? (i := 44) rfl))) (ty := (.object "com/example/caseloom/caseloom/model/Marking")) (by decide)
    refine g_dup (pc' := 134) C X40 at_133 rfl rfl ?_
    refine g_aload (pc' := 136) C X40 at_134 rfl rfl rfl ?_
    refine g_aload (pc' := 138) C X40 at_136 rfl rfl rfl ?_
    refine g_null (pc' := 139) C X40 at_138 rfl ?_
    refine g_null (pc' := 140) C X40 at_139 rfl ?_
    refine g_callI (b := b40) (y := (⟨"com/example/caseloom/caseloom/model/Transition", "<init>", "(Ljava/lang/String;Ljava/lang/String;Lcom/example/caseloom/caseloom/model/Marking;Lcom/example/caseloom/caseloom/model/Marking;)V"⟩ : MethodName)) (argsL := [(.ref b5), (.ref b25), .null, .null]) (st := [(.ref b40)]) (pc' := 143) C X40 rfl at_140 (hw _ (List.mem_of_getElem? (i := 33) rfl)) (hw _ (List.mem_of_getElem? (i := 34) rfl)) (hw _ (List.mem_of_getElem? (i := 32) rfl)) (hw _ (List.mem_of_getElem? (i := 35) rfl)) (by decide) (rm7r l Z a0 hw [] b40 b5 b25 cs h40 n0 Z40 S_cs_40 A40 F40_id F40_label F40_inputs F40_outputs gn_b40) (W := 1) (by decide) (by decide) (ce := 10) (sl := 22) rfl rfl (by decide) (by decide) rfl e40 rfl pd_5 rfl (Nat.le_refl _) rfl (fun v45 T45 L45 X45 Q45 => ?_)
    obtain ⟨q45, Nq45, Kq45, P45_0, P45_1⟩ := Q45
    have N45 := Fr.app N39 Nq45
    have S_cs_45 := own_sta_keep S_cs_40 Kq45 ((allS (by obtain ⟨c_, _, h1_, _, _, h2_, _⟩ := A40; exact ⟨c_, h1_, h2_⟩) all0))
    have V3_45 := V3_40.keep Kq45 (ninS ne40_41 nin0)
    have P9_0_45 := P9_0_40.keep Kq45
    have V31_45 := V31_40.keep Kq45 (ninS ne40_43 nin0)
    have P39_0_45 := P39_0_40.keep Kq45
    have Z45 := Nat.le_trans Z40 Kq45.1
    have Kz45 := Nat.le_trans Kz40 Kq45.1
    subst q45
    show Go p.tables e below _ (T45.setTop (mkF m 143 #[.val (.int p1), .val (.int p2), .val (.int p3), .val (.int p4), .val (.int (1 : Int32)), .val (.ref b1), .val (.ref b5), .val (.ref b25), .unset, .unset, .unset, .unset] [(.ref b40)]))
    refine g_astore (pc' := 145) (Ls' := #[.val (.int p1), .val (.int p2), .val (.int p3), .val (.int p4), .val (.int (1 : Int32)), .val (.ref b1), .val (.ref b5), .val (.ref b25), .val (.ref b40), .unset, .unset, .unset]) C X45 at_143 rfl rfl rfl ?_
    refine g_aload (pc' := 147) C X45 at_145 rfl rfl rfl ?_
    refine g_callV (b := b40) (z := (⟨"com/example/caseloom/caseloom/model/Transition", "isTask", "()Z"⟩ : MethodName)) (y := (⟨"com/example/caseloom/caseloom/model/Transition", "isTask", "()Z"⟩ : MethodName)) (argsL := []) (st := []) (pc' := 150) C X45 at_147 (hw _ (List.mem_of_getElem? (i := 45) rfl)) (hw _ (List.mem_of_getElem? (i := 46) rfl)) (notFace_of_selects (args := #[]) (mvT C.hZ (hw _ (List.mem_of_getElem? (i := 48) rfl)))) (hw _ (List.mem_of_getElem? (i := 48) rfl)) (hw _ (List.mem_of_getElem? (i := 47) rfl)) (hw _ (List.mem_of_getElem? (i := 32) rfl)) (hw _ (List.mem_of_getElem? (i := 49) rfl)) (by decide) (rm8r l Z a0 hw [] b40 b25 cs T45.heap n0 S_cs_45 P45_1) (W := 0) (by decide) (by decide) (ce := 10) (sl := 22) rfl rfl (by decide) (by decide) rfl P45_0 rfl rfl pd_6 rfl (Nat.le_refl _) rfl (fun v46 T46 L46 X46 Q46 => ?_)
    obtain ⟨q46, Nq46, e46⟩ := Q46
    have N46 := Fr.app N45 Nq46
    rw [F8r_l0 ] at q46
    subst q46
    show Go p.tables e below _ (T46.setTop (mkF m 150 #[.val (.int p1), .val (.int p2), .val (.int p3), .val (.int p4), .val (.int (1 : Int32)), .val (.ref b1), .val (.ref b5), .val (.ref b25), .val (.ref b40), .unset, .unset, .unset] [(.int (1 : Int32))]))
    refine g_istore (pc' := 152) (Ls' := #[.val (.int p1), .val (.int p2), .val (.int p3), .val (.int p4), .val (.int (1 : Int32)), .val (.ref b1), .val (.ref b5), .val (.ref b25), .val (.ref b40), .val (.int (1 : Int32)), .unset, .unset]) C X46 at_150 rfl rfl ?_
    refine g_iload (pc' := 154) C X46 at_152 rfl rfl ?_
    refine g_ifN (pc' := 157) C X46 at_154 (feq (show ¬ ((1 : Int32) = (0 : Int32)) from (by decide))).1 rfl ?_
    refine g_iconst (pc' := 158) (v := (1 : Int32)) C X46 at_157 rfl rfl ?_
    refine g_goto (pc' := 162) C X46 at_158 (by decide) (by decide) ?_
    refine g_istore (pc' := 164) (Ls' := #[.val (.int p1), .val (.int p2), .val (.int p3), .val (.int p4), .val (.int (1 : Int32)), .val (.ref b1), .val (.ref b5), .val (.ref b25), .val (.ref b40), .val (.int (1 : Int32)), .val (.int (1 : Int32)), .unset]) C X46 at_162 rfl rfl ?_
    refine g_aload (pc' := 166) C X46 at_164 rfl rfl rfl ?_
    refine g_callV (b := b40) (z := (⟨"com/example/caseloom/caseloom/model/Transition", "label", "()Ljava/lang/String;"⟩ : MethodName)) (y := (⟨"com/example/caseloom/caseloom/model/Transition", "label", "()Ljava/lang/String;"⟩ : MethodName)) (argsL := []) (st := []) (pc' := 169) C X46 at_166 (hw _ (List.mem_of_getElem? (i := 50) rfl)) (hw _ (List.mem_of_getElem? (i := 51) rfl)) (notFace_of_selects (args := #[]) (mvT C.hZ (hw _ (List.mem_of_getElem? (i := 53) rfl)))) (hw _ (List.mem_of_getElem? (i := 53) rfl)) (hw _ (List.mem_of_getElem? (i := 52) rfl)) (hw _ (List.mem_of_getElem? (i := 32) rfl)) (hw _ (List.mem_of_getElem? (i := 54) rfl)) (by decide) (rm9r l Z a0 hw [] b40 b25 cs T45.heap n0 S_cs_45 P45_1) (W := 0) (by decide) (by decide) (ce := 10) (sl := 22) rfl rfl (by decide) (by decide) rfl P45_0 e46 rfl pd_7 rfl (Nat.le_refl _) rfl (fun v47 T47 L47 X47 Q47 => ?_)
    obtain ⟨q47, Nq47, e47⟩ := Q47
    have N47 := Fr.app N46 Nq47
    rw [F9r_l0 b25] at q47
    subst q47
    show Go p.tables e below _ (T47.setTop (mkF m 169 #[.val (.int p1), .val (.int p2), .val (.int p3), .val (.int p4), .val (.int (1 : Int32)), .val (.ref b1), .val (.ref b5), .val (.ref b25), .val (.ref b40), .val (.int (1 : Int32)), .val (.int (1 : Int32)), .unset] [(.ref b25)]))
    refine g_astore (pc' := 171) (Ls' := #[.val (.int p1), .val (.int p2), .val (.int p3), .val (.int p4), .val (.int (1 : Int32)), .val (.ref b1), .val (.ref b5), .val (.ref b25), .val (.ref b40), .val (.int (1 : Int32)), .val (.int (1 : Int32)), .val (.ref b25)]) C X47 at_169 rfl rfl rfl ?_
    refine g_iload (pc' := 173) C X47 at_171 rfl rfl ?_
    refine g_iload (pc' := 175) C X47 at_173 rfl rfl ?_
    refine g_icmpN (pc' := 178) C X47 at_175 (teq (show (1 : Int32) = (1 : Int32) from (by decide))).2 rfl ?_
    refine g_iload (pc' := 180) C X47 at_178 rfl rfl ?_
    refine g_aload (pc' := 182) C X47 at_180 rfl rfl rfl ?_
    refine g_ifnullN (pc' := 185) C X47 at_182 rfl ?_
    refine g_iconst (pc' := 186) (v := (1 : Int32)) C X47 at_185 rfl rfl ?_
    refine g_goto (pc' := 190) C X47 at_186 (by decide) (by decide) ?_
    refine g_icmpN (pc' := 193) C X47 at_190 (teq (show (1 : Int32) = (1 : Int32) from (by decide))).2 rfl ?_
    refine g_aload (pc' := 195) C X47 at_193 rfl rfl rfl ?_
    refine g_aload (pc' := 197) C X47 at_195 rfl rfl rfl ?_
    refine g_acmp (pc' := 200) (same := true) C X47 at_197 rfl rfl (decide_eq_true rfl) (by decide) (by decide) ?_
    refine g_iconst (pc' := 201) (v := (1 : Int32)) C X47 at_200 rfl rfl ?_
    refine g_goto (pc' := 205) C X47 at_201 (by decide) (by decide) ?_
    exact g_retNW C X47 hS (by rw [e47]; exact Kz45) (by simp) at_205 (by decide) (by decide) ⟨rfl, N47⟩
  · refine own_cast (show T9.setTop (mkF m 30 #[.val (.int p1), .val (.int p2), .val (.int p3), .val (.int p4), .val (.int (p1 &&& (3 : Int32))), .val (.ref b1), .val (.ref b5), .unset, .unset, .unset, .unset, .unset] []) = T9.setTop (mkF m 30 #[.val (.int p1), .val (.int p2), .val (.int p3), .val (.int p4), .val (.int (2 : Int32)), .val (.ref b1), .val (.ref b5), .unset, .unset, .unset, .unset, .unset] []) from by rw [s12]) ?_
    refine g_iload (pc' := 32) C X9 at_30 rfl rfl ?_
    refine g_ifY (pc' := 41) C X9 at_32 (feq (show ¬ ((2 : Int32) = (0 : Int32)) from (by decide))).2 (by decide) (by decide) ?_
    refine g_iload (pc' := 43) C X9 at_41 rfl rfl ?_
    refine g_iconst (pc' := 44) (v := (1 : Int32)) C X9 at_43 rfl rfl ?_
    refine g_icmpY (pc' := 62) C X9 at_44 (feq (show ¬ ((2 : Int32) = (1 : Int32)) from (by decide))).2 (by decide) (by decide) ?_
    refine g_iload (pc' := 64) C X9 at_62 rfl rfl ?_
    refine g_iconst (pc' := 65) (v := (2 : Int32)) C X9 at_64 rfl rfl ?_
    refine g_icmpN (pc' := 68) C X9 at_65 (teq (show (2 : Int32) = (2 : Int32) from (by decide))).2 rfl ?_
    refine g_iconst (pc' := 69) (v := (1 : Int32)) C X9 at_68 rfl rfl ?_
    refine g_newP (pc' := 71) (cap := 1) C X9 at_69 (hw _ (List.mem_of_getElem? (i := 0) rfl)) rfl (by decide) (by decide) (by decide) (ce := 4) (sl := 7) rfl rfl (by decide) (by decide) rfl (fun T48 h48 b48 k48 g48 X48 e48 E48 A48 => ?_)
    have sf48_49 := Safe.ext E48 ch9 sf9_10
    have sf48_50 := Safe.ext E48 ch9 sf9_11
    have sf48_51 := Safe.ext E48 ch9 (Safe.new (Nat.le_of_eq g48.symm))
    have ch48 := ch9.ext E48
    have ne48_52 : ¬ (b1 = b48) := Nat.ne_of_lt (Nat.lt_of_lt_of_le V3_9.lt (Nat.le_of_eq g48.symm))
    have ne48_53 : ¬ (b5 = b48) := Nat.ne_of_lt (Nat.lt_of_lt_of_le P9_0.lt (Nat.le_of_eq g48.symm))
    have S_cs_48 := S_cs_9.ext E48
    have V3_48 := V3_9.ext E48
    have P9_0_48 := P9_0.ext E48
    have gn_b48 : n0 ≤ b48 := Nat.le_trans Z9 (Nat.le_of_eq g48.symm)
    have Z48 := Nat.le_trans Z9 E48.1
    have Kz48 := Nat.le_trans Kz9 E48.1
    have V48 : Arv Z h48 b48 k48 .char (1 : Int32) [(.int (0 : Int32))] (.int (0 : Int32)) := A48.pad (pad_rep [] (.int (0 : Int32)) 1)
    refine g_dup (pc' := 72) C X48 at_71 rfl rfl ?_
    refine g_iconst (pc' := 73) (v := (0 : Int32)) C X48 at_72 rfl rfl ?_
    refine g_iloadN (pc' := 74) C X48 at_73 rfl rfl ?_
    refine g_sipush (pc' := 77) (v := (255 : Int32)) C X48 at_74 rfl rfl ?_
    refine g_iand (pc' := 78) C X48 at_77 rfl ?_
    refine g_i2c (pc' := 79) C X48 at_78 rfl ?_
    refine g_stC (pc' := 80) (i := 0) C X48 at_79 e48 V48 ⟨by decide, by decide⟩ rfl (show (0 : Nat) < 1 from by decide) rfl (fun T54 h54 X54 e54 W54 V54q => ?_)
    have V54 : Arv Z h54 b48 k48 .char (1 : Int32) [(.int (nar .char (p2 &&& (255 : Int32)).toUInt32.toUInt16.toUInt32.toInt32))] (.int (0 : Int32)) := V54q
    have sf54_55 := Safe.wr W54 sf48_51 ch48 sf48_49
    have sf54_56 := Safe.wr W54 sf48_51 ch48 sf48_50
    have sf54_57 := Safe.wr W54 sf48_51 ch48 sf48_51
    have ch54 := ch48.wr W54 sf48_51
    have S_cs_54 := S_cs_48.wr W54
    have V3_54 := V3_48.other W54 ne48_52
    have P9_0_54 := P9_0_48.wr W54
    have Z54 := Nat.le_trans Z48 (Nat.le_of_eq W54.size.symm)
    have Kz54 := Nat.le_trans Kz48 (Nat.le_of_eq W54.size.symm)
    have N54 := Fr.snoc X54 N9 gn_b48
    refine g_astore (pc' := 82) (Ls' := #[.val (.int p1), .val (.int p2), .val (.int p3), .val (.int p4), .val (.int (2 : Int32)), .val (.ref b1), .val (.ref b5), .unset, .val (.ref b48), .unset, .unset, .unset]) C X54 at_80 rfl rfl rfl ?_
    refine g_new (pc' := 85) C X54 at_82 (hw _ (List.mem_of_getElem? (i := 1) rfl)) (hw _ (List.mem_of_getElem? (i := 2) rfl)) (hw _ (List.mem_of_getElem? (i := 3) rfl)) e54 (ce := 5) (sl := 11) rfl rfl (by decide) (by decide) rfl (fun T58 h58 b58 g58 X58 e58 E58 A58 D58 => ?_)
    have sf58_59 := Safe.ext E58 ch54 sf54_55
    have sf58_60 := Safe.ext E58 ch54 sf54_56
    have sf58_61 := Safe.ext E58 ch54 sf54_57
    have sf58_62 := Safe.ext E58 ch54 (Safe.new (Nat.le_of_eq g58.symm))
    have ch58 := ch54.ext E58
    have ne58_63 : ¬ (b1 = b58) := Nat.ne_of_lt (Nat.lt_of_lt_of_le V3_54.lt (Nat.le_of_eq g58.symm))
    have ne58_64 : ¬ (b5 = b58) := Nat.ne_of_lt (Nat.lt_of_lt_of_le P9_0_54.lt (Nat.le_of_eq g58.symm))
    have ne58_65 : ¬ (b48 = b58) := Nat.ne_of_lt (Nat.lt_of_lt_of_le V54.lt (Nat.le_of_eq g58.symm))
    have S_cs_58 := S_cs_54.ext E58
    have V3_58 := V3_54.ext E58
    have P9_0_58 := P9_0_54.ext E58
    have V54_58 := V54.ext E58
    have gn_b58 : n0 ≤ b58 := Nat.le_trans Z54 (Nat.le_of_eq g58.symm)
    have Z58 := Nat.le_trans Z54 E58.1
    have Kz58 := Nat.le_trans Kz54 E58.1
    have F58_coder : Fld Z h58 b58 "java/lang/String" "coder" "B" (.int (0 : Int32)) := D58 (Or.inr (hw _ (List.mem_of_getElem? (i := 27) rfl))) (ty := .byte) (by decide)
    have F58_value : Fld Z h58 b58 "java/lang/String" "value" "[B" .null := D58 (Or.inr (hw _ (List.mem_of_getElem? (i := 29) rfl))) (ty := (.array .byte)) (by decide)
    refine g_dup (pc' := 86) C X58 at_85 rfl rfl ?_
    refine g_aload (pc' := 88) C X58 at_86 rfl rfl rfl ?_
    refine g_callI (b := b58) (y := (⟨"java/lang/String", "<init>", "([C)V"⟩ : MethodName)) (argsL := [(.ref b48)]) (st := [(.ref b58)]) (pc' := 91) C X58 rfl at_88 (hw _ (List.mem_of_getElem? (i := 4) rfl)) (hw _ (List.mem_of_getElem? (i := 5) rfl)) (hw _ (List.mem_of_getElem? (i := 3) rfl)) (hw _ (List.mem_of_getElem? (i := 6) rfl)) (by decide) (rm1_1 l Z a0 hw [] b58 b48 k48 (nar .char (p2 &&& (255 : Int32)).toUInt32.toUInt16.toUInt32.toInt32) cs h58 n0 Z58 S_cs_58 A58 F58_coder F58_value V54_58 hcs (own_ch _) gn_b58 ne58_65) (W := 1) (by decide) (by decide) (ce := 6) (sl := 12) rfl rfl (by decide) (by decide) rfl e58 rfl pd_4 rfl (Nat.le_refl _) rfl (fun v66 T66 L66 X66 Q66 => ?_)
    obtain ⟨q66, Nq66, Kq66, P66_0⟩ := Q66
    have N66 := Fr.app N54 Nq66
    have hs66 : ∀ x ∈ [b58], Safe Z own_EL _ _ x := (sfS sf58_62 sf0)
    have sf66_67 := Safe.keep Kq66 hs66 ch58 sf58_59
    have sf66_68 := Safe.keep Kq66 hs66 ch58 sf58_60
    have sf66_69 := Safe.keep Kq66 hs66 ch58 sf58_61
    have sf66_70 := Safe.keep Kq66 hs66 ch58 sf58_62
    have ch66 := ch58.keep Kq66 hs66
    have S_cs_66 := own_sta_keep S_cs_58 Kq66 ((allS (by obtain ⟨c_, _, h1_, _, _, h2_, _⟩ := A58; exact ⟨c_, h1_, h2_⟩) all0))
    have V3_66 := V3_58.keep Kq66 (ninS ne58_63 nin0)
    have P9_0_66 := P9_0_58.keep Kq66
    have V54_66 := V54_58.keep Kq66 (ninS ne58_65 nin0)
    have Z66 := Nat.le_trans Z58 Kq66.1
    have Kz66 := Nat.le_trans Kz58 Kq66.1
    subst q66
    show Go p.tables e below _ (T66.setTop (mkF m 91 #[.val (.int p1), .val (.int p2), .val (.int p3), .val (.int p4), .val (.int (2 : Int32)), .val (.ref b1), .val (.ref b5), .unset, .val (.ref b48), .unset, .unset, .unset] [(.ref b58)]))
    refine g_astore (pc' := 93) (Ls' := #[.val (.int p1), .val (.int p2), .val (.int p3), .val (.int p4), .val (.int (2 : Int32)), .val (.ref b1), .val (.ref b5), .val (.ref b58), .val (.ref b48), .unset, .unset, .unset]) C X66 at_91 rfl rfl rfl ?_
    refine g_goto (pc' := 130) C X66 at_93 (by decide) (by decide) ?_
    refine g_new (pc' := 133) C X66 at_130 (hw _ (List.mem_of_getElem? (i := 30) rfl)) (hw _ (List.mem_of_getElem? (i := 31) rfl)) (hw _ (List.mem_of_getElem? (i := 32) rfl)) rfl (ce := 7) (sl := 16) rfl rfl (by decide) (by decide) rfl (fun T71 h71 b71 g71 X71 e71 E71 A71 D71 => ?_)
    have sf71_72 := Safe.ext E71 ch66 sf66_67
    have sf71_73 := Safe.ext E71 ch66 sf66_68
    have sf71_74 := Safe.ext E71 ch66 sf66_69
    have sf71_75 := Safe.ext E71 ch66 sf66_70
    have sf71_76 := Safe.ext E71 ch66 (Safe.new (Nat.le_of_eq g71.symm))
    have ch71 := ch66.ext E71
    have ne71_77 : ¬ (b1 = b71) := Nat.ne_of_lt (Nat.lt_of_lt_of_le V3_66.lt (Nat.le_of_eq g71.symm))
    have ne71_78 : ¬ (b5 = b71) := Nat.ne_of_lt (Nat.lt_of_lt_of_le P9_0_66.lt (Nat.le_of_eq g71.symm))
    have ne71_79 : ¬ (b48 = b71) := Nat.ne_of_lt (Nat.lt_of_lt_of_le V54_66.lt (Nat.le_of_eq g71.symm))
    have ne71_80 : ¬ (b58 = b71) := Nat.ne_of_lt (Nat.lt_of_lt_of_le P66_0.lt (Nat.le_of_eq g71.symm))
    have S_cs_71 := S_cs_66.ext E71
    have V3_71 := V3_66.ext E71
    have P9_0_71 := P9_0_66.ext E71
    have V54_71 := V54_66.ext E71
    have P66_0_71 := P66_0.ext E71
    have gn_b71 : n0 ≤ b71 := Nat.le_trans Z66 (Nat.le_of_eq g71.symm)
    have Z71 := Nat.le_trans Z66 E71.1
    have Kz71 := Nat.le_trans Kz66 E71.1
    have F71_id : Fld Z h71 b71 "com/example/caseloom/caseloom/model/Transition" "id" "Ljava/lang/String;" .null := D71 (Or.inr (hw _ (List.mem_of_getElem? (i := 38) rfl))) (ty := (.object "java/lang/String")) (by decide)
    have F71_label : Fld Z h71 b71 "com/example/caseloom/caseloom/model/Transition" "label" "Ljava/lang/String;" .null := D71 (Or.inr (hw _ (List.mem_of_getElem? (i := 40) rfl))) (ty := (.object "java/lang/String")) (by decide)
    have F71_inputs : Fld Z h71 b71 "com/example/caseloom/caseloom/model/Transition" "inputs" "Lcom/example/caseloom/caseloom/model/Marking;" .null := D71 (Or.inr (hw _ (List.mem_of_getElem? (i := 42) rfl))) (ty := (.object "com/example/caseloom/caseloom/model/Marking")) (by decide)
    have F71_outputs : Fld Z h71 b71 "com/example/caseloom/caseloom/model/Transition" "outputs" "Lcom/example/caseloom/caseloom/model/Marking;" .null := D71 (Or.inr (hw _ (List.mem_of_getElem? (i := 44) rfl))) (ty := (.object "com/example/caseloom/caseloom/model/Marking")) (by decide)
    refine g_dup (pc' := 134) C X71 at_133 rfl rfl ?_
    refine g_aload (pc' := 136) C X71 at_134 rfl rfl rfl ?_
    refine g_aload (pc' := 138) C X71 at_136 rfl rfl rfl ?_
    refine g_null (pc' := 139) C X71 at_138 rfl ?_
    refine g_null (pc' := 140) C X71 at_139 rfl ?_
    refine g_callI (b := b71) (y := (⟨"com/example/caseloom/caseloom/model/Transition", "<init>", "(Ljava/lang/String;Ljava/lang/String;Lcom/example/caseloom/caseloom/model/Marking;Lcom/example/caseloom/caseloom/model/Marking;)V"⟩ : MethodName)) (argsL := [(.ref b5), (.ref b58), .null, .null]) (st := [(.ref b71)]) (pc' := 143) C X71 rfl at_140 (hw _ (List.mem_of_getElem? (i := 33) rfl)) (hw _ (List.mem_of_getElem? (i := 34) rfl)) (hw _ (List.mem_of_getElem? (i := 32) rfl)) (hw _ (List.mem_of_getElem? (i := 35) rfl)) (by decide) (rm7r l Z a0 hw [] b71 b5 b58 cs h71 n0 Z71 S_cs_71 A71 F71_id F71_label F71_inputs F71_outputs gn_b71) (W := 1) (by decide) (by decide) (ce := 7) (sl := 16) rfl rfl (by decide) (by decide) rfl e71 rfl pd_5 rfl (Nat.le_refl _) rfl (fun v81 T81 L81 X81 Q81 => ?_)
    obtain ⟨q81, Nq81, Kq81, P81_0, P81_1⟩ := Q81
    have N81 := Fr.app N66 Nq81
    have hs81 : ∀ x ∈ [b71], Safe Z own_EL _ _ x := (sfS sf71_76 sf0)
    have sf81_82 := Safe.keep Kq81 hs81 ch71 sf71_72
    have sf81_83 := Safe.keep Kq81 hs81 ch71 sf71_73
    have sf81_84 := Safe.keep Kq81 hs81 ch71 sf71_74
    have sf81_85 := Safe.keep Kq81 hs81 ch71 sf71_75
    have sf81_86 := Safe.keep Kq81 hs81 ch71 sf71_76
    have ch81 := ch71.keep Kq81 hs81
    have S_cs_81 := own_sta_keep S_cs_71 Kq81 ((allS (by obtain ⟨c_, _, h1_, _, _, h2_, _⟩ := A71; exact ⟨c_, h1_, h2_⟩) all0))
    have V3_81 := V3_71.keep Kq81 (ninS ne71_77 nin0)
    have P9_0_81 := P9_0_71.keep Kq81
    have V54_81 := V54_71.keep Kq81 (ninS ne71_79 nin0)
    have P66_0_81 := P66_0_71.keep Kq81
    have Z81 := Nat.le_trans Z71 Kq81.1
    have Kz81 := Nat.le_trans Kz71 Kq81.1
    subst q81
    show Go p.tables e below _ (T81.setTop (mkF m 143 #[.val (.int p1), .val (.int p2), .val (.int p3), .val (.int p4), .val (.int (2 : Int32)), .val (.ref b1), .val (.ref b5), .val (.ref b58), .val (.ref b48), .unset, .unset, .unset] [(.ref b71)]))
    refine g_astore (pc' := 145) (Ls' := #[.val (.int p1), .val (.int p2), .val (.int p3), .val (.int p4), .val (.int (2 : Int32)), .val (.ref b1), .val (.ref b5), .val (.ref b58), .val (.ref b71), .unset, .unset, .unset]) C X81 at_143 rfl rfl rfl ?_
    refine g_aload (pc' := 147) C X81 at_145 rfl rfl rfl ?_
    refine g_callV (b := b71) (z := (⟨"com/example/caseloom/caseloom/model/Transition", "isTask", "()Z"⟩ : MethodName)) (y := (⟨"com/example/caseloom/caseloom/model/Transition", "isTask", "()Z"⟩ : MethodName)) (argsL := []) (st := []) (pc' := 150) C X81 at_147 (hw _ (List.mem_of_getElem? (i := 45) rfl)) (hw _ (List.mem_of_getElem? (i := 46) rfl)) (notFace_of_selects (args := #[]) (mvT C.hZ (hw _ (List.mem_of_getElem? (i := 48) rfl)))) (hw _ (List.mem_of_getElem? (i := 48) rfl)) (hw _ (List.mem_of_getElem? (i := 47) rfl)) (hw _ (List.mem_of_getElem? (i := 32) rfl)) (hw _ (List.mem_of_getElem? (i := 49) rfl)) (by decide) (rm8r l Z a0 hw [] b71 b58 cs T81.heap n0 S_cs_81 P81_1) (W := 0) (by decide) (by decide) (ce := 7) (sl := 16) rfl rfl (by decide) (by decide) rfl P81_0 rfl rfl pd_6 rfl (Nat.le_refl _) rfl (fun v87 T87 L87 X87 Q87 => ?_)
    obtain ⟨q87, Nq87, e87⟩ := Q87
    have N87 := Fr.app N81 Nq87
    rw [F8r_l0 ] at q87
    subst q87
    show Go p.tables e below _ (T87.setTop (mkF m 150 #[.val (.int p1), .val (.int p2), .val (.int p3), .val (.int p4), .val (.int (2 : Int32)), .val (.ref b1), .val (.ref b5), .val (.ref b58), .val (.ref b71), .unset, .unset, .unset] [(.int (1 : Int32))]))
    refine g_istore (pc' := 152) (Ls' := #[.val (.int p1), .val (.int p2), .val (.int p3), .val (.int p4), .val (.int (2 : Int32)), .val (.ref b1), .val (.ref b5), .val (.ref b58), .val (.ref b71), .val (.int (1 : Int32)), .unset, .unset]) C X87 at_150 rfl rfl ?_
    refine g_iload (pc' := 154) C X87 at_152 rfl rfl ?_
    refine g_ifN (pc' := 157) C X87 at_154 (feq (show ¬ ((2 : Int32) = (0 : Int32)) from (by decide))).1 rfl ?_
    refine g_iconst (pc' := 158) (v := (1 : Int32)) C X87 at_157 rfl rfl ?_
    refine g_goto (pc' := 162) C X87 at_158 (by decide) (by decide) ?_
    refine g_istore (pc' := 164) (Ls' := #[.val (.int p1), .val (.int p2), .val (.int p3), .val (.int p4), .val (.int (2 : Int32)), .val (.ref b1), .val (.ref b5), .val (.ref b58), .val (.ref b71), .val (.int (1 : Int32)), .val (.int (1 : Int32)), .unset]) C X87 at_162 rfl rfl ?_
    refine g_aload (pc' := 166) C X87 at_164 rfl rfl rfl ?_
    refine g_callV (b := b71) (z := (⟨"com/example/caseloom/caseloom/model/Transition", "label", "()Ljava/lang/String;"⟩ : MethodName)) (y := (⟨"com/example/caseloom/caseloom/model/Transition", "label", "()Ljava/lang/String;"⟩ : MethodName)) (argsL := []) (st := []) (pc' := 169) C X87 at_166 (hw _ (List.mem_of_getElem? (i := 50) rfl)) (hw _ (List.mem_of_getElem? (i := 51) rfl)) (notFace_of_selects (args := #[]) (mvT C.hZ (hw _ (List.mem_of_getElem? (i := 53) rfl)))) (hw _ (List.mem_of_getElem? (i := 53) rfl)) (hw _ (List.mem_of_getElem? (i := 52) rfl)) (hw _ (List.mem_of_getElem? (i := 32) rfl)) (hw _ (List.mem_of_getElem? (i := 54) rfl)) (by decide) (rm9r l Z a0 hw [] b71 b58 cs T81.heap n0 S_cs_81 P81_1) (W := 0) (by decide) (by decide) (ce := 7) (sl := 16) rfl rfl (by decide) (by decide) rfl P81_0 e87 rfl pd_7 rfl (Nat.le_refl _) rfl (fun v88 T88 L88 X88 Q88 => ?_)
    obtain ⟨q88, Nq88, e88⟩ := Q88
    have N88 := Fr.app N87 Nq88
    rw [F9r_l0 b58] at q88
    subst q88
    show Go p.tables e below _ (T88.setTop (mkF m 169 #[.val (.int p1), .val (.int p2), .val (.int p3), .val (.int p4), .val (.int (2 : Int32)), .val (.ref b1), .val (.ref b5), .val (.ref b58), .val (.ref b71), .val (.int (1 : Int32)), .val (.int (1 : Int32)), .unset] [(.ref b58)]))
    refine g_astore (pc' := 171) (Ls' := #[.val (.int p1), .val (.int p2), .val (.int p3), .val (.int p4), .val (.int (2 : Int32)), .val (.ref b1), .val (.ref b5), .val (.ref b58), .val (.ref b71), .val (.int (1 : Int32)), .val (.int (1 : Int32)), .val (.ref b58)]) C X88 at_169 rfl rfl rfl ?_
    refine g_iload (pc' := 173) C X88 at_171 rfl rfl ?_
    refine g_iload (pc' := 175) C X88 at_173 rfl rfl ?_
    refine g_icmpN (pc' := 178) C X88 at_175 (teq (show (1 : Int32) = (1 : Int32) from (by decide))).2 rfl ?_
    refine g_iload (pc' := 180) C X88 at_178 rfl rfl ?_
    refine g_aload (pc' := 182) C X88 at_180 rfl rfl rfl ?_
    refine g_ifnullN (pc' := 185) C X88 at_182 rfl ?_
    refine g_iconst (pc' := 186) (v := (1 : Int32)) C X88 at_185 rfl rfl ?_
    refine g_goto (pc' := 190) C X88 at_186 (by decide) (by decide) ?_
    refine g_icmpN (pc' := 193) C X88 at_190 (teq (show (1 : Int32) = (1 : Int32) from (by decide))).2 rfl ?_
    refine g_aload (pc' := 195) C X88 at_193 rfl rfl rfl ?_
    refine g_aload (pc' := 197) C X88 at_195 rfl rfl rfl ?_
    refine g_acmp (pc' := 200) (same := true) C X88 at_197 rfl rfl (decide_eq_true rfl) (by decide) (by decide) ?_
    refine g_iconst (pc' := 201) (v := (1 : Int32)) C X88 at_200 rfl rfl ?_
    refine g_goto (pc' := 205) C X88 at_201 (by decide) (by decide) ?_
    exact g_retNW C X88 hS (by rw [e88]; exact Kz81) (by simp) at_205 (by decide) (by decide) ⟨rfl, N88⟩
  · refine own_cast (show T9.setTop (mkF m 30 #[.val (.int p1), .val (.int p2), .val (.int p3), .val (.int p4), .val (.int (p1 &&& (3 : Int32))), .val (.ref b1), .val (.ref b5), .unset, .unset, .unset, .unset, .unset] []) = T9.setTop (mkF m 30 #[.val (.int p1), .val (.int p2), .val (.int p3), .val (.int p4), .val (.int (3 : Int32)), .val (.ref b1), .val (.ref b5), .unset, .unset, .unset, .unset, .unset] []) from by rw [s12]) ?_
    refine g_iload (pc' := 32) C X9 at_30 rfl rfl ?_
    refine g_ifY (pc' := 41) C X9 at_32 (feq (show ¬ ((3 : Int32) = (0 : Int32)) from (by decide))).2 (by decide) (by decide) ?_
    refine g_iload (pc' := 43) C X9 at_41 rfl rfl ?_
    refine g_iconst (pc' := 44) (v := (1 : Int32)) C X9 at_43 rfl rfl ?_
    refine g_icmpY (pc' := 62) C X9 at_44 (feq (show ¬ ((3 : Int32) = (1 : Int32)) from (by decide))).2 (by decide) (by decide) ?_
    refine g_iload (pc' := 64) C X9 at_62 rfl rfl ?_
    refine g_iconst (pc' := 65) (v := (2 : Int32)) C X9 at_64 rfl rfl ?_
    refine g_icmpY (pc' := 96) C X9 at_65 (feq (show ¬ ((3 : Int32) = (2 : Int32)) from (by decide))).2 (by decide) (by decide) ?_
    refine g_iconst (pc' := 97) (v := (2 : Int32)) C X9 at_96 rfl rfl ?_
    refine g_newP (pc' := 99) (cap := 2) C X9 at_97 (hw _ (List.mem_of_getElem? (i := 0) rfl)) rfl (by decide) (by decide) (by decide) (ce := 4) (sl := 8) rfl rfl (by decide) (by decide) rfl (fun T89 h89 b89 k89 g89 X89 e89 E89 A89 => ?_)
    have sf89_90 := Safe.ext E89 ch9 sf9_10
    have sf89_91 := Safe.ext E89 ch9 sf9_11
    have sf89_92 := Safe.ext E89 ch9 (Safe.new (Nat.le_of_eq g89.symm))
    have ch89 := ch9.ext E89
    have ne89_93 : ¬ (b1 = b89) := Nat.ne_of_lt (Nat.lt_of_lt_of_le V3_9.lt (Nat.le_of_eq g89.symm))
    have ne89_94 : ¬ (b5 = b89) := Nat.ne_of_lt (Nat.lt_of_lt_of_le P9_0.lt (Nat.le_of_eq g89.symm))
    have S_cs_89 := S_cs_9.ext E89
    have V3_89 := V3_9.ext E89
    have P9_0_89 := P9_0.ext E89
    have gn_b89 : n0 ≤ b89 := Nat.le_trans Z9 (Nat.le_of_eq g89.symm)
    have Z89 := Nat.le_trans Z9 E89.1
    have Kz89 := Nat.le_trans Kz9 E89.1
    have V89 : Arv Z h89 b89 k89 .char (2 : Int32) [(.int (0 : Int32)), (.int (0 : Int32))] (.int (0 : Int32)) := A89.pad (pad_rep [] (.int (0 : Int32)) 2)
    refine g_dup (pc' := 100) C X89 at_99 rfl rfl ?_
    refine g_iconst (pc' := 101) (v := (0 : Int32)) C X89 at_100 rfl rfl ?_
    refine g_iloadN (pc' := 102) C X89 at_101 rfl rfl ?_
    refine g_sipush (pc' := 105) (v := (255 : Int32)) C X89 at_102 rfl rfl ?_
    refine g_iand (pc' := 106) C X89 at_105 rfl ?_
    refine g_i2c (pc' := 107) C X89 at_106 rfl ?_
    refine g_stC (pc' := 108) (i := 0) C X89 at_107 e89 V89 ⟨by decide, by decide⟩ rfl (show (0 : Nat) < 2 from by decide) rfl (fun T95 h95 X95 e95 W95 V95q => ?_)
    have V95 : Arv Z h95 b89 k89 .char (2 : Int32) [(.int (nar .char (p2 &&& (255 : Int32)).toUInt32.toUInt16.toUInt32.toInt32)), (.int (0 : Int32))] (.int (0 : Int32)) := V95q
    have sf95_96 := Safe.wr W95 sf89_92 ch89 sf89_90
    have sf95_97 := Safe.wr W95 sf89_92 ch89 sf89_91
    have sf95_98 := Safe.wr W95 sf89_92 ch89 sf89_92
    have ch95 := ch89.wr W95 sf89_92
    have S_cs_95 := S_cs_89.wr W95
    have V3_95 := V3_89.other W95 ne89_93
    have P9_0_95 := P9_0_89.wr W95
    have Z95 := Nat.le_trans Z89 (Nat.le_of_eq W95.size.symm)
    have Kz95 := Nat.le_trans Kz89 (Nat.le_of_eq W95.size.symm)
    have N95 := Fr.snoc X95 N9 gn_b89
    refine g_dup (pc' := 109) C X95 at_108 rfl rfl ?_
    refine g_iconst (pc' := 110) (v := (1 : Int32)) C X95 at_109 rfl rfl ?_
    refine g_iloadN (pc' := 111) C X95 at_110 rfl rfl ?_
    refine g_sipush (pc' := 114) (v := (255 : Int32)) C X95 at_111 rfl rfl ?_
    refine g_iand (pc' := 115) C X95 at_114 rfl ?_
    refine g_i2c (pc' := 116) C X95 at_115 rfl ?_
    refine g_stC (pc' := 117) (i := 1) C X95 at_116 e95 V95 ⟨by decide, by decide⟩ rfl (show (1 : Nat) < 2 from by decide) rfl (fun T99 h99 X99 e99 W99 V99q => ?_)
    have V99 : Arv Z h99 b89 k89 .char (2 : Int32) [(.int (nar .char (p2 &&& (255 : Int32)).toUInt32.toUInt16.toUInt32.toInt32)), (.int (nar .char (p3 &&& (255 : Int32)).toUInt32.toUInt16.toUInt32.toInt32))] (.int (0 : Int32)) := V99q
    have sf99_100 := Safe.wr W99 sf95_98 ch95 sf95_96
    have sf99_101 := Safe.wr W99 sf95_98 ch95 sf95_97
    have sf99_102 := Safe.wr W99 sf95_98 ch95 sf95_98
    have ch99 := ch95.wr W99 sf95_98
    have S_cs_99 := S_cs_95.wr W99
    have V3_99 := V3_95.other W99 ne89_93
    have P9_0_99 := P9_0_95.wr W99
    have Z99 := Nat.le_trans Z95 (Nat.le_of_eq W99.size.symm)
    have Kz99 := Nat.le_trans Kz95 (Nat.le_of_eq W99.size.symm)
    have N99 := Fr.snoc X99 N95 gn_b89
    refine g_astore (pc' := 119) (Ls' := #[.val (.int p1), .val (.int p2), .val (.int p3), .val (.int p4), .val (.int (3 : Int32)), .val (.ref b1), .val (.ref b5), .unset, .val (.ref b89), .unset, .unset, .unset]) C X99 at_117 rfl rfl rfl ?_
    refine g_new (pc' := 122) C X99 at_119 (hw _ (List.mem_of_getElem? (i := 1) rfl)) (hw _ (List.mem_of_getElem? (i := 2) rfl)) (hw _ (List.mem_of_getElem? (i := 3) rfl)) e99 (ce := 5) (sl := 12) rfl rfl (by decide) (by decide) rfl (fun T103 h103 b103 g103 X103 e103 E103 A103 D103 => ?_)
    have sf103_104 := Safe.ext E103 ch99 sf99_100
    have sf103_105 := Safe.ext E103 ch99 sf99_101
    have sf103_106 := Safe.ext E103 ch99 sf99_102
    have sf103_107 := Safe.ext E103 ch99 (Safe.new (Nat.le_of_eq g103.symm))
    have ch103 := ch99.ext E103
    have ne103_108 : ¬ (b1 = b103) := Nat.ne_of_lt (Nat.lt_of_lt_of_le V3_99.lt (Nat.le_of_eq g103.symm))
    have ne103_109 : ¬ (b5 = b103) := Nat.ne_of_lt (Nat.lt_of_lt_of_le P9_0_99.lt (Nat.le_of_eq g103.symm))
    have ne103_110 : ¬ (b89 = b103) := Nat.ne_of_lt (Nat.lt_of_lt_of_le V99.lt (Nat.le_of_eq g103.symm))
    have S_cs_103 := S_cs_99.ext E103
    have V3_103 := V3_99.ext E103
    have P9_0_103 := P9_0_99.ext E103
    have V99_103 := V99.ext E103
    have gn_b103 : n0 ≤ b103 := Nat.le_trans Z99 (Nat.le_of_eq g103.symm)
    have Z103 := Nat.le_trans Z99 E103.1
    have Kz103 := Nat.le_trans Kz99 E103.1
    have F103_coder : Fld Z h103 b103 "java/lang/String" "coder" "B" (.int (0 : Int32)) := D103 (Or.inr (hw _ (List.mem_of_getElem? (i := 27) rfl))) (ty := .byte) (by decide)
    have F103_value : Fld Z h103 b103 "java/lang/String" "value" "[B" .null := D103 (Or.inr (hw _ (List.mem_of_getElem? (i := 29) rfl))) (ty := (.array .byte)) (by decide)
    refine g_dup (pc' := 123) C X103 at_122 rfl rfl ?_
    refine g_aload (pc' := 125) C X103 at_123 rfl rfl rfl ?_
    refine g_callI (b := b103) (y := (⟨"java/lang/String", "<init>", "([C)V"⟩ : MethodName)) (argsL := [(.ref b89)]) (st := [(.ref b103)]) (pc' := 128) C X103 rfl at_125 (hw _ (List.mem_of_getElem? (i := 4) rfl)) (hw _ (List.mem_of_getElem? (i := 5) rfl)) (hw _ (List.mem_of_getElem? (i := 3) rfl)) (hw _ (List.mem_of_getElem? (i := 6) rfl)) (by decide) (rm1_2 l Z a0 hw [] b103 b89 k89 (nar .char (p2 &&& (255 : Int32)).toUInt32.toUInt16.toUInt32.toInt32) (nar .char (p3 &&& (255 : Int32)).toUInt32.toUInt16.toUInt32.toInt32) cs h103 n0 Z103 S_cs_103 A103 F103_coder F103_value V99_103 hcs (own_ch _) (own_ch _) gn_b103 ne103_110) (W := 1) (by decide) (by decide) (ce := 6) (sl := 14) rfl rfl (by decide) (by decide) rfl e103 rfl pd_4 rfl (Nat.le_refl _) rfl (fun v111 T111 L111 X111 Q111 => ?_)
    obtain ⟨q111, Nq111, Kq111, P111_0⟩ := Q111
    have N111 := Fr.app N99 Nq111
    have hs111 : ∀ x ∈ [b103], Safe Z own_EL _ _ x := (sfS sf103_107 sf0)
    have sf111_112 := Safe.keep Kq111 hs111 ch103 sf103_104
    have sf111_113 := Safe.keep Kq111 hs111 ch103 sf103_105
    have sf111_114 := Safe.keep Kq111 hs111 ch103 sf103_106
    have sf111_115 := Safe.keep Kq111 hs111 ch103 sf103_107
    have ch111 := ch103.keep Kq111 hs111
    have S_cs_111 := own_sta_keep S_cs_103 Kq111 ((allS (by obtain ⟨c_, _, h1_, _, _, h2_, _⟩ := A103; exact ⟨c_, h1_, h2_⟩) all0))
    have V3_111 := V3_103.keep Kq111 (ninS ne103_108 nin0)
    have P9_0_111 := P9_0_103.keep Kq111
    have V99_111 := V99_103.keep Kq111 (ninS ne103_110 nin0)
    have Z111 := Nat.le_trans Z103 Kq111.1
    have Kz111 := Nat.le_trans Kz103 Kq111.1
    subst q111
    show Go p.tables e below _ (T111.setTop (mkF m 128 #[.val (.int p1), .val (.int p2), .val (.int p3), .val (.int p4), .val (.int (3 : Int32)), .val (.ref b1), .val (.ref b5), .unset, .val (.ref b89), .unset, .unset, .unset] [(.ref b103)]))
    refine g_astore (pc' := 130) (Ls' := #[.val (.int p1), .val (.int p2), .val (.int p3), .val (.int p4), .val (.int (3 : Int32)), .val (.ref b1), .val (.ref b5), .val (.ref b103), .val (.ref b89), .unset, .unset, .unset]) C X111 at_128 rfl rfl rfl ?_
    refine g_new (pc' := 133) C X111 at_130 (hw _ (List.mem_of_getElem? (i := 30) rfl)) (hw _ (List.mem_of_getElem? (i := 31) rfl)) (hw _ (List.mem_of_getElem? (i := 32) rfl)) rfl (ce := 7) (sl := 18) rfl rfl (by decide) (by decide) rfl (fun T116 h116 b116 g116 X116 e116 E116 A116 D116 => ?_)
    have sf116_117 := Safe.ext E116 ch111 sf111_112
    have sf116_118 := Safe.ext E116 ch111 sf111_113
    have sf116_119 := Safe.ext E116 ch111 sf111_114
    have sf116_120 := Safe.ext E116 ch111 sf111_115
    have sf116_121 := Safe.ext E116 ch111 (Safe.new (Nat.le_of_eq g116.symm))
    have ch116 := ch111.ext E116
    have ne116_122 : ¬ (b1 = b116) := Nat.ne_of_lt (Nat.lt_of_lt_of_le V3_111.lt (Nat.le_of_eq g116.symm))
    have ne116_123 : ¬ (b5 = b116) := Nat.ne_of_lt (Nat.lt_of_lt_of_le P9_0_111.lt (Nat.le_of_eq g116.symm))
    have ne116_124 : ¬ (b89 = b116) := Nat.ne_of_lt (Nat.lt_of_lt_of_le V99_111.lt (Nat.le_of_eq g116.symm))
    have ne116_125 : ¬ (b103 = b116) := Nat.ne_of_lt (Nat.lt_of_lt_of_le P111_0.lt (Nat.le_of_eq g116.symm))
    have S_cs_116 := S_cs_111.ext E116
    have V3_116 := V3_111.ext E116
    have P9_0_116 := P9_0_111.ext E116
    have V99_116 := V99_111.ext E116
    have P111_0_116 := P111_0.ext E116
    have gn_b116 : n0 ≤ b116 := Nat.le_trans Z111 (Nat.le_of_eq g116.symm)
    have Z116 := Nat.le_trans Z111 E116.1
    have Kz116 := Nat.le_trans Kz111 E116.1
    have F116_id : Fld Z h116 b116 "com/example/caseloom/caseloom/model/Transition" "id" "Ljava/lang/String;" .null := D116 (Or.inr (hw _ (List.mem_of_getElem? (i := 38) rfl))) (ty := (.object "java/lang/String")) (by decide)
    have F116_label : Fld Z h116 b116 "com/example/caseloom/caseloom/model/Transition" "label" "Ljava/lang/String;" .null := D116 (Or.inr (hw _ (List.mem_of_getElem? (i := 40) rfl))) (ty := (.object "java/lang/String")) (by decide)
    have F116_inputs : Fld Z h116 b116 "com/example/caseloom/caseloom/model/Transition" "inputs" "Lcom/example/caseloom/caseloom/model/Marking;" .null := D116 (Or.inr (hw _ (List.mem_of_getElem? (i := 42) rfl))) (ty := (.object "com/example/caseloom/caseloom/model/Marking")) (by decide)
    have F116_outputs : Fld Z h116 b116 "com/example/caseloom/caseloom/model/Transition" "outputs" "Lcom/example/caseloom/caseloom/model/Marking;" .null := D116 (Or.inr (hw _ (List.mem_of_getElem? (i := 44) rfl))) (ty := (.object "com/example/caseloom/caseloom/model/Marking")) (by decide)
    refine g_dup (pc' := 134) C X116 at_133 rfl rfl ?_
    refine g_aload (pc' := 136) C X116 at_134 rfl rfl rfl ?_
    refine g_aload (pc' := 138) C X116 at_136 rfl rfl rfl ?_
    refine g_null (pc' := 139) C X116 at_138 rfl ?_
    refine g_null (pc' := 140) C X116 at_139 rfl ?_
    refine g_callI (b := b116) (y := (⟨"com/example/caseloom/caseloom/model/Transition", "<init>", "(Ljava/lang/String;Ljava/lang/String;Lcom/example/caseloom/caseloom/model/Marking;Lcom/example/caseloom/caseloom/model/Marking;)V"⟩ : MethodName)) (argsL := [(.ref b5), (.ref b103), .null, .null]) (st := [(.ref b116)]) (pc' := 143) C X116 rfl at_140 (hw _ (List.mem_of_getElem? (i := 33) rfl)) (hw _ (List.mem_of_getElem? (i := 34) rfl)) (hw _ (List.mem_of_getElem? (i := 32) rfl)) (hw _ (List.mem_of_getElem? (i := 35) rfl)) (by decide) (rm7r l Z a0 hw [] b116 b5 b103 cs h116 n0 Z116 S_cs_116 A116 F116_id F116_label F116_inputs F116_outputs gn_b116) (W := 1) (by decide) (by decide) (ce := 7) (sl := 18) rfl rfl (by decide) (by decide) rfl e116 rfl pd_5 rfl (Nat.le_refl _) rfl (fun v126 T126 L126 X126 Q126 => ?_)
    obtain ⟨q126, Nq126, Kq126, P126_0, P126_1⟩ := Q126
    have N126 := Fr.app N111 Nq126
    have hs126 : ∀ x ∈ [b116], Safe Z own_EL _ _ x := (sfS sf116_121 sf0)
    have sf126_127 := Safe.keep Kq126 hs126 ch116 sf116_117
    have sf126_128 := Safe.keep Kq126 hs126 ch116 sf116_118
    have sf126_129 := Safe.keep Kq126 hs126 ch116 sf116_119
    have sf126_130 := Safe.keep Kq126 hs126 ch116 sf116_120
    have sf126_131 := Safe.keep Kq126 hs126 ch116 sf116_121
    have ch126 := ch116.keep Kq126 hs126
    have S_cs_126 := own_sta_keep S_cs_116 Kq126 ((allS (by obtain ⟨c_, _, h1_, _, _, h2_, _⟩ := A116; exact ⟨c_, h1_, h2_⟩) all0))
    have V3_126 := V3_116.keep Kq126 (ninS ne116_122 nin0)
    have P9_0_126 := P9_0_116.keep Kq126
    have V99_126 := V99_116.keep Kq126 (ninS ne116_124 nin0)
    have P111_0_126 := P111_0_116.keep Kq126
    have Z126 := Nat.le_trans Z116 Kq126.1
    have Kz126 := Nat.le_trans Kz116 Kq126.1
    subst q126
    show Go p.tables e below _ (T126.setTop (mkF m 143 #[.val (.int p1), .val (.int p2), .val (.int p3), .val (.int p4), .val (.int (3 : Int32)), .val (.ref b1), .val (.ref b5), .val (.ref b103), .val (.ref b89), .unset, .unset, .unset] [(.ref b116)]))
    refine g_astore (pc' := 145) (Ls' := #[.val (.int p1), .val (.int p2), .val (.int p3), .val (.int p4), .val (.int (3 : Int32)), .val (.ref b1), .val (.ref b5), .val (.ref b103), .val (.ref b116), .unset, .unset, .unset]) C X126 at_143 rfl rfl rfl ?_
    refine g_aload (pc' := 147) C X126 at_145 rfl rfl rfl ?_
    refine g_callV (b := b116) (z := (⟨"com/example/caseloom/caseloom/model/Transition", "isTask", "()Z"⟩ : MethodName)) (y := (⟨"com/example/caseloom/caseloom/model/Transition", "isTask", "()Z"⟩ : MethodName)) (argsL := []) (st := []) (pc' := 150) C X126 at_147 (hw _ (List.mem_of_getElem? (i := 45) rfl)) (hw _ (List.mem_of_getElem? (i := 46) rfl)) (notFace_of_selects (args := #[]) (mvT C.hZ (hw _ (List.mem_of_getElem? (i := 48) rfl)))) (hw _ (List.mem_of_getElem? (i := 48) rfl)) (hw _ (List.mem_of_getElem? (i := 47) rfl)) (hw _ (List.mem_of_getElem? (i := 32) rfl)) (hw _ (List.mem_of_getElem? (i := 49) rfl)) (by decide) (rm8r l Z a0 hw [] b116 b103 cs T126.heap n0 S_cs_126 P126_1) (W := 0) (by decide) (by decide) (ce := 7) (sl := 18) rfl rfl (by decide) (by decide) rfl P126_0 rfl rfl pd_6 rfl (Nat.le_refl _) rfl (fun v132 T132 L132 X132 Q132 => ?_)
    obtain ⟨q132, Nq132, e132⟩ := Q132
    have N132 := Fr.app N126 Nq132
    rw [F8r_l0 ] at q132
    subst q132
    show Go p.tables e below _ (T132.setTop (mkF m 150 #[.val (.int p1), .val (.int p2), .val (.int p3), .val (.int p4), .val (.int (3 : Int32)), .val (.ref b1), .val (.ref b5), .val (.ref b103), .val (.ref b116), .unset, .unset, .unset] [(.int (1 : Int32))]))
    refine g_istore (pc' := 152) (Ls' := #[.val (.int p1), .val (.int p2), .val (.int p3), .val (.int p4), .val (.int (3 : Int32)), .val (.ref b1), .val (.ref b5), .val (.ref b103), .val (.ref b116), .val (.int (1 : Int32)), .unset, .unset]) C X132 at_150 rfl rfl ?_
    refine g_iload (pc' := 154) C X132 at_152 rfl rfl ?_
    refine g_ifN (pc' := 157) C X132 at_154 (feq (show ¬ ((3 : Int32) = (0 : Int32)) from (by decide))).1 rfl ?_
    refine g_iconst (pc' := 158) (v := (1 : Int32)) C X132 at_157 rfl rfl ?_
    refine g_goto (pc' := 162) C X132 at_158 (by decide) (by decide) ?_
    refine g_istore (pc' := 164) (Ls' := #[.val (.int p1), .val (.int p2), .val (.int p3), .val (.int p4), .val (.int (3 : Int32)), .val (.ref b1), .val (.ref b5), .val (.ref b103), .val (.ref b116), .val (.int (1 : Int32)), .val (.int (1 : Int32)), .unset]) C X132 at_162 rfl rfl ?_
    refine g_aload (pc' := 166) C X132 at_164 rfl rfl rfl ?_
    refine g_callV (b := b116) (z := (⟨"com/example/caseloom/caseloom/model/Transition", "label", "()Ljava/lang/String;"⟩ : MethodName)) (y := (⟨"com/example/caseloom/caseloom/model/Transition", "label", "()Ljava/lang/String;"⟩ : MethodName)) (argsL := []) (st := []) (pc' := 169) C X132 at_166 (hw _ (List.mem_of_getElem? (i := 50) rfl)) (hw _ (List.mem_of_getElem? (i := 51) rfl)) (notFace_of_selects (args := #[]) (mvT C.hZ (hw _ (List.mem_of_getElem? (i := 53) rfl)))) (hw _ (List.mem_of_getElem? (i := 53) rfl)) (hw _ (List.mem_of_getElem? (i := 52) rfl)) (hw _ (List.mem_of_getElem? (i := 32) rfl)) (hw _ (List.mem_of_getElem? (i := 54) rfl)) (by decide) (rm9r l Z a0 hw [] b116 b103 cs T126.heap n0 S_cs_126 P126_1) (W := 0) (by decide) (by decide) (ce := 7) (sl := 18) rfl rfl (by decide) (by decide) rfl P126_0 e132 rfl pd_7 rfl (Nat.le_refl _) rfl (fun v133 T133 L133 X133 Q133 => ?_)
    obtain ⟨q133, Nq133, e133⟩ := Q133
    have N133 := Fr.app N132 Nq133
    rw [F9r_l0 b103] at q133
    subst q133
    show Go p.tables e below _ (T133.setTop (mkF m 169 #[.val (.int p1), .val (.int p2), .val (.int p3), .val (.int p4), .val (.int (3 : Int32)), .val (.ref b1), .val (.ref b5), .val (.ref b103), .val (.ref b116), .val (.int (1 : Int32)), .val (.int (1 : Int32)), .unset] [(.ref b103)]))
    refine g_astore (pc' := 171) (Ls' := #[.val (.int p1), .val (.int p2), .val (.int p3), .val (.int p4), .val (.int (3 : Int32)), .val (.ref b1), .val (.ref b5), .val (.ref b103), .val (.ref b116), .val (.int (1 : Int32)), .val (.int (1 : Int32)), .val (.ref b103)]) C X133 at_169 rfl rfl rfl ?_
    refine g_iload (pc' := 173) C X133 at_171 rfl rfl ?_
    refine g_iload (pc' := 175) C X133 at_173 rfl rfl ?_
    refine g_icmpN (pc' := 178) C X133 at_175 (teq (show (1 : Int32) = (1 : Int32) from (by decide))).2 rfl ?_
    refine g_iload (pc' := 180) C X133 at_178 rfl rfl ?_
    refine g_aload (pc' := 182) C X133 at_180 rfl rfl rfl ?_
    refine g_ifnullN (pc' := 185) C X133 at_182 rfl ?_
    refine g_iconst (pc' := 186) (v := (1 : Int32)) C X133 at_185 rfl rfl ?_
    refine g_goto (pc' := 190) C X133 at_186 (by decide) (by decide) ?_
    refine g_icmpN (pc' := 193) C X133 at_190 (teq (show (1 : Int32) = (1 : Int32) from (by decide))).2 rfl ?_
    refine g_aload (pc' := 195) C X133 at_193 rfl rfl rfl ?_
    refine g_aload (pc' := 197) C X133 at_195 rfl rfl rfl ?_
    refine g_acmp (pc' := 200) (same := true) C X133 at_197 rfl rfl (decide_eq_true rfl) (by decide) (by decide) ?_
    refine g_iconst (pc' := 201) (v := (1 : Int32)) C X133 at_200 rfl rfl ?_
    refine g_goto (pc' := 205) C X133 at_201 (by decide) (by decide) ?_
    exact g_retNW C X133 hS (by rw [e133]; exact Kz126) (by simp) at_205 (by decide) (by decide) ⟨rfl, N133⟩
set_option maxRecDepth 65536 in
set_option maxHeartbeats 40000000 in
theorem comes_1 {Post : Tables → Env → Array Value → State → Outcome → State → Prop} (hpost : ∀ tb e args s v u, (limb_1_1.after args s (.returned v) u = true ∧ limb_1_2.after args s (.returned v) u = true ∧ True) → ReturnedEndW s (.returned v) u (Jvm.fieldLocs frame_1_writes args s ++ Jvm.arrayLocs frame_1_arrays args s ++ Jvm.staticLocs frame_1_statics s) 24 1152 → Post tb e args s (.returned v) u) :
    ArmFor flags0 classFile x code maxLocals ret World_1 tables_1 room_1 Calls_1 rest_1 Pre_1 Post := by
  intro l hfl _ _ p e ha hc hk s m args below hf hA hF happ hP
  obtain ⟨hcalls, hrest, hpre⟩ := hP
  obtain ⟨-, -, -, hnamed, -, -, -, hat⟩ := (Spec.applies_iff hf).mp happ
  obtain ⟨hg, hnr⟩ := and_e (Cond.before_iff.mp (show (Jvm.Cond.and given_1 narrow_1).before args s = true from hpre))
  obtain ⟨gg1, gg2⟩ := and_e hg
  obtain ⟨gg3, gg4⟩ := and_e gg2
  obtain ⟨gg5, gg6⟩ := and_e gg4
  obtain ⟨gg7, gg8⟩ := and_e gg6
  obtain ⟨w0, w1, w2, w3, rfl⟩ : ∃ w0 w1 w2 w3 : Value, args = #[w0, w1, w2, w3] := by
    have hs : args.size = 4 := by simpa [Cond.value, given_1] using gg1
    obtain ⟨L⟩ := args
    match L, hs with
    | [w0, w1, w2, w3], _ => exact ⟨w0, w1, w2, w3, rfl⟩
  have hw := fun d (hd : d ∈ tables_1) => atoms_spec (ws := Jvm.Cond.code x code maxLocals ret :: tables_1) hat d (List.mem_cons_of_mem _ hd)
  have hfit : Fit s := fun {y c} hc i hi => by
    obtain ⟨ha, rfl⟩ := Array.getElem?_eq_some_iff.mp hc
    have q := List.all_eq_true.mp ((Array.all_eq_true_iff_forall_mem.mp hF) _ (Array.getElem_mem ha)) i (List.mem_range.mpr hi)
    simpa [Array.getElem?_eq_getElem hi] using q
  obtain ⟨i0, ei0⟩ := is_v gg3
  obtain rfl : w0 = (.int i0) := Option.some.inj ei0
  obtain ⟨i1, ei1⟩ := is_v gg5
  obtain rfl : w1 = (.int i1) := Option.some.inj ei1
  obtain ⟨i2, ei2⟩ := is_v gg7
  obtain rfl : w2 = (.int i2) := Option.some.inj ei2
  obtain ⟨i3, ei3⟩ := is_v gg8
  obtain rfl : w3 = (.int i3) := Option.some.inj ei3
  obtain ⟨hsets, hown0⟩ := atoms_of _ (rest_1_c_eq ▸ (show rest_1_c.before _ s = true from hrest))
  obtain ⟨cs, ev_cs⟩ := is_v (Cond.before_iff.mp (hsets _ (List.mem_of_getElem? (i := 1) rfl)))
  have S_cs := Sta.start ev_cs (Or.inl (hsets _ (List.mem_of_getElem? (i := 0) rfl)))
  have hcw := hsets _ (List.mem_of_getElem? (i := 2) rfl)
  have hcs : ¬ (cs = (0 : Int32)) := own_neqi ev_cs (Cond.before_iff.mp hcw)
  have hCH : CHv s own_EL s.vm s.heap := CHv.start (own_ew hw) (fun p hp => by
      obtain rfl : p = ("java/lang/String", 7) := by simpa [own_EL] using hp
      exact hcalls.1 _ (List.mem_of_getElem? (i := 0) rfl)) hcw (hw _ (List.mem_of_getElem? (i := 19) rfl)) (hw _ (List.mem_of_getElem? (i := 2) rfl))
  obtain ⟨n, o, h1, h2, h3, _, L, rfl, ⟨hv, N⟩, hq⟩ := rm0 l s _ hw tables_1 i0 i1 i2 i3 cs s.heap s.heap.size (Nat.le_refl _) S_cs hcs p e ha hc hk s m _ below hf ((Spec.applies_iff_loose hf).mp happ).1 ⟨rfl, State.Warmed39.refl s, rfl, hCH⟩ trivial
  subst hv
  refine ⟨n, _, h1, h2, h3, hpost _ _ _ _ _ _ ⟨Cond.after_iff.mpr rfl, Cond.after_iff.mpr (eq_i res_at (Term.int_eval (1)) rfl), trivial⟩ ⟨hq.1, hq.2.1, hq.2.2.1, (hq.2.2.2.sift fun y hy => Or.inr (N y hy)).mono (by decide) (by decide)⟩⟩
theorem main_1_1 : Claimed_1_1 := comes_1 fun _ _ _ _ _ _ h hF => ⟨h.1, hF⟩
theorem main_1_2 : Claimed_1_2 := comes_1 fun _ _ _ _ _ _ h hF => ⟨h.2.1, hF⟩
end Jvm.Pilot.@@N@@
namespace Jvm.Pilot.@@N@@
open Jvm Jvm.ClassFile Sem Op Lib Jvm.Free Jvm.Stand Jvm.Pilot.@@N@@.Jvm.D
/-! MADE BY PROGRAM (witnessworld.py) out of the Statement's table words and the real class files: 20 classes; the members and pool entries that the words name. The judged class is class 1, her method 1. -/
namespace start1
open Jvm.ClassFile
def u (s : String) : CpInfo := .utf8 (stringToUtf16 s)
/-- a pool by its gaps: so many unusable entries, then the entry; so many at the end -/
def gap : Nat → List CpInfo → List CpInfo
  | 0, r => r
  | n + 1, r => .unusable :: gap n r
def poolList (es : List (Nat × CpInfo)) (last : Nat) : List CpInfo := es.foldr (fun e r => gap e.1 (e.2 :: r)) (gap last [])
def pool (es : List (Nat × CpInfo)) (last : Nat) : Array CpInfo := ⟨poolList es last⟩
def fileOf (pool : Array CpInfo) (this : Nat) (attrs : Array Attribute := #[]) (ms : Array MethodInfo := #[]) (fl : Nat := 33) (sup : Nat := 0) (ifs : Array Nat := #[]) (fds : Array FieldInfo := #[]) : ClassFile where
  minorVersion := 0
  majorVersion := 65
  constantPool := pool
  accessFlags := fl
  thisClass := this
  superClass := sup
  interfaces := ifs
  fields := fds
  methods := ms
  attributes := attrs
def plain (name : String) (sup : Option ClassId) : Class where
  name := name
  kind := .ordinary
  loader := none
  accessFlags := 33
  super := sup
  interfaces := #[]
  cf := none
  fields := #[]
  methods := #[]
  instanceTypes := #[]
  staticTypes := #[]
  resolved := #[]
  callSites := []
  init := .initialized
  statics := none
  mirror := none

def pool0 : Array CpInfo := pool [(5, u "<init>"), (0, u "()V"), (1, .class_ 10), (1, u "java/lang/Object")] 113

def k0c0 : Code := { maxStack := 0, maxLocals := 1, code := object_method_1_code, exceptionTable := #[], attributes := #[] }
def k0m0 : Method := { name := "<init>", desc := "()V", sig := { parameters := [], returnType := none }, accessFlags := 1, code := some k0c0 }
/-- java/lang/Object -/
def k0 : Class := { plain "java/lang/Object" none with
  accessFlags := 33
  interfaces := #[]
  cf := some (fileOf pool0 8 #[] #[{ accessFlags := 1, nameIndex := 5, descriptorIndex := 6, attributes := #[] }] 33 0 #[] #[])
  fields := #[]
  methods := #[k0m0]
  instanceTypes := #[]
  staticTypes := #[]
  resolved := Array.replicate 124 none
  statics := none }

def pool1 : Array CpInfo := pool [(2, .class_ 4), (1, u "java/lang/Object"), (0, u "<init>"), (0, u "()V"), (0, .class_ 8), (0, u "java/lang/String"), (0, .methodref 7 10), (0, .nameAndType 5 11), (0, u "([C)V"), (0, .class_ 13), (0, u "com/example/caseloom/caseloom/model/Transition"), (0, .methodref 12 15), (0, .nameAndType 5 16), (0, u "(Ljava/lang/String;Ljava/lang/String;Lcom/example/caseloom/caseloom/model/Marking;Lcom/example/caseloom/caseloom/model/Marking;)V"), (0, .methodref 12 18), (0, .nameAndType 19 20), (0, u "isTask"), (0, u "()Z"), (0, .methodref 12 22), (0, .nameAndType 23 24), (0, u "label"), (0, u "()Ljava/lang/String;"), (0, .class_ 26), (0, u "com/example/caseloom/caseloom/model/TransitionIsTaskPinLaw"), (2, u "law"), (0, u "(IIII)Z")] 5

def k1m0 : Method := { name := "<init>", desc := "()V", sig := { parameters := [], returnType := none }, accessFlags := 2, code := none }
def k1c1 : Code := { maxStack := 6, maxLocals := 12, code := code, exceptionTable := #[], attributes := #[] }
def k1m1 : Method := { name := "law", desc := "(IIII)Z", sig := { parameters := [.int, .int, .int, .int], returnType := some .boolean }, accessFlags := 9, code := some k1c1 }
/-- com/example/caseloom/caseloom/model/TransitionIsTaskPinLaw -/
def k1 : Class := { plain "com/example/caseloom/caseloom/model/TransitionIsTaskPinLaw" (some 0) with
  accessFlags := 49
  interfaces := #[]
  cf := some (fileOf pool1 25 #[] #[{ accessFlags := 2, nameIndex := 5, descriptorIndex := 6, attributes := #[] }, { accessFlags := 9, nameIndex := 29, descriptorIndex := 30, attributes := #[] }] 49 2 #[] #[])
  fields := #[]
  methods := #[k1m0, k1m1]
  instanceTypes := #[]
  staticTypes := #[]
  resolved := Array.replicate 36 none
  statics := none }

def pool2 : Array CpInfo := pool [(1, .class_ 2), (0, u "java/io/Serializable"), (0, .class_ 4), (0, u "java/lang/Object")] 2

/-- java/io/Serializable -/
def k2 : Class := { plain "java/io/Serializable" (some 0) with
  accessFlags := 1537
  interfaces := #[]
  cf := some (fileOf pool2 1 #[] #[] 1537 3 #[] #[])
  fields := #[]
  methods := #[]
  instanceTypes := #[]
  staticTypes := #[]
  resolved := Array.replicate 7 none
  statics := none }

def pool3 : Array CpInfo := pool [(1, .class_ 2), (0, u "java/lang/Comparable"), (0, .class_ 4), (0, u "java/lang/Object")] 7

/-- java/lang/Comparable -/
def k3 : Class := { plain "java/lang/Comparable" (some 0) with
  accessFlags := 1537
  interfaces := #[]
  cf := some (fileOf pool3 1 #[] #[] 1537 3 #[] #[])
  fields := #[]
  methods := #[]
  instanceTypes := #[]
  staticTypes := #[]
  resolved := Array.replicate 12 none
  statics := none }

def pool4 : Array CpInfo := pool [(2, .class_ 4), (1, u "java/lang/CharSequence"), (42, .class_ 48), (0, u "java/lang/CharSequence$1CodePointIterator"), (10, .class_ 60), (0, u "java/lang/CharSequence$1CharIterator"), (5, .class_ 67), (0, u "java/lang/Object")] 63

/-- java/lang/CharSequence -/
def k4 : Class := { plain "java/lang/CharSequence" (some 0) with
  accessFlags := 1537
  interfaces := #[]
  cf := some (fileOf pool4 2 #[.nestMembers #[47, 59]] #[] 1537 66 #[] #[])
  fields := #[]
  methods := #[]
  instanceTypes := #[]
  staticTypes := #[]
  resolved := Array.replicate 131 none
  statics := none }

def pool5 : Array CpInfo := pool [(1, .class_ 2), (0, u "java/lang/constant/Constable"), (0, .class_ 4), (0, u "java/lang/Object")] 6

/-- java/lang/constant/Constable -/
def k5 : Class := { plain "java/lang/constant/Constable" (some 0) with
  accessFlags := 1537
  interfaces := #[]
  cf := some (fileOf pool5 1 #[] #[] 1537 3 #[] #[])
  fields := #[]
  methods := #[]
  instanceTypes := #[]
  staticTypes := #[]
  resolved := Array.replicate 11 none
  statics := none }

def pool6 : Array CpInfo := pool [(1, .class_ 2), (0, u "java/lang/constant/ConstantDesc"), (0, .class_ 4), (0, u "java/lang/Object")] 32

/-- java/lang/constant/ConstantDesc -/
def k6 : Class := { plain "java/lang/constant/ConstantDesc" (some 0) with
  accessFlags := 1537
  interfaces := #[]
  cf := some (fileOf pool6 1 #[] #[] 1537 3 #[] #[])
  fields := #[]
  methods := #[]
  instanceTypes := #[]
  staticTypes := #[]
  resolved := Array.replicate 37 none
  statics := none }

def pool7 : Array CpInfo := pool [(1, .methodref 2 3), (0, .class_ 4), (0, .nameAndType 5 6), (0, u "java/lang/Object"), (0, u "<init>"), (0, u "()V"), (0, .string 8), (0, u ""), (0, .fieldref 10 11), (0, .class_ 12), (0, .nameAndType 13 14), (0, u "java/lang/String"), (0, u "value"), (0, u "[B"), (0, .fieldref 10 16), (0, .nameAndType 17 18), (0, u "coder"), (0, u "B"), (2, u "hash"), (0, u "I"), (2, u "hashIsZero"), (0, u "Z"), (0, .methodref 10 28), (0, .nameAndType 5 29), (0, u "([CIILjava/lang/Void;)V"), (8, .fieldref 10 39), (0, .nameAndType 40 26), (0, u "COMPACT_STRINGS"), (1, .class_ 44), (1, u "java/lang/StringUTF16"), (0, u "compress"), (1, .methodref 42 48), (0, .nameAndType 49 50), (0, u "coderFromArrayLen"), (0, u "([BI)B"), (126, .methodref 42 178), (0, .nameAndType 45 179), (0, u "([CII)[B"), (395, .class_ 576), (0, u "java/lang/CharSequence"), (22, u "CASE_INSENSITIVE_ORDER"), (0, u "Ljava/util/Comparator;"), (409, u "([C)V"), (90, u "serialPersistentFields"), (0, u "[Ljava/io/ObjectStreamField;"), (0, .class_ 1104), (0, u "java/lang/String$CaseInsensitiveComparator"), (1, .class_ 1107), (0, u "java/io/Serializable"), (0, .class_ 1109), (0, u "java/lang/Comparable"), (0, .class_ 1111), (0, u "java/lang/constant/Constable"), (0, .class_ 1113), (0, u "java/lang/constant/ConstantDesc"), (2, u "serialVersionUID"), (0, u "J"), (3, u "REPL"), (0, u "C"), (2, u "LATIN1"), (1, u "UTF16")] 323

def k7m0 : Method := { name := "<init>", desc := "()V", sig := { parameters := [], returnType := none }, accessFlags := 1, code := none }
def k7c1 : Code := { maxStack := 5, maxLocals := 2, code := jdk_42_method_3_code, exceptionTable := #[], attributes := #[] }
def k7m1 : Method := { name := "<init>", desc := "([C)V", sig := { parameters := [(.array .char)], returnType := none }, accessFlags := 1, code := some k7c1 }
def k7c2 : Code := { maxStack := 4, maxLocals := 6, code := jdk_42_method_149_code, exceptionTable := #[], attributes := #[] }
def k7m2 : Method := { name := "<init>", desc := "([CIILjava/lang/Void;)V", sig := { parameters := [(.array .char), .int, .int, (.object "java/lang/Void")], returnType := none }, accessFlags := 2, code := some k7c2 }
/-- java/lang/String -/
def k7 : Class := { plain "java/lang/String" (some 0) with
  accessFlags := 49
  interfaces := #[2, 3, 4, 5, 6]
  cf := some (fileOf pool7 10 #[.nestMembers #[1103]] #[{ accessFlags := 1, nameIndex := 5, descriptorIndex := 6, attributes := #[] }, { accessFlags := 1, nameIndex := 5, descriptorIndex := 1010, attributes := #[] }, { accessFlags := 2, nameIndex := 5, descriptorIndex := 29, attributes := #[] }] 49 2 #[1106, 1108, 575, 1110, 1112] #[{ accessFlags := 18, nameIndex := 13, descriptorIndex := 14, attributes := #[] }, { accessFlags := 18, nameIndex := 17, descriptorIndex := 18, attributes := #[] }, { accessFlags := 2, nameIndex := 21, descriptorIndex := 22, attributes := #[] }, { accessFlags := 2, nameIndex := 25, descriptorIndex := 26, attributes := #[] }, { accessFlags := 26, nameIndex := 1116, descriptorIndex := 1117, attributes := #[] }, { accessFlags := 24, nameIndex := 40, descriptorIndex := 26, attributes := #[] }, { accessFlags := 26, nameIndex := 1101, descriptorIndex := 1102, attributes := #[] }, { accessFlags := 26, nameIndex := 1121, descriptorIndex := 1122, attributes := #[] }, { accessFlags := 25, nameIndex := 599, descriptorIndex := 600, attributes := #[] }, { accessFlags := 24, nameIndex := 1125, descriptorIndex := 18, attributes := #[] }, { accessFlags := 24, nameIndex := 1127, descriptorIndex := 18, attributes := #[] }])
  fields := #[{ name := "value", type := (.array .byte), accessFlags := 18, slot := 0, constantValue := 0 }, { name := "coder", type := .byte, accessFlags := 18, slot := 1, constantValue := 0 }, { name := "hash", type := .int, accessFlags := 2, slot := 2, constantValue := 0 }, { name := "hashIsZero", type := .boolean, accessFlags := 2, slot := 3, constantValue := 0 }, { name := "serialVersionUID", type := .long, accessFlags := 26, slot := 0, constantValue := 0 }, { name := "COMPACT_STRINGS", type := .boolean, accessFlags := 24, slot := 1, constantValue := 0 }, { name := "serialPersistentFields", type := (.array (.object "java/io/ObjectStreamField")), accessFlags := 26, slot := 2, constantValue := 0 }, { name := "REPL", type := .char, accessFlags := 26, slot := 3, constantValue := 0 }, { name := "CASE_INSENSITIVE_ORDER", type := (.object "java/util/Comparator"), accessFlags := 25, slot := 4, constantValue := 0 }, { name := "LATIN1", type := .byte, accessFlags := 24, slot := 5, constantValue := 0 }, { name := "UTF16", type := .byte, accessFlags := 24, slot := 6, constantValue := 0 }]
  methods := #[k7m0, k7m1, k7m2]
  instanceTypes := #[(.array .byte), .byte, .int, .boolean]
  staticTypes := #[.long, .boolean, (.array (.object "java/io/ObjectStreamField")), .char, (.object "java/util/Comparator"), .byte, .byte]
  resolved := Array.replicate 1451 none
  statics := some 0 }

def pool8 : Array CpInfo := pool [(6, .class_ 8), (1, u "java/lang/Object"), (0, u "<init>"), (0, u "()V"), (1, .class_ 14), (1, u "java/lang/StringUTF16"), (31, u "$assertionsDisabled"), (0, u "Z"), (13, u "HI_BYTE_SHIFT"), (0, u "I"), (2, u "LO_BYTE_SHIFT"), (49, .methodref 12 116), (0, .nameAndType 117 118), (0, u "compress"), (0, u "([CI[BII)I"), (3, u "([CII)[B"), (138, u "coderFromArrayLen"), (0, u "([BI)B"), (106, .class_ 371), (1, u "java/lang/StringUTF16$LinesSpliterator"), (58, u "MAX_LENGTH"), (196, .class_ 628), (0, u "java/lang/StringUTF16$CodePointsSpliterator"), (0, .class_ 630), (0, u "java/lang/StringUTF16$CharsSpliterator")] 4

def k8m0 : Method := { name := "<init>", desc := "()V", sig := { parameters := [], returnType := none }, accessFlags := 0, code := none }
def k8c1 : Code := { maxStack := 2, maxLocals := 2, code := jdk_52_method_15_code, exceptionTable := #[], attributes := #[] }
def k8m1 : Method := { name := "coderFromArrayLen", desc := "([BI)B", sig := { parameters := [(.array .byte), .int], returnType := some .byte }, accessFlags := 8, code := some k8c1 }
def k8c2 : Code := { maxStack := 5, maxLocals := 6, code := jdk_52_method_16_code, exceptionTable := #[], attributes := #[] }
def k8m2 : Method := { name := "compress", desc := "([CII)[B", sig := { parameters := [(.array .char), .int, .int], returnType := some (.array .byte) }, accessFlags := 9, code := some k8c2 }
def k8c3 : Code := { maxStack := 3, maxLocals := 7, code := jdk_52_method_21_code, exceptionTable := #[], attributes := #[] }
def k8m3 : Method := { name := "compress", desc := "([CI[BII)I", sig := { parameters := [(.array .char), .int, (.array .byte), .int, .int], returnType := some .int }, accessFlags := 9, code := some k8c3 }
/-- java/lang/StringUTF16 -/
def k8 : Class := { plain "java/lang/StringUTF16" (some 0) with
  accessFlags := 48
  interfaces := #[]
  cf := some (fileOf pool8 12 #[.nestMembers #[627, 629, 369]] #[{ accessFlags := 0, nameIndex := 9, descriptorIndex := 10, attributes := #[] }, { accessFlags := 8, nameIndex := 261, descriptorIndex := 262, attributes := #[] }, { accessFlags := 9, nameIndex := 117, descriptorIndex := 122, attributes := #[] }, { accessFlags := 9, nameIndex := 117, descriptorIndex := 118, attributes := #[] }] 48 6 #[] #[{ accessFlags := 26, nameIndex := 61, descriptorIndex := 62, attributes := #[] }, { accessFlags := 26, nameIndex := 65, descriptorIndex := 62, attributes := #[] }, { accessFlags := 24, nameIndex := 430, descriptorIndex := 62, attributes := #[] }, { accessFlags := 4120, nameIndex := 46, descriptorIndex := 47, attributes := #[] }])
  fields := #[{ name := "HI_BYTE_SHIFT", type := .int, accessFlags := 26, slot := 0, constantValue := 0 }, { name := "LO_BYTE_SHIFT", type := .int, accessFlags := 26, slot := 1, constantValue := 0 }, { name := "MAX_LENGTH", type := .int, accessFlags := 24, slot := 2, constantValue := 0 }, { name := "$assertionsDisabled", type := .boolean, accessFlags := 4120, slot := 3, constantValue := 0 }]
  methods := #[k8m0, k8m1, k8m2, k8m3]
  instanceTypes := #[]
  staticTypes := #[.int, .int, .int, .boolean]
  resolved := Array.replicate 635 none
  statics := none }

def pool9 : Array CpInfo := pool [(1, .methodref 2 3), (0, .class_ 4), (0, .nameAndType 5 6), (0, u "java/lang/Object"), (0, u "<init>"), (0, u "()V"), (0, .fieldref 8 9), (0, .class_ 10), (0, .nameAndType 11 12), (0, u "com/example/caseloom/caseloom/model/Transition"), (0, u "id"), (0, u "Ljava/lang/String;"), (0, .fieldref 8 14), (0, .nameAndType 15 12), (0, u "label"), (0, .fieldref 8 17), (0, .nameAndType 18 19), (0, u "inputs"), (0, u "Lcom/example/caseloom/caseloom/model/Marking;"), (0, .fieldref 8 21), (0, .nameAndType 22 19), (0, u "outputs"), (19, u "isTask"), (0, u "()Z"), (4, u "(Ljava/lang/String;Ljava/lang/String;Lcom/example/caseloom/caseloom/model/Marking;Lcom/example/caseloom/caseloom/model/Marking;)V"), (2, u "()Ljava/lang/String;")] 26

def k9c0 : Code := { maxStack := 2, maxLocals := 5, code := prog_39_method_1_code, exceptionTable := #[], attributes := #[] }
def k9m0 : Method := { name := "<init>", desc := "(Ljava/lang/String;Ljava/lang/String;Lcom/example/caseloom/caseloom/model/Marking;Lcom/example/caseloom/caseloom/model/Marking;)V", sig := { parameters := [(.object "java/lang/String"), (.object "java/lang/String"), (.object "com/example/caseloom/caseloom/model/Marking"), (.object "com/example/caseloom/caseloom/model/Marking")], returnType := none }, accessFlags := 1, code := some k9c0 }
def k9c1 : Code := { maxStack := 1, maxLocals := 1, code := prog_39_method_3_code, exceptionTable := #[], attributes := #[] }
def k9m1 : Method := { name := "label", desc := "()Ljava/lang/String;", sig := { parameters := [], returnType := some (.object "java/lang/String") }, accessFlags := 1, code := some k9c1 }
def k9c2 : Code := { maxStack := 1, maxLocals := 1, code := prog_39_method_6_code, exceptionTable := #[], attributes := #[] }
def k9m2 : Method := { name := "isTask", desc := "()Z", sig := { parameters := [], returnType := some .boolean }, accessFlags := 1, code := some k9c2 }
/-- com/example/caseloom/caseloom/model/Transition -/
def k9 : Class := { plain "com/example/caseloom/caseloom/model/Transition" (some 0) with
  accessFlags := 33
  interfaces := #[]
  cf := some (fileOf pool9 8 #[] #[{ accessFlags := 1, nameIndex := 5, descriptorIndex := 48, attributes := #[] }, { accessFlags := 1, nameIndex := 15, descriptorIndex := 51, attributes := #[] }, { accessFlags := 1, nameIndex := 42, descriptorIndex := 43, attributes := #[] }] 33 2 #[] #[{ accessFlags := 18, nameIndex := 11, descriptorIndex := 12, attributes := #[] }, { accessFlags := 18, nameIndex := 15, descriptorIndex := 12, attributes := #[] }, { accessFlags := 18, nameIndex := 18, descriptorIndex := 19, attributes := #[] }, { accessFlags := 18, nameIndex := 22, descriptorIndex := 19, attributes := #[] }])
  fields := #[{ name := "id", type := (.object "java/lang/String"), accessFlags := 18, slot := 0, constantValue := 0 }, { name := "label", type := (.object "java/lang/String"), accessFlags := 18, slot := 1, constantValue := 0 }, { name := "inputs", type := (.object "com/example/caseloom/caseloom/model/Marking"), accessFlags := 18, slot := 2, constantValue := 0 }, { name := "outputs", type := (.object "com/example/caseloom/caseloom/model/Marking"), accessFlags := 18, slot := 3, constantValue := 0 }]
  methods := #[k9m0, k9m1, k9m2]
  instanceTypes := #[(.object "java/lang/String"), (.object "java/lang/String"), (.object "com/example/caseloom/caseloom/model/Marking"), (.object "com/example/caseloom/caseloom/model/Marking")]
  staticTypes := #[]
  resolved := Array.replicate 78 none
  statics := none }

def pool10 : Array CpInfo := pool [(4, .class_ 6), (1, u "java/lang/Object"), (0, u "<init>"), (0, u "()V"), (5, .class_ 16), (1, u "java/lang/StringLatin1"), (104, u "$assertionsDisabled"), (0, u "Z"), (98, .class_ 223), (1, u "java/lang/StringLatin1$LinesSpliterator"), (166, .class_ 391), (0, u "java/lang/StringLatin1$CharsSpliterator")] 3

def k10m0 : Method := { name := "<init>", desc := "()V", sig := { parameters := [], returnType := none }, accessFlags := 0, code := none }
/-- java/lang/StringLatin1 -/
def k10 : Class := { plain "java/lang/StringLatin1" (some 0) with
  accessFlags := 48
  interfaces := #[]
  cf := some (fileOf pool10 14 #[.nestMembers #[390, 221]] #[{ accessFlags := 0, nameIndex := 7, descriptorIndex := 8, attributes := #[] }] 48 4 #[] #[{ accessFlags := 4120, nameIndex := 121, descriptorIndex := 122, attributes := #[] }])
  fields := #[{ name := "$assertionsDisabled", type := .boolean, accessFlags := 4120, slot := 0, constantValue := 0 }]
  methods := #[k10m0]
  instanceTypes := #[]
  staticTypes := #[.boolean]
  resolved := Array.replicate 395 none
  statics := none }

def pool11 : Array CpInfo := pool [(2, .class_ 4), (1, u "java/lang/Object"), (0, u "<init>"), (0, u "()V"), (17, .class_ 26), (1, u "jdk/internal/util/Preconditions"), (28, .class_ 56), (0, u "jdk/internal/util/Preconditions$4"), (57, .class_ 115), (0, u "jdk/internal/util/Preconditions$1"), (7, u "SIOOBE_FORMATTER"), (0, u "Ljava/util/function/BiFunction;"), (0, .class_ 126), (0, u "jdk/internal/util/Preconditions$2"), (3, u "AIOOBE_FORMATTER"), (0, .class_ 132), (0, u "jdk/internal/util/Preconditions$3"), (3, u "IOOBE_FORMATTER")] 57

def k11m0 : Method := { name := "<init>", desc := "()V", sig := { parameters := [], returnType := none }, accessFlags := 1, code := none }
/-- jdk/internal/util/Preconditions -/
def k11 : Class := { plain "jdk/internal/util/Preconditions" (some 0) with
  accessFlags := 33
  interfaces := #[]
  cf := some (fileOf pool11 24 #[.nestMembers #[55, 131, 125, 114]] #[{ accessFlags := 1, nameIndex := 5, descriptorIndex := 6, attributes := #[] }] 33 2 #[] #[{ accessFlags := 25, nameIndex := 123, descriptorIndex := 124, attributes := #[] }, { accessFlags := 25, nameIndex := 130, descriptorIndex := 124, attributes := #[] }, { accessFlags := 25, nameIndex := 136, descriptorIndex := 124, attributes := #[] }])
  fields := #[{ name := "SIOOBE_FORMATTER", type := (.object "java/util/function/BiFunction"), accessFlags := 25, slot := 0, constantValue := 0 }, { name := "AIOOBE_FORMATTER", type := (.object "java/util/function/BiFunction"), accessFlags := 25, slot := 1, constantValue := 0 }, { name := "IOOBE_FORMATTER", type := (.object "java/util/function/BiFunction"), accessFlags := 25, slot := 2, constantValue := 0 }]
  methods := #[k11m0]
  instanceTypes := #[]
  staticTypes := #[(.object "java/util/function/BiFunction"), (.object "java/util/function/BiFunction"), (.object "java/util/function/BiFunction")]
  resolved := Array.replicate 194 none
  statics := some 1 }

def pool12 : Array CpInfo := pool [(9, u "<init>"), (6, .class_ 18), (1, u "java/lang/Object"), (0, u "()V"), (1, .class_ 23), (1, u "jdk/internal/util/ArraysSupport"), (0, u "LOG2_ARRAY_LONG_INDEX_SCALE"), (0, u "I"), (2, u "U"), (0, u "Ljdk/internal/misc/Unsafe;"), (8, u "BIG_ENDIAN"), (0, u "Z"), (8, u "LOG2_BYTE_BIT_SIZE"), (4, u "LOG2_ARRAY_INT_INDEX_SCALE"), (54, u "JLA"), (0, u "Ljdk/internal/access/JavaLangAccess;"), (11, u "LOG2_ARRAY_BOOLEAN_INDEX_SCALE"), (9, u "LOG2_ARRAY_BYTE_INDEX_SCALE"), (5, u "LOG2_ARRAY_CHAR_INDEX_SCALE"), (5, u "LOG2_ARRAY_SHORT_INDEX_SCALE"), (18, u "LOG2_ARRAY_FLOAT_INDEX_SCALE"), (24, u "LOG2_ARRAY_DOUBLE_INDEX_SCALE"), (89, u "T_BOOLEAN"), (2, u "T_CHAR"), (1, u "T_FLOAT"), (1, u "T_DOUBLE"), (1, u "T_BYTE"), (1, u "T_SHORT"), (1, u "T_INT"), (1, u "T_LONG"), (1, u "SOFT_MAX_ARRAY_LENGTH")] 83

def k12m0 : Method := { name := "<init>", desc := "()V", sig := { parameters := [], returnType := none }, accessFlags := 2, code := none }
/-- jdk/internal/util/ArraysSupport -/
def k12 : Class := { plain "jdk/internal/util/ArraysSupport" (some 0) with
  accessFlags := 33
  interfaces := #[]
  cf := some (fileOf pool12 21 #[] #[{ accessFlags := 2, nameIndex := 9, descriptorIndex := 19, attributes := #[] }] 33 16 #[] #[{ accessFlags := 24, nameIndex := 28, descriptorIndex := 29, attributes := #[] }, { accessFlags := 26, nameIndex := 38, descriptorIndex := 39, attributes := #[] }, { accessFlags := 25, nameIndex := 121, descriptorIndex := 25, attributes := #[] }, { accessFlags := 25, nameIndex := 131, descriptorIndex := 25, attributes := #[] }, { accessFlags := 25, nameIndex := 137, descriptorIndex := 25, attributes := #[] }, { accessFlags := 25, nameIndex := 143, descriptorIndex := 25, attributes := #[] }, { accessFlags := 25, nameIndex := 53, descriptorIndex := 25, attributes := #[] }, { accessFlags := 25, nameIndex := 24, descriptorIndex := 25, attributes := #[] }, { accessFlags := 25, nameIndex := 162, descriptorIndex := 25, attributes := #[] }, { accessFlags := 25, nameIndex := 187, descriptorIndex := 25, attributes := #[] }, { accessFlags := 26, nameIndex := 48, descriptorIndex := 25, attributes := #[] }, { accessFlags := 25, nameIndex := 277, descriptorIndex := 25, attributes := #[] }, { accessFlags := 25, nameIndex := 280, descriptorIndex := 25, attributes := #[] }, { accessFlags := 25, nameIndex := 282, descriptorIndex := 25, attributes := #[] }, { accessFlags := 25, nameIndex := 284, descriptorIndex := 25, attributes := #[] }, { accessFlags := 25, nameIndex := 286, descriptorIndex := 25, attributes := #[] }, { accessFlags := 25, nameIndex := 288, descriptorIndex := 25, attributes := #[] }, { accessFlags := 25, nameIndex := 290, descriptorIndex := 25, attributes := #[] }, { accessFlags := 25, nameIndex := 292, descriptorIndex := 25, attributes := #[] }, { accessFlags := 26, nameIndex := 108, descriptorIndex := 109, attributes := #[] }, { accessFlags := 25, nameIndex := 294, descriptorIndex := 25, attributes := #[] }])
  fields := #[{ name := "U", type := (.object "jdk/internal/misc/Unsafe"), accessFlags := 24, slot := 0, constantValue := 0 }, { name := "BIG_ENDIAN", type := .boolean, accessFlags := 26, slot := 1, constantValue := 0 }, { name := "LOG2_ARRAY_BOOLEAN_INDEX_SCALE", type := .int, accessFlags := 25, slot := 2, constantValue := 0 }, { name := "LOG2_ARRAY_BYTE_INDEX_SCALE", type := .int, accessFlags := 25, slot := 3, constantValue := 0 }, { name := "LOG2_ARRAY_CHAR_INDEX_SCALE", type := .int, accessFlags := 25, slot := 4, constantValue := 0 }, { name := "LOG2_ARRAY_SHORT_INDEX_SCALE", type := .int, accessFlags := 25, slot := 5, constantValue := 0 }, { name := "LOG2_ARRAY_INT_INDEX_SCALE", type := .int, accessFlags := 25, slot := 6, constantValue := 0 }, { name := "LOG2_ARRAY_LONG_INDEX_SCALE", type := .int, accessFlags := 25, slot := 7, constantValue := 0 }, { name := "LOG2_ARRAY_FLOAT_INDEX_SCALE", type := .int, accessFlags := 25, slot := 8, constantValue := 0 }, { name := "LOG2_ARRAY_DOUBLE_INDEX_SCALE", type := .int, accessFlags := 25, slot := 9, constantValue := 0 }, { name := "LOG2_BYTE_BIT_SIZE", type := .int, accessFlags := 26, slot := 10, constantValue := 0 }, { name := "T_BOOLEAN", type := .int, accessFlags := 25, slot := 11, constantValue := 0 }, { name := "T_CHAR", type := .int, accessFlags := 25, slot := 12, constantValue := 0 }, { name := "T_FLOAT", type := .int, accessFlags := 25, slot := 13, constantValue := 0 }, { name := "T_DOUBLE", type := .int, accessFlags := 25, slot := 14, constantValue := 0 }, { name := "T_BYTE", type := .int, accessFlags := 25, slot := 15, constantValue := 0 }, { name := "T_SHORT", type := .int, accessFlags := 25, slot := 16, constantValue := 0 }, { name := "T_INT", type := .int, accessFlags := 25, slot := 17, constantValue := 0 }, { name := "T_LONG", type := .int, accessFlags := 25, slot := 18, constantValue := 0 }, { name := "JLA", type := (.object "jdk/internal/access/JavaLangAccess"), accessFlags := 26, slot := 19, constantValue := 0 }, { name := "SOFT_MAX_ARRAY_LENGTH", type := .int, accessFlags := 25, slot := 20, constantValue := 0 }]
  methods := #[k12m0]
  instanceTypes := #[]
  staticTypes := #[(.object "jdk/internal/misc/Unsafe"), .boolean, .int, .int, .int, .int, .int, .int, .int, .int, .int, .int, .int, .int, .int, .int, .int, .int, .int, (.object "jdk/internal/access/JavaLangAccess"), .int]
  resolved := Array.replicate 378 none
  statics := none }

def pool13 : Array CpInfo := pool [(1, u "java/lang/Cloneable"), (0, .class_ 1), (0, u "java/lang/Object"), (0, .class_ 3)] 3

/-- java/lang/Cloneable -/
def k13 : Class := { plain "java/lang/Cloneable" (some 0) with
  accessFlags := 1537
  interfaces := #[]
  cf := some (fileOf pool13 2 #[] #[] 1537 4 #[] #[])
  fields := #[]
  methods := #[]
  instanceTypes := #[]
  staticTypes := #[]
  resolved := Array.replicate 8 none
  statics := none }

/-- the primitive byte -/
def k14 : Class := { plain "byte" none with kind := .primitive 'B', accessFlags := 0x411 }
/-- [B -/
def k15 : Class := { plain "[B" (some 0) with kind := .array 14 .byte, interfaces := #[13, 2], accessFlags := 1041 }

/-- the primitive char -/
def k16 : Class := { plain "char" none with kind := .primitive 'C', accessFlags := 0x411 }
/-- [C -/
def k17 : Class := { plain "[C" (some 0) with kind := .array 16 .char, interfaces := #[13, 2], accessFlags := 1041 }

/-- the primitive int -/
def k18 : Class := { plain "int" none with kind := .primitive 'I', accessFlags := 0x411 }
/-- [I -/
def k19 : Class := { plain "[I" (some 0) with kind := .array 18 .int, interfaces := #[13, 2], accessFlags := 1041 }

def heap : Heap := #[{ cls := 7, slots := #[.long 0, .int 1, .null, .int 0, .null, .int 0, .int 0], vm := .statics 7 },
  { cls := 11, slots := #[.null, .null, .null], vm := .statics 11 }]
def classes : Array Class := #[k0, k1, k2, k3, k4, k5, k6, k7, k8, k9, k10, k11, k12, k13, k14, k15, k16, k17, k18, k19]
def interned : List (Array UInt16 × Addr) := []
def slotsUsed : Nat := 10
def theMethod : MethodId := ⟨1, 1⟩
def args0 : Array Value := #[.int 6, .int 65, .int 66, .int 67]
def aboutOver (below : List Frame) : State where
  vm := { classes := classes, interned := interned.toArray }
  heap := heap
  slotsUsed := slotsUsed
  threads := #[{ frames := .invoking theMethod args0 :: below }]
def below0 : List Frame := [.native { method := ⟨0, 0⟩, args := #[] }]
def about1 : State := aboutOver below0
def p0 : Program := .bare "" "" ""
def e0 : Env := launch0.env 0 0 0
theorem w_frames : about1.frames = Frame.invoking theMethod args0 :: below0 := rfl
set_option maxRecDepth 65536 in
theorem w_args : argsFit about1.vm theMethod args0 = true := by decide +kernel
set_option maxRecDepth 65536 in
theorem w_heap : heapFits about1 = true := by decide +kernel
set_option maxRecDepth 65536 in
theorem w_runnable : about1.curStatus? = some .runnable := by decide +kernel
set_option maxRecDepth 65536 in
theorem w_alone : about1.alone = true := by decide +kernel
set_option maxRecDepth 65536 in
theorem w_named : about1.methodNamed? x = some theMethod := by decide +kernel
set_option maxRecDepth 65536 in
theorem w_hears : about1.hears theMethod below0 = true := by decide +kernel
set_option maxRecDepth 65536 in
theorem w_ripe : about1.ripe theMethod args0 below0 = true := by decide +kernel
theorem w_running : about1.status = .running := rfl
set_option maxRecDepth 65536 in
theorem w_room : about1.hasRoom e0.platform room_1 = true :=
  launch0.hasRoom_least _ room_1 (by decide +kernel) (by decide +kernel) (by decide +kernel) (by decide +kernel) (by decide +kernel) (by decide +kernel)
theorem allAtoms_all (ts : List Jvm.Cond) (a : Array Jvm.Value) (st : Jvm.State) : (allAtoms ts).before a st = ts.all (fun c => c.before a st) := by
  induction ts with
  | nil => rfl
  | cons c t ih =>
    show (Jvm.Cond.and c (allAtoms t)).before a st = _
    rw [Jvm.Cond.before_and, ih, List.all_cons]
def words1 : List Jvm.Cond := Jvm.Cond.code x code maxLocals ret :: tables_1
/-- a 'code' word, met by the world's own term for the bytes: nothing is compared byte by byte -/
theorem code_word {y : MethodName} {bytes : ByteArray} {mx : Nat} {rt : Option FieldType} {a : Array Value} {s : State} {m : MethodId} {meth : Method} {c : Code} (h1 : s.methodNamed? y = some m) (h2 : s.vm.method? m = some meth) (h3 : meth.code = some c) (h4 : c.code = bytes)
    (h5 : (c.maxLocals == mx && c.exceptionTable.isEmpty && decide (c.maxStack ≤ mostOperands) && decide (meth.sig.returnType = rt) && !meth.locks && decide (parseMethodDescriptor y.desc = some meth.sig)) = true) : (Jvm.Cond.code y bytes mx rt).before a s = true := by
  simp only [Bool.and_eq_true, beq_iff_eq, Bool.not_eq_true', decide_eq_true_eq] at h5
  obtain ⟨⟨⟨⟨⟨g1, g2⟩, g3⟩, g4⟩, g5⟩, g6⟩ := h5
  simp [Cond.before, Cond.holds, Cond.value, h1, h2, h3, h4, g1, g2, g3, g4, g5, g6]
def isCode : Jvm.Cond → Bool
  | .code _ _ _ _ => true
  | _ => false
theorem all_split {L : List Jvm.Cond} {P : Jvm.Cond → Bool} (h1 : L.all (fun c => isCode c || P c) = true) (h2 : ∀ c ∈ L.filter isCode, P c = true) : L.all P = true := by
  refine List.all_eq_true.mpr fun c hc => ?_
  have h := List.all_eq_true.mp h1 c hc
  rcases Bool.eq_false_or_eq_true (isCode c) with hi | hi
  · exact h2 c (List.mem_filter.mpr ⟨hc, hi⟩)
  · simpa [hi] using h
set_option maxRecDepth 65536 in
theorem w_c0 : (Jvm.Cond.code x code maxLocals ret).before args0 about1 = true := code_word (m := ⟨1, 1⟩) (meth := k1m1) (c := k1c1) (by decide +kernel) rfl rfl rfl (by decide +kernel)
set_option maxRecDepth 65536 in
theorem w_c1 : (Jvm.Cond.code ({ cls := "java/lang/String", name := "<init>", desc := "([C)V" } : Jvm.MethodName) jdk_42_method_3_code (2 : Nat) (Option.none : Option Jvm.ClassFile.FieldType)).before args0 about1 = true := code_word (m := ⟨7, 1⟩) (meth := k7m1) (c := k7c1) (by decide +kernel) rfl rfl rfl (by decide +kernel)
set_option maxRecDepth 65536 in
theorem w_c2 : (Jvm.Cond.code ({ cls := "java/lang/String", name := "<init>", desc := "([CIILjava/lang/Void;)V" } : Jvm.MethodName) jdk_42_method_149_code (6 : Nat) (Option.none : Option Jvm.ClassFile.FieldType)).before args0 about1 = true := code_word (m := ⟨7, 2⟩) (meth := k7m2) (c := k7c2) (by decide +kernel) rfl rfl rfl (by decide +kernel)
set_option maxRecDepth 65536 in
theorem w_c3 : (Jvm.Cond.code ({ cls := "java/lang/Object", name := "<init>", desc := "()V" } : Jvm.MethodName) object_method_1_code (1 : Nat) (Option.none : Option Jvm.ClassFile.FieldType)).before args0 about1 = true := code_word (m := ⟨0, 0⟩) (meth := k0m0) (c := k0c0) (by decide +kernel) rfl rfl rfl (by decide +kernel)
set_option maxRecDepth 65536 in
theorem w_c4 : (Jvm.Cond.code ({ cls := "java/lang/StringUTF16", name := "compress", desc := "([CII)[B" } : Jvm.MethodName) jdk_52_method_16_code (6 : Nat) (Option.some (Jvm.ClassFile.FieldType.array Jvm.ClassFile.FieldType.byte))).before args0 about1 = true := code_word (m := ⟨8, 2⟩) (meth := k8m2) (c := k8c2) (by decide +kernel) rfl rfl rfl (by decide +kernel)
set_option maxRecDepth 65536 in
theorem w_c5 : (Jvm.Cond.code ({ cls := "java/lang/StringUTF16", name := "compress", desc := "([CI[BII)I" } : Jvm.MethodName) jdk_52_method_21_code (7 : Nat) (Option.some Jvm.ClassFile.FieldType.int)).before args0 about1 = true := code_word (m := ⟨8, 3⟩) (meth := k8m3) (c := k8c3) (by decide +kernel) rfl rfl rfl (by decide +kernel)
set_option maxRecDepth 65536 in
theorem w_c6 : (Jvm.Cond.code ({ cls := "java/lang/StringUTF16", name := "coderFromArrayLen", desc := "([BI)B" } : Jvm.MethodName) jdk_52_method_15_code (2 : Nat) (Option.some Jvm.ClassFile.FieldType.byte)).before args0 about1 = true := code_word (m := ⟨8, 1⟩) (meth := k8m1) (c := k8c1) (by decide +kernel) rfl rfl rfl (by decide +kernel)
set_option maxRecDepth 65536 in
theorem w_c7 : (Jvm.Cond.code ({ cls := "com/example/caseloom/caseloom/model/Transition", name := "<init>", desc := "(Ljava/lang/String;Ljava/lang/String;Lcom/example/caseloom/caseloom/model/Marking;Lcom/example/caseloom/caseloom/model/Marking;)V" } : Jvm.MethodName) prog_39_method_1_code (5 : Nat) (Option.none : Option Jvm.ClassFile.FieldType)).before args0 about1 = true := code_word (m := ⟨9, 0⟩) (meth := k9m0) (c := k9c0) (by decide +kernel) rfl rfl rfl (by decide +kernel)
set_option maxRecDepth 65536 in
theorem w_c8 : (Jvm.Cond.code ({ cls := "com/example/caseloom/caseloom/model/Transition", name := "isTask", desc := "()Z" } : Jvm.MethodName) prog_39_method_6_code (1 : Nat) (Option.some Jvm.ClassFile.FieldType.boolean)).before args0 about1 = true := code_word (m := ⟨9, 2⟩) (meth := k9m2) (c := k9c2) (by decide +kernel) rfl rfl rfl (by decide +kernel)
set_option maxRecDepth 65536 in
theorem w_c9 : (Jvm.Cond.code ({ cls := "com/example/caseloom/caseloom/model/Transition", name := "label", desc := "()Ljava/lang/String;" } : Jvm.MethodName) prog_39_method_3_code (1 : Nat) (Option.some (Jvm.ClassFile.FieldType.object "java/lang/String"))).before args0 about1 = true := code_word (m := ⟨9, 1⟩) (meth := k9m1) (c := k9c1) (by decide +kernel) rfl rfl rfl (by decide +kernel)
def codes1 : List Jvm.Cond := [Jvm.Cond.code x code maxLocals ret, Jvm.Cond.code ({ cls := "java/lang/String", name := "<init>", desc := "([C)V" } : Jvm.MethodName) jdk_42_method_3_code (2 : Nat) (Option.none : Option Jvm.ClassFile.FieldType), Jvm.Cond.code ({ cls := "java/lang/String", name := "<init>", desc := "([CIILjava/lang/Void;)V" } : Jvm.MethodName) jdk_42_method_149_code (6 : Nat) (Option.none : Option Jvm.ClassFile.FieldType), Jvm.Cond.code ({ cls := "java/lang/Object", name := "<init>", desc := "()V" } : Jvm.MethodName) object_method_1_code (1 : Nat) (Option.none : Option Jvm.ClassFile.FieldType), Jvm.Cond.code ({ cls := "java/lang/StringUTF16", name := "compress", desc := "([CII)[B" } : Jvm.MethodName) jdk_52_method_16_code (6 : Nat) (Option.some (Jvm.ClassFile.FieldType.array Jvm.ClassFile.FieldType.byte)), Jvm.Cond.code ({ cls := "java/lang/StringUTF16", name := "compress", desc := "([CI[BII)I" } : Jvm.MethodName) jdk_52_method_21_code (7 : Nat) (Option.some Jvm.ClassFile.FieldType.int), Jvm.Cond.code ({ cls := "java/lang/StringUTF16", name := "coderFromArrayLen", desc := "([BI)B" } : Jvm.MethodName) jdk_52_method_15_code (2 : Nat) (Option.some Jvm.ClassFile.FieldType.byte), Jvm.Cond.code ({ cls := "com/example/caseloom/caseloom/model/Transition", name := "<init>", desc := "(Ljava/lang/String;Ljava/lang/String;Lcom/example/caseloom/caseloom/model/Marking;Lcom/example/caseloom/caseloom/model/Marking;)V" } : Jvm.MethodName) prog_39_method_1_code (5 : Nat) (Option.none : Option Jvm.ClassFile.FieldType), Jvm.Cond.code ({ cls := "com/example/caseloom/caseloom/model/Transition", name := "isTask", desc := "()Z" } : Jvm.MethodName) prog_39_method_6_code (1 : Nat) (Option.some Jvm.ClassFile.FieldType.boolean), Jvm.Cond.code ({ cls := "com/example/caseloom/caseloom/model/Transition", name := "label", desc := "()Ljava/lang/String;" } : Jvm.MethodName) prog_39_method_3_code (1 : Nat) (Option.some (Jvm.ClassFile.FieldType.object "java/lang/String"))]
set_option maxRecDepth 65536 in
theorem codes_eq : words1.filter isCode = codes1 := rfl
theorem w_codes : ∀ c ∈ words1.filter isCode, c.before args0 about1 = true := by
  rw [codes_eq]
  intro c hc
  simp only [codes1, List.mem_cons, List.not_mem_nil, or_false] at hc
  rcases hc with rfl | rfl | rfl | rfl | rfl | rfl | rfl | rfl | rfl | rfl
  · exact w_c0
  · exact w_c1
  · exact w_c2
  · exact w_c3
  · exact w_c4
  · exact w_c5
  · exact w_c6
  · exact w_c7
  · exact w_c8
  · exact w_c9
set_option maxRecDepth 65536 in
theorem w_t1 : (words1.take 24).all (fun c => isCode c || c.before args0 about1) = true := by decide +kernel
set_option maxRecDepth 65536 in
theorem w_t2 : ((words1.drop 24).take 24).all (fun c => isCode c || c.before args0 about1) = true := by decide +kernel
set_option maxRecDepth 65536 in
theorem w_t3 : ((words1.drop 24).drop 24).all (fun c => isCode c || c.before args0 about1) = true := by decide +kernel
theorem w_tables : (allAtoms (Jvm.Cond.code x code maxLocals ret :: tables_1)).before args0 about1 = true := by
  rw [allAtoms_all]
  show words1.all (fun c => c.before args0 about1) = true
  refine all_split ?_ w_codes
  rw [← List.take_append_drop 24 words1, List.all_append, w_t1, ← List.take_append_drop 24 (words1.drop 24), List.all_append, w_t2, w_t3]
  rfl
set_option maxRecDepth 65536 in
theorem w_rest : rest_1_c.before args0 about1 = true := by decide +kernel
set_option maxRecDepth 65536 in
theorem w_case : (Jvm.Cond.and given_1 narrow_1).before args0 about1 = true := by decide +kernel
set_option maxRecDepth 65536 in
theorem w_consts : constsHeld consts_1 about1 := Jvm.Lit.constsHeldB_iff.mp (by decide +kernel)
theorem w_applies : (headSpec (Jvm.Cond.code x code maxLocals ret :: tables_1) room_1).applies x e0.platform about1 = true :=
  (Spec.applies_iff w_frames).mpr ⟨w_running, w_runnable, w_alone, w_named, w_hears, w_ripe, w_room, w_tables⟩
theorem atStart : AtStart classFile x code maxLocals ret World_1 tables_1 room_1 Calls_1 rest_1 Pre_1 launch0 p0 e0 about1 theMethod args0 below0 :=
  ⟨lists_1, trivial, launch0.admits_env _ _ _, launch0.least_env, fairChoices_fair.cas, fairChoices_fair.clock, w_frames, w_args, w_heap, w_applies, ⟨w_consts, trivial⟩, w_rest, w_case⟩
end start1
theorem witness_1 : WitnessClaimed_1 := ⟨start1.p0, start1.e0, start1.about1, start1.theMethod, start1.args0, start1.below0, start1.atStart⟩
end Jvm.Pilot.@@N@@
