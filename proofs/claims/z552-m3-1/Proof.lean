import JvmDerived
import JvmDerived.Pilot.@@N@@Statement
import JvmDerived.Pilot.@@N@@Code
set_option linter.unusedVariables false
set_option linter.unusedSimpArgs false
namespace Jvm.Pilot.@@N@@
open Jvm Jvm.ClassFile Sem Op Lib Jvm.Free Jvm.Stand Jvm.LawKit Jvm.RoadKit Bundle Jvm.Pilot.@@N@@.Jvm.D
section OwnKit
variable {p : Program} {l : Launch} {e : Env} {R : Room} {s : State} {m : MethodId} {args : Array Value} {below : List Frame} {meth : Method} {c : Code} {T : State} {locs : List Loc} {cells slots : Nat} {Z : State} {a0 : Array Value} {h : Heap} {bs : ByteArray} {own mnm : String} {mx : Nat} {rt : Option FieldType} {G : Outcome → State → Prop} {pc pc' : Nat} {Ls Ls' : Array Slot} {st : List Value}
/-- from T the run comes to an end of which G holds -/
def Go (tb : Tables) (e : Env) (below : List Frame) (G : Outcome → State → Prop) (T : State) : Prop := ∃ s₂ o, Steps tb e below T s₂ ∧ s₂.status = .running ∧ Ended s₂ below o ∧ G o s₂
theorem Go.step {tb : Tables} {T T' : State} (g : Go tb e below G T') (h : ∀ t, Steps tb e below T' t → Steps tb e below T t) : Go tb e below G T := by
  obtain ⟨s₂, o, h1, h2⟩ := g
  exact ⟨s₂, o, h _ h1, h2⟩
/-- what a walk knows of its own body -/
def Cx (p : Program) (s : State) (m : MethodId) (meth : Method) (c : Code) (bs : ByteArray) (mx : Nat) (own mnm : String) (rt : Option FieldType) (Z : State) : Prop :=
  p.tables.exec = Jvm.exec ∧ c.code = bs ∧ c.maxLocals = mx ∧ s.vm.findClass own = some m.cls ∧ meth.name = mnm ∧ meth.sig.returnType = rt ∧ meth.locks = false ∧ Z.Warmed39 s.vm
theorem Cx.hown (C : Cx p s m meth c bs mx own mnm rt Z) : s.vm.findClass own = some m.cls := C.2.2.2.1
theorem Cx.nm (C : Cx p s m meth c bs mx own mnm rt Z) : meth.name = mnm := C.2.2.2.2.1
theorem Cx.ret (C : Cx p s m meth c bs mx own mnm rt Z) : meth.sig.returnType = rt := C.2.2.2.2.2.1
theorem Cx.locks (C : Cx p s m meth c bs mx own mnm rt Z) : meth.locks = false := C.2.2.2.2.2.2.1
theorem Cx.hZ (C : Cx p s m meth c bs mx own mnm rt Z) : Z.Warmed39 s.vm := C.2.2.2.2.2.2.2
/-- the end: returned, Q of the value, the heap and the places written; the frame -/
def End (s : State) (Q : Option Value → Heap → List Loc → Prop) (ce sl : Nat) (o : Outcome) (U' : State) : Prop := ∃ v L, o = .returned v ∧ Q v U'.heap L ∧ FrameEnd s o U' L ce sl
theorem met_of {y : MethodName} {ws : List Jvm.Cond} {rm : Room} {as' : Array Value} {Q : Option Value → Heap → List Loc → Prop} {ce sl : Nat} (hpn : plainFor y = true) (hef : ∀ m, entryFrame m as' mx = mkF m 0 Ls [])
    (hbody : ∀ (p : Program) (e : Env) (s : State) (m : MethodId) (below : List Frame) (meth : Method) (c : Code) (T : State), Cx p s m meth c bs mx y.cls y.name rt Z → Stand p l e rm s m as' below meth c T [] 0 0 → T.heap = h → Go p.tables e below (End s Q ce sl) (T.setTop (mkF m 0 Ls []))) :
    MetFree l y (head1 (Jvm.Cond.code y bs mx rt :: ws) rm) (fun a U => a = as' ∧ Z.Warmed39 U.vm ∧ U.heap = h) (fun _ _ _ _ _ => True) (fun _ U o U' => ∃ v L, o = .returned v ∧ Q v U'.heap L ∧ FrameEnd U o U' L ce sl) := by
  refine MetFree.of_bodySF hpn hisR ?_
  intro p e s m args below meth c s₁ Bd hml0 hP hK
  obtain ⟨rfl, hZ, hh⟩ := hP
  have X0 : Stand p l e rm s m _ below meth c s₁ [] 0 0 := Stand.of_body Bd
  have e0 : s₁.heap = h := by rw [← hh, Bd.state]; rfl
  obtain ⟨s₂, o, h1, h2, h3, h4⟩ := hbody p e s m below meth c s₁ ⟨Bd.exec, Bd.bytes, hml0, findClass_of_methodNamed Bd.named, (name_of_methodNamed Bd.named Bd.method).1, Bd.returns, Bd.notSynchronized, hZ⟩ X0 e0
  exact ⟨s₂, o, castTop (hef m) h1, h2, h3, h4⟩

theorem g_iloadN (C : Cx p s m meth c bs mx own mnm rt Z) (X : Stand p l e R s m args below meth c T locs cells slots) {k : Fin 4} {v : Int32} (hd : decode bs pc = .ok (.iload_n k, 1)) (hl : Ls[k.val]? = some (.val (.int v))) (hn : pc + 1 = pc')
    (hr : Go p.tables e below G (T.setTop (mkF m pc' Ls (.int v :: st)))) : Go p.tables e below G (T.setTop (mkF m pc Ls st)) := by
  subst hn; exact hr.step fun t k => XS.iloadN X.here C.1 rfl (hb C.2.1 hd) hl k
theorem g_iload (C : Cx p s m meth c bs mx own mnm rt Z) (X : Stand p l e R s m args below meth c T locs cells slots) {k : Nat} {v : Int32} (hd : decode bs pc = .ok (.iload k, 2)) (hl : Ls[k]? = some (.val (.int v))) (hn : pc + 2 = pc')
    (hr : Go p.tables e below G (T.setTop (mkF m pc' Ls (.int v :: st)))) : Go p.tables e below G (T.setTop (mkF m pc Ls st)) := by
  subst hn; exact hr.step fun t k => XS.iload X.here C.1 rfl (hb C.2.1 hd) hl k
theorem g_istoreN (C : Cx p s m meth c bs mx own mnm rt Z) (X : Stand p l e R s m args below meth c T locs cells slots) {k : Fin 4} {v : Int32} (hd : decode bs pc = .ok (.istore_n k, 1)) (hl : storeLocals Ls k.val (.int v) = some Ls') (hn : pc + 1 = pc')
    (hr : Go p.tables e below G (T.setTop (mkF m pc' Ls' st))) : Go p.tables e below G (T.setTop (mkF m pc Ls (.int v :: st))) := by
  subst hn; exact hr.step fun t k => XS.istoreN X.here C.1 rfl (hb C.2.1 hd) rfl hl k
theorem g_istore (C : Cx p s m meth c bs mx own mnm rt Z) (X : Stand p l e R s m args below meth c T locs cells slots) {k : Nat} {v : Int32} (hd : decode bs pc = .ok (.istore k, 2)) (hl : storeLocals Ls k (.int v) = some Ls') (hn : pc + 2 = pc')
    (hr : Go p.tables e below G (T.setTop (mkF m pc' Ls' st))) : Go p.tables e below G (T.setTop (mkF m pc Ls (.int v :: st))) := by
  subst hn; exact hr.step fun t k => XS.istore X.here C.1 rfl (hb C.2.1 hd) rfl hl k
theorem g_aloadN (C : Cx p s m meth c bs mx own mnm rt Z) (X : Stand p l e R s m args below meth c T locs cells slots) {k : Fin 4} {v : Value} (hd : decode bs pc = .ok (.aload_n k, 1)) (hl : Ls[k.val]? = some (.val v)) (hv : v.isRef = true) (hn : pc + 1 = pc')
    (hr : Go p.tables e below G (T.setTop (mkF m pc' Ls (v :: st)))) : Go p.tables e below G (T.setTop (mkF m pc Ls st)) := by
  subst hn; exact hr.step fun t k => XS.aloadN X.here C.1 rfl (hb C.2.1 hd) hl hv k
theorem g_astoreN (C : Cx p s m meth c bs mx own mnm rt Z) (X : Stand p l e R s m args below meth c T locs cells slots) {k : Fin 4} {v : Value} (hd : decode bs pc = .ok (.astore_n k, 1)) (hv : v.isRef = true) (hl : storeLocals Ls k.val v = some Ls') (hn : pc + 1 = pc')
    (hr : Go p.tables e below G (T.setTop (mkF m pc' Ls' st))) : Go p.tables e below G (T.setTop (mkF m pc Ls (v :: st))) := by
  subst hn; exact hr.step fun t k => XS.astoreN X.here C.1 rfl (hb C.2.1 hd) rfl hv hl k
theorem g_iconst (C : Cx p s m meth c bs mx own mnm rt Z) (X : Stand p l e R s m args below meth c T locs cells slots) {i : Int} {v : Int32} (hd : decode bs pc = .ok (.iconst i, 1)) (hv : Int32.ofInt i = v) (hn : pc + 1 = pc')
    (hr : Go p.tables e below G (T.setTop (mkF m pc' Ls (.int v :: st)))) : Go p.tables e below G (T.setTop (mkF m pc Ls st)) := by
  subst hn; exact hr.step fun t k => XS.iconst X.here C.1 rfl (hb C.2.1 hd) (by rw [hv]; exact k)
theorem g_bipush (C : Cx p s m meth c bs mx own mnm rt Z) (X : Stand p l e R s m args below meth c T locs cells slots) {i : Int} {v : Int32} (hd : decode bs pc = .ok (.bipush i, 2)) (hv : (Int8.ofInt i).toInt32 = v) (hn : pc + 2 = pc')
    (hr : Go p.tables e below G (T.setTop (mkF m pc' Ls (.int v :: st)))) : Go p.tables e below G (T.setTop (mkF m pc Ls st)) := by
  subst hn; exact hr.step fun t k => XS.bipush X.here C.1 rfl (hb C.2.1 hd) (by rw [hv]; exact k)
theorem g_iand (C : Cx p s m meth c bs mx own mnm rt Z) (X : Stand p l e R s m args below meth c T locs cells slots) {x y : Int32} (hd : decode bs pc = .ok (.iand, 1)) (hn : pc + 1 = pc')
    (hr : Go p.tables e below G (T.setTop (mkF m pc' Ls (.int (x &&& y) :: st)))) : Go p.tables e below G (T.setTop (mkF m pc Ls (.int y :: .int x :: st))) := by
  subst hn; exact hr.step fun t k => XS.iand X.here C.1 rfl (hb C.2.1 hd) rfl k
theorem g_irem (C : Cx p s m meth c bs mx own mnm rt Z) (X : Stand p l e R s m args below meth c T locs cells slots) {x y : Int32} (hd : decode bs pc = .ok (.irem, 1)) (hy : ¬ y = 0) (hn : pc + 1 = pc')
    (hr : Go p.tables e below G (T.setTop (mkF m pc' Ls (.int (x % y) :: st)))) : Go p.tables e below G (T.setTop (mkF m pc Ls (.int y :: .int x :: st))) := by
  subst hn; exact hr.step fun t k => Jvm.RoadKit.iremM X C.1 rfl (hb C.2.1 hd) rfl hy k
theorem g_dup (C : Cx p s m meth c bs mx own mnm rt Z) (X : Stand p l e R s m args below meth c T locs cells slots) {x : Value} (hd : decode bs pc = .ok (.dup, 1)) (hc : x.category = 1) (hn : pc + 1 = pc')
    (hr : Go p.tables e below G (T.setTop (mkF m pc' Ls (x :: x :: st)))) : Go p.tables e below G (T.setTop (mkF m pc Ls (x :: st))) := by
  subst hn; exact hr.step fun t k => XS.dup X.here C.1 rfl (hb C.2.1 hd) rfl hc k
theorem g_goto (C : Cx p s m meth c bs mx own mnm rt Z) (X : Stand p l e R s m args below meth c T locs cells slots) {o : Int} (hd : decode bs pc = .ok (.goto o, 3)) (ho : 0 ≤ (pc : Int) + o) (hp : ((pc : Int) + o).toNat = pc')
    (hr : Go p.tables e below G (T.setTop (mkF m pc' Ls st))) : Go p.tables e below G (T.setTop (mkF m pc Ls st)) :=
  hr.step fun t k => XS.goto X.here C.1 rfl rfl (hb C.2.1 hd) ho hp k
theorem g_icmpY (C : Cx p s m meth c bs mx own mnm rt Z) (X : Stand p l e R s m args below meth c T locs cells slots) {cd : ClassFile.Cond} {x y : Int32} {o : Int} (hd : decode bs pc = .ok (.if_icmp cd o, 3)) (hc : if_icmp.holds cd x y = true) (ho : 0 ≤ (pc : Int) + o) (hp : ((pc : Int) + o).toNat = pc')
    (hr : Go p.tables e below G (T.setTop (mkF m pc' Ls st))) : Go p.tables e below G (T.setTop (mkF m pc Ls (.int y :: .int x :: st))) :=
  hr.step fun t k => XS.icmpYes X.here C.1 rfl rfl (hb C.2.1 hd) rfl hc ho hp k
theorem g_icmpN (C : Cx p s m meth c bs mx own mnm rt Z) (X : Stand p l e R s m args below meth c T locs cells slots) {cd : ClassFile.Cond} {x y : Int32} {o : Int} (hd : decode bs pc = .ok (.if_icmp cd o, 3)) (hc : if_icmp.holds cd x y = false) (hn : pc + 3 = pc')
    (hr : Go p.tables e below G (T.setTop (mkF m pc' Ls st))) : Go p.tables e below G (T.setTop (mkF m pc Ls (.int y :: .int x :: st))) := by
  subst hn; exact hr.step fun t k => XS.icmpNo X.here C.1 rfl (hb C.2.1 hd) rfl hc k
theorem g_ifY (C : Cx p s m meth c bs mx own mnm rt Z) (X : Stand p l e R s m args below meth c T locs cells slots) {cd : ClassFile.Cond} {x : Int32} {o : Int} (hd : decode bs pc = .ok (.ifCond cd o, 3)) (hc : if_icmp.holds cd x 0 = true) (ho : 0 ≤ (pc : Int) + o) (hp : ((pc : Int) + o).toNat = pc')
    (hr : Go p.tables e below G (T.setTop (mkF m pc' Ls st))) : Go p.tables e below G (T.setTop (mkF m pc Ls (.int x :: st))) :=
  hr.step fun t k => XS.ifYes X.here C.1 rfl rfl (hb C.2.1 hd) rfl ((if0 _ _).trans hc) ho hp k
theorem g_ifN (C : Cx p s m meth c bs mx own mnm rt Z) (X : Stand p l e R s m args below meth c T locs cells slots) {cd : ClassFile.Cond} {x : Int32} {o : Int} (hd : decode bs pc = .ok (.ifCond cd o, 3)) (hc : if_icmp.holds cd x 0 = false) (hn : pc + 3 = pc')
    (hr : Go p.tables e below G (T.setTop (mkF m pc' Ls st))) : Go p.tables e below G (T.setTop (mkF m pc Ls (.int x :: st))) := by
  subst hn; exact hr.step fun t k => XS.ifNo X.here C.1 rfl (hb C.2.1 hd) rfl ((if0 _ _).trans hc) k
theorem g_ldc (C : Cx p s m meth c bs mx own mnm rt Z) (X : Stand p l e R s m args below meth c T locs cells slots) {i : Nat} {v : Int32} (hd : decode bs pc = .ok (.ldc i, 2)) (w : (Jvm.Cond.constant own i v).before a0 Z = true) (hn : pc + 2 = pc')
    (hr : Go p.tables e below G (T.setTop (mkF m pc' Ls (.int v :: st)))) : Go p.tables e below G (T.setTop (mkF m pc Ls st)) := by
  subst hn; exact hr.step fun t k => X.ldcInt C.1 C.hown (mvT C.hZ w) (g := mkF m pc Ls st) rfl (hb C.2.1 hd) _ k
theorem g_getS (C : Cx p s m meth c bs mx own mnm rt Z) (X : Stand p l e R s m args below meth c T locs cells slots) {O n d R0 host : String} {i : Nat} {v : Value} (hd : decode bs pc = .ok (.getstatic i, 3)) (w : (Jvm.Cond.fieldLink own i R0 n d).before a0 Z = true ∨ (Jvm.Cond.fieldLinkNest own i R0 n d host).before a0 Z = true) (via : Via Z R0 O n d) (eT : T.heap = h) (F : Sta Z h O n d v) (hn : pc + 3 = pc')
    (hr : ∀ T', Stand p l e R s m args below meth c T' locs cells slots → T'.heap = h → Go p.tables e below G (T'.setTop (mkF m pc' Ls (v :: st)))) : Go p.tables e below G (T.setTop (mkF m pc Ls st)) := by
  subst hn
  obtain ⟨T', X', e', st'⟩ := getS2 X C.1 C.hZ C.hown w via eT F (g := mkF m pc Ls st) rfl (hb C.2.1 hd)
  exact (hr T' X' e').step st'
theorem g_getF (C : Cx p s m meth c bs mx own mnm rt Z) (X : Stand p l e R s m args below meth c T locs cells slots) {O n d R0 host : String} {i : Nat} {a : Addr} {v : Value} (hd : decode bs pc = .ok (.getfield i, 3)) (w : (Jvm.Cond.fieldLink own i R0 n d).before a0 Z = true ∨ (Jvm.Cond.fieldLinkNest own i R0 n d host).before a0 Z = true) (via : Via Z R0 O n d) (eT : T.heap = h) (F : Fld Z h a O n d v) (hn : pc + 3 = pc')
    (hr : ∀ T', Stand p l e R s m args below meth c T' locs cells slots → T'.heap = h → Go p.tables e below G (T'.setTop (mkF m pc' Ls (v :: st)))) : Go p.tables e below G (T.setTop (mkF m pc Ls (.ref a :: st))) := by
  subst hn
  obtain ⟨T', X', e', st'⟩ := getF X C.1 C.hZ C.hown w via eT F (g := mkF m pc Ls (.ref a :: st)) rfl rfl (hb C.2.1 hd)
  exact (hr T' X' e').step st'
theorem g_callV (C : Cx p s m meth c bs mx own mnm rt Z) (X : Stand p l e R s m args below meth c T locs cells slots) {rm : Room} {as' : Array Value} {Q : Option Value → Heap → List Loc → Prop} {ml : Nat} {yb : ByteArray} {yr : Option FieldType} {ce sl W : Nat} {argsL : List Value} {ps : List FieldType} {pr : Option FieldType} {K : String} {y z : MethodName} {i : Nat} {b : Addr} (hd : decode bs pc = .ok (.invokevirtual i, 3)) (w1 : (Jvm.Cond.methodLink own i y).before a0 Z = true) (w2 : (Jvm.Cond.declares y).before a0 Z = true) (hnf : NotFace s y) (w3 : (Jvm.Cond.selects K y z).before a0 Z = true) (w4 : (Jvm.Cond.instanceMethod z).before a0 Z = true) (w5 : (Jvm.Cond.initialized z.cls).before a0 Z = true) (w6 : (Jvm.Cond.code z yb ml yr).before a0 Z = true) (hy : y.cls ≠ "java/lang/invoke/MethodHandle" ∧ y.cls ≠ "java/lang/invoke/VarHandle")
    (hM : MetFree l z (head1 [Jvm.Cond.code z yb ml yr] rm) (fun a U => a = as' ∧ Z.Warmed39 U.vm ∧ U.heap = h) (fun _ _ _ _ _ => True) (fun _ U o U' => ∃ v L, o = .returned v ∧ Q v U'.heap L ∧ FrameEnd U o U' L rm.cells rm.slots)) (hf : rm.frames + 1 ≤ R.frames) (hlo : W + (ml + 11) + rm.locals ≤ R.locals) (hce : cells + rm.cells = ce) (hsl : slots + rm.slots = sl) (hce' : ce ≤ R.cells) (hsl' : sl ≤ R.slots) (has : (.ref b :: argsL).toArray = as') (E : Exa Z h b K) (eT : T.heap = h) (hsz : Ls.size = mx) (hpd : parseMethodDescriptor y.desc = some ⟨ps, pr⟩) (hln : argsL.length = ps.length) (hW : (st.map fun v => v.category).sum ≤ W) (hn : pc + 3 = pc')
    (hr : ∀ v T' L, Stand p l e R s m args below meth c T' (locs ++ L) ce sl → Q v T'.heap L → Go p.tables e below G (T'.setTop (mkF m pc' Ls (v.toList ++ st)))) : Go p.tables e below G (T.setTop (mkF m pc Ls (argsL.reverse ++ .ref b :: st))) := by
  subst hn hce hsl has
  obtain ⟨cq, kq, qa, qb, qc⟩ := isOf C.hZ eT E
  obtain ⟨v, vm1, ⟨T', L', k', n'⟩, -, X', ⟨Lc, hQ, l', y', z'⟩, st'⟩ := X.virtualBack C.1 (y := y) (z := z) C.hown (mvT C.hZ w1) (mvT C.hZ w2) hnf (mvT C.hZ w3) (mvT C.hZ w4) hy (backOf (W := W) hM C.hZ w6 w5 hf hlo) qa qc (g := mkF m pc Ls (argsL.reverse ++ .ref b :: st)) rfl (hsz.trans C.2.2.1.symm) (Steps.refl _) (argsL := argsL) (rest := st) (lenOf hpd hln) rfl (by show 2 * 0 + _ ≤ _; omega) (hb C.2.1 hd) (fun _ _ => ⟨rfl, eT, hce', hsl'⟩)
  dsimp only [Pt.U, Pt.locs, Pt.cells, Pt.slots] at X' l' y' z' st' hQ
  subst l' y' z'
  exact (hr v T' Lc X' hQ).step fun t k => st'.trans k
theorem g_retN {t : FieldType} (C : Cx p s m meth c bs mx own mnm (some t) Z) (X : Stand p l e R s m args below meth c T locs cells slots) {Q : Option Value → Heap → List Loc → Prop} {ce sl : Nat} {z : Int32} (ht : t = .boolean ∨ t = .byte ∨ t = .char ∨ t = .short) (hd : decode bs pc = .ok (.ireturn, 1)) (hc : cells ≤ ce) (hs : slots ≤ sl) (hQ : Q (some (.int (nar t z))) T.heap locs) : Go p.tables e below (End s Q ce sl) (T.setTop (mkF m pc Ls (.int z :: st))) := by
  obtain ⟨fs, hr, hrun, hended, hW, hsame⟩ := X.leave (v := (some (.int (nar t z)))) (fun h => by rw [C.ret] at h; cases h) C.locks
  exact ⟨_, _, retN X C.1 C.ret ht (hb C.2.1 hd) hr, hrun, hended, _, _, rfl, hQ, ⟨_, rfl⟩, hW, hsame.mono hc hs⟩
theorem g_newR (C : Cx p s m meth c bs mx own mnm rt Z) (X : Stand p l e R s m args below meth c T locs cells slots) {K : String} {i : Nat} {n : Int32} {cap ce sl : Nat} (hd : decode bs pc = .ok (.anewarray i, 3)) (w : (Jvm.Cond.classLink own i K).before a0 Z = true) (w2 : (Jvm.Cond.arrayOver (.object K)).before a0 Z = true) (eT : T.heap = h) (hn0 : ¬ n < 0) (hcap : n.toNatClampNeg ≤ cap) (hb8 : cap * 8 ≤ 536870912) (hce : cells + 1 = ce) (hsl : slots + cap = sl) (hce' : ce ≤ R.cells) (hsl' : sl ≤ R.slots) (hn : pc + 3 = pc')
    (hr : ∀ T' h' b k, b = h.size → Stand p l e R s m args below meth c T' locs ce sl → T'.heap = h' → Ext h h' → Ovr Z k K → Arv Z h' b k (.object K) n [] .null → Go p.tables e below G (T'.setTop (mkF m pc' Ls (.ref b :: st)))) : Go p.tables e below G (T.setTop (mkF m pc Ls (.int n :: st))) := by
  subst hn hce hsl
  obtain ⟨T', h', k', X', e', E', A', O', st'⟩ := newR X C.1 C.hZ C.hown w w2 eT (g := mkF m pc Ls (.int n :: st)) rfl (hb C.2.1 hd) rfl hn0 hcap hb8 hce' hsl'
  exact (hr T' h' _ k' rfl X' e' E' O' (Arv.new A' hn0)).step st'
theorem g_stR (C : Cx p s m meth c bs mx own mnm rt Z) (X : Stand p l e R s m args below meth c T locs cells slots) {a y : Addr} {K : String} {k : ClassId} {n j : Int32} {vs : List Value} {dv : Value} {i : Nat} (hd : decode bs pc = .ok (.aastore, 1)) (eT : T.heap = h) (F : Arv Z h a k (.object K) n vs dv) (O : Ovr Z k K) (Iy : Ins Z h y K true) (hj : ¬ j < 0 ∧ j < n) (hji : j.toNatClampNeg = i) (hi : i < vs.length) (hn : pc + 1 = pc')
    (hr : ∀ T' h', Stand p l e R s m args below meth c T' (locs ++ [⟨a, j.toNatClampNeg⟩]) cells slots → T'.heap = h' → Wr h h' a j.toNatClampNeg (.ref y) → Arv Z h' a k (.object K) n (vs.set i (.ref y)) dv → Go p.tables e below G (T'.setTop (mkF m pc' Ls st))) : Go p.tables e below G (T.setTop (mkF m pc Ls (.ref y :: .int j :: .ref a :: st))) := by
  subst hn
  obtain ⟨cl, A, q, Sz, N, H, Gf⟩ := F
  obtain ⟨T', h', X', e', W', st'⟩ := stR X C.1 C.hZ eT A (j := j) (inb_of Sz hj) rfl (Sto.ofV A q O Iy) (g := mkF m pc Ls (.ref y :: .int j :: .ref a :: st)) rfl rfl (hb C.2.1 hd)
  exact (hr T' h' X' e' W' (Arv.set A q Sz N H Gf rfl W' i hji hi)).step st'
theorem g_ldR (C : Cx p s m meth c bs mx own mnm rt Z) (X : Stand p l e R s m args below meth c T locs cells slots) {a : Addr} {k : ClassId} {n j : Int32} {vs : List Value} {dv v : Value} {t : FieldType} (hd : decode bs pc = .ok (.aaload, 1)) (eT : T.heap = h) (F : Arv Z h a k t n vs dv) (ht : t.isReference = true) (hj : ¬ j < 0 ∧ j < n) (hv : vs.getD j.toNatClampNeg dv = v) (hn : pc + 1 = pc')
    (hr : Go p.tables e below G (T.setTop (mkF m pc' Ls (v :: st)))) : Go p.tables e below G (T.setTop (mkF m pc Ls (.int j :: .ref a :: st))) := by
  subst hn
  obtain ⟨cl, A, q, Sz, N, H, Gf⟩ := F
  have hin := inb_of Sz hj
  exact hr.step fun t k => X.aaload C.1 (j := j) (by rw [eT]; exact A.1) (State.isArrayOf_alike C.hZ.alike A.2.1) ht A.2.2 hin ((H _ (Nat.lt_of_not_le fun q => hin (Or.inr q))).trans (congrArg some hv)) (g := mkF m pc Ls (.int j :: .ref a :: st)) rfl rfl (hb C.2.1 hd) _ k
theorem own_fin (n : Nat) (x : Int32) (h0 : 0 ≤ x.toInt) (h1 : x.toInt < n) : ∃ i : Fin n, x = Int32.ofNat i.val :=
  ⟨⟨x.toNatClampNeg, by show x.toInt.toNat < n; omega⟩, (back32 (by rw [Int32.lt_iff_toInt_lt]; show ¬ x.toInt < 0; omega)).1.symm⟩
theorem own_cast {tb : Tables} {S S' : State} (q : S = S') (g : Go tb e below G S') : Go tb e below G S := q ▸ g
end OwnKit
theorem own_eqi {args : Array Value} {s : State} {t : Term} {v : Int32} (h : (Jvm.Cond.eq t (.int v)).value args s none s [] = some true) : t.eval args s none [] s = some (.int v) := by
  simp only [Cond.value, Term.eval] at h
  cases ht : t.eval args s none [] s with
  | none => simp [ht] at h
  | some x => cases x <;> simp [ht] at h ⊢; exact h
theorem own_eqr {args : Array Value} {s : State} {t u : Term} {a : Addr} (h : (Jvm.Cond.eq t u).value args s none s [] = some true) (hu : u.eval args s none [] s = some (.ref a)) : t.eval args s none [] s = some (.ref a) := by
  simp only [Cond.value, hu] at h
  cases ht : t.eval args s none [] s with
  | none => simp [ht] at h
  | some x => cases x <;> simp [ht] at h ⊢; exact h
theorem own_len {args : Array Value} {s : State} {t : Term} {a : Addr} {cl : Cell} {ty : FieldType} {n : Int32} (ht : t.eval args s none [] s = some (.ref a)) (A : Arr s s.heap a cl ty) (h : (Term.length t).eval args s none [] s = some (.int n)) : cl.slots.size < 2 ^ 31 ∧ cl.slots.size.toInt32 = n := by
  have ha : s.arrayAt? a = some cl := A.fin (Vm.Alike.refl _)
  by_cases q : cl.slots.size < 2 ^ 31
  · rw [len_f ht ha q] at h
    exact ⟨q, Value.int.inj (Option.some.inj h)⟩
  · simp [Term.eval, ht, ha, q] at h
theorem own_fld {args : Array Value} {s : State} {t : Term} {C n d : String} {a : Addr} {v : Value} (ht : t.eval args s none [] s = some (.ref a)) (hv : (Term.field t C n d).eval args s none [] s = some v) : Fld s s.heap a C n d v := Fld.start ((fld_at ht).symm.trans hv)
def FX (Z : State) (h : Heap) (w_ENABLED : Addr) (w_ALLOCATED : Addr) (w_STARTED : Addr) (w_SUSPENDED : Addr) (w_COMPLETED : Addr) (w_SKIPPED : Addr) (w_WITHDRAWN : Addr) (w_DISCARDED : Addr) (w_CANCELLED : Addr) : Prop := (Sta Z h "com/example/caseloom/caseloom/model/WorkItemState" "ENABLED" "Lcom/example/caseloom/caseloom/model/WorkItemState;" (.ref w_ENABLED)) ∧ (Sta Z h "com/example/caseloom/caseloom/model/WorkItemState" "ALLOCATED" "Lcom/example/caseloom/caseloom/model/WorkItemState;" (.ref w_ALLOCATED)) ∧ (Sta Z h "com/example/caseloom/caseloom/model/WorkItemState" "STARTED" "Lcom/example/caseloom/caseloom/model/WorkItemState;" (.ref w_STARTED)) ∧ (Sta Z h "com/example/caseloom/caseloom/model/WorkItemState" "SUSPENDED" "Lcom/example/caseloom/caseloom/model/WorkItemState;" (.ref w_SUSPENDED)) ∧ (Sta Z h "com/example/caseloom/caseloom/model/WorkItemState" "COMPLETED" "Lcom/example/caseloom/caseloom/model/WorkItemState;" (.ref w_COMPLETED)) ∧ (Sta Z h "com/example/caseloom/caseloom/model/WorkItemState" "SKIPPED" "Lcom/example/caseloom/caseloom/model/WorkItemState;" (.ref w_SKIPPED)) ∧ (Sta Z h "com/example/caseloom/caseloom/model/WorkItemState" "WITHDRAWN" "Lcom/example/caseloom/caseloom/model/WorkItemState;" (.ref w_WITHDRAWN)) ∧ (Sta Z h "com/example/caseloom/caseloom/model/WorkItemState" "DISCARDED" "Lcom/example/caseloom/caseloom/model/WorkItemState;" (.ref w_DISCARDED)) ∧ (Sta Z h "com/example/caseloom/caseloom/model/WorkItemState" "CANCELLED" "Lcom/example/caseloom/caseloom/model/WorkItemState;" (.ref w_CANCELLED)) ∧ (Exa Z h w_ENABLED "com/example/caseloom/caseloom/model/WorkItemState") ∧ (Exa Z h w_ALLOCATED "com/example/caseloom/caseloom/model/WorkItemState") ∧ (Exa Z h w_STARTED "com/example/caseloom/caseloom/model/WorkItemState") ∧ (Exa Z h w_SUSPENDED "com/example/caseloom/caseloom/model/WorkItemState") ∧ (Exa Z h w_COMPLETED "com/example/caseloom/caseloom/model/WorkItemState") ∧ (Exa Z h w_SKIPPED "com/example/caseloom/caseloom/model/WorkItemState") ∧ (Exa Z h w_WITHDRAWN "com/example/caseloom/caseloom/model/WorkItemState") ∧ (Exa Z h w_DISCARDED "com/example/caseloom/caseloom/model/WorkItemState") ∧ (Exa Z h w_CANCELLED "com/example/caseloom/caseloom/model/WorkItemState") ∧ (Fld Z h w_ENABLED "com/example/caseloom/caseloom/model/WorkItemState" "live" "Z" (.int (1 : Int32))) ∧ (Fld Z h w_SUSPENDED "com/example/caseloom/caseloom/model/WorkItemState" "live" "Z" (.int (1 : Int32))) ∧ (Fld Z h w_STARTED "com/example/caseloom/caseloom/model/WorkItemState" "live" "Z" (.int (1 : Int32))) ∧ (Fld Z h w_ALLOCATED "com/example/caseloom/caseloom/model/WorkItemState" "live" "Z" (.int (1 : Int32))) ∧ (Fld Z h w_DISCARDED "com/example/caseloom/caseloom/model/WorkItemState" "live" "Z" (.int (0 : Int32))) ∧ (Fld Z h w_COMPLETED "com/example/caseloom/caseloom/model/WorkItemState" "live" "Z" (.int (0 : Int32))) ∧ (Fld Z h w_CANCELLED "com/example/caseloom/caseloom/model/WorkItemState" "live" "Z" (.int (0 : Int32))) ∧ (Fld Z h w_WITHDRAWN "com/example/caseloom/caseloom/model/WorkItemState" "live" "Z" (.int (0 : Int32))) ∧ (Fld Z h w_SKIPPED "com/example/caseloom/caseloom/model/WorkItemState" "live" "Z" (.int (0 : Int32)))
theorem d1_0 : decode prog_42_method_5_code 0 = .ok (.aload_n 0, 1) := by decide +kernel
theorem d1_1 : decode prog_42_method_5_code 1 = .ok (.getfield 50, 3) := by decide +kernel
theorem d1_4 : decode prog_42_method_5_code 4 = .ok (.ifCond .ne 7, 3) := by decide +kernel
theorem d1_7 : decode prog_42_method_5_code 7 = .ok (.iconst 1, 1) := by decide +kernel
theorem d1_8 : decode prog_42_method_5_code 8 = .ok (.goto 4, 3) := by decide +kernel
theorem d1_12 : decode prog_42_method_5_code 12 = .ok (.ireturn, 1) := by decide +kernel
theorem d1_11 : decode prog_42_method_5_code 11 = .ok (.iconst 0, 1) := by decide +kernel
def F1 (x : Int32) : Int32 := (if x = (0 : Int32) then (1 : Int32) else (0 : Int32))
theorem F1_l0 (x : Int32) (h0 : x = (0 : Int32)) : F1 x = (1 : Int32) := by
  unfold F1; rw [if_pos h0]
theorem F1_l1 (x : Int32) (h0 : ¬ (x = (0 : Int32))) : F1 x = (0 : Int32) := by
  unfold F1; rw [if_neg h0]
theorem ef_1 (m : MethodId) (a1 : Addr) : entryFrame m #[(.ref a1)] 1 = mkF m 0 #[.val (.ref a1)] [] := by first | (simp [entryFrame, mkF, argsToLocals, Value.category]; done) | rfl
def Q_1 (Z : State) (a1 : Addr) (x : Int32) (w_ENABLED : Addr) (w_ALLOCATED : Addr) (w_STARTED : Addr) (w_SUSPENDED : Addr) (w_COMPLETED : Addr) (w_SKIPPED : Addr) (w_WITHDRAWN : Addr) (w_DISCARDED : Addr) (w_CANCELLED : Addr) (h0 : Heap) (n0 : Nat) (v : Option Value) (h : Heap) (L : List Loc) : Prop := v = some (.int (F1 x)) ∧ Fr n0 L ∧ h = h0
set_option maxRecDepth 65536 in
set_option maxHeartbeats 40000000 in
theorem rm1 (l : Launch) (Z : State) (a0 : Array Value) (hw : ∀ d ∈ tables_1, d.before a0 Z = true) (ws : List Jvm.Cond) (a1 : Addr) (x : Int32) (w_ENABLED : Addr) (w_ALLOCATED : Addr) (w_STARTED : Addr) (w_SUSPENDED : Addr) (w_COMPLETED : Addr) (w_SKIPPED : Addr) (w_WITHDRAWN : Addr) (w_DISCARDED : Addr) (w_CANCELLED : Addr) (h0 : Heap) (n0 : Nat) (hF : FX Z h0 w_ENABLED w_ALLOCATED w_STARTED w_SUSPENDED w_COMPLETED w_SKIPPED w_WITHDRAWN w_DISCARDED w_CANCELLED) (Fl : Fld Z h0 a1 "com/example/caseloom/caseloom/model/WorkItemState" "live" "Z" (.int x)) :
    MetFree l (⟨"com/example/caseloom/caseloom/model/WorkItemState", "isClosed", "()Z"⟩ : MethodName) (head1 (Jvm.Cond.code (⟨"com/example/caseloom/caseloom/model/WorkItemState", "isClosed", "()Z"⟩ : MethodName) prog_42_method_5_code 1 (some .boolean) :: ws) ({ frames := 0, cells := 0, slots := 0, locals := 0 } : Room)) (fun a U => a = #[(.ref a1)] ∧ Z.Warmed39 U.vm ∧ U.heap = h0) (fun _ _ _ _ _ => True) (fun _ U o U' => ∃ v L, o = .returned v ∧ Q_1 Z a1 x w_ENABLED w_ALLOCATED w_STARTED w_SUSPENDED w_COMPLETED w_SKIPPED w_WITHDRAWN w_DISCARDED w_CANCELLED h0 n0 v U'.heap L ∧ FrameEnd U o U' L ({ frames := 0, cells := 0, slots := 0, locals := 0 } : Room).cells ({ frames := 0, cells := 0, slots := 0, locals := 0 } : Room).slots) := by
  refine met_of (Ls := #[.val (.ref a1)]) (plainFor_of_name (by first | (simp [plainName, overriddenIn]; done) | decide +kernel)) (fun m => ef_1 m a1) ?_
  intro p e s m below meth c T0 C X0 e0
  obtain ⟨S_w_ENABLED, S_w_ALLOCATED, S_w_STARTED, S_w_SUSPENDED, S_w_COMPLETED, S_w_SKIPPED, S_w_WITHDRAWN, S_w_DISCARDED, S_w_CANCELLED, E_w_ENABLED, E_w_ALLOCATED, E_w_STARTED, E_w_SUSPENDED, E_w_COMPLETED, E_w_SKIPPED, E_w_WITHDRAWN, E_w_DISCARDED, E_w_CANCELLED, F_live_w_ENABLED, F_live_w_SUSPENDED, F_live_w_STARTED, F_live_w_ALLOCATED, F_live_w_DISCARDED, F_live_w_COMPLETED, F_live_w_CANCELLED, F_live_w_WITHDRAWN, F_live_w_SKIPPED⟩ := id hF
  have N0 := Fr.nil n0
  refine g_aloadN (pc' := 1) C X0 d1_0 rfl rfl rfl ?_
  refine g_getF (pc' := 4) C X0 d1_1 (host := "") (Or.inl (hw _ (List.mem_of_getElem? (i := 28) rfl))) Via.refl e0 Fl rfl (fun T1 X1 e1 => ?_)
  by_cases c2 : x = (0 : Int32)
  · refine g_ifN (pc' := 7) C X1 d1_4 (teq c2).2 rfl ?_
    refine g_iconst (pc' := 8) (v := (1 : Int32)) C X1 d1_7 rfl rfl ?_
    refine g_goto (pc' := 12) C X1 d1_8 (by decide) (by decide) ?_
    exact g_retN C X1 (by simp) d1_12 (by decide) (by decide) ⟨congrArg (fun z => some (Value.int z)) (F1_l0 x c2).symm, N0, e1⟩
  · refine g_ifY (pc' := 11) C X1 d1_4 (feq c2).2 (by decide) (by decide) ?_
    refine g_iconst (pc' := 12) (v := (0 : Int32)) C X1 d1_11 rfl rfl ?_
    exact g_retN C X1 (by simp) d1_12 (by decide) (by decide) ⟨congrArg (fun z => some (Value.int z)) (F1_l1 x c2).symm, N0, e1⟩
theorem d2_0 : decode prog_42_method_4_code 0 = .ok (.aload_n 0, 1) := by decide +kernel
theorem d2_1 : decode prog_42_method_4_code 1 = .ok (.getfield 50, 3) := by decide +kernel
theorem d2_4 : decode prog_42_method_4_code 4 = .ok (.ireturn, 1) := by decide +kernel
def F2 (x : Int32) : Int32 := (nar .boolean x)
theorem F2_l0 (x : Int32)  : F2 x = (nar .boolean x) := rfl
theorem ef_2 (m : MethodId) (a1 : Addr) : entryFrame m #[(.ref a1)] 1 = mkF m 0 #[.val (.ref a1)] [] := by first | (simp [entryFrame, mkF, argsToLocals, Value.category]; done) | rfl
def Q_2 (Z : State) (a1 : Addr) (x : Int32) (w_ENABLED : Addr) (w_ALLOCATED : Addr) (w_STARTED : Addr) (w_SUSPENDED : Addr) (w_COMPLETED : Addr) (w_SKIPPED : Addr) (w_WITHDRAWN : Addr) (w_DISCARDED : Addr) (w_CANCELLED : Addr) (h0 : Heap) (n0 : Nat) (v : Option Value) (h : Heap) (L : List Loc) : Prop := v = some (.int (F2 x)) ∧ Fr n0 L ∧ h = h0
set_option maxRecDepth 65536 in
set_option maxHeartbeats 40000000 in
theorem rm2 (l : Launch) (Z : State) (a0 : Array Value) (hw : ∀ d ∈ tables_1, d.before a0 Z = true) (ws : List Jvm.Cond) (a1 : Addr) (x : Int32) (w_ENABLED : Addr) (w_ALLOCATED : Addr) (w_STARTED : Addr) (w_SUSPENDED : Addr) (w_COMPLETED : Addr) (w_SKIPPED : Addr) (w_WITHDRAWN : Addr) (w_DISCARDED : Addr) (w_CANCELLED : Addr) (h0 : Heap) (n0 : Nat) (hF : FX Z h0 w_ENABLED w_ALLOCATED w_STARTED w_SUSPENDED w_COMPLETED w_SKIPPED w_WITHDRAWN w_DISCARDED w_CANCELLED) (Fl : Fld Z h0 a1 "com/example/caseloom/caseloom/model/WorkItemState" "live" "Z" (.int x)) :
    MetFree l (⟨"com/example/caseloom/caseloom/model/WorkItemState", "isLive", "()Z"⟩ : MethodName) (head1 (Jvm.Cond.code (⟨"com/example/caseloom/caseloom/model/WorkItemState", "isLive", "()Z"⟩ : MethodName) prog_42_method_4_code 1 (some .boolean) :: ws) ({ frames := 0, cells := 0, slots := 0, locals := 0 } : Room)) (fun a U => a = #[(.ref a1)] ∧ Z.Warmed39 U.vm ∧ U.heap = h0) (fun _ _ _ _ _ => True) (fun _ U o U' => ∃ v L, o = .returned v ∧ Q_2 Z a1 x w_ENABLED w_ALLOCATED w_STARTED w_SUSPENDED w_COMPLETED w_SKIPPED w_WITHDRAWN w_DISCARDED w_CANCELLED h0 n0 v U'.heap L ∧ FrameEnd U o U' L ({ frames := 0, cells := 0, slots := 0, locals := 0 } : Room).cells ({ frames := 0, cells := 0, slots := 0, locals := 0 } : Room).slots) := by
  refine met_of (Ls := #[.val (.ref a1)]) (plainFor_of_name (by first | (simp [plainName, overriddenIn]; done) | decide +kernel)) (fun m => ef_2 m a1) ?_
  intro p e s m below meth c T0 C X0 e0
  obtain ⟨S_w_ENABLED, S_w_ALLOCATED, S_w_STARTED, S_w_SUSPENDED, S_w_COMPLETED, S_w_SKIPPED, S_w_WITHDRAWN, S_w_DISCARDED, S_w_CANCELLED, E_w_ENABLED, E_w_ALLOCATED, E_w_STARTED, E_w_SUSPENDED, E_w_COMPLETED, E_w_SKIPPED, E_w_WITHDRAWN, E_w_DISCARDED, E_w_CANCELLED, F_live_w_ENABLED, F_live_w_SUSPENDED, F_live_w_STARTED, F_live_w_ALLOCATED, F_live_w_DISCARDED, F_live_w_COMPLETED, F_live_w_CANCELLED, F_live_w_WITHDRAWN, F_live_w_SKIPPED⟩ := id hF
  have N0 := Fr.nil n0
  refine g_aloadN (pc' := 1) C X0 d2_0 rfl rfl rfl ?_
  refine g_getF (pc' := 4) C X0 d2_1 (host := "") (Or.inl (hw _ (List.mem_of_getElem? (i := 28) rfl))) Via.refl e0 Fl rfl (fun T1 X1 e1 => ?_)
  exact g_retN C X1 (by simp) d2_4 (by decide) (by decide) ⟨congrArg (fun z => some (Value.int z)) (F2_l0 x ).symm, N0, e1⟩
theorem own_nine (p : Int32) : ((p &&& (2147483647 : Int32)) % (9 : Int32)) = (0 : Int32) ∨ ((p &&& (2147483647 : Int32)) % (9 : Int32)) = (1 : Int32) ∨ ((p &&& (2147483647 : Int32)) % (9 : Int32)) = (2 : Int32) ∨ ((p &&& (2147483647 : Int32)) % (9 : Int32)) = (3 : Int32) ∨ ((p &&& (2147483647 : Int32)) % (9 : Int32)) = (4 : Int32) ∨ ((p &&& (2147483647 : Int32)) % (9 : Int32)) = (5 : Int32) ∨ ((p &&& (2147483647 : Int32)) % (9 : Int32)) = (6 : Int32) ∨ ((p &&& (2147483647 : Int32)) % (9 : Int32)) = (7 : Int32) ∨ ((p &&& (2147483647 : Int32)) % (9 : Int32)) = (8 : Int32) := by
  have e : (p &&& (2147483647 : Int32)).toInt = p.toInt % (2 ^ 31 : Nat) := c_mask p _ 31 (by decide) (by decide)
  have r := (c_irem (p &&& (2147483647 : Int32)) (9 : Int32) 9 (by decide)).1 (by omega)
  obtain ⟨i, hi⟩ := own_fin 9 ((p &&& (2147483647 : Int32)) % (9 : Int32)) (by omega) (by omega)
  rw [hi]; clear hi; revert i; decide
theorem pd_0 : parseMethodDescriptor "()Z" = some ⟨[], some .boolean⟩ := by decide +kernel
theorem ef_0 (m : MethodId) (p1 : Int32) : entryFrame m #[(.int p1)] maxLocals = mkF m 0 #[.val (.int p1), .unset, .unset, .unset, .unset, .unset] [] := by first | (simp [entryFrame, mkF, argsToLocals, Value.category, maxLocals]; done) | rfl
def Q_0 (Z : State) (p1 : Int32) (w_ENABLED : Addr) (w_ALLOCATED : Addr) (w_STARTED : Addr) (w_SUSPENDED : Addr) (w_COMPLETED : Addr) (w_SKIPPED : Addr) (w_WITHDRAWN : Addr) (w_DISCARDED : Addr) (w_CANCELLED : Addr) (h0 : Heap) (n0 : Nat) (v : Option Value) (h : Heap) (L : List Loc) : Prop := v = some (.int 1) ∧ Fr n0 L
set_option maxRecDepth 65536 in
set_option maxHeartbeats 40000000 in
theorem rm0 (l : Launch) (Z : State) (a0 : Array Value) (hw : ∀ d ∈ tables_1, d.before a0 Z = true) (ws : List Jvm.Cond) (p1 : Int32) (w_ENABLED : Addr) (w_ALLOCATED : Addr) (w_STARTED : Addr) (w_SUSPENDED : Addr) (w_COMPLETED : Addr) (w_SKIPPED : Addr) (w_WITHDRAWN : Addr) (w_DISCARDED : Addr) (w_CANCELLED : Addr) (h0 : Heap) (n0 : Nat) (Z0 : n0 ≤ h0.size) (hF : FX Z h0 w_ENABLED w_ALLOCATED w_STARTED w_SUSPENDED w_COMPLETED w_SKIPPED w_WITHDRAWN w_DISCARDED w_CANCELLED) :
    MetFree l x (head1 (Jvm.Cond.code x code maxLocals ret :: ws) room_1) (fun a U => a = #[(.int p1)] ∧ Z.Warmed39 U.vm ∧ U.heap = h0) (fun _ _ _ _ _ => True) (fun _ U o U' => ∃ v L, o = .returned v ∧ Q_0 Z p1 w_ENABLED w_ALLOCATED w_STARTED w_SUSPENDED w_COMPLETED w_SKIPPED w_WITHDRAWN w_DISCARDED w_CANCELLED h0 n0 v U'.heap L ∧ FrameEnd U o U' L 1 9) := by
  refine met_of (Ls := #[.val (.int p1), .unset, .unset, .unset, .unset, .unset]) (plainFor_of_name (by first | (simp [plainName, overriddenIn]; done) | decide +kernel)) (fun m => ef_0 m p1) ?_
  intro p e s m below meth c T0 C X0 e0
  obtain ⟨S_w_ENABLED, S_w_ALLOCATED, S_w_STARTED, S_w_SUSPENDED, S_w_COMPLETED, S_w_SKIPPED, S_w_WITHDRAWN, S_w_DISCARDED, S_w_CANCELLED, E_w_ENABLED, E_w_ALLOCATED, E_w_STARTED, E_w_SUSPENDED, E_w_COMPLETED, E_w_SKIPPED, E_w_WITHDRAWN, E_w_DISCARDED, E_w_CANCELLED, F_live_w_ENABLED, F_live_w_SUSPENDED, F_live_w_STARTED, F_live_w_ALLOCATED, F_live_w_DISCARDED, F_live_w_COMPLETED, F_live_w_CANCELLED, F_live_w_WITHDRAWN, F_live_w_SKIPPED⟩ := id hF
  have N0 := Fr.nil n0
  refine g_iloadN (pc' := 1) C X0 at_0 rfl rfl ?_
  refine g_ldc (pc' := 3) (v := (2147483647 : Int32)) C X0 at_1 (hw _ (List.mem_of_getElem? (i := 0) rfl)) rfl ?_
  refine g_iand (pc' := 4) C X0 at_3 rfl ?_
  refine g_bipush (pc' := 6) (v := (9 : Int32)) C X0 at_4 rfl rfl ?_
  refine g_irem (pc' := 7) C X0 at_6 (by decide) rfl ?_
  refine g_istoreN (pc' := 8) (Ls' := #[.val (.int p1), .val (.int ((p1 &&& (2147483647 : Int32)) % (9 : Int32))), .unset, .unset, .unset, .unset]) C X0 at_7 rfl rfl ?_
  refine g_bipush (pc' := 10) (v := (9 : Int32)) C X0 at_8 rfl rfl ?_
  refine g_newR (pc' := 13) (cap := 9) C X0 at_10 (hw _ (List.mem_of_getElem? (i := 1) rfl)) (hw _ (List.mem_of_getElem? (i := 2) rfl)) e0 (by decide) (by decide) (by decide) (ce := 1) (sl := 9) rfl rfl (by decide) (by decide) rfl (fun T1 h1 b1 k1 g1 X1 e1 E1 O1 A1 => ?_)
  have ne1_2 : ¬ (w_ENABLED = b1) := Nat.ne_of_lt (Nat.lt_of_lt_of_le E_w_ENABLED.lt (Nat.le_of_eq g1.symm))
  have ne1_3 : ¬ (w_ALLOCATED = b1) := Nat.ne_of_lt (Nat.lt_of_lt_of_le E_w_ALLOCATED.lt (Nat.le_of_eq g1.symm))
  have ne1_4 : ¬ (w_STARTED = b1) := Nat.ne_of_lt (Nat.lt_of_lt_of_le E_w_STARTED.lt (Nat.le_of_eq g1.symm))
  have ne1_5 : ¬ (w_SUSPENDED = b1) := Nat.ne_of_lt (Nat.lt_of_lt_of_le E_w_SUSPENDED.lt (Nat.le_of_eq g1.symm))
  have ne1_6 : ¬ (w_COMPLETED = b1) := Nat.ne_of_lt (Nat.lt_of_lt_of_le E_w_COMPLETED.lt (Nat.le_of_eq g1.symm))
  have ne1_7 : ¬ (w_SKIPPED = b1) := Nat.ne_of_lt (Nat.lt_of_lt_of_le E_w_SKIPPED.lt (Nat.le_of_eq g1.symm))
  have ne1_8 : ¬ (w_WITHDRAWN = b1) := Nat.ne_of_lt (Nat.lt_of_lt_of_le E_w_WITHDRAWN.lt (Nat.le_of_eq g1.symm))
  have ne1_9 : ¬ (w_DISCARDED = b1) := Nat.ne_of_lt (Nat.lt_of_lt_of_le E_w_DISCARDED.lt (Nat.le_of_eq g1.symm))
  have ne1_10 : ¬ (w_CANCELLED = b1) := Nat.ne_of_lt (Nat.lt_of_lt_of_le E_w_CANCELLED.lt (Nat.le_of_eq g1.symm))
  have S_w_ENABLED_1 := S_w_ENABLED.ext E1
  have S_w_ALLOCATED_1 := S_w_ALLOCATED.ext E1
  have S_w_STARTED_1 := S_w_STARTED.ext E1
  have S_w_SUSPENDED_1 := S_w_SUSPENDED.ext E1
  have S_w_COMPLETED_1 := S_w_COMPLETED.ext E1
  have S_w_SKIPPED_1 := S_w_SKIPPED.ext E1
  have S_w_WITHDRAWN_1 := S_w_WITHDRAWN.ext E1
  have S_w_DISCARDED_1 := S_w_DISCARDED.ext E1
  have S_w_CANCELLED_1 := S_w_CANCELLED.ext E1
  have E_w_ENABLED_1 := E_w_ENABLED.ext E1
  have E_w_ALLOCATED_1 := E_w_ALLOCATED.ext E1
  have E_w_STARTED_1 := E_w_STARTED.ext E1
  have E_w_SUSPENDED_1 := E_w_SUSPENDED.ext E1
  have E_w_COMPLETED_1 := E_w_COMPLETED.ext E1
  have E_w_SKIPPED_1 := E_w_SKIPPED.ext E1
  have E_w_WITHDRAWN_1 := E_w_WITHDRAWN.ext E1
  have E_w_DISCARDED_1 := E_w_DISCARDED.ext E1
  have E_w_CANCELLED_1 := E_w_CANCELLED.ext E1
  have F_live_w_ENABLED_1 := F_live_w_ENABLED.ext E1
  have F_live_w_SUSPENDED_1 := F_live_w_SUSPENDED.ext E1
  have F_live_w_STARTED_1 := F_live_w_STARTED.ext E1
  have F_live_w_ALLOCATED_1 := F_live_w_ALLOCATED.ext E1
  have F_live_w_DISCARDED_1 := F_live_w_DISCARDED.ext E1
  have F_live_w_COMPLETED_1 := F_live_w_COMPLETED.ext E1
  have F_live_w_CANCELLED_1 := F_live_w_CANCELLED.ext E1
  have F_live_w_WITHDRAWN_1 := F_live_w_WITHDRAWN.ext E1
  have F_live_w_SKIPPED_1 := F_live_w_SKIPPED.ext E1
  have gn_b1 : n0 ≤ b1 := Nat.le_trans Z0 (Nat.le_of_eq g1.symm)
  have Z1 := Nat.le_trans Z0 E1.1
  have V1 : Arv Z h1 b1 k1 (.object "com/example/caseloom/caseloom/model/WorkItemState") (9 : Int32) [.null, .null, .null, .null, .null, .null, .null, .null, .null] .null := A1.pad (pad_rep [] .null 9)
  refine g_dup (pc' := 14) C X1 at_13 rfl rfl ?_
  refine g_iconst (pc' := 15) (v := (0 : Int32)) C X1 at_14 rfl rfl ?_
  refine g_getS (pc' := 18) C X1 at_15 (host := "") (Or.inl (hw _ (List.mem_of_getElem? (i := 3) rfl))) Via.refl e1 S_w_ENABLED_1 rfl (fun T11 X11 e11 => ?_)
  refine g_stR (pc' := 19) (i := 0) C X11 at_18 e11 V1 O1 (Ins.self E_w_ENABLED_1) ⟨by decide, by decide⟩ rfl (show (0 : Nat) < 9 from by decide) rfl (fun T12 h12 X12 e12 W12 V12q => ?_)
  have V12 : Arv Z h12 b1 k1 (.object "com/example/caseloom/caseloom/model/WorkItemState") (9 : Int32) [(.ref w_ENABLED), .null, .null, .null, .null, .null, .null, .null, .null] .null := V12q
  have S_w_ENABLED_12 := S_w_ENABLED_1.wr W12
  have S_w_ALLOCATED_12 := S_w_ALLOCATED_1.wr W12
  have S_w_STARTED_12 := S_w_STARTED_1.wr W12
  have S_w_SUSPENDED_12 := S_w_SUSPENDED_1.wr W12
  have S_w_COMPLETED_12 := S_w_COMPLETED_1.wr W12
  have S_w_SKIPPED_12 := S_w_SKIPPED_1.wr W12
  have S_w_WITHDRAWN_12 := S_w_WITHDRAWN_1.wr W12
  have S_w_DISCARDED_12 := S_w_DISCARDED_1.wr W12
  have S_w_CANCELLED_12 := S_w_CANCELLED_1.wr W12
  have E_w_ENABLED_12 := E_w_ENABLED_1.wr W12
  have E_w_ALLOCATED_12 := E_w_ALLOCATED_1.wr W12
  have E_w_STARTED_12 := E_w_STARTED_1.wr W12
  have E_w_SUSPENDED_12 := E_w_SUSPENDED_1.wr W12
  have E_w_COMPLETED_12 := E_w_COMPLETED_1.wr W12
  have E_w_SKIPPED_12 := E_w_SKIPPED_1.wr W12
  have E_w_WITHDRAWN_12 := E_w_WITHDRAWN_1.wr W12
  have E_w_DISCARDED_12 := E_w_DISCARDED_1.wr W12
  have E_w_CANCELLED_12 := E_w_CANCELLED_1.wr W12
  have F_live_w_ENABLED_12 := F_live_w_ENABLED_1.other W12 (Or.inl ne1_2)
  have F_live_w_SUSPENDED_12 := F_live_w_SUSPENDED_1.other W12 (Or.inl ne1_5)
  have F_live_w_STARTED_12 := F_live_w_STARTED_1.other W12 (Or.inl ne1_4)
  have F_live_w_ALLOCATED_12 := F_live_w_ALLOCATED_1.other W12 (Or.inl ne1_3)
  have F_live_w_DISCARDED_12 := F_live_w_DISCARDED_1.other W12 (Or.inl ne1_9)
  have F_live_w_COMPLETED_12 := F_live_w_COMPLETED_1.other W12 (Or.inl ne1_6)
  have F_live_w_CANCELLED_12 := F_live_w_CANCELLED_1.other W12 (Or.inl ne1_10)
  have F_live_w_WITHDRAWN_12 := F_live_w_WITHDRAWN_1.other W12 (Or.inl ne1_8)
  have F_live_w_SKIPPED_12 := F_live_w_SKIPPED_1.other W12 (Or.inl ne1_7)
  have Z12 := Nat.le_trans Z1 (Nat.le_of_eq W12.size.symm)
  have N12 := Fr.snoc X12 N0 gn_b1
  refine g_dup (pc' := 20) C X12 at_19 rfl rfl ?_
  refine g_iconst (pc' := 21) (v := (1 : Int32)) C X12 at_20 rfl rfl ?_
  refine g_getS (pc' := 24) C X12 at_21 (host := "") (Or.inl (hw _ (List.mem_of_getElem? (i := 7) rfl))) Via.refl e12 S_w_ALLOCATED_12 rfl (fun T13 X13 e13 => ?_)
  refine g_stR (pc' := 25) (i := 1) C X13 at_24 e13 V12 O1 (Ins.self E_w_ALLOCATED_12) ⟨by decide, by decide⟩ rfl (show (1 : Nat) < 9 from by decide) rfl (fun T14 h14 X14 e14 W14 V14q => ?_)
  have V14 : Arv Z h14 b1 k1 (.object "com/example/caseloom/caseloom/model/WorkItemState") (9 : Int32) [(.ref w_ENABLED), (.ref w_ALLOCATED), .null, .null, .null, .null, .null, .null, .null] .null := V14q
  have S_w_ENABLED_14 := S_w_ENABLED_12.wr W14
  have S_w_ALLOCATED_14 := S_w_ALLOCATED_12.wr W14
  have S_w_STARTED_14 := S_w_STARTED_12.wr W14
  have S_w_SUSPENDED_14 := S_w_SUSPENDED_12.wr W14
  have S_w_COMPLETED_14 := S_w_COMPLETED_12.wr W14
  have S_w_SKIPPED_14 := S_w_SKIPPED_12.wr W14
  have S_w_WITHDRAWN_14 := S_w_WITHDRAWN_12.wr W14
  have S_w_DISCARDED_14 := S_w_DISCARDED_12.wr W14
  have S_w_CANCELLED_14 := S_w_CANCELLED_12.wr W14
  have E_w_ENABLED_14 := E_w_ENABLED_12.wr W14
  have E_w_ALLOCATED_14 := E_w_ALLOCATED_12.wr W14
  have E_w_STARTED_14 := E_w_STARTED_12.wr W14
  have E_w_SUSPENDED_14 := E_w_SUSPENDED_12.wr W14
  have E_w_COMPLETED_14 := E_w_COMPLETED_12.wr W14
  have E_w_SKIPPED_14 := E_w_SKIPPED_12.wr W14
  have E_w_WITHDRAWN_14 := E_w_WITHDRAWN_12.wr W14
  have E_w_DISCARDED_14 := E_w_DISCARDED_12.wr W14
  have E_w_CANCELLED_14 := E_w_CANCELLED_12.wr W14
  have F_live_w_ENABLED_14 := F_live_w_ENABLED_12.other W14 (Or.inl ne1_2)
  have F_live_w_SUSPENDED_14 := F_live_w_SUSPENDED_12.other W14 (Or.inl ne1_5)
  have F_live_w_STARTED_14 := F_live_w_STARTED_12.other W14 (Or.inl ne1_4)
  have F_live_w_ALLOCATED_14 := F_live_w_ALLOCATED_12.other W14 (Or.inl ne1_3)
  have F_live_w_DISCARDED_14 := F_live_w_DISCARDED_12.other W14 (Or.inl ne1_9)
  have F_live_w_COMPLETED_14 := F_live_w_COMPLETED_12.other W14 (Or.inl ne1_6)
  have F_live_w_CANCELLED_14 := F_live_w_CANCELLED_12.other W14 (Or.inl ne1_10)
  have F_live_w_WITHDRAWN_14 := F_live_w_WITHDRAWN_12.other W14 (Or.inl ne1_8)
  have F_live_w_SKIPPED_14 := F_live_w_SKIPPED_12.other W14 (Or.inl ne1_7)
  have Z14 := Nat.le_trans Z12 (Nat.le_of_eq W14.size.symm)
  have N14 := Fr.snoc X14 N12 gn_b1
  refine g_dup (pc' := 26) C X14 at_25 rfl rfl ?_
  refine g_iconst (pc' := 27) (v := (2 : Int32)) C X14 at_26 rfl rfl ?_
  refine g_getS (pc' := 30) C X14 at_27 (host := "") (Or.inl (hw _ (List.mem_of_getElem? (i := 9) rfl))) Via.refl e14 S_w_STARTED_14 rfl (fun T15 X15 e15 => ?_)
  refine g_stR (pc' := 31) (i := 2) C X15 at_30 e15 V14 O1 (Ins.self E_w_STARTED_14) ⟨by decide, by decide⟩ rfl (show (2 : Nat) < 9 from by decide) rfl (fun T16 h16 X16 e16 W16 V16q => ?_)
  have V16 : Arv Z h16 b1 k1 (.object "com/example/caseloom/caseloom/model/WorkItemState") (9 : Int32) [(.ref w_ENABLED), (.ref w_ALLOCATED), (.ref w_STARTED), .null, .null, .null, .null, .null, .null] .null := V16q
  have S_w_ENABLED_16 := S_w_ENABLED_14.wr W16
  have S_w_ALLOCATED_16 := S_w_ALLOCATED_14.wr W16
  have S_w_STARTED_16 := S_w_STARTED_14.wr W16
  have S_w_SUSPENDED_16 := S_w_SUSPENDED_14.wr W16
  have S_w_COMPLETED_16 := S_w_COMPLETED_14.wr W16
  have S_w_SKIPPED_16 := S_w_SKIPPED_14.wr W16
  have S_w_WITHDRAWN_16 := S_w_WITHDRAWN_14.wr W16
  have S_w_DISCARDED_16 := S_w_DISCARDED_14.wr W16
  have S_w_CANCELLED_16 := S_w_CANCELLED_14.wr W16
  have E_w_ENABLED_16 := E_w_ENABLED_14.wr W16
  have E_w_ALLOCATED_16 := E_w_ALLOCATED_14.wr W16
  have E_w_STARTED_16 := E_w_STARTED_14.wr W16
  have E_w_SUSPENDED_16 := E_w_SUSPENDED_14.wr W16
  have E_w_COMPLETED_16 := E_w_COMPLETED_14.wr W16
  have E_w_SKIPPED_16 := E_w_SKIPPED_14.wr W16
  have E_w_WITHDRAWN_16 := E_w_WITHDRAWN_14.wr W16
  have E_w_DISCARDED_16 := E_w_DISCARDED_14.wr W16
  have E_w_CANCELLED_16 := E_w_CANCELLED_14.wr W16
  have F_live_w_ENABLED_16 := F_live_w_ENABLED_14.other W16 (Or.inl ne1_2)
  have F_live_w_SUSPENDED_16 := F_live_w_SUSPENDED_14.other W16 (Or.inl ne1_5)
  have F_live_w_STARTED_16 := F_live_w_STARTED_14.other W16 (Or.inl ne1_4)
  have F_live_w_ALLOCATED_16 := F_live_w_ALLOCATED_14.other W16 (Or.inl ne1_3)
  have F_live_w_DISCARDED_16 := F_live_w_DISCARDED_14.other W16 (Or.inl ne1_9)
  have F_live_w_COMPLETED_16 := F_live_w_COMPLETED_14.other W16 (Or.inl ne1_6)
  have F_live_w_CANCELLED_16 := F_live_w_CANCELLED_14.other W16 (Or.inl ne1_10)
  have F_live_w_WITHDRAWN_16 := F_live_w_WITHDRAWN_14.other W16 (Or.inl ne1_8)
  have F_live_w_SKIPPED_16 := F_live_w_SKIPPED_14.other W16 (Or.inl ne1_7)
  have Z16 := Nat.le_trans Z14 (Nat.le_of_eq W16.size.symm)
  have N16 := Fr.snoc X16 N14 gn_b1
  refine g_dup (pc' := 32) C X16 at_31 rfl rfl ?_
  refine g_iconst (pc' := 33) (v := (3 : Int32)) C X16 at_32 rfl rfl ?_
  refine g_getS (pc' := 36) C X16 at_33 (host := "") (Or.inl (hw _ (List.mem_of_getElem? (i := 11) rfl))) Via.refl e16 S_w_SUSPENDED_16 rfl (fun T17 X17 e17 => ?_)
  refine g_stR (pc' := 37) (i := 3) C X17 at_36 e17 V16 O1 (Ins.self E_w_SUSPENDED_16) ⟨by decide, by decide⟩ rfl (show (3 : Nat) < 9 from by decide) rfl (fun T18 h18 X18 e18 W18 V18q => ?_)
  have V18 : Arv Z h18 b1 k1 (.object "com/example/caseloom/caseloom/model/WorkItemState") (9 : Int32) [(.ref w_ENABLED), (.ref w_ALLOCATED), (.ref w_STARTED), (.ref w_SUSPENDED), .null, .null, .null, .null, .null] .null := V18q
  have S_w_ENABLED_18 := S_w_ENABLED_16.wr W18
  have S_w_ALLOCATED_18 := S_w_ALLOCATED_16.wr W18
  have S_w_STARTED_18 := S_w_STARTED_16.wr W18
  have S_w_SUSPENDED_18 := S_w_SUSPENDED_16.wr W18
  have S_w_COMPLETED_18 := S_w_COMPLETED_16.wr W18
  have S_w_SKIPPED_18 := S_w_SKIPPED_16.wr W18
  have S_w_WITHDRAWN_18 := S_w_WITHDRAWN_16.wr W18
  have S_w_DISCARDED_18 := S_w_DISCARDED_16.wr W18
  have S_w_CANCELLED_18 := S_w_CANCELLED_16.wr W18
  have E_w_ENABLED_18 := E_w_ENABLED_16.wr W18
  have E_w_ALLOCATED_18 := E_w_ALLOCATED_16.wr W18
  have E_w_STARTED_18 := E_w_STARTED_16.wr W18
  have E_w_SUSPENDED_18 := E_w_SUSPENDED_16.wr W18
  have E_w_COMPLETED_18 := E_w_COMPLETED_16.wr W18
  have E_w_SKIPPED_18 := E_w_SKIPPED_16.wr W18
  have E_w_WITHDRAWN_18 := E_w_WITHDRAWN_16.wr W18
  have E_w_DISCARDED_18 := E_w_DISCARDED_16.wr W18
  have E_w_CANCELLED_18 := E_w_CANCELLED_16.wr W18
  have F_live_w_ENABLED_18 := F_live_w_ENABLED_16.other W18 (Or.inl ne1_2)
  have F_live_w_SUSPENDED_18 := F_live_w_SUSPENDED_16.other W18 (Or.inl ne1_5)
  have F_live_w_STARTED_18 := F_live_w_STARTED_16.other W18 (Or.inl ne1_4)
  have F_live_w_ALLOCATED_18 := F_live_w_ALLOCATED_16.other W18 (Or.inl ne1_3)
  have F_live_w_DISCARDED_18 := F_live_w_DISCARDED_16.other W18 (Or.inl ne1_9)
  have F_live_w_COMPLETED_18 := F_live_w_COMPLETED_16.other W18 (Or.inl ne1_6)
  have F_live_w_CANCELLED_18 := F_live_w_CANCELLED_16.other W18 (Or.inl ne1_10)
  have F_live_w_WITHDRAWN_18 := F_live_w_WITHDRAWN_16.other W18 (Or.inl ne1_8)
  have F_live_w_SKIPPED_18 := F_live_w_SKIPPED_16.other W18 (Or.inl ne1_7)
  have Z18 := Nat.le_trans Z16 (Nat.le_of_eq W18.size.symm)
  have N18 := Fr.snoc X18 N16 gn_b1
  refine g_dup (pc' := 38) C X18 at_37 rfl rfl ?_
  refine g_iconst (pc' := 39) (v := (4 : Int32)) C X18 at_38 rfl rfl ?_
  refine g_getS (pc' := 42) C X18 at_39 (host := "") (Or.inl (hw _ (List.mem_of_getElem? (i := 13) rfl))) Via.refl e18 S_w_COMPLETED_18 rfl (fun T19 X19 e19 => ?_)
  refine g_stR (pc' := 43) (i := 4) C X19 at_42 e19 V18 O1 (Ins.self E_w_COMPLETED_18) ⟨by decide, by decide⟩ rfl (show (4 : Nat) < 9 from by decide) rfl (fun T20 h20 X20 e20 W20 V20q => ?_)
  have V20 : Arv Z h20 b1 k1 (.object "com/example/caseloom/caseloom/model/WorkItemState") (9 : Int32) [(.ref w_ENABLED), (.ref w_ALLOCATED), (.ref w_STARTED), (.ref w_SUSPENDED), (.ref w_COMPLETED), .null, .null, .null, .null] .null := V20q
  have S_w_ENABLED_20 := S_w_ENABLED_18.wr W20
  have S_w_ALLOCATED_20 := S_w_ALLOCATED_18.wr W20
  have S_w_STARTED_20 := S_w_STARTED_18.wr W20
  have S_w_SUSPENDED_20 := S_w_SUSPENDED_18.wr W20
  have S_w_COMPLETED_20 := S_w_COMPLETED_18.wr W20
  have S_w_SKIPPED_20 := S_w_SKIPPED_18.wr W20
  have S_w_WITHDRAWN_20 := S_w_WITHDRAWN_18.wr W20
  have S_w_DISCARDED_20 := S_w_DISCARDED_18.wr W20
  have S_w_CANCELLED_20 := S_w_CANCELLED_18.wr W20
  have E_w_ENABLED_20 := E_w_ENABLED_18.wr W20
  have E_w_ALLOCATED_20 := E_w_ALLOCATED_18.wr W20
  have E_w_STARTED_20 := E_w_STARTED_18.wr W20
  have E_w_SUSPENDED_20 := E_w_SUSPENDED_18.wr W20
  have E_w_COMPLETED_20 := E_w_COMPLETED_18.wr W20
  have E_w_SKIPPED_20 := E_w_SKIPPED_18.wr W20
  have E_w_WITHDRAWN_20 := E_w_WITHDRAWN_18.wr W20
  have E_w_DISCARDED_20 := E_w_DISCARDED_18.wr W20
  have E_w_CANCELLED_20 := E_w_CANCELLED_18.wr W20
  have F_live_w_ENABLED_20 := F_live_w_ENABLED_18.other W20 (Or.inl ne1_2)
  have F_live_w_SUSPENDED_20 := F_live_w_SUSPENDED_18.other W20 (Or.inl ne1_5)
  have F_live_w_STARTED_20 := F_live_w_STARTED_18.other W20 (Or.inl ne1_4)
  have F_live_w_ALLOCATED_20 := F_live_w_ALLOCATED_18.other W20 (Or.inl ne1_3)
  have F_live_w_DISCARDED_20 := F_live_w_DISCARDED_18.other W20 (Or.inl ne1_9)
  have F_live_w_COMPLETED_20 := F_live_w_COMPLETED_18.other W20 (Or.inl ne1_6)
  have F_live_w_CANCELLED_20 := F_live_w_CANCELLED_18.other W20 (Or.inl ne1_10)
  have F_live_w_WITHDRAWN_20 := F_live_w_WITHDRAWN_18.other W20 (Or.inl ne1_8)
  have F_live_w_SKIPPED_20 := F_live_w_SKIPPED_18.other W20 (Or.inl ne1_7)
  have Z20 := Nat.le_trans Z18 (Nat.le_of_eq W20.size.symm)
  have N20 := Fr.snoc X20 N18 gn_b1
  refine g_dup (pc' := 44) C X20 at_43 rfl rfl ?_
  refine g_iconst (pc' := 45) (v := (5 : Int32)) C X20 at_44 rfl rfl ?_
  refine g_getS (pc' := 48) C X20 at_45 (host := "") (Or.inl (hw _ (List.mem_of_getElem? (i := 15) rfl))) Via.refl e20 S_w_SKIPPED_20 rfl (fun T21 X21 e21 => ?_)
  refine g_stR (pc' := 49) (i := 5) C X21 at_48 e21 V20 O1 (Ins.self E_w_SKIPPED_20) ⟨by decide, by decide⟩ rfl (show (5 : Nat) < 9 from by decide) rfl (fun T22 h22 X22 e22 W22 V22q => ?_)
  have V22 : Arv Z h22 b1 k1 (.object "com/example/caseloom/caseloom/model/WorkItemState") (9 : Int32) [(.ref w_ENABLED), (.ref w_ALLOCATED), (.ref w_STARTED), (.ref w_SUSPENDED), (.ref w_COMPLETED), (.ref w_SKIPPED), .null, .null, .null] .null := V22q
  have S_w_ENABLED_22 := S_w_ENABLED_20.wr W22
  have S_w_ALLOCATED_22 := S_w_ALLOCATED_20.wr W22
  have S_w_STARTED_22 := S_w_STARTED_20.wr W22
  have S_w_SUSPENDED_22 := S_w_SUSPENDED_20.wr W22
  have S_w_COMPLETED_22 := S_w_COMPLETED_20.wr W22
  have S_w_SKIPPED_22 := S_w_SKIPPED_20.wr W22
  have S_w_WITHDRAWN_22 := S_w_WITHDRAWN_20.wr W22
  have S_w_DISCARDED_22 := S_w_DISCARDED_20.wr W22
  have S_w_CANCELLED_22 := S_w_CANCELLED_20.wr W22
  have E_w_ENABLED_22 := E_w_ENABLED_20.wr W22
  have E_w_ALLOCATED_22 := E_w_ALLOCATED_20.wr W22
  have E_w_STARTED_22 := E_w_STARTED_20.wr W22
  have E_w_SUSPENDED_22 := E_w_SUSPENDED_20.wr W22
  have E_w_COMPLETED_22 := E_w_COMPLETED_20.wr W22
  have E_w_SKIPPED_22 := E_w_SKIPPED_20.wr W22
  have E_w_WITHDRAWN_22 := E_w_WITHDRAWN_20.wr W22
  have E_w_DISCARDED_22 := E_w_DISCARDED_20.wr W22
  have E_w_CANCELLED_22 := E_w_CANCELLED_20.wr W22
  have F_live_w_ENABLED_22 := F_live_w_ENABLED_20.other W22 (Or.inl ne1_2)
  have F_live_w_SUSPENDED_22 := F_live_w_SUSPENDED_20.other W22 (Or.inl ne1_5)
  have F_live_w_STARTED_22 := F_live_w_STARTED_20.other W22 (Or.inl ne1_4)
  have F_live_w_ALLOCATED_22 := F_live_w_ALLOCATED_20.other W22 (Or.inl ne1_3)
  have F_live_w_DISCARDED_22 := F_live_w_DISCARDED_20.other W22 (Or.inl ne1_9)
  have F_live_w_COMPLETED_22 := F_live_w_COMPLETED_20.other W22 (Or.inl ne1_6)
  have F_live_w_CANCELLED_22 := F_live_w_CANCELLED_20.other W22 (Or.inl ne1_10)
  have F_live_w_WITHDRAWN_22 := F_live_w_WITHDRAWN_20.other W22 (Or.inl ne1_8)
  have F_live_w_SKIPPED_22 := F_live_w_SKIPPED_20.other W22 (Or.inl ne1_7)
  have Z22 := Nat.le_trans Z20 (Nat.le_of_eq W22.size.symm)
  have N22 := Fr.snoc X22 N20 gn_b1
  refine g_dup (pc' := 50) C X22 at_49 rfl rfl ?_
  refine g_bipush (pc' := 52) (v := (6 : Int32)) C X22 at_50 rfl rfl ?_
  refine g_getS (pc' := 55) C X22 at_52 (host := "") (Or.inl (hw _ (List.mem_of_getElem? (i := 17) rfl))) Via.refl e22 S_w_WITHDRAWN_22 rfl (fun T23 X23 e23 => ?_)
  refine g_stR (pc' := 56) (i := 6) C X23 at_55 e23 V22 O1 (Ins.self E_w_WITHDRAWN_22) ⟨by decide, by decide⟩ rfl (show (6 : Nat) < 9 from by decide) rfl (fun T24 h24 X24 e24 W24 V24q => ?_)
  have V24 : Arv Z h24 b1 k1 (.object "com/example/caseloom/caseloom/model/WorkItemState") (9 : Int32) [(.ref w_ENABLED), (.ref w_ALLOCATED), (.ref w_STARTED), (.ref w_SUSPENDED), (.ref w_COMPLETED), (.ref w_SKIPPED), (.ref w_WITHDRAWN), .null, .null] .null := V24q
  have S_w_ENABLED_24 := S_w_ENABLED_22.wr W24
  have S_w_ALLOCATED_24 := S_w_ALLOCATED_22.wr W24
  have S_w_STARTED_24 := S_w_STARTED_22.wr W24
  have S_w_SUSPENDED_24 := S_w_SUSPENDED_22.wr W24
  have S_w_COMPLETED_24 := S_w_COMPLETED_22.wr W24
  have S_w_SKIPPED_24 := S_w_SKIPPED_22.wr W24
  have S_w_WITHDRAWN_24 := S_w_WITHDRAWN_22.wr W24
  have S_w_DISCARDED_24 := S_w_DISCARDED_22.wr W24
  have S_w_CANCELLED_24 := S_w_CANCELLED_22.wr W24
  have E_w_ENABLED_24 := E_w_ENABLED_22.wr W24
  have E_w_ALLOCATED_24 := E_w_ALLOCATED_22.wr W24
  have E_w_STARTED_24 := E_w_STARTED_22.wr W24
  have E_w_SUSPENDED_24 := E_w_SUSPENDED_22.wr W24
  have E_w_COMPLETED_24 := E_w_COMPLETED_22.wr W24
  have E_w_SKIPPED_24 := E_w_SKIPPED_22.wr W24
  have E_w_WITHDRAWN_24 := E_w_WITHDRAWN_22.wr W24
  have E_w_DISCARDED_24 := E_w_DISCARDED_22.wr W24
  have E_w_CANCELLED_24 := E_w_CANCELLED_22.wr W24
  have F_live_w_ENABLED_24 := F_live_w_ENABLED_22.other W24 (Or.inl ne1_2)
  have F_live_w_SUSPENDED_24 := F_live_w_SUSPENDED_22.other W24 (Or.inl ne1_5)
  have F_live_w_STARTED_24 := F_live_w_STARTED_22.other W24 (Or.inl ne1_4)
  have F_live_w_ALLOCATED_24 := F_live_w_ALLOCATED_22.other W24 (Or.inl ne1_3)
  have F_live_w_DISCARDED_24 := F_live_w_DISCARDED_22.other W24 (Or.inl ne1_9)
  have F_live_w_COMPLETED_24 := F_live_w_COMPLETED_22.other W24 (Or.inl ne1_6)
  have F_live_w_CANCELLED_24 := F_live_w_CANCELLED_22.other W24 (Or.inl ne1_10)
  have F_live_w_WITHDRAWN_24 := F_live_w_WITHDRAWN_22.other W24 (Or.inl ne1_8)
  have F_live_w_SKIPPED_24 := F_live_w_SKIPPED_22.other W24 (Or.inl ne1_7)
  have Z24 := Nat.le_trans Z22 (Nat.le_of_eq W24.size.symm)
  have N24 := Fr.snoc X24 N22 gn_b1
  refine g_dup (pc' := 57) C X24 at_56 rfl rfl ?_
  refine g_bipush (pc' := 59) (v := (7 : Int32)) C X24 at_57 rfl rfl ?_
  refine g_getS (pc' := 62) C X24 at_59 (host := "") (Or.inl (hw _ (List.mem_of_getElem? (i := 19) rfl))) Via.refl e24 S_w_DISCARDED_24 rfl (fun T25 X25 e25 => ?_)
  refine g_stR (pc' := 63) (i := 7) C X25 at_62 e25 V24 O1 (Ins.self E_w_DISCARDED_24) ⟨by decide, by decide⟩ rfl (show (7 : Nat) < 9 from by decide) rfl (fun T26 h26 X26 e26 W26 V26q => ?_)
  have V26 : Arv Z h26 b1 k1 (.object "com/example/caseloom/caseloom/model/WorkItemState") (9 : Int32) [(.ref w_ENABLED), (.ref w_ALLOCATED), (.ref w_STARTED), (.ref w_SUSPENDED), (.ref w_COMPLETED), (.ref w_SKIPPED), (.ref w_WITHDRAWN), (.ref w_DISCARDED), .null] .null := V26q
  have S_w_ENABLED_26 := S_w_ENABLED_24.wr W26
  have S_w_ALLOCATED_26 := S_w_ALLOCATED_24.wr W26
  have S_w_STARTED_26 := S_w_STARTED_24.wr W26
  have S_w_SUSPENDED_26 := S_w_SUSPENDED_24.wr W26
  have S_w_COMPLETED_26 := S_w_COMPLETED_24.wr W26
  have S_w_SKIPPED_26 := S_w_SKIPPED_24.wr W26
  have S_w_WITHDRAWN_26 := S_w_WITHDRAWN_24.wr W26
  have S_w_DISCARDED_26 := S_w_DISCARDED_24.wr W26
  have S_w_CANCELLED_26 := S_w_CANCELLED_24.wr W26
  have E_w_ENABLED_26 := E_w_ENABLED_24.wr W26
  have E_w_ALLOCATED_26 := E_w_ALLOCATED_24.wr W26
  have E_w_STARTED_26 := E_w_STARTED_24.wr W26
  have E_w_SUSPENDED_26 := E_w_SUSPENDED_24.wr W26
  have E_w_COMPLETED_26 := E_w_COMPLETED_24.wr W26
  have E_w_SKIPPED_26 := E_w_SKIPPED_24.wr W26
  have E_w_WITHDRAWN_26 := E_w_WITHDRAWN_24.wr W26
  have E_w_DISCARDED_26 := E_w_DISCARDED_24.wr W26
  have E_w_CANCELLED_26 := E_w_CANCELLED_24.wr W26
  have F_live_w_ENABLED_26 := F_live_w_ENABLED_24.other W26 (Or.inl ne1_2)
  have F_live_w_SUSPENDED_26 := F_live_w_SUSPENDED_24.other W26 (Or.inl ne1_5)
  have F_live_w_STARTED_26 := F_live_w_STARTED_24.other W26 (Or.inl ne1_4)
  have F_live_w_ALLOCATED_26 := F_live_w_ALLOCATED_24.other W26 (Or.inl ne1_3)
  have F_live_w_DISCARDED_26 := F_live_w_DISCARDED_24.other W26 (Or.inl ne1_9)
  have F_live_w_COMPLETED_26 := F_live_w_COMPLETED_24.other W26 (Or.inl ne1_6)
  have F_live_w_CANCELLED_26 := F_live_w_CANCELLED_24.other W26 (Or.inl ne1_10)
  have F_live_w_WITHDRAWN_26 := F_live_w_WITHDRAWN_24.other W26 (Or.inl ne1_8)
  have F_live_w_SKIPPED_26 := F_live_w_SKIPPED_24.other W26 (Or.inl ne1_7)
  have Z26 := Nat.le_trans Z24 (Nat.le_of_eq W26.size.symm)
  have N26 := Fr.snoc X26 N24 gn_b1
  refine g_dup (pc' := 64) C X26 at_63 rfl rfl ?_
  refine g_bipush (pc' := 66) (v := (8 : Int32)) C X26 at_64 rfl rfl ?_
  refine g_getS (pc' := 69) C X26 at_66 (host := "") (Or.inl (hw _ (List.mem_of_getElem? (i := 21) rfl))) Via.refl e26 S_w_CANCELLED_26 rfl (fun T27 X27 e27 => ?_)
  refine g_stR (pc' := 70) (i := 8) C X27 at_69 e27 V26 O1 (Ins.self E_w_CANCELLED_26) ⟨by decide, by decide⟩ rfl (show (8 : Nat) < 9 from by decide) rfl (fun T28 h28 X28 e28 W28 V28q => ?_)
  have V28 : Arv Z h28 b1 k1 (.object "com/example/caseloom/caseloom/model/WorkItemState") (9 : Int32) [(.ref w_ENABLED), (.ref w_ALLOCATED), (.ref w_STARTED), (.ref w_SUSPENDED), (.ref w_COMPLETED), (.ref w_SKIPPED), (.ref w_WITHDRAWN), (.ref w_DISCARDED), (.ref w_CANCELLED)] .null := V28q
  have S_w_ENABLED_28 := S_w_ENABLED_26.wr W28
  have S_w_ALLOCATED_28 := S_w_ALLOCATED_26.wr W28
  have S_w_STARTED_28 := S_w_STARTED_26.wr W28
  have S_w_SUSPENDED_28 := S_w_SUSPENDED_26.wr W28
  have S_w_COMPLETED_28 := S_w_COMPLETED_26.wr W28
  have S_w_SKIPPED_28 := S_w_SKIPPED_26.wr W28
  have S_w_WITHDRAWN_28 := S_w_WITHDRAWN_26.wr W28
  have S_w_DISCARDED_28 := S_w_DISCARDED_26.wr W28
  have S_w_CANCELLED_28 := S_w_CANCELLED_26.wr W28
  have E_w_ENABLED_28 := E_w_ENABLED_26.wr W28
  have E_w_ALLOCATED_28 := E_w_ALLOCATED_26.wr W28
  have E_w_STARTED_28 := E_w_STARTED_26.wr W28
  have E_w_SUSPENDED_28 := E_w_SUSPENDED_26.wr W28
  have E_w_COMPLETED_28 := E_w_COMPLETED_26.wr W28
  have E_w_SKIPPED_28 := E_w_SKIPPED_26.wr W28
  have E_w_WITHDRAWN_28 := E_w_WITHDRAWN_26.wr W28
  have E_w_DISCARDED_28 := E_w_DISCARDED_26.wr W28
  have E_w_CANCELLED_28 := E_w_CANCELLED_26.wr W28
  have F_live_w_ENABLED_28 := F_live_w_ENABLED_26.other W28 (Or.inl ne1_2)
  have F_live_w_SUSPENDED_28 := F_live_w_SUSPENDED_26.other W28 (Or.inl ne1_5)
  have F_live_w_STARTED_28 := F_live_w_STARTED_26.other W28 (Or.inl ne1_4)
  have F_live_w_ALLOCATED_28 := F_live_w_ALLOCATED_26.other W28 (Or.inl ne1_3)
  have F_live_w_DISCARDED_28 := F_live_w_DISCARDED_26.other W28 (Or.inl ne1_9)
  have F_live_w_COMPLETED_28 := F_live_w_COMPLETED_26.other W28 (Or.inl ne1_6)
  have F_live_w_CANCELLED_28 := F_live_w_CANCELLED_26.other W28 (Or.inl ne1_10)
  have F_live_w_WITHDRAWN_28 := F_live_w_WITHDRAWN_26.other W28 (Or.inl ne1_8)
  have F_live_w_SKIPPED_28 := F_live_w_SKIPPED_26.other W28 (Or.inl ne1_7)
  have Z28 := Nat.le_trans Z26 (Nat.le_of_eq W28.size.symm)
  have N28 := Fr.snoc X28 N26 gn_b1
  refine g_astoreN (pc' := 71) (Ls' := #[.val (.int p1), .val (.int ((p1 &&& (2147483647 : Int32)) % (9 : Int32))), .val (.ref b1), .unset, .unset, .unset]) C X28 at_70 rfl rfl rfl ?_
  rcases own_nine p1 with s29 | s29 | s29 | s29 | s29 | s29 | s29 | s29 | s29
  · refine own_cast (show T28.setTop (mkF m 71 #[.val (.int p1), .val (.int ((p1 &&& (2147483647 : Int32)) % (9 : Int32))), .val (.ref b1), .unset, .unset, .unset] []) = T28.setTop (mkF m 71 #[.val (.int p1), .val (.int (0 : Int32)), .val (.ref b1), .unset, .unset, .unset] []) from by rw [s29]) ?_
    refine g_aloadN (pc' := 72) C X28 at_71 rfl rfl rfl ?_
    refine g_iloadN (pc' := 73) C X28 at_72 rfl rfl ?_
    refine g_ldR (pc' := 74) (v := (.ref w_ENABLED)) C X28 at_73 e28 V28 rfl ⟨by decide, by decide⟩ rfl rfl ?_
    refine g_astoreN (pc' := 75) (Ls' := #[.val (.int p1), .val (.int (0 : Int32)), .val (.ref b1), .val (.ref w_ENABLED), .unset, .unset]) C X28 at_74 rfl rfl rfl ?_
    refine g_iloadN (pc' := 76) C X28 at_75 rfl rfl ?_
    refine g_iconst (pc' := 77) (v := (4 : Int32)) C X28 at_76 rfl rfl ?_
    refine g_icmpY (pc' := 84) C X28 at_77 (tlt (show (0 : Int32) < (4 : Int32) from (by decide))).1 (by decide) (by decide) ?_
    refine g_iconst (pc' := 85) (v := (0 : Int32)) C X28 at_84 rfl rfl ?_
    refine g_istore (pc' := 87) (Ls' := #[.val (.int p1), .val (.int (0 : Int32)), .val (.ref b1), .val (.ref w_ENABLED), .val (.int (0 : Int32)), .unset]) C X28 at_85 rfl rfl ?_
    refine g_aloadN (pc' := 88) C X28 at_87 rfl rfl rfl ?_
    refine g_callV (b := w_ENABLED) (z := (⟨"com/example/caseloom/caseloom/model/WorkItemState", "isClosed", "()Z"⟩ : MethodName)) (y := (⟨"com/example/caseloom/caseloom/model/WorkItemState", "isClosed", "()Z"⟩ : MethodName)) (argsL := []) (st := []) (pc' := 91) C X28 at_88 (hw _ (List.mem_of_getElem? (i := 23) rfl)) (hw _ (List.mem_of_getElem? (i := 24) rfl)) (notFace_of_selects (args := #[]) (mvT C.hZ (hw _ (List.mem_of_getElem? (i := 26) rfl)))) (hw _ (List.mem_of_getElem? (i := 26) rfl)) (hw _ (List.mem_of_getElem? (i := 25) rfl)) (hw _ (List.mem_of_getElem? (i := 4) rfl)) (hw _ (List.mem_of_getElem? (i := 27) rfl)) (by decide) (rm1 l Z a0 hw [] w_ENABLED (1 : Int32) w_ENABLED w_ALLOCATED w_STARTED w_SUSPENDED w_COMPLETED w_SKIPPED w_WITHDRAWN w_DISCARDED w_CANCELLED h28 n0 ⟨S_w_ENABLED_28, S_w_ALLOCATED_28, S_w_STARTED_28, S_w_SUSPENDED_28, S_w_COMPLETED_28, S_w_SKIPPED_28, S_w_WITHDRAWN_28, S_w_DISCARDED_28, S_w_CANCELLED_28, E_w_ENABLED_28, E_w_ALLOCATED_28, E_w_STARTED_28, E_w_SUSPENDED_28, E_w_COMPLETED_28, E_w_SKIPPED_28, E_w_WITHDRAWN_28, E_w_DISCARDED_28, E_w_CANCELLED_28, F_live_w_ENABLED_28, F_live_w_SUSPENDED_28, F_live_w_STARTED_28, F_live_w_ALLOCATED_28, F_live_w_DISCARDED_28, F_live_w_COMPLETED_28, F_live_w_CANCELLED_28, F_live_w_WITHDRAWN_28, F_live_w_SKIPPED_28⟩ F_live_w_ENABLED_28) (W := 0) (by decide) (by decide) (ce := 1) (sl := 9) rfl rfl (by decide) (by decide) rfl E_w_ENABLED_28 e28 rfl pd_0 rfl (Nat.le_refl _) rfl (fun v30 T30 L30 X30 Q30 => ?_)
    obtain ⟨q30, Nq30, e30⟩ := Q30
    have N30 := Fr.app N28 Nq30
    rw [F1_l1 (1 : Int32) (show ¬ ((1 : Int32) = (0 : Int32)) from (by decide))] at q30
    subst q30
    show Go p.tables e below _ (T30.setTop (mkF m 91 #[.val (.int p1), .val (.int (0 : Int32)), .val (.ref b1), .val (.ref w_ENABLED), .val (.int (0 : Int32)), .unset] [(.int (0 : Int32))]))
    refine g_istore (pc' := 93) (Ls' := #[.val (.int p1), .val (.int (0 : Int32)), .val (.ref b1), .val (.ref w_ENABLED), .val (.int (0 : Int32)), .val (.int (0 : Int32))]) C X30 at_91 rfl rfl ?_
    refine g_iload (pc' := 95) C X30 at_93 rfl rfl ?_
    refine g_iload (pc' := 97) C X30 at_95 rfl rfl ?_
    refine g_icmpN (pc' := 100) C X30 at_97 (teq (show (0 : Int32) = (0 : Int32) from (by decide))).2 rfl ?_
    refine g_iload (pc' := 102) C X30 at_100 rfl rfl ?_
    refine g_aloadN (pc' := 103) C X30 at_102 rfl rfl rfl ?_
    refine g_callV (b := w_ENABLED) (z := (⟨"com/example/caseloom/caseloom/model/WorkItemState", "isLive", "()Z"⟩ : MethodName)) (y := (⟨"com/example/caseloom/caseloom/model/WorkItemState", "isLive", "()Z"⟩ : MethodName)) (argsL := []) (st := [(.int (0 : Int32))]) (pc' := 106) C X30 at_103 (hw _ (List.mem_of_getElem? (i := 30) rfl)) (hw _ (List.mem_of_getElem? (i := 31) rfl)) (notFace_of_selects (args := #[]) (mvT C.hZ (hw _ (List.mem_of_getElem? (i := 33) rfl)))) (hw _ (List.mem_of_getElem? (i := 33) rfl)) (hw _ (List.mem_of_getElem? (i := 32) rfl)) (hw _ (List.mem_of_getElem? (i := 4) rfl)) (hw _ (List.mem_of_getElem? (i := 34) rfl)) (by decide) (rm2 l Z a0 hw [] w_ENABLED (1 : Int32) w_ENABLED w_ALLOCATED w_STARTED w_SUSPENDED w_COMPLETED w_SKIPPED w_WITHDRAWN w_DISCARDED w_CANCELLED h28 n0 ⟨S_w_ENABLED_28, S_w_ALLOCATED_28, S_w_STARTED_28, S_w_SUSPENDED_28, S_w_COMPLETED_28, S_w_SKIPPED_28, S_w_WITHDRAWN_28, S_w_DISCARDED_28, S_w_CANCELLED_28, E_w_ENABLED_28, E_w_ALLOCATED_28, E_w_STARTED_28, E_w_SUSPENDED_28, E_w_COMPLETED_28, E_w_SKIPPED_28, E_w_WITHDRAWN_28, E_w_DISCARDED_28, E_w_CANCELLED_28, F_live_w_ENABLED_28, F_live_w_SUSPENDED_28, F_live_w_STARTED_28, F_live_w_ALLOCATED_28, F_live_w_DISCARDED_28, F_live_w_COMPLETED_28, F_live_w_CANCELLED_28, F_live_w_WITHDRAWN_28, F_live_w_SKIPPED_28⟩ F_live_w_ENABLED_28) (W := 1) (by decide) (by decide) (ce := 1) (sl := 9) rfl rfl (by decide) (by decide) rfl E_w_ENABLED_28 e30 rfl pd_0 rfl (Nat.le_refl _) rfl (fun v31 T31 L31 X31 Q31 => ?_)
    obtain ⟨q31, Nq31, e31⟩ := Q31
    have N31 := Fr.app N30 Nq31
    rw [F2_l0 (1 : Int32)] at q31
    subst q31
    show Go p.tables e below _ (T31.setTop (mkF m 106 #[.val (.int p1), .val (.int (0 : Int32)), .val (.ref b1), .val (.ref w_ENABLED), .val (.int (0 : Int32)), .val (.int (0 : Int32))] [(.int (nar .boolean (1 : Int32))), (.int (0 : Int32))]))
    refine g_icmpN (pc' := 109) C X31 at_106 (feq (show ¬ ((0 : Int32) = (nar .boolean (1 : Int32))) from (by decide))).1 rfl ?_
    refine g_iconst (pc' := 110) (v := (1 : Int32)) C X31 at_109 rfl rfl ?_
    refine g_goto (pc' := 114) C X31 at_110 (by decide) (by decide) ?_
    exact g_retN C X31 (by simp) at_114 (by decide) (by decide) ⟨rfl, N31⟩
  · refine own_cast (show T28.setTop (mkF m 71 #[.val (.int p1), .val (.int ((p1 &&& (2147483647 : Int32)) % (9 : Int32))), .val (.ref b1), .unset, .unset, .unset] []) = T28.setTop (mkF m 71 #[.val (.int p1), .val (.int (1 : Int32)), .val (.ref b1), .unset, .unset, .unset] []) from by rw [s29]) ?_
    refine g_aloadN (pc' := 72) C X28 at_71 rfl rfl rfl ?_
    refine g_iloadN (pc' := 73) C X28 at_72 rfl rfl ?_
    refine g_ldR (pc' := 74) (v := (.ref w_ALLOCATED)) C X28 at_73 e28 V28 rfl ⟨by decide, by decide⟩ rfl rfl ?_
    refine g_astoreN (pc' := 75) (Ls' := #[.val (.int p1), .val (.int (1 : Int32)), .val (.ref b1), .val (.ref w_ALLOCATED), .unset, .unset]) C X28 at_74 rfl rfl rfl ?_
    refine g_iloadN (pc' := 76) C X28 at_75 rfl rfl ?_
    refine g_iconst (pc' := 77) (v := (4 : Int32)) C X28 at_76 rfl rfl ?_
    refine g_icmpY (pc' := 84) C X28 at_77 (tlt (show (1 : Int32) < (4 : Int32) from (by decide))).1 (by decide) (by decide) ?_
    refine g_iconst (pc' := 85) (v := (0 : Int32)) C X28 at_84 rfl rfl ?_
    refine g_istore (pc' := 87) (Ls' := #[.val (.int p1), .val (.int (1 : Int32)), .val (.ref b1), .val (.ref w_ALLOCATED), .val (.int (0 : Int32)), .unset]) C X28 at_85 rfl rfl ?_
    refine g_aloadN (pc' := 88) C X28 at_87 rfl rfl rfl ?_
    refine g_callV (b := w_ALLOCATED) (z := (⟨"com/example/caseloom/caseloom/model/WorkItemState", "isClosed", "()Z"⟩ : MethodName)) (y := (⟨"com/example/caseloom/caseloom/model/WorkItemState", "isClosed", "()Z"⟩ : MethodName)) (argsL := []) (st := []) (pc' := 91) C X28 at_88 (hw _ (List.mem_of_getElem? (i := 23) rfl)) (hw _ (List.mem_of_getElem? (i := 24) rfl)) (notFace_of_selects (args := #[]) (mvT C.hZ (hw _ (List.mem_of_getElem? (i := 26) rfl)))) (hw _ (List.mem_of_getElem? (i := 26) rfl)) (hw _ (List.mem_of_getElem? (i := 25) rfl)) (hw _ (List.mem_of_getElem? (i := 4) rfl)) (hw _ (List.mem_of_getElem? (i := 27) rfl)) (by decide) (rm1 l Z a0 hw [] w_ALLOCATED (1 : Int32) w_ENABLED w_ALLOCATED w_STARTED w_SUSPENDED w_COMPLETED w_SKIPPED w_WITHDRAWN w_DISCARDED w_CANCELLED h28 n0 ⟨S_w_ENABLED_28, S_w_ALLOCATED_28, S_w_STARTED_28, S_w_SUSPENDED_28, S_w_COMPLETED_28, S_w_SKIPPED_28, S_w_WITHDRAWN_28, S_w_DISCARDED_28, S_w_CANCELLED_28, E_w_ENABLED_28, E_w_ALLOCATED_28, E_w_STARTED_28, E_w_SUSPENDED_28, E_w_COMPLETED_28, E_w_SKIPPED_28, E_w_WITHDRAWN_28, E_w_DISCARDED_28, E_w_CANCELLED_28, F_live_w_ENABLED_28, F_live_w_SUSPENDED_28, F_live_w_STARTED_28, F_live_w_ALLOCATED_28, F_live_w_DISCARDED_28, F_live_w_COMPLETED_28, F_live_w_CANCELLED_28, F_live_w_WITHDRAWN_28, F_live_w_SKIPPED_28⟩ F_live_w_ALLOCATED_28) (W := 0) (by decide) (by decide) (ce := 1) (sl := 9) rfl rfl (by decide) (by decide) rfl E_w_ALLOCATED_28 e28 rfl pd_0 rfl (Nat.le_refl _) rfl (fun v32 T32 L32 X32 Q32 => ?_)
    obtain ⟨q32, Nq32, e32⟩ := Q32
    have N32 := Fr.app N28 Nq32
    rw [F1_l1 (1 : Int32) (show ¬ ((1 : Int32) = (0 : Int32)) from (by decide))] at q32
    subst q32
    show Go p.tables e below _ (T32.setTop (mkF m 91 #[.val (.int p1), .val (.int (1 : Int32)), .val (.ref b1), .val (.ref w_ALLOCATED), .val (.int (0 : Int32)), .unset] [(.int (0 : Int32))]))
    refine g_istore (pc' := 93) (Ls' := #[.val (.int p1), .val (.int (1 : Int32)), .val (.ref b1), .val (.ref w_ALLOCATED), .val (.int (0 : Int32)), .val (.int (0 : Int32))]) C X32 at_91 rfl rfl ?_
    refine g_iload (pc' := 95) C X32 at_93 rfl rfl ?_
    refine g_iload (pc' := 97) C X32 at_95 rfl rfl ?_
    refine g_icmpN (pc' := 100) C X32 at_97 (teq (show (0 : Int32) = (0 : Int32) from (by decide))).2 rfl ?_
    refine g_iload (pc' := 102) C X32 at_100 rfl rfl ?_
    refine g_aloadN (pc' := 103) C X32 at_102 rfl rfl rfl ?_
    refine g_callV (b := w_ALLOCATED) (z := (⟨"com/example/caseloom/caseloom/model/WorkItemState", "isLive", "()Z"⟩ : MethodName)) (y := (⟨"com/example/caseloom/caseloom/model/WorkItemState", "isLive", "()Z"⟩ : MethodName)) (argsL := []) (st := [(.int (0 : Int32))]) (pc' := 106) C X32 at_103 (hw _ (List.mem_of_getElem? (i := 30) rfl)) (hw _ (List.mem_of_getElem? (i := 31) rfl)) (notFace_of_selects (args := #[]) (mvT C.hZ (hw _ (List.mem_of_getElem? (i := 33) rfl)))) (hw _ (List.mem_of_getElem? (i := 33) rfl)) (hw _ (List.mem_of_getElem? (i := 32) rfl)) (hw _ (List.mem_of_getElem? (i := 4) rfl)) (hw _ (List.mem_of_getElem? (i := 34) rfl)) (by decide) (rm2 l Z a0 hw [] w_ALLOCATED (1 : Int32) w_ENABLED w_ALLOCATED w_STARTED w_SUSPENDED w_COMPLETED w_SKIPPED w_WITHDRAWN w_DISCARDED w_CANCELLED h28 n0 ⟨S_w_ENABLED_28, S_w_ALLOCATED_28, S_w_STARTED_28, S_w_SUSPENDED_28, S_w_COMPLETED_28, S_w_SKIPPED_28, S_w_WITHDRAWN_28, S_w_DISCARDED_28, S_w_CANCELLED_28, E_w_ENABLED_28, E_w_ALLOCATED_28, E_w_STARTED_28, E_w_SUSPENDED_28, E_w_COMPLETED_28, E_w_SKIPPED_28, E_w_WITHDRAWN_28, E_w_DISCARDED_28, E_w_CANCELLED_28, F_live_w_ENABLED_28, F_live_w_SUSPENDED_28, F_live_w_STARTED_28, F_live_w_ALLOCATED_28, F_live_w_DISCARDED_28, F_live_w_COMPLETED_28, F_live_w_CANCELLED_28, F_live_w_WITHDRAWN_28, F_live_w_SKIPPED_28⟩ F_live_w_ALLOCATED_28) (W := 1) (by decide) (by decide) (ce := 1) (sl := 9) rfl rfl (by decide) (by decide) rfl E_w_ALLOCATED_28 e32 rfl pd_0 rfl (Nat.le_refl _) rfl (fun v33 T33 L33 X33 Q33 => ?_)
    obtain ⟨q33, Nq33, e33⟩ := Q33
    have N33 := Fr.app N32 Nq33
    rw [F2_l0 (1 : Int32)] at q33
    subst q33
    show Go p.tables e below _ (T33.setTop (mkF m 106 #[.val (.int p1), .val (.int (1 : Int32)), .val (.ref b1), .val (.ref w_ALLOCATED), .val (.int (0 : Int32)), .val (.int (0 : Int32))] [(.int (nar .boolean (1 : Int32))), (.int (0 : Int32))]))
    refine g_icmpN (pc' := 109) C X33 at_106 (feq (show ¬ ((0 : Int32) = (nar .boolean (1 : Int32))) from (by decide))).1 rfl ?_
    refine g_iconst (pc' := 110) (v := (1 : Int32)) C X33 at_109 rfl rfl ?_
    refine g_goto (pc' := 114) C X33 at_110 (by decide) (by decide) ?_
    exact g_retN C X33 (by simp) at_114 (by decide) (by decide) ⟨rfl, N33⟩
  · refine own_cast (show T28.setTop (mkF m 71 #[.val (.int p1), .val (.int ((p1 &&& (2147483647 : Int32)) % (9 : Int32))), .val (.ref b1), .unset, .unset, .unset] []) = T28.setTop (mkF m 71 #[.val (.int p1), .val (.int (2 : Int32)), .val (.ref b1), .unset, .unset, .unset] []) from by rw [s29]) ?_
    refine g_aloadN (pc' := 72) C X28 at_71 rfl rfl rfl ?_
    refine g_iloadN (pc' := 73) C X28 at_72 rfl rfl ?_
    refine g_ldR (pc' := 74) (v := (.ref w_STARTED)) C X28 at_73 e28 V28 rfl ⟨by decide, by decide⟩ rfl rfl ?_
    refine g_astoreN (pc' := 75) (Ls' := #[.val (.int p1), .val (.int (2 : Int32)), .val (.ref b1), .val (.ref w_STARTED), .unset, .unset]) C X28 at_74 rfl rfl rfl ?_
    refine g_iloadN (pc' := 76) C X28 at_75 rfl rfl ?_
    refine g_iconst (pc' := 77) (v := (4 : Int32)) C X28 at_76 rfl rfl ?_
    refine g_icmpY (pc' := 84) C X28 at_77 (tlt (show (2 : Int32) < (4 : Int32) from (by decide))).1 (by decide) (by decide) ?_
    refine g_iconst (pc' := 85) (v := (0 : Int32)) C X28 at_84 rfl rfl ?_
    refine g_istore (pc' := 87) (Ls' := #[.val (.int p1), .val (.int (2 : Int32)), .val (.ref b1), .val (.ref w_STARTED), .val (.int (0 : Int32)), .unset]) C X28 at_85 rfl rfl ?_
    refine g_aloadN (pc' := 88) C X28 at_87 rfl rfl rfl ?_
    refine g_callV (b := w_STARTED) (z := (⟨"com/example/caseloom/caseloom/model/WorkItemState", "isClosed", "()Z"⟩ : MethodName)) (y := (⟨"com/example/caseloom/caseloom/model/WorkItemState", "isClosed", "()Z"⟩ : MethodName)) (argsL := []) (st := []) (pc' := 91) C X28 at_88 (hw _ (List.mem_of_getElem? (i := 23) rfl)) (hw _ (List.mem_of_getElem? (i := 24) rfl)) (notFace_of_selects (args := #[]) (mvT C.hZ (hw _ (List.mem_of_getElem? (i := 26) rfl)))) (hw _ (List.mem_of_getElem? (i := 26) rfl)) (hw _ (List.mem_of_getElem? (i := 25) rfl)) (hw _ (List.mem_of_getElem? (i := 4) rfl)) (hw _ (List.mem_of_getElem? (i := 27) rfl)) (by decide) (rm1 l Z a0 hw [] w_STARTED (1 : Int32) w_ENABLED w_ALLOCATED w_STARTED w_SUSPENDED w_COMPLETED w_SKIPPED w_WITHDRAWN w_DISCARDED w_CANCELLED h28 n0 ⟨S_w_ENABLED_28, S_w_ALLOCATED_28, S_w_STARTED_28, S_w_SUSPENDED_28, S_w_COMPLETED_28, S_w_SKIPPED_28, S_w_WITHDRAWN_28, S_w_DISCARDED_28, S_w_CANCELLED_28, E_w_ENABLED_28, E_w_ALLOCATED_28, E_w_STARTED_28, E_w_SUSPENDED_28, E_w_COMPLETED_28, E_w_SKIPPED_28, E_w_WITHDRAWN_28, E_w_DISCARDED_28, E_w_CANCELLED_28, F_live_w_ENABLED_28, F_live_w_SUSPENDED_28, F_live_w_STARTED_28, F_live_w_ALLOCATED_28, F_live_w_DISCARDED_28, F_live_w_COMPLETED_28, F_live_w_CANCELLED_28, F_live_w_WITHDRAWN_28, F_live_w_SKIPPED_28⟩ F_live_w_STARTED_28) (W := 0) (by decide) (by decide) (ce := 1) (sl := 9) rfl rfl (by decide) (by decide) rfl E_w_STARTED_28 e28 rfl pd_0 rfl (Nat.le_refl _) rfl (fun v34 T34 L34 X34 Q34 => ?_)
    obtain ⟨q34, Nq34, e34⟩ := Q34
    have N34 := Fr.app N28 Nq34
    rw [F1_l1 (1 : Int32) (show ¬ ((1 : Int32) = (0 : Int32)) from (by decide))] at q34
    subst q34
    show Go p.tables e below _ (T34.setTop (mkF m 91 #[.val (.int p1), .val (.int (2 : Int32)), .val (.ref b1), .val (.ref w_STARTED), .val (.int (0 : Int32)), .unset] [(.int (0 : Int32))]))
    refine g_istore (pc' := 93) (Ls' := #[.val (.int p1), .val (.int (2 : Int32)), .val (.ref b1), .val (.ref w_STARTED), .val (.int (0 : Int32)), .val (.int (0 : Int32))]) C X34 at_91 rfl rfl ?_
    refine g_iload (pc' := 95) C X34 at_93 rfl rfl ?_
    refine g_iload (pc' := 97) C X34 at_95 rfl rfl ?_
    refine g_icmpN (pc' := 100) C X34 at_97 (teq (show (0 : Int32) = (0 : Int32) from (by decide))).2 rfl ?_
    refine g_iload (pc' := 102) C X34 at_100 rfl rfl ?_
    refine g_aloadN (pc' := 103) C X34 at_102 rfl rfl rfl ?_
    refine g_callV (b := w_STARTED) (z := (⟨"com/example/caseloom/caseloom/model/WorkItemState", "isLive", "()Z"⟩ : MethodName)) (y := (⟨"com/example/caseloom/caseloom/model/WorkItemState", "isLive", "()Z"⟩ : MethodName)) (argsL := []) (st := [(.int (0 : Int32))]) (pc' := 106) C X34 at_103 (hw _ (List.mem_of_getElem? (i := 30) rfl)) (hw _ (List.mem_of_getElem? (i := 31) rfl)) (notFace_of_selects (args := #[]) (mvT C.hZ (hw _ (List.mem_of_getElem? (i := 33) rfl)))) (hw _ (List.mem_of_getElem? (i := 33) rfl)) (hw _ (List.mem_of_getElem? (i := 32) rfl)) (hw _ (List.mem_of_getElem? (i := 4) rfl)) (hw _ (List.mem_of_getElem? (i := 34) rfl)) (by decide) (rm2 l Z a0 hw [] w_STARTED (1 : Int32) w_ENABLED w_ALLOCATED w_STARTED w_SUSPENDED w_COMPLETED w_SKIPPED w_WITHDRAWN w_DISCARDED w_CANCELLED h28 n0 ⟨S_w_ENABLED_28, S_w_ALLOCATED_28, S_w_STARTED_28, S_w_SUSPENDED_28, S_w_COMPLETED_28, S_w_SKIPPED_28, S_w_WITHDRAWN_28, S_w_DISCARDED_28, S_w_CANCELLED_28, E_w_ENABLED_28, E_w_ALLOCATED_28, E_w_STARTED_28, E_w_SUSPENDED_28, E_w_COMPLETED_28, E_w_SKIPPED_28, E_w_WITHDRAWN_28, E_w_DISCARDED_28, E_w_CANCELLED_28, F_live_w_ENABLED_28, F_live_w_SUSPENDED_28, F_live_w_STARTED_28, F_live_w_ALLOCATED_28, F_live_w_DISCARDED_28, F_live_w_COMPLETED_28, F_live_w_CANCELLED_28, F_live_w_WITHDRAWN_28, F_live_w_SKIPPED_28⟩ F_live_w_STARTED_28) (W := 1) (by decide) (by decide) (ce := 1) (sl := 9) rfl rfl (by decide) (by decide) rfl E_w_STARTED_28 e34 rfl pd_0 rfl (Nat.le_refl _) rfl (fun v35 T35 L35 X35 Q35 => ?_)
    obtain ⟨q35, Nq35, e35⟩ := Q35
    have N35 := Fr.app N34 Nq35
    rw [F2_l0 (1 : Int32)] at q35
    subst q35
    show Go p.tables e below _ (T35.setTop (mkF m 106 #[.val (.int p1), .val (.int (2 : Int32)), .val (.ref b1), .val (.ref w_STARTED), .val (.int (0 : Int32)), .val (.int (0 : Int32))] [(.int (nar .boolean (1 : Int32))), (.int (0 : Int32))]))
    refine g_icmpN (pc' := 109) C X35 at_106 (feq (show ¬ ((0 : Int32) = (nar .boolean (1 : Int32))) from (by decide))).1 rfl ?_
    refine g_iconst (pc' := 110) (v := (1 : Int32)) C X35 at_109 rfl rfl ?_
    refine g_goto (pc' := 114) C X35 at_110 (by decide) (by decide) ?_
    exact g_retN C X35 (by simp) at_114 (by decide) (by decide) ⟨rfl, N35⟩
  · refine own_cast (show T28.setTop (mkF m 71 #[.val (.int p1), .val (.int ((p1 &&& (2147483647 : Int32)) % (9 : Int32))), .val (.ref b1), .unset, .unset, .unset] []) = T28.setTop (mkF m 71 #[.val (.int p1), .val (.int (3 : Int32)), .val (.ref b1), .unset, .unset, .unset] []) from by rw [s29]) ?_
    refine g_aloadN (pc' := 72) C X28 at_71 rfl rfl rfl ?_
    refine g_iloadN (pc' := 73) C X28 at_72 rfl rfl ?_
    refine g_ldR (pc' := 74) (v := (.ref w_SUSPENDED)) C X28 at_73 e28 V28 rfl ⟨by decide, by decide⟩ rfl rfl ?_
    refine g_astoreN (pc' := 75) (Ls' := #[.val (.int p1), .val (.int (3 : Int32)), .val (.ref b1), .val (.ref w_SUSPENDED), .unset, .unset]) C X28 at_74 rfl rfl rfl ?_
    refine g_iloadN (pc' := 76) C X28 at_75 rfl rfl ?_
    refine g_iconst (pc' := 77) (v := (4 : Int32)) C X28 at_76 rfl rfl ?_
    refine g_icmpY (pc' := 84) C X28 at_77 (tlt (show (3 : Int32) < (4 : Int32) from (by decide))).1 (by decide) (by decide) ?_
    refine g_iconst (pc' := 85) (v := (0 : Int32)) C X28 at_84 rfl rfl ?_
    refine g_istore (pc' := 87) (Ls' := #[.val (.int p1), .val (.int (3 : Int32)), .val (.ref b1), .val (.ref w_SUSPENDED), .val (.int (0 : Int32)), .unset]) C X28 at_85 rfl rfl ?_
    refine g_aloadN (pc' := 88) C X28 at_87 rfl rfl rfl ?_
    refine g_callV (b := w_SUSPENDED) (z := (⟨"com/example/caseloom/caseloom/model/WorkItemState", "isClosed", "()Z"⟩ : MethodName)) (y := (⟨"com/example/caseloom/caseloom/model/WorkItemState", "isClosed", "()Z"⟩ : MethodName)) (argsL := []) (st := []) (pc' := 91) C X28 at_88 (hw _ (List.mem_of_getElem? (i := 23) rfl)) (hw _ (List.mem_of_getElem? (i := 24) rfl)) (notFace_of_selects (args := #[]) (mvT C.hZ (hw _ (List.mem_of_getElem? (i := 26) rfl)))) (hw _ (List.mem_of_getElem? (i := 26) rfl)) (hw _ (List.mem_of_getElem? (i := 25) rfl)) (hw _ (List.mem_of_getElem? (i := 4) rfl)) (hw _ (List.mem_of_getElem? (i := 27) rfl)) (by decide) (rm1 l Z a0 hw [] w_SUSPENDED (1 : Int32) w_ENABLED w_ALLOCATED w_STARTED w_SUSPENDED w_COMPLETED w_SKIPPED w_WITHDRAWN w_DISCARDED w_CANCELLED h28 n0 ⟨S_w_ENABLED_28, S_w_ALLOCATED_28, S_w_STARTED_28, S_w_SUSPENDED_28, S_w_COMPLETED_28, S_w_SKIPPED_28, S_w_WITHDRAWN_28, S_w_DISCARDED_28, S_w_CANCELLED_28, E_w_ENABLED_28, E_w_ALLOCATED_28, E_w_STARTED_28, E_w_SUSPENDED_28, E_w_COMPLETED_28, E_w_SKIPPED_28, E_w_WITHDRAWN_28, E_w_DISCARDED_28, E_w_CANCELLED_28, F_live_w_ENABLED_28, F_live_w_SUSPENDED_28, F_live_w_STARTED_28, F_live_w_ALLOCATED_28, F_live_w_DISCARDED_28, F_live_w_COMPLETED_28, F_live_w_CANCELLED_28, F_live_w_WITHDRAWN_28, F_live_w_SKIPPED_28⟩ F_live_w_SUSPENDED_28) (W := 0) (by decide) (by decide) (ce := 1) (sl := 9) rfl rfl (by decide) (by decide) rfl E_w_SUSPENDED_28 e28 rfl pd_0 rfl (Nat.le_refl _) rfl (fun v36 T36 L36 X36 Q36 => ?_)
    obtain ⟨q36, Nq36, e36⟩ := Q36
    have N36 := Fr.app N28 Nq36
    rw [F1_l1 (1 : Int32) (show ¬ ((1 : Int32) = (0 : Int32)) from (by decide))] at q36
    subst q36
    show Go p.tables e below _ (T36.setTop (mkF m 91 #[.val (.int p1), .val (.int (3 : Int32)), .val (.ref b1), .val (.ref w_SUSPENDED), .val (.int (0 : Int32)), .unset] [(.int (0 : Int32))]))
    refine g_istore (pc' := 93) (Ls' := #[.val (.int p1), .val (.int (3 : Int32)), .val (.ref b1), .val (.ref w_SUSPENDED), .val (.int (0 : Int32)), .val (.int (0 : Int32))]) C X36 at_91 rfl rfl ?_
    refine g_iload (pc' := 95) C X36 at_93 rfl rfl ?_
    refine g_iload (pc' := 97) C X36 at_95 rfl rfl ?_
    refine g_icmpN (pc' := 100) C X36 at_97 (teq (show (0 : Int32) = (0 : Int32) from (by decide))).2 rfl ?_
    refine g_iload (pc' := 102) C X36 at_100 rfl rfl ?_
    refine g_aloadN (pc' := 103) C X36 at_102 rfl rfl rfl ?_
    refine g_callV (b := w_SUSPENDED) (z := (⟨"com/example/caseloom/caseloom/model/WorkItemState", "isLive", "()Z"⟩ : MethodName)) (y := (⟨"com/example/caseloom/caseloom/model/WorkItemState", "isLive", "()Z"⟩ : MethodName)) (argsL := []) (st := [(.int (0 : Int32))]) (pc' := 106) C X36 at_103 (hw _ (List.mem_of_getElem? (i := 30) rfl)) (hw _ (List.mem_of_getElem? (i := 31) rfl)) (notFace_of_selects (args := #[]) (mvT C.hZ (hw _ (List.mem_of_getElem? (i := 33) rfl)))) (hw _ (List.mem_of_getElem? (i := 33) rfl)) (hw _ (List.mem_of_getElem? (i := 32) rfl)) (hw _ (List.mem_of_getElem? (i := 4) rfl)) (hw _ (List.mem_of_getElem? (i := 34) rfl)) (by decide) (rm2 l Z a0 hw [] w_SUSPENDED (1 : Int32) w_ENABLED w_ALLOCATED w_STARTED w_SUSPENDED w_COMPLETED w_SKIPPED w_WITHDRAWN w_DISCARDED w_CANCELLED h28 n0 ⟨S_w_ENABLED_28, S_w_ALLOCATED_28, S_w_STARTED_28, S_w_SUSPENDED_28, S_w_COMPLETED_28, S_w_SKIPPED_28, S_w_WITHDRAWN_28, S_w_DISCARDED_28, S_w_CANCELLED_28, E_w_ENABLED_28, E_w_ALLOCATED_28, E_w_STARTED_28, E_w_SUSPENDED_28, E_w_COMPLETED_28, E_w_SKIPPED_28, E_w_WITHDRAWN_28, E_w_DISCARDED_28, E_w_CANCELLED_28, F_live_w_ENABLED_28, F_live_w_SUSPENDED_28, F_live_w_STARTED_28, F_live_w_ALLOCATED_28, F_live_w_DISCARDED_28, F_live_w_COMPLETED_28, F_live_w_CANCELLED_28, F_live_w_WITHDRAWN_28, F_live_w_SKIPPED_28⟩ F_live_w_SUSPENDED_28) (W := 1) (by decide) (by decide) (ce := 1) (sl := 9) rfl rfl (by decide) (by decide) rfl E_w_SUSPENDED_28 e36 rfl pd_0 rfl (Nat.le_refl _) rfl (fun v37 T37 L37 X37 Q37 => ?_)
    obtain ⟨q37, Nq37, e37⟩ := Q37
    have N37 := Fr.app N36 Nq37
    rw [F2_l0 (1 : Int32)] at q37
    subst q37
    show Go p.tables e below _ (T37.setTop (mkF m 106 #[.val (.int p1), .val (.int (3 : Int32)), .val (.ref b1), .val (.ref w_SUSPENDED), .val (.int (0 : Int32)), .val (.int (0 : Int32))] [(.int (nar .boolean (1 : Int32))), (.int (0 : Int32))]))
    refine g_icmpN (pc' := 109) C X37 at_106 (feq (show ¬ ((0 : Int32) = (nar .boolean (1 : Int32))) from (by decide))).1 rfl ?_
    refine g_iconst (pc' := 110) (v := (1 : Int32)) C X37 at_109 rfl rfl ?_
    refine g_goto (pc' := 114) C X37 at_110 (by decide) (by decide) ?_
    exact g_retN C X37 (by simp) at_114 (by decide) (by decide) ⟨rfl, N37⟩
  · refine own_cast (show T28.setTop (mkF m 71 #[.val (.int p1), .val (.int ((p1 &&& (2147483647 : Int32)) % (9 : Int32))), .val (.ref b1), .unset, .unset, .unset] []) = T28.setTop (mkF m 71 #[.val (.int p1), .val (.int (4 : Int32)), .val (.ref b1), .unset, .unset, .unset] []) from by rw [s29]) ?_
    refine g_aloadN (pc' := 72) C X28 at_71 rfl rfl rfl ?_
    refine g_iloadN (pc' := 73) C X28 at_72 rfl rfl ?_
    refine g_ldR (pc' := 74) (v := (.ref w_COMPLETED)) C X28 at_73 e28 V28 rfl ⟨by decide, by decide⟩ rfl rfl ?_
    refine g_astoreN (pc' := 75) (Ls' := #[.val (.int p1), .val (.int (4 : Int32)), .val (.ref b1), .val (.ref w_COMPLETED), .unset, .unset]) C X28 at_74 rfl rfl rfl ?_
    refine g_iloadN (pc' := 76) C X28 at_75 rfl rfl ?_
    refine g_iconst (pc' := 77) (v := (4 : Int32)) C X28 at_76 rfl rfl ?_
    refine g_icmpN (pc' := 80) C X28 at_77 (flt (show ¬ ((4 : Int32) < (4 : Int32)) from (by decide))).1 rfl ?_
    refine g_iconst (pc' := 81) (v := (1 : Int32)) C X28 at_80 rfl rfl ?_
    refine g_goto (pc' := 85) C X28 at_81 (by decide) (by decide) ?_
    refine g_istore (pc' := 87) (Ls' := #[.val (.int p1), .val (.int (4 : Int32)), .val (.ref b1), .val (.ref w_COMPLETED), .val (.int (1 : Int32)), .unset]) C X28 at_85 rfl rfl ?_
    refine g_aloadN (pc' := 88) C X28 at_87 rfl rfl rfl ?_
    refine g_callV (b := w_COMPLETED) (z := (⟨"com/example/caseloom/caseloom/model/WorkItemState", "isClosed", "()Z"⟩ : MethodName)) (y := (⟨"com/example/caseloom/caseloom/model/WorkItemState", "isClosed", "()Z"⟩ : MethodName)) (argsL := []) (st := []) (pc' := 91) C X28 at_88 (hw _ (List.mem_of_getElem? (i := 23) rfl)) (hw _ (List.mem_of_getElem? (i := 24) rfl)) (notFace_of_selects (args := #[]) (mvT C.hZ (hw _ (List.mem_of_getElem? (i := 26) rfl)))) (hw _ (List.mem_of_getElem? (i := 26) rfl)) (hw _ (List.mem_of_getElem? (i := 25) rfl)) (hw _ (List.mem_of_getElem? (i := 4) rfl)) (hw _ (List.mem_of_getElem? (i := 27) rfl)) (by decide) (rm1 l Z a0 hw [] w_COMPLETED (0 : Int32) w_ENABLED w_ALLOCATED w_STARTED w_SUSPENDED w_COMPLETED w_SKIPPED w_WITHDRAWN w_DISCARDED w_CANCELLED h28 n0 ⟨S_w_ENABLED_28, S_w_ALLOCATED_28, S_w_STARTED_28, S_w_SUSPENDED_28, S_w_COMPLETED_28, S_w_SKIPPED_28, S_w_WITHDRAWN_28, S_w_DISCARDED_28, S_w_CANCELLED_28, E_w_ENABLED_28, E_w_ALLOCATED_28, E_w_STARTED_28, E_w_SUSPENDED_28, E_w_COMPLETED_28, E_w_SKIPPED_28, E_w_WITHDRAWN_28, E_w_DISCARDED_28, E_w_CANCELLED_28, F_live_w_ENABLED_28, F_live_w_SUSPENDED_28, F_live_w_STARTED_28, F_live_w_ALLOCATED_28, F_live_w_DISCARDED_28, F_live_w_COMPLETED_28, F_live_w_CANCELLED_28, F_live_w_WITHDRAWN_28, F_live_w_SKIPPED_28⟩ F_live_w_COMPLETED_28) (W := 0) (by decide) (by decide) (ce := 1) (sl := 9) rfl rfl (by decide) (by decide) rfl E_w_COMPLETED_28 e28 rfl pd_0 rfl (Nat.le_refl _) rfl (fun v38 T38 L38 X38 Q38 => ?_)
    obtain ⟨q38, Nq38, e38⟩ := Q38
    have N38 := Fr.app N28 Nq38
    rw [F1_l0 (0 : Int32) (show (0 : Int32) = (0 : Int32) from (by decide))] at q38
    subst q38
    show Go p.tables e below _ (T38.setTop (mkF m 91 #[.val (.int p1), .val (.int (4 : Int32)), .val (.ref b1), .val (.ref w_COMPLETED), .val (.int (1 : Int32)), .unset] [(.int (1 : Int32))]))
    refine g_istore (pc' := 93) (Ls' := #[.val (.int p1), .val (.int (4 : Int32)), .val (.ref b1), .val (.ref w_COMPLETED), .val (.int (1 : Int32)), .val (.int (1 : Int32))]) C X38 at_91 rfl rfl ?_
    refine g_iload (pc' := 95) C X38 at_93 rfl rfl ?_
    refine g_iload (pc' := 97) C X38 at_95 rfl rfl ?_
    refine g_icmpN (pc' := 100) C X38 at_97 (teq (show (1 : Int32) = (1 : Int32) from (by decide))).2 rfl ?_
    refine g_iload (pc' := 102) C X38 at_100 rfl rfl ?_
    refine g_aloadN (pc' := 103) C X38 at_102 rfl rfl rfl ?_
    refine g_callV (b := w_COMPLETED) (z := (⟨"com/example/caseloom/caseloom/model/WorkItemState", "isLive", "()Z"⟩ : MethodName)) (y := (⟨"com/example/caseloom/caseloom/model/WorkItemState", "isLive", "()Z"⟩ : MethodName)) (argsL := []) (st := [(.int (1 : Int32))]) (pc' := 106) C X38 at_103 (hw _ (List.mem_of_getElem? (i := 30) rfl)) (hw _ (List.mem_of_getElem? (i := 31) rfl)) (notFace_of_selects (args := #[]) (mvT C.hZ (hw _ (List.mem_of_getElem? (i := 33) rfl)))) (hw _ (List.mem_of_getElem? (i := 33) rfl)) (hw _ (List.mem_of_getElem? (i := 32) rfl)) (hw _ (List.mem_of_getElem? (i := 4) rfl)) (hw _ (List.mem_of_getElem? (i := 34) rfl)) (by decide) (rm2 l Z a0 hw [] w_COMPLETED (0 : Int32) w_ENABLED w_ALLOCATED w_STARTED w_SUSPENDED w_COMPLETED w_SKIPPED w_WITHDRAWN w_DISCARDED w_CANCELLED h28 n0 ⟨S_w_ENABLED_28, S_w_ALLOCATED_28, S_w_STARTED_28, S_w_SUSPENDED_28, S_w_COMPLETED_28, S_w_SKIPPED_28, S_w_WITHDRAWN_28, S_w_DISCARDED_28, S_w_CANCELLED_28, E_w_ENABLED_28, E_w_ALLOCATED_28, E_w_STARTED_28, E_w_SUSPENDED_28, E_w_COMPLETED_28, E_w_SKIPPED_28, E_w_WITHDRAWN_28, E_w_DISCARDED_28, E_w_CANCELLED_28, F_live_w_ENABLED_28, F_live_w_SUSPENDED_28, F_live_w_STARTED_28, F_live_w_ALLOCATED_28, F_live_w_DISCARDED_28, F_live_w_COMPLETED_28, F_live_w_CANCELLED_28, F_live_w_WITHDRAWN_28, F_live_w_SKIPPED_28⟩ F_live_w_COMPLETED_28) (W := 1) (by decide) (by decide) (ce := 1) (sl := 9) rfl rfl (by decide) (by decide) rfl E_w_COMPLETED_28 e38 rfl pd_0 rfl (Nat.le_refl _) rfl (fun v39 T39 L39 X39 Q39 => ?_)
    obtain ⟨q39, Nq39, e39⟩ := Q39
    have N39 := Fr.app N38 Nq39
    rw [F2_l0 (0 : Int32)] at q39
    subst q39
    show Go p.tables e below _ (T39.setTop (mkF m 106 #[.val (.int p1), .val (.int (4 : Int32)), .val (.ref b1), .val (.ref w_COMPLETED), .val (.int (1 : Int32)), .val (.int (1 : Int32))] [(.int (nar .boolean (0 : Int32))), (.int (1 : Int32))]))
    refine g_icmpN (pc' := 109) C X39 at_106 (feq (show ¬ ((1 : Int32) = (nar .boolean (0 : Int32))) from (by decide))).1 rfl ?_
    refine g_iconst (pc' := 110) (v := (1 : Int32)) C X39 at_109 rfl rfl ?_
    refine g_goto (pc' := 114) C X39 at_110 (by decide) (by decide) ?_
    exact g_retN C X39 (by simp) at_114 (by decide) (by decide) ⟨rfl, N39⟩
  · refine own_cast (show T28.setTop (mkF m 71 #[.val (.int p1), .val (.int ((p1 &&& (2147483647 : Int32)) % (9 : Int32))), .val (.ref b1), .unset, .unset, .unset] []) = T28.setTop (mkF m 71 #[.val (.int p1), .val (.int (5 : Int32)), .val (.ref b1), .unset, .unset, .unset] []) from by rw [s29]) ?_
    refine g_aloadN (pc' := 72) C X28 at_71 rfl rfl rfl ?_
    refine g_iloadN (pc' := 73) C X28 at_72 rfl rfl ?_
    refine g_ldR (pc' := 74) (v := (.ref w_SKIPPED)) C X28 at_73 e28 V28 rfl ⟨by decide, by decide⟩ rfl rfl ?_
    refine g_astoreN (pc' := 75) (Ls' := #[.val (.int p1), .val (.int (5 : Int32)), .val (.ref b1), .val (.ref w_SKIPPED), .unset, .unset]) C X28 at_74 rfl rfl rfl ?_
    refine g_iloadN (pc' := 76) C X28 at_75 rfl rfl ?_
    refine g_iconst (pc' := 77) (v := (4 : Int32)) C X28 at_76 rfl rfl ?_
    refine g_icmpN (pc' := 80) C X28 at_77 (flt (show ¬ ((5 : Int32) < (4 : Int32)) from (by decide))).1 rfl ?_
    refine g_iconst (pc' := 81) (v := (1 : Int32)) C X28 at_80 rfl rfl ?_
    refine g_goto (pc' := 85) C X28 at_81 (by decide) (by decide) ?_
    refine g_istore (pc' := 87) (Ls' := #[.val (.int p1), .val (.int (5 : Int32)), .val (.ref b1), .val (.ref w_SKIPPED), .val (.int (1 : Int32)), .unset]) C X28 at_85 rfl rfl ?_
    refine g_aloadN (pc' := 88) C X28 at_87 rfl rfl rfl ?_
    refine g_callV (b := w_SKIPPED) (z := (⟨"com/example/caseloom/caseloom/model/WorkItemState", "isClosed", "()Z"⟩ : MethodName)) (y := (⟨"com/example/caseloom/caseloom/model/WorkItemState", "isClosed", "()Z"⟩ : MethodName)) (argsL := []) (st := []) (pc' := 91) C X28 at_88 (hw _ (List.mem_of_getElem? (i := 23) rfl)) (hw _ (List.mem_of_getElem? (i := 24) rfl)) (notFace_of_selects (args := #[]) (mvT C.hZ (hw _ (List.mem_of_getElem? (i := 26) rfl)))) (hw _ (List.mem_of_getElem? (i := 26) rfl)) (hw _ (List.mem_of_getElem? (i := 25) rfl)) (hw _ (List.mem_of_getElem? (i := 4) rfl)) (hw _ (List.mem_of_getElem? (i := 27) rfl)) (by decide) (rm1 l Z a0 hw [] w_SKIPPED (0 : Int32) w_ENABLED w_ALLOCATED w_STARTED w_SUSPENDED w_COMPLETED w_SKIPPED w_WITHDRAWN w_DISCARDED w_CANCELLED h28 n0 ⟨S_w_ENABLED_28, S_w_ALLOCATED_28, S_w_STARTED_28, S_w_SUSPENDED_28, S_w_COMPLETED_28, S_w_SKIPPED_28, S_w_WITHDRAWN_28, S_w_DISCARDED_28, S_w_CANCELLED_28, E_w_ENABLED_28, E_w_ALLOCATED_28, E_w_STARTED_28, E_w_SUSPENDED_28, E_w_COMPLETED_28, E_w_SKIPPED_28, E_w_WITHDRAWN_28, E_w_DISCARDED_28, E_w_CANCELLED_28, F_live_w_ENABLED_28, F_live_w_SUSPENDED_28, F_live_w_STARTED_28, F_live_w_ALLOCATED_28, F_live_w_DISCARDED_28, F_live_w_COMPLETED_28, F_live_w_CANCELLED_28, F_live_w_WITHDRAWN_28, F_live_w_SKIPPED_28⟩ F_live_w_SKIPPED_28) (W := 0) (by decide) (by decide) (ce := 1) (sl := 9) rfl rfl (by decide) (by decide) rfl E_w_SKIPPED_28 e28 rfl pd_0 rfl (Nat.le_refl _) rfl (fun v40 T40 L40 X40 Q40 => ?_)
    obtain ⟨q40, Nq40, e40⟩ := Q40
    have N40 := Fr.app N28 Nq40
    rw [F1_l0 (0 : Int32) (show (0 : Int32) = (0 : Int32) from (by decide))] at q40
    subst q40
    show Go p.tables e below _ (T40.setTop (mkF m 91 #[.val (.int p1), .val (.int (5 : Int32)), .val (.ref b1), .val (.ref w_SKIPPED), .val (.int (1 : Int32)), .unset] [(.int (1 : Int32))]))
    refine g_istore (pc' := 93) (Ls' := #[.val (.int p1), .val (.int (5 : Int32)), .val (.ref b1), .val (.ref w_SKIPPED), .val (.int (1 : Int32)), .val (.int (1 : Int32))]) C X40 at_91 rfl rfl ?_
    refine g_iload (pc' := 95) C X40 at_93 rfl rfl ?_
    refine g_iload (pc' := 97) C X40 at_95 rfl rfl ?_
    refine g_icmpN (pc' := 100) C X40 at_97 (teq (show (1 : Int32) = (1 : Int32) from (by decide))).2 rfl ?_
    refine g_iload (pc' := 102) C X40 at_100 rfl rfl ?_
    refine g_aloadN (pc' := 103) C X40 at_102 rfl rfl rfl ?_
    refine g_callV (b := w_SKIPPED) (z := (⟨"com/example/caseloom/caseloom/model/WorkItemState", "isLive", "()Z"⟩ : MethodName)) (y := (⟨"com/example/caseloom/caseloom/model/WorkItemState", "isLive", "()Z"⟩ : MethodName)) (argsL := []) (st := [(.int (1 : Int32))]) (pc' := 106) C X40 at_103 (hw _ (List.mem_of_getElem? (i := 30) rfl)) (hw _ (List.mem_of_getElem? (i := 31) rfl)) (notFace_of_selects (args := #[]) (mvT C.hZ (hw _ (List.mem_of_getElem? (i := 33) rfl)))) (hw _ (List.mem_of_getElem? (i := 33) rfl)) (hw _ (List.mem_of_getElem? (i := 32) rfl)) (hw _ (List.mem_of_getElem? (i := 4) rfl)) (hw _ (List.mem_of_getElem? (i := 34) rfl)) (by decide) (rm2 l Z a0 hw [] w_SKIPPED (0 : Int32) w_ENABLED w_ALLOCATED w_STARTED w_SUSPENDED w_COMPLETED w_SKIPPED w_WITHDRAWN w_DISCARDED w_CANCELLED h28 n0 ⟨S_w_ENABLED_28, S_w_ALLOCATED_28, S_w_STARTED_28, S_w_SUSPENDED_28, S_w_COMPLETED_28, S_w_SKIPPED_28, S_w_WITHDRAWN_28, S_w_DISCARDED_28, S_w_CANCELLED_28, E_w_ENABLED_28, E_w_ALLOCATED_28, E_w_STARTED_28, E_w_SUSPENDED_28, E_w_COMPLETED_28, E_w_SKIPPED_28, E_w_WITHDRAWN_28, E_w_DISCARDED_28, E_w_CANCELLED_28, F_live_w_ENABLED_28, F_live_w_SUSPENDED_28, F_live_w_STARTED_28, F_live_w_ALLOCATED_28, F_live_w_DISCARDED_28, F_live_w_COMPLETED_28, F_live_w_CANCELLED_28, F_live_w_WITHDRAWN_28, F_live_w_SKIPPED_28⟩ F_live_w_SKIPPED_28) (W := 1) (by decide) (by decide) (ce := 1) (sl := 9) rfl rfl (by decide) (by decide) rfl E_w_SKIPPED_28 e40 rfl pd_0 rfl (Nat.le_refl _) rfl (fun v41 T41 L41 X41 Q41 => ?_)
    obtain ⟨q41, Nq41, e41⟩ := Q41
    have N41 := Fr.app N40 Nq41
    rw [F2_l0 (0 : Int32)] at q41
    subst q41
    show Go p.tables e below _ (T41.setTop (mkF m 106 #[.val (.int p1), .val (.int (5 : Int32)), .val (.ref b1), .val (.ref w_SKIPPED), .val (.int (1 : Int32)), .val (.int (1 : Int32))] [(.int (nar .boolean (0 : Int32))), (.int (1 : Int32))]))
    refine g_icmpN (pc' := 109) C X41 at_106 (feq (show ¬ ((1 : Int32) = (nar .boolean (0 : Int32))) from (by decide))).1 rfl ?_
    refine g_iconst (pc' := 110) (v := (1 : Int32)) C X41 at_109 rfl rfl ?_
    refine g_goto (pc' := 114) C X41 at_110 (by decide) (by decide) ?_
    exact g_retN C X41 (by simp) at_114 (by decide) (by decide) ⟨rfl, N41⟩
  · refine own_cast (show T28.setTop (mkF m 71 #[.val (.int p1), .val (.int ((p1 &&& (2147483647 : Int32)) % (9 : Int32))), .val (.ref b1), .unset, .unset, .unset] []) = T28.setTop (mkF m 71 #[.val (.int p1), .val (.int (6 : Int32)), .val (.ref b1), .unset, .unset, .unset] []) from by rw [s29]) ?_
    refine g_aloadN (pc' := 72) C X28 at_71 rfl rfl rfl ?_
    refine g_iloadN (pc' := 73) C X28 at_72 rfl rfl ?_
    refine g_ldR (pc' := 74) (v := (.ref w_WITHDRAWN)) C X28 at_73 e28 V28 rfl ⟨by decide, by decide⟩ rfl rfl ?_
    refine g_astoreN (pc' := 75) (Ls' := #[.val (.int p1), .val (.int (6 : Int32)), .val (.ref b1), .val (.ref w_WITHDRAWN), .unset, .unset]) C X28 at_74 rfl rfl rfl ?_
    refine g_iloadN (pc' := 76) C X28 at_75 rfl rfl ?_
    refine g_iconst (pc' := 77) (v := (4 : Int32)) C X28 at_76 rfl rfl ?_
    refine g_icmpN (pc' := 80) C X28 at_77 (flt (show ¬ ((6 : Int32) < (4 : Int32)) from (by decide))).1 rfl ?_
    refine g_iconst (pc' := 81) (v := (1 : Int32)) C X28 at_80 rfl rfl ?_
    refine g_goto (pc' := 85) C X28 at_81 (by decide) (by decide) ?_
    refine g_istore (pc' := 87) (Ls' := #[.val (.int p1), .val (.int (6 : Int32)), .val (.ref b1), .val (.ref w_WITHDRAWN), .val (.int (1 : Int32)), .unset]) C X28 at_85 rfl rfl ?_
    refine g_aloadN (pc' := 88) C X28 at_87 rfl rfl rfl ?_
    refine g_callV (b := w_WITHDRAWN) (z := (⟨"com/example/caseloom/caseloom/model/WorkItemState", "isClosed", "()Z"⟩ : MethodName)) (y := (⟨"com/example/caseloom/caseloom/model/WorkItemState", "isClosed", "()Z"⟩ : MethodName)) (argsL := []) (st := []) (pc' := 91) C X28 at_88 (hw _ (List.mem_of_getElem? (i := 23) rfl)) (hw _ (List.mem_of_getElem? (i := 24) rfl)) (notFace_of_selects (args := #[]) (mvT C.hZ (hw _ (List.mem_of_getElem? (i := 26) rfl)))) (hw _ (List.mem_of_getElem? (i := 26) rfl)) (hw _ (List.mem_of_getElem? (i := 25) rfl)) (hw _ (List.mem_of_getElem? (i := 4) rfl)) (hw _ (List.mem_of_getElem? (i := 27) rfl)) (by decide) (rm1 l Z a0 hw [] w_WITHDRAWN (0 : Int32) w_ENABLED w_ALLOCATED w_STARTED w_SUSPENDED w_COMPLETED w_SKIPPED w_WITHDRAWN w_DISCARDED w_CANCELLED h28 n0 ⟨S_w_ENABLED_28, S_w_ALLOCATED_28, S_w_STARTED_28, S_w_SUSPENDED_28, S_w_COMPLETED_28, S_w_SKIPPED_28, S_w_WITHDRAWN_28, S_w_DISCARDED_28, S_w_CANCELLED_28, E_w_ENABLED_28, E_w_ALLOCATED_28, E_w_STARTED_28, E_w_SUSPENDED_28, E_w_COMPLETED_28, E_w_SKIPPED_28, E_w_WITHDRAWN_28, E_w_DISCARDED_28, E_w_CANCELLED_28, F_live_w_ENABLED_28, F_live_w_SUSPENDED_28, F_live_w_STARTED_28, F_live_w_ALLOCATED_28, F_live_w_DISCARDED_28, F_live_w_COMPLETED_28, F_live_w_CANCELLED_28, F_live_w_WITHDRAWN_28, F_live_w_SKIPPED_28⟩ F_live_w_WITHDRAWN_28) (W := 0) (by decide) (by decide) (ce := 1) (sl := 9) rfl rfl (by decide) (by decide) rfl E_w_WITHDRAWN_28 e28 rfl pd_0 rfl (Nat.le_refl _) rfl (fun v42 T42 L42 X42 Q42 => ?_)
    obtain ⟨q42, Nq42, e42⟩ := Q42
    have N42 := Fr.app N28 Nq42
    rw [F1_l0 (0 : Int32) (show (0 : Int32) = (0 : Int32) from (by decide))] at q42
    subst q42
    show Go p.tables e below _ (T42.setTop (mkF m 91 #[.val (.int p1), .val (.int (6 : Int32)), .val (.ref b1), .val (.ref w_WITHDRAWN), .val (.int (1 : Int32)), .unset] [(.int (1 : Int32))]))
    refine g_istore (pc' := 93) (Ls' := #[.val (.int p1), .val (.int (6 : Int32)), .val (.ref b1), .val (.ref w_WITHDRAWN), .val (.int (1 : Int32)), .val (.int (1 : Int32))]) C X42 at_91 rfl rfl ?_
    refine g_iload (pc' := 95) C X42 at_93 rfl rfl ?_
    refine g_iload (pc' := 97) C X42 at_95 rfl rfl ?_
    refine g_icmpN (pc' := 100) C X42 at_97 (teq (show (1 : Int32) = (1 : Int32) from (by decide))).2 rfl ?_
    refine g_iload (pc' := 102) C X42 at_100 rfl rfl ?_
    refine g_aloadN (pc' := 103) C X42 at_102 rfl rfl rfl ?_
    refine g_callV (b := w_WITHDRAWN) (z := (⟨"com/example/caseloom/caseloom/model/WorkItemState", "isLive", "()Z"⟩ : MethodName)) (y := (⟨"com/example/caseloom/caseloom/model/WorkItemState", "isLive", "()Z"⟩ : MethodName)) (argsL := []) (st := [(.int (1 : Int32))]) (pc' := 106) C X42 at_103 (hw _ (List.mem_of_getElem? (i := 30) rfl)) (hw _ (List.mem_of_getElem? (i := 31) rfl)) (notFace_of_selects (args := #[]) (mvT C.hZ (hw _ (List.mem_of_getElem? (i := 33) rfl)))) (hw _ (List.mem_of_getElem? (i := 33) rfl)) (hw _ (List.mem_of_getElem? (i := 32) rfl)) (hw _ (List.mem_of_getElem? (i := 4) rfl)) (hw _ (List.mem_of_getElem? (i := 34) rfl)) (by decide) (rm2 l Z a0 hw [] w_WITHDRAWN (0 : Int32) w_ENABLED w_ALLOCATED w_STARTED w_SUSPENDED w_COMPLETED w_SKIPPED w_WITHDRAWN w_DISCARDED w_CANCELLED h28 n0 ⟨S_w_ENABLED_28, S_w_ALLOCATED_28, S_w_STARTED_28, S_w_SUSPENDED_28, S_w_COMPLETED_28, S_w_SKIPPED_28, S_w_WITHDRAWN_28, S_w_DISCARDED_28, S_w_CANCELLED_28, E_w_ENABLED_28, E_w_ALLOCATED_28, E_w_STARTED_28, E_w_SUSPENDED_28, E_w_COMPLETED_28, E_w_SKIPPED_28, E_w_WITHDRAWN_28, E_w_DISCARDED_28, E_w_CANCELLED_28, F_live_w_ENABLED_28, F_live_w_SUSPENDED_28, F_live_w_STARTED_28, F_live_w_ALLOCATED_28, F_live_w_DISCARDED_28, F_live_w_COMPLETED_28, F_live_w_CANCELLED_28, F_live_w_WITHDRAWN_28, F_live_w_SKIPPED_28⟩ F_live_w_WITHDRAWN_28) (W := 1) (by decide) (by decide) (ce := 1) (sl := 9) rfl rfl (by decide) (by decide) rfl E_w_WITHDRAWN_28 e42 rfl pd_0 rfl (Nat.le_refl _) rfl (fun v43 T43 L43 X43 Q43 => ?_)
    obtain ⟨q43, Nq43, e43⟩ := Q43
    have N43 := Fr.app N42 Nq43
    rw [F2_l0 (0 : Int32)] at q43
    subst q43
    show Go p.tables e below _ (T43.setTop (mkF m 106 #[.val (.int p1), .val (.int (6 : Int32)), .val (.ref b1), .val (.ref w_WITHDRAWN), .val (.int (1 : Int32)), .val (.int (1 : Int32))] [(.int (nar .boolean (0 : Int32))), (.int (1 : Int32))]))
    refine g_icmpN (pc' := 109) C X43 at_106 (feq (show ¬ ((1 : Int32) = (nar .boolean (0 : Int32))) from (by decide))).1 rfl ?_
    refine g_iconst (pc' := 110) (v := (1 : Int32)) C X43 at_109 rfl rfl ?_
    refine g_goto (pc' := 114) C X43 at_110 (by decide) (by decide) ?_
    exact g_retN C X43 (by simp) at_114 (by decide) (by decide) ⟨rfl, N43⟩
  · refine own_cast (show T28.setTop (mkF m 71 #[.val (.int p1), .val (.int ((p1 &&& (2147483647 : Int32)) % (9 : Int32))), .val (.ref b1), .unset, .unset, .unset] []) = T28.setTop (mkF m 71 #[.val (.int p1), .val (.int (7 : Int32)), .val (.ref b1), .unset, .unset, .unset] []) from by rw [s29]) ?_
    refine g_aloadN (pc' := 72) C X28 at_71 rfl rfl rfl ?_
    refine g_iloadN (pc' := 73) C X28 at_72 rfl rfl ?_
    refine g_ldR (pc' := 74) (v := (.ref w_DISCARDED)) C X28 at_73 e28 V28 rfl ⟨by decide, by decide⟩ rfl rfl ?_
    refine g_astoreN (pc' := 75) (Ls' := #[.val (.int p1), .val (.int (7 : Int32)), .val (.ref b1), .val (.ref w_DISCARDED), .unset, .unset]) C X28 at_74 rfl rfl rfl ?_
    refine g_iloadN (pc' := 76) C X28 at_75 rfl rfl ?_
    refine g_iconst (pc' := 77) (v := (4 : Int32)) C X28 at_76 rfl rfl ?_
    refine g_icmpN (pc' := 80) C X28 at_77 (flt (show ¬ ((7 : Int32) < (4 : Int32)) from (by decide))).1 rfl ?_
    refine g_iconst (pc' := 81) (v := (1 : Int32)) C X28 at_80 rfl rfl ?_
    refine g_goto (pc' := 85) C X28 at_81 (by decide) (by decide) ?_
    refine g_istore (pc' := 87) (Ls' := #[.val (.int p1), .val (.int (7 : Int32)), .val (.ref b1), .val (.ref w_DISCARDED), .val (.int (1 : Int32)), .unset]) C X28 at_85 rfl rfl ?_
    refine g_aloadN (pc' := 88) C X28 at_87 rfl rfl rfl ?_
    refine g_callV (b := w_DISCARDED) (z := (⟨"com/example/caseloom/caseloom/model/WorkItemState", "isClosed", "()Z"⟩ : MethodName)) (y := (⟨"com/example/caseloom/caseloom/model/WorkItemState", "isClosed", "()Z"⟩ : MethodName)) (argsL := []) (st := []) (pc' := 91) C X28 at_88 (hw _ (List.mem_of_getElem? (i := 23) rfl)) (hw _ (List.mem_of_getElem? (i := 24) rfl)) (notFace_of_selects (args := #[]) (mvT C.hZ (hw _ (List.mem_of_getElem? (i := 26) rfl)))) (hw _ (List.mem_of_getElem? (i := 26) rfl)) (hw _ (List.mem_of_getElem? (i := 25) rfl)) (hw _ (List.mem_of_getElem? (i := 4) rfl)) (hw _ (List.mem_of_getElem? (i := 27) rfl)) (by decide) (rm1 l Z a0 hw [] w_DISCARDED (0 : Int32) w_ENABLED w_ALLOCATED w_STARTED w_SUSPENDED w_COMPLETED w_SKIPPED w_WITHDRAWN w_DISCARDED w_CANCELLED h28 n0 ⟨S_w_ENABLED_28, S_w_ALLOCATED_28, S_w_STARTED_28, S_w_SUSPENDED_28, S_w_COMPLETED_28, S_w_SKIPPED_28, S_w_WITHDRAWN_28, S_w_DISCARDED_28, S_w_CANCELLED_28, E_w_ENABLED_28, E_w_ALLOCATED_28, E_w_STARTED_28, E_w_SUSPENDED_28, E_w_COMPLETED_28, E_w_SKIPPED_28, E_w_WITHDRAWN_28, E_w_DISCARDED_28, E_w_CANCELLED_28, F_live_w_ENABLED_28, F_live_w_SUSPENDED_28, F_live_w_STARTED_28, F_live_w_ALLOCATED_28, F_live_w_DISCARDED_28, F_live_w_COMPLETED_28, F_live_w_CANCELLED_28, F_live_w_WITHDRAWN_28, F_live_w_SKIPPED_28⟩ F_live_w_DISCARDED_28) (W := 0) (by decide) (by decide) (ce := 1) (sl := 9) rfl rfl (by decide) (by decide) rfl E_w_DISCARDED_28 e28 rfl pd_0 rfl (Nat.le_refl _) rfl (fun v44 T44 L44 X44 Q44 => ?_)
    obtain ⟨q44, Nq44, e44⟩ := Q44
    have N44 := Fr.app N28 Nq44
    rw [F1_l0 (0 : Int32) (show (0 : Int32) = (0 : Int32) from (by decide))] at q44
    subst q44
    show Go p.tables e below _ (T44.setTop (mkF m 91 #[.val (.int p1), .val (.int (7 : Int32)), .val (.ref b1), .val (.ref w_DISCARDED), .val (.int (1 : Int32)), .unset] [(.int (1 : Int32))]))
    refine g_istore (pc' := 93) (Ls' := #[.val (.int p1), .val (.int (7 : Int32)), .val (.ref b1), .val (.ref w_DISCARDED), .val (.int (1 : Int32)), .val (.int (1 : Int32))]) C X44 at_91 rfl rfl ?_
    refine g_iload (pc' := 95) C X44 at_93 rfl rfl ?_
    refine g_iload (pc' := 97) C X44 at_95 rfl rfl ?_
    refine g_icmpN (pc' := 100) C X44 at_97 (teq (show (1 : Int32) = (1 : Int32) from (by decide))).2 rfl ?_
    refine g_iload (pc' := 102) C X44 at_100 rfl rfl ?_
    refine g_aloadN (pc' := 103) C X44 at_102 rfl rfl rfl ?_
    refine g_callV (b := w_DISCARDED) (z := (⟨"com/example/caseloom/caseloom/model/WorkItemState", "isLive", "()Z"⟩ : MethodName)) (y := (⟨"com/example/caseloom/caseloom/model/WorkItemState", "isLive", "()Z"⟩ : MethodName)) (argsL := []) (st := [(.int (1 : Int32))]) (pc' := 106) C X44 at_103 (hw _ (List.mem_of_getElem? (i := 30) rfl)) (hw _ (List.mem_of_getElem? (i := 31) rfl)) (notFace_of_selects (args := #[]) (mvT C.hZ (hw _ (List.mem_of_getElem? (i := 33) rfl)))) (hw _ (List.mem_of_getElem? (i := 33) rfl)) (hw _ (List.mem_of_getElem? (i := 32) rfl)) (hw _ (List.mem_of_getElem? (i := 4) rfl)) (hw _ (List.mem_of_getElem? (i := 34) rfl)) (by decide) (rm2 l Z a0 hw [] w_DISCARDED (0 : Int32) w_ENABLED w_ALLOCATED w_STARTED w_SUSPENDED w_COMPLETED w_SKIPPED w_WITHDRAWN w_DISCARDED w_CANCELLED h28 n0 ⟨S_w_ENABLED_28, S_w_ALLOCATED_28, S_w_STARTED_28, S_w_SUSPENDED_28, S_w_COMPLETED_28, S_w_SKIPPED_28, S_w_WITHDRAWN_28, S_w_DISCARDED_28, S_w_CANCELLED_28, E_w_ENABLED_28, E_w_ALLOCATED_28, E_w_STARTED_28, E_w_SUSPENDED_28, E_w_COMPLETED_28, E_w_SKIPPED_28, E_w_WITHDRAWN_28, E_w_DISCARDED_28, E_w_CANCELLED_28, F_live_w_ENABLED_28, F_live_w_SUSPENDED_28, F_live_w_STARTED_28, F_live_w_ALLOCATED_28, F_live_w_DISCARDED_28, F_live_w_COMPLETED_28, F_live_w_CANCELLED_28, F_live_w_WITHDRAWN_28, F_live_w_SKIPPED_28⟩ F_live_w_DISCARDED_28) (W := 1) (by decide) (by decide) (ce := 1) (sl := 9) rfl rfl (by decide) (by decide) rfl E_w_DISCARDED_28 e44 rfl pd_0 rfl (Nat.le_refl _) rfl (fun v45 T45 L45 X45 Q45 => ?_)
    obtain ⟨q45, Nq45, e45⟩ := Q45
    have N45 := Fr.app N44 Nq45
    rw [F2_l0 (0 : Int32)] at q45
    subst q45
    show Go p.tables e below _ (T45.setTop (mkF m 106 #[.val (.int p1), .val (.int (7 : Int32)), .val (.ref b1), .val (.ref w_DISCARDED), .val (.int (1 : Int32)), .val (.int (1 : Int32))] [(.int (nar .boolean (0 : Int32))), (.int (1 : Int32))]))
    refine g_icmpN (pc' := 109) C X45 at_106 (feq (show ¬ ((1 : Int32) = (nar .boolean (0 : Int32))) from (by decide))).1 rfl ?_
    refine g_iconst (pc' := 110) (v := (1 : Int32)) C X45 at_109 rfl rfl ?_
    refine g_goto (pc' := 114) C X45 at_110 (by decide) (by decide) ?_
    exact g_retN C X45 (by simp) at_114 (by decide) (by decide) ⟨rfl, N45⟩
  · refine own_cast (show T28.setTop (mkF m 71 #[.val (.int p1), .val (.int ((p1 &&& (2147483647 : Int32)) % (9 : Int32))), .val (.ref b1), .unset, .unset, .unset] []) = T28.setTop (mkF m 71 #[.val (.int p1), .val (.int (8 : Int32)), .val (.ref b1), .unset, .unset, .unset] []) from by rw [s29]) ?_
    refine g_aloadN (pc' := 72) C X28 at_71 rfl rfl rfl ?_
    refine g_iloadN (pc' := 73) C X28 at_72 rfl rfl ?_
    refine g_ldR (pc' := 74) (v := (.ref w_CANCELLED)) C X28 at_73 e28 V28 rfl ⟨by decide, by decide⟩ rfl rfl ?_
    refine g_astoreN (pc' := 75) (Ls' := #[.val (.int p1), .val (.int (8 : Int32)), .val (.ref b1), .val (.ref w_CANCELLED), .unset, .unset]) C X28 at_74 rfl rfl rfl ?_
    refine g_iloadN (pc' := 76) C X28 at_75 rfl rfl ?_
    refine g_iconst (pc' := 77) (v := (4 : Int32)) C X28 at_76 rfl rfl ?_
    refine g_icmpN (pc' := 80) C X28 at_77 (flt (show ¬ ((8 : Int32) < (4 : Int32)) from (by decide))).1 rfl ?_
    refine g_iconst (pc' := 81) (v := (1 : Int32)) C X28 at_80 rfl rfl ?_
    refine g_goto (pc' := 85) C X28 at_81 (by decide) (by decide) ?_
    refine g_istore (pc' := 87) (Ls' := #[.val (.int p1), .val (.int (8 : Int32)), .val (.ref b1), .val (.ref w_CANCELLED), .val (.int (1 : Int32)), .unset]) C X28 at_85 rfl rfl ?_
    refine g_aloadN (pc' := 88) C X28 at_87 rfl rfl rfl ?_
    refine g_callV (b := w_CANCELLED) (z := (⟨"com/example/caseloom/caseloom/model/WorkItemState", "isClosed", "()Z"⟩ : MethodName)) (y := (⟨"com/example/caseloom/caseloom/model/WorkItemState", "isClosed", "()Z"⟩ : MethodName)) (argsL := []) (st := []) (pc' := 91) C X28 at_88 (hw _ (List.mem_of_getElem? (i := 23) rfl)) (hw _ (List.mem_of_getElem? (i := 24) rfl)) (notFace_of_selects (args := #[]) (mvT C.hZ (hw _ (List.mem_of_getElem? (i := 26) rfl)))) (hw _ (List.mem_of_getElem? (i := 26) rfl)) (hw _ (List.mem_of_getElem? (i := 25) rfl)) (hw _ (List.mem_of_getElem? (i := 4) rfl)) (hw _ (List.mem_of_getElem? (i := 27) rfl)) (by decide) (rm1 l Z a0 hw [] w_CANCELLED (0 : Int32) w_ENABLED w_ALLOCATED w_STARTED w_SUSPENDED w_COMPLETED w_SKIPPED w_WITHDRAWN w_DISCARDED w_CANCELLED h28 n0 ⟨S_w_ENABLED_28, S_w_ALLOCATED_28, S_w_STARTED_28, S_w_SUSPENDED_28, S_w_COMPLETED_28, S_w_SKIPPED_28, S_w_WITHDRAWN_28, S_w_DISCARDED_28, S_w_CANCELLED_28, E_w_ENABLED_28, E_w_ALLOCATED_28, E_w_STARTED_28, E_w_SUSPENDED_28, E_w_COMPLETED_28, E_w_SKIPPED_28, E_w_WITHDRAWN_28, E_w_DISCARDED_28, E_w_CANCELLED_28, F_live_w_ENABLED_28, F_live_w_SUSPENDED_28, F_live_w_STARTED_28, F_live_w_ALLOCATED_28, F_live_w_DISCARDED_28, F_live_w_COMPLETED_28, F_live_w_CANCELLED_28, F_live_w_WITHDRAWN_28, F_live_w_SKIPPED_28⟩ F_live_w_CANCELLED_28) (W := 0) (by decide) (by decide) (ce := 1) (sl := 9) rfl rfl (by decide) (by decide) rfl E_w_CANCELLED_28 e28 rfl pd_0 rfl (Nat.le_refl _) rfl (fun v46 T46 L46 X46 Q46 => ?_)
    obtain ⟨q46, Nq46, e46⟩ := Q46
    have N46 := Fr.app N28 Nq46
    rw [F1_l0 (0 : Int32) (show (0 : Int32) = (0 : Int32) from (by decide))] at q46
    subst q46
    show Go p.tables e below _ (T46.setTop (mkF m 91 #[.val (.int p1), .val (.int (8 : Int32)), .val (.ref b1), .val (.ref w_CANCELLED), .val (.int (1 : Int32)), .unset] [(.int (1 : Int32))]))
    refine g_istore (pc' := 93) (Ls' := #[.val (.int p1), .val (.int (8 : Int32)), .val (.ref b1), .val (.ref w_CANCELLED), .val (.int (1 : Int32)), .val (.int (1 : Int32))]) C X46 at_91 rfl rfl ?_
    refine g_iload (pc' := 95) C X46 at_93 rfl rfl ?_
    refine g_iload (pc' := 97) C X46 at_95 rfl rfl ?_
    refine g_icmpN (pc' := 100) C X46 at_97 (teq (show (1 : Int32) = (1 : Int32) from (by decide))).2 rfl ?_
    refine g_iload (pc' := 102) C X46 at_100 rfl rfl ?_
    refine g_aloadN (pc' := 103) C X46 at_102 rfl rfl rfl ?_
    refine g_callV (b := w_CANCELLED) (z := (⟨"com/example/caseloom/caseloom/model/WorkItemState", "isLive", "()Z"⟩ : MethodName)) (y := (⟨"com/example/caseloom/caseloom/model/WorkItemState", "isLive", "()Z"⟩ : MethodName)) (argsL := []) (st := [(.int (1 : Int32))]) (pc' := 106) C X46 at_103 (hw _ (List.mem_of_getElem? (i := 30) rfl)) (hw _ (List.mem_of_getElem? (i := 31) rfl)) (notFace_of_selects (args := #[]) (mvT C.hZ (hw _ (List.mem_of_getElem? (i := 33) rfl)))) (hw _ (List.mem_of_getElem? (i := 33) rfl)) (hw _ (List.mem_of_getElem? (i := 32) rfl)) (hw _ (List.mem_of_getElem? (i := 4) rfl)) (hw _ (List.mem_of_getElem? (i := 34) rfl)) (by decide) (rm2 l Z a0 hw [] w_CANCELLED (0 : Int32) w_ENABLED w_ALLOCATED w_STARTED w_SUSPENDED w_COMPLETED w_SKIPPED w_WITHDRAWN w_DISCARDED w_CANCELLED h28 n0 ⟨S_w_ENABLED_28, S_w_ALLOCATED_28, S_w_STARTED_28, S_w_SUSPENDED_28, S_w_COMPLETED_28, S_w_SKIPPED_28, S_w_WITHDRAWN_28, S_w_DISCARDED_28, S_w_CANCELLED_28, E_w_ENABLED_28, E_w_ALLOCATED_28, E_w_STARTED_28, E_w_SUSPENDED_28, E_w_COMPLETED_28, E_w_SKIPPED_28, E_w_WITHDRAWN_28, E_w_DISCARDED_28, E_w_CANCELLED_28, F_live_w_ENABLED_28, F_live_w_SUSPENDED_28, F_live_w_STARTED_28, F_live_w_ALLOCATED_28, F_live_w_DISCARDED_28, F_live_w_COMPLETED_28, F_live_w_CANCELLED_28, F_live_w_WITHDRAWN_28, F_live_w_SKIPPED_28⟩ F_live_w_CANCELLED_28) (W := 1) (by decide) (by decide) (ce := 1) (sl := 9) rfl rfl (by decide) (by decide) rfl E_w_CANCELLED_28 e46 rfl pd_0 rfl (Nat.le_refl _) rfl (fun v47 T47 L47 X47 Q47 => ?_)
    obtain ⟨q47, Nq47, e47⟩ := Q47
    have N47 := Fr.app N46 Nq47
    rw [F2_l0 (0 : Int32)] at q47
    subst q47
    show Go p.tables e below _ (T47.setTop (mkF m 106 #[.val (.int p1), .val (.int (8 : Int32)), .val (.ref b1), .val (.ref w_CANCELLED), .val (.int (1 : Int32)), .val (.int (1 : Int32))] [(.int (nar .boolean (0 : Int32))), (.int (1 : Int32))]))
    refine g_icmpN (pc' := 109) C X47 at_106 (feq (show ¬ ((1 : Int32) = (nar .boolean (0 : Int32))) from (by decide))).1 rfl ?_
    refine g_iconst (pc' := 110) (v := (1 : Int32)) C X47 at_109 rfl rfl ?_
    refine g_goto (pc' := 114) C X47 at_110 (by decide) (by decide) ?_
    exact g_retN C X47 (by simp) at_114 (by decide) (by decide) ⟨rfl, N47⟩
set_option maxRecDepth 65536 in
set_option maxHeartbeats 40000000 in
theorem comes_1 {Post : Tables → Env → Array Value → State → Outcome → State → Prop} (hpost : ∀ tb e args s v u, (limb_1_1.after args s (.returned v) u = true ∧ limb_1_2.after args s (.returned v) u = true ∧ True) → FrameEnd s (.returned v) u (Jvm.fieldLocs frame_1_writes args s ++ Jvm.arrayLocs frame_1_arrays args s ++ Jvm.staticLocs frame_1_statics s) 16 128 → Post tb e args s (.returned v) u) :
    ArmFor flags0 classFile x code maxLocals ret World_1 tables_1 room_1 Calls_1 rest_1 Pre_1 Post := by
  intro l hfl _ _ p e ha hc hk s m args below hf hA hF happ hP
  obtain ⟨hcalls, hrest, hpre⟩ := hP
  obtain ⟨-, -, -, hnamed, -, -, -, hat⟩ := (Spec.applies_iff hf).mp happ
  obtain ⟨hg, hnr⟩ := and_e (Cond.before_iff.mp (show (Jvm.Cond.and given_1 narrow_1).before args s = true from hpre))
  obtain ⟨gg1, gg2⟩ := and_e hg
  obtain ⟨w0, rfl⟩ : ∃ w0 : Value, args = #[w0] := by
    have hs : args.size = 1 := by simpa [Cond.value, given_1] using gg1
    obtain ⟨L⟩ := args
    match L, hs with
    | [w0], _ => exact ⟨w0, rfl⟩
  have hw := fun d (hd : d ∈ tables_1) => atoms_spec (ws := Jvm.Cond.code x code maxLocals ret :: tables_1) hat d (List.mem_cons_of_mem _ hd)
  have hfit : Fit s := fun {y c} hc i hi => by
    obtain ⟨ha, rfl⟩ := Array.getElem?_eq_some_iff.mp hc
    have q := List.all_eq_true.mp ((Array.all_eq_true_iff_forall_mem.mp hF) _ (Array.getElem_mem ha)) i (List.mem_range.mpr hi)
    simpa [Array.getElem?_eq_getElem hi] using q
  obtain ⟨i0, ei0⟩ := is_v gg2
  obtain rfl : w0 = (.int i0) := Option.some.inj ei0
  obtain ⟨hn0, hnr0⟩ := and_e hnr
  obtain ⟨hn1, hnr1⟩ := and_e hnr0
  obtain ⟨hn2, hnr2⟩ := and_e hnr1
  obtain ⟨hn3, hnr3⟩ := and_e hnr2
  obtain ⟨hn4, hnr4⟩ := and_e hnr3
  obtain ⟨hn5, hnr5⟩ := and_e hnr4
  obtain ⟨hn6, hnr6⟩ := and_e hnr5
  obtain ⟨hn7, hnr7⟩ := and_e hnr6
  obtain ⟨hn8, hnr8⟩ := and_e hnr7
  obtain ⟨hn9, hnr9⟩ := and_e hnr8
  obtain ⟨hn10, hnr10⟩ := and_e hnr9
  obtain ⟨hn11, hnr11⟩ := and_e hnr10
  obtain ⟨hn12, hnr12⟩ := and_e hnr11
  obtain ⟨hn13, hnr13⟩ := and_e hnr12
  obtain ⟨hn14, hnr14⟩ := and_e hnr13
  obtain ⟨hn15, hnr15⟩ := and_e hnr14
  obtain ⟨hn16, hn17⟩ := and_e hnr15
  obtain ⟨w_ENABLED, ev_w_ENABLED⟩ := exa_v hn0
  have S_w_ENABLED := Sta.start ev_w_ENABLED (Or.inr ⟨(hw _ (List.mem_of_getElem? (i := 4) rfl)), (hw _ (List.mem_of_getElem? (i := 5) rfl))⟩)
  obtain ⟨w_ALLOCATED, ev_w_ALLOCATED⟩ := exa_v hn1
  have S_w_ALLOCATED := Sta.start ev_w_ALLOCATED (Or.inr ⟨(hw _ (List.mem_of_getElem? (i := 4) rfl)), (hw _ (List.mem_of_getElem? (i := 8) rfl))⟩)
  obtain ⟨w_STARTED, ev_w_STARTED⟩ := exa_v hn2
  have S_w_STARTED := Sta.start ev_w_STARTED (Or.inr ⟨(hw _ (List.mem_of_getElem? (i := 4) rfl)), (hw _ (List.mem_of_getElem? (i := 10) rfl))⟩)
  obtain ⟨w_SUSPENDED, ev_w_SUSPENDED⟩ := exa_v hn3
  have S_w_SUSPENDED := Sta.start ev_w_SUSPENDED (Or.inr ⟨(hw _ (List.mem_of_getElem? (i := 4) rfl)), (hw _ (List.mem_of_getElem? (i := 12) rfl))⟩)
  obtain ⟨w_COMPLETED, ev_w_COMPLETED⟩ := exa_v hn4
  have S_w_COMPLETED := Sta.start ev_w_COMPLETED (Or.inr ⟨(hw _ (List.mem_of_getElem? (i := 4) rfl)), (hw _ (List.mem_of_getElem? (i := 14) rfl))⟩)
  obtain ⟨w_SKIPPED, ev_w_SKIPPED⟩ := exa_v hn5
  have S_w_SKIPPED := Sta.start ev_w_SKIPPED (Or.inr ⟨(hw _ (List.mem_of_getElem? (i := 4) rfl)), (hw _ (List.mem_of_getElem? (i := 16) rfl))⟩)
  obtain ⟨w_WITHDRAWN, ev_w_WITHDRAWN⟩ := exa_v hn6
  have S_w_WITHDRAWN := Sta.start ev_w_WITHDRAWN (Or.inr ⟨(hw _ (List.mem_of_getElem? (i := 4) rfl)), (hw _ (List.mem_of_getElem? (i := 18) rfl))⟩)
  obtain ⟨w_DISCARDED, ev_w_DISCARDED⟩ := exa_v hn7
  have S_w_DISCARDED := Sta.start ev_w_DISCARDED (Or.inr ⟨(hw _ (List.mem_of_getElem? (i := 4) rfl)), (hw _ (List.mem_of_getElem? (i := 20) rfl))⟩)
  obtain ⟨w_CANCELLED, ev_w_CANCELLED⟩ := exa_v hn8
  have S_w_CANCELLED := Sta.start ev_w_CANCELLED (Or.inr ⟨(hw _ (List.mem_of_getElem? (i := 4) rfl)), (hw _ (List.mem_of_getElem? (i := 22) rfl))⟩)
  have E_w_ENABLED := Exa.start ev_w_ENABLED hn0
  have E_w_ALLOCATED := Exa.start ev_w_ALLOCATED hn1
  have E_w_STARTED := Exa.start ev_w_STARTED hn2
  have E_w_SUSPENDED := Exa.start ev_w_SUSPENDED hn3
  have E_w_COMPLETED := Exa.start ev_w_COMPLETED hn4
  have E_w_SKIPPED := Exa.start ev_w_SKIPPED hn5
  have E_w_WITHDRAWN := Exa.start ev_w_WITHDRAWN hn6
  have E_w_DISCARDED := Exa.start ev_w_DISCARDED hn7
  have E_w_CANCELLED := Exa.start ev_w_CANCELLED hn8
  have F_live_w_ENABLED := own_fld ev_w_ENABLED (own_eqi hn9)
  have F_live_w_SUSPENDED := own_fld ev_w_SUSPENDED (own_eqi hn10)
  have F_live_w_STARTED := own_fld ev_w_STARTED (own_eqi hn11)
  have F_live_w_ALLOCATED := own_fld ev_w_ALLOCATED (own_eqi hn12)
  have F_live_w_DISCARDED := own_fld ev_w_DISCARDED (own_eqi hn13)
  have F_live_w_COMPLETED := own_fld ev_w_COMPLETED (own_eqi hn14)
  have F_live_w_CANCELLED := own_fld ev_w_CANCELLED (own_eqi hn15)
  have F_live_w_WITHDRAWN := own_fld ev_w_WITHDRAWN (own_eqi hn16)
  have F_live_w_SKIPPED := own_fld ev_w_SKIPPED (own_eqi hn17)
  have hFX : FX s s.heap w_ENABLED w_ALLOCATED w_STARTED w_SUSPENDED w_COMPLETED w_SKIPPED w_WITHDRAWN w_DISCARDED w_CANCELLED := ⟨S_w_ENABLED, S_w_ALLOCATED, S_w_STARTED, S_w_SUSPENDED, S_w_COMPLETED, S_w_SKIPPED, S_w_WITHDRAWN, S_w_DISCARDED, S_w_CANCELLED, E_w_ENABLED, E_w_ALLOCATED, E_w_STARTED, E_w_SUSPENDED, E_w_COMPLETED, E_w_SKIPPED, E_w_WITHDRAWN, E_w_DISCARDED, E_w_CANCELLED, F_live_w_ENABLED, F_live_w_SUSPENDED, F_live_w_STARTED, F_live_w_ALLOCATED, F_live_w_DISCARDED, F_live_w_COMPLETED, F_live_w_CANCELLED, F_live_w_WITHDRAWN, F_live_w_SKIPPED⟩
  obtain ⟨n, o, h1, h2, h3, _, L, rfl, ⟨hv, N⟩, hq⟩ := rm0 l s _ hw tables_1 i0 w_ENABLED w_ALLOCATED w_STARTED w_SUSPENDED w_COMPLETED w_SKIPPED w_WITHDRAWN w_DISCARDED w_CANCELLED s.heap s.heap.size (Nat.le_refl _) hFX p e ha hc hk s m _ below hf ((Spec.applies_iff_loose hf).mp happ).1 ⟨rfl, State.Warmed39.refl s, rfl⟩ trivial
  subst hv
  refine ⟨n, _, h1, h2, h3, hpost _ _ _ _ _ _ ⟨Cond.after_iff.mpr rfl, Cond.after_iff.mpr (eq_i res_at (Term.int_eval (1)) rfl), trivial⟩ ⟨hq.1, hq.2.1, (hq.2.2.sift fun y hy => Or.inr (N y hy)).mono (by decide) (by decide)⟩⟩
theorem main_1_1 : Claimed_1_1 := comes_1 fun _ _ _ _ _ _ h hF => ⟨h.1, hF⟩
theorem main_1_2 : Claimed_1_2 := comes_1 fun _ _ _ _ _ _ h hF => ⟨h.2.1, hF⟩
end Jvm.Pilot.@@N@@
namespace Jvm.Pilot.@@N@@
open Jvm Jvm.ClassFile Sem Op Lib Jvm.Free Jvm.Stand Jvm.Pilot.@@N@@.Jvm.D
/-! MADE BY PROGRAM (witnessworld.py) out of the Statement's table words and the real class files: 13 classes; the members and pool entries that the words name. The judged class is class 1, her method 1. -/
namespace start1
open Jvm.ClassFile
def u (s : String) : CpInfo := .utf8 (stringToUtf16 s)
/-- a pool by its gaps: so many unusable entries, then the entry; so many at the end -/
def gap : Nat → List CpInfo → List CpInfo
  | 0, r => r
  | n + 1, r => .unusable :: gap n r
def poolList (es : List (Nat × CpInfo)) (last : Nat) : List CpInfo := es.foldr (fun e r => gap e.1 (e.2 :: r)) (gap last [])
def pool (es : List (Nat × CpInfo)) (last : Nat) : Array CpInfo := ⟨poolList es last⟩
def fileOf (pool : Array CpInfo) (this : Nat) (attrs : Array Attribute := #[]) (ms : Array MethodInfo := #[]) (fl : Nat := 33) (sup : Nat := 0) (ifs : Array Nat := #[]) (fds : Array FieldInfo := #[]) : ClassFile where
  minorVersion := 0
  majorVersion := 65
  constantPool := pool
  accessFlags := fl
  thisClass := this
  superClass := sup
  interfaces := ifs
  fields := fds
  methods := ms
  attributes := attrs
def plain (name : String) (sup : Option ClassId) : Class where
  name := name
  kind := .ordinary
  loader := none
  accessFlags := 33
  super := sup
  interfaces := #[]
  cf := none
  fields := #[]
  methods := #[]
  instanceTypes := #[]
  staticTypes := #[]
  resolved := #[]
  callSites := []
  init := .initialized
  statics := none
  mirror := none

def pool0 : Array CpInfo := pool [(5, u "<init>"), (0, u "()V"), (1, .class_ 10), (1, u "java/lang/Object")] 113

def k0m0 : Method := { name := "<init>", desc := "()V", sig := { parameters := [], returnType := none }, accessFlags := 1, code := none }
/-- java/lang/Object -/
def k0 : Class := { plain "java/lang/Object" none with
  accessFlags := 33
  interfaces := #[]
  cf := some (fileOf pool0 8 #[] #[{ accessFlags := 1, nameIndex := 5, descriptorIndex := 6, attributes := #[] }] 33 0 #[] #[])
  fields := #[]
  methods := #[k0m0]
  instanceTypes := #[]
  staticTypes := #[]
  resolved := Array.replicate 124 none
  statics := none }

def pool1 : Array CpInfo := pool [(2, .class_ 4), (1, u "java/lang/Object"), (0, u "<init>"), (0, u "()V"), (0, .integer 2147483647), (0, .class_ 9), (0, u "com/example/caseloom/caseloom/model/WorkItemState"), (0, .fieldref 8 11), (0, .nameAndType 12 13), (0, u "ENABLED"), (0, u "Lcom/example/caseloom/caseloom/model/WorkItemState;"), (0, .fieldref 8 15), (0, .nameAndType 16 13), (0, u "ALLOCATED"), (0, .fieldref 8 18), (0, .nameAndType 19 13), (0, u "STARTED"), (0, .fieldref 8 21), (0, .nameAndType 22 13), (0, u "SUSPENDED"), (0, .fieldref 8 24), (0, .nameAndType 25 13), (0, u "COMPLETED"), (0, .fieldref 8 27), (0, .nameAndType 28 13), (0, u "SKIPPED"), (0, .fieldref 8 30), (0, .nameAndType 31 13), (0, u "WITHDRAWN"), (0, .fieldref 8 33), (0, .nameAndType 34 13), (0, u "DISCARDED"), (0, .fieldref 8 36), (0, .nameAndType 37 13), (0, u "CANCELLED"), (0, .methodref 8 39), (0, .nameAndType 40 41), (0, u "isClosed"), (0, u "()Z"), (0, .methodref 8 43), (0, .nameAndType 44 41), (0, u "isLive"), (0, .class_ 46), (0, u "com/example/caseloom/caseloom/model/WorkItemStateIsClosedPinLaw"), (2, u "law"), (0, u "(I)Z")] 5

def k1m0 : Method := { name := "<init>", desc := "()V", sig := { parameters := [], returnType := none }, accessFlags := 1, code := none }
def k1c1 : Code := { maxStack := 4, maxLocals := 6, code := code, exceptionTable := #[], attributes := #[] }
def k1m1 : Method := { name := "law", desc := "(I)Z", sig := { parameters := [.int], returnType := some .boolean }, accessFlags := 9, code := some k1c1 }
/-- com/example/caseloom/caseloom/model/WorkItemStateIsClosedPinLaw -/
def k1 : Class := { plain "com/example/caseloom/caseloom/model/WorkItemStateIsClosedPinLaw" (some 0) with
  accessFlags := 49
  interfaces := #[]
  cf := some (fileOf pool1 45 #[] #[{ accessFlags := 1, nameIndex := 5, descriptorIndex := 6, attributes := #[] }, { accessFlags := 9, nameIndex := 49, descriptorIndex := 50, attributes := #[] }] 49 2 #[] #[])
  fields := #[]
  methods := #[k1m0, k1m1]
  instanceTypes := #[]
  staticTypes := #[]
  resolved := Array.replicate 56 none
  statics := none }

def pool2 : Array CpInfo := pool [(1, .class_ 2), (0, u "java/lang/constant/Constable"), (0, .class_ 4), (0, u "java/lang/Object")] 6

/-- java/lang/constant/Constable -/
def k2 : Class := { plain "java/lang/constant/Constable" (some 0) with
  accessFlags := 1537
  interfaces := #[]
  cf := some (fileOf pool2 1 #[] #[] 1537 3 #[] #[])
  fields := #[]
  methods := #[]
  instanceTypes := #[]
  staticTypes := #[]
  resolved := Array.replicate 11 none
  statics := none }

def pool3 : Array CpInfo := pool [(1, .class_ 2), (0, u "java/lang/Comparable"), (0, .class_ 4), (0, u "java/lang/Object")] 7

/-- java/lang/Comparable -/
def k3 : Class := { plain "java/lang/Comparable" (some 0) with
  accessFlags := 1537
  interfaces := #[]
  cf := some (fileOf pool3 1 #[] #[] 1537 3 #[] #[])
  fields := #[]
  methods := #[]
  instanceTypes := #[]
  staticTypes := #[]
  resolved := Array.replicate 12 none
  statics := none }

def pool4 : Array CpInfo := pool [(1, .class_ 2), (0, u "java/io/Serializable"), (0, .class_ 4), (0, u "java/lang/Object")] 2

/-- java/io/Serializable -/
def k4 : Class := { plain "java/io/Serializable" (some 0) with
  accessFlags := 1537
  interfaces := #[]
  cf := some (fileOf pool4 1 #[] #[] 1537 3 #[] #[])
  fields := #[]
  methods := #[]
  instanceTypes := #[]
  staticTypes := #[]
  resolved := Array.replicate 7 none
  statics := none }

def pool5 : Array CpInfo := pool [(2, .class_ 4), (1, u "java/lang/Enum"), (0, u "name"), (0, u "Ljava/lang/String;"), (2, u "ordinal"), (0, u "I"), (1, .class_ 14), (1, u "java/lang/Object"), (4, u "hash"), (86, .class_ 108), (1, u "java/lang/Enum$EnumDesc"), (2, .class_ 112), (0, u "java/lang/constant/Constable"), (0, .class_ 114), (0, u "java/lang/Comparable"), (0, .class_ 116), (0, u "java/io/Serializable")] 87

/-- java/lang/Enum -/
def k5 : Class := { plain "java/lang/Enum" (some 0) with
  accessFlags := 1057
  interfaces := #[2, 3, 4]
  cf := some (fileOf pool5 2 #[.nestMembers #[106]] #[] 1057 12 #[111, 113, 115] #[{ accessFlags := 18, nameIndex := 5, descriptorIndex := 6, attributes := #[] }, { accessFlags := 18, nameIndex := 9, descriptorIndex := 10, attributes := #[] }, { accessFlags := 2, nameIndex := 19, descriptorIndex := 10, attributes := #[] }])
  fields := #[{ name := "name", type := (.object "java/lang/String"), accessFlags := 18, slot := 0, constantValue := 0 }, { name := "ordinal", type := .int, accessFlags := 18, slot := 1, constantValue := 0 }, { name := "hash", type := .int, accessFlags := 2, slot := 2, constantValue := 0 }]
  methods := #[]
  instanceTypes := #[(.object "java/lang/String"), .int, .int]
  staticTypes := #[]
  resolved := Array.replicate 204 none
  statics := none }

def pool6 : Array CpInfo := pool [(1, .class_ 2), (0, u "com/example/caseloom/caseloom/model/WorkItemState"), (2, u "ENABLED"), (0, u "Lcom/example/caseloom/caseloom/model/WorkItemState;"), (2, u "ALLOCATED"), (2, u "STARTED"), (2, u "SUSPENDED"), (2, u "COMPLETED"), (2, u "SKIPPED"), (2, u "WITHDRAWN"), (2, u "DISCARDED"), (2, u "CANCELLED"), (2, u "$VALUES"), (0, u "[Lcom/example/caseloom/caseloom/model/WorkItemState;"), (6, .class_ 43), (1, u "java/lang/Enum"), (6, .fieldref 1 51), (0, .nameAndType 52 53), (0, u "live"), (0, u "Z"), (18, u "label"), (0, u "Ljava/lang/String;"), (23, u "isLive"), (0, u "()Z"), (0, u "isClosed")] 6

def k6c0 : Code := { maxStack := 1, maxLocals := 1, code := prog_42_method_4_code, exceptionTable := #[], attributes := #[] }
def k6m0 : Method := { name := "isLive", desc := "()Z", sig := { parameters := [], returnType := some .boolean }, accessFlags := 1, code := some k6c0 }
def k6c1 : Code := { maxStack := 1, maxLocals := 1, code := prog_42_method_5_code, exceptionTable := #[], attributes := #[] }
def k6m1 : Method := { name := "isClosed", desc := "()Z", sig := { parameters := [], returnType := some .boolean }, accessFlags := 1, code := some k6c1 }
/-- com/example/caseloom/caseloom/model/WorkItemState -/
def k6 : Class := { plain "com/example/caseloom/caseloom/model/WorkItemState" (some 5) with
  accessFlags := 16433
  interfaces := #[]
  cf := some (fileOf pool6 1 #[] #[{ accessFlags := 1, nameIndex := 97, descriptorIndex := 98, attributes := #[] }, { accessFlags := 1, nameIndex := 99, descriptorIndex := 98, attributes := #[] }] 16433 41 #[] #[{ accessFlags := 16409, nameIndex := 5, descriptorIndex := 6, attributes := #[] }, { accessFlags := 16409, nameIndex := 9, descriptorIndex := 6, attributes := #[] }, { accessFlags := 16409, nameIndex := 12, descriptorIndex := 6, attributes := #[] }, { accessFlags := 16409, nameIndex := 15, descriptorIndex := 6, attributes := #[] }, { accessFlags := 16409, nameIndex := 18, descriptorIndex := 6, attributes := #[] }, { accessFlags := 16409, nameIndex := 21, descriptorIndex := 6, attributes := #[] }, { accessFlags := 16409, nameIndex := 24, descriptorIndex := 6, attributes := #[] }, { accessFlags := 16409, nameIndex := 27, descriptorIndex := 6, attributes := #[] }, { accessFlags := 16409, nameIndex := 30, descriptorIndex := 6, attributes := #[] }, { accessFlags := 18, nameIndex := 52, descriptorIndex := 53, attributes := #[] }, { accessFlags := 18, nameIndex := 72, descriptorIndex := 73, attributes := #[] }, { accessFlags := 4122, nameIndex := 33, descriptorIndex := 34, attributes := #[] }])
  fields := #[{ name := "ENABLED", type := (.object "com/example/caseloom/caseloom/model/WorkItemState"), accessFlags := 16409, slot := 0, constantValue := 0 }, { name := "ALLOCATED", type := (.object "com/example/caseloom/caseloom/model/WorkItemState"), accessFlags := 16409, slot := 1, constantValue := 0 }, { name := "STARTED", type := (.object "com/example/caseloom/caseloom/model/WorkItemState"), accessFlags := 16409, slot := 2, constantValue := 0 }, { name := "SUSPENDED", type := (.object "com/example/caseloom/caseloom/model/WorkItemState"), accessFlags := 16409, slot := 3, constantValue := 0 }, { name := "COMPLETED", type := (.object "com/example/caseloom/caseloom/model/WorkItemState"), accessFlags := 16409, slot := 4, constantValue := 0 }, { name := "SKIPPED", type := (.object "com/example/caseloom/caseloom/model/WorkItemState"), accessFlags := 16409, slot := 5, constantValue := 0 }, { name := "WITHDRAWN", type := (.object "com/example/caseloom/caseloom/model/WorkItemState"), accessFlags := 16409, slot := 6, constantValue := 0 }, { name := "DISCARDED", type := (.object "com/example/caseloom/caseloom/model/WorkItemState"), accessFlags := 16409, slot := 7, constantValue := 0 }, { name := "CANCELLED", type := (.object "com/example/caseloom/caseloom/model/WorkItemState"), accessFlags := 16409, slot := 8, constantValue := 0 }, { name := "live", type := .boolean, accessFlags := 18, slot := 3, constantValue := 0 }, { name := "label", type := (.object "java/lang/String"), accessFlags := 18, slot := 4, constantValue := 0 }, { name := "$VALUES", type := (.array (.object "com/example/caseloom/caseloom/model/WorkItemState")), accessFlags := 4122, slot := 9, constantValue := 0 }]
  methods := #[k6m0, k6m1]
  instanceTypes := #[(.object "java/lang/String"), .int, .int, .boolean, (.object "java/lang/String")]
  staticTypes := #[(.object "com/example/caseloom/caseloom/model/WorkItemState"), (.object "com/example/caseloom/caseloom/model/WorkItemState"), (.object "com/example/caseloom/caseloom/model/WorkItemState"), (.object "com/example/caseloom/caseloom/model/WorkItemState"), (.object "com/example/caseloom/caseloom/model/WorkItemState"), (.object "com/example/caseloom/caseloom/model/WorkItemState"), (.object "com/example/caseloom/caseloom/model/WorkItemState"), (.object "com/example/caseloom/caseloom/model/WorkItemState"), (.object "com/example/caseloom/caseloom/model/WorkItemState"), (.array (.object "com/example/caseloom/caseloom/model/WorkItemState"))]
  resolved := Array.replicate 106 none
  statics := some 0 }

def pool7 : Array CpInfo := pool [(1, u "java/lang/Cloneable"), (0, .class_ 1), (0, u "java/lang/Object"), (0, .class_ 3)] 3

/-- java/lang/Cloneable -/
def k7 : Class := { plain "java/lang/Cloneable" (some 0) with
  accessFlags := 1537
  interfaces := #[]
  cf := some (fileOf pool7 2 #[] #[] 1537 4 #[] #[])
  fields := #[]
  methods := #[]
  instanceTypes := #[]
  staticTypes := #[]
  resolved := Array.replicate 8 none
  statics := none }

/-- the primitive byte -/
def k8 : Class := { plain "byte" none with kind := .primitive 'B', accessFlags := 0x411 }
/-- [B -/
def k9 : Class := { plain "[B" (some 0) with kind := .array 8 .byte, interfaces := #[7, 4], accessFlags := 1041 }

/-- the primitive int -/
def k10 : Class := { plain "int" none with kind := .primitive 'I', accessFlags := 0x411 }
/-- [I -/
def k11 : Class := { plain "[I" (some 0) with kind := .array 10 .int, interfaces := #[7, 4], accessFlags := 1041 }

/-- [Lcom/example/caseloom/caseloom/model/WorkItemState; -/
def k12 : Class := { plain "[Lcom/example/caseloom/caseloom/model/WorkItemState;" (some 0) with kind := .array 6 (.object "com/example/caseloom/caseloom/model/WorkItemState"), interfaces := #[7, 4], accessFlags := 1041 }

def heap : Heap := #[{ cls := 6, slots := #[.ref 1, .ref 2, .ref 3, .ref 4, .ref 5, .ref 6, .ref 7, .ref 8, .ref 9, .null], vm := .statics 6 },
  { cls := 6, slots := #[.null, .int 0, .int 0, .int 1, .null], vm := .none },
  { cls := 6, slots := #[.null, .int 0, .int 0, .int 1, .null], vm := .none },
  { cls := 6, slots := #[.null, .int 0, .int 0, .int 1, .null], vm := .none },
  { cls := 6, slots := #[.null, .int 0, .int 0, .int 1, .null], vm := .none },
  { cls := 6, slots := #[.null, .int 0, .int 0, .int 0, .null], vm := .none },
  { cls := 6, slots := #[.null, .int 0, .int 0, .int 0, .null], vm := .none },
  { cls := 6, slots := #[.null, .int 0, .int 0, .int 0, .null], vm := .none },
  { cls := 6, slots := #[.null, .int 0, .int 0, .int 0, .null], vm := .none },
  { cls := 6, slots := #[.null, .int 0, .int 0, .int 0, .null], vm := .none }]
def classes : Array Class := #[k0, k1, k2, k3, k4, k5, k6, k7, k8, k9, k10, k11, k12]
def interned : List (Array UInt16 × Addr) := []
def slotsUsed : Nat := 55
def theMethod : MethodId := ⟨1, 1⟩
def args0 : Array Value := #[.int 5]
def aboutOver (below : List Frame) : State where
  vm := { classes := classes, interned := interned.toArray }
  heap := heap
  slotsUsed := slotsUsed
  threads := #[{ frames := .invoking theMethod args0 :: below }]
def below0 : List Frame := [.native { method := ⟨0, 0⟩, args := #[] }]
def about1 : State := aboutOver below0
def p0 : Program := .bare "" "" ""
def e0 : Env := launch0.env 0 0 0
theorem w_frames : about1.frames = Frame.invoking theMethod args0 :: below0 := rfl
set_option maxRecDepth 65536 in
theorem w_args : argsFit about1.vm theMethod args0 = true := by decide +kernel
set_option maxRecDepth 65536 in
theorem w_heap : heapFits about1 = true := by decide +kernel
set_option maxRecDepth 65536 in
theorem w_runnable : about1.curStatus? = some .runnable := by decide +kernel
set_option maxRecDepth 65536 in
theorem w_alone : about1.alone = true := by decide +kernel
set_option maxRecDepth 65536 in
theorem w_named : about1.methodNamed? x = some theMethod := by decide +kernel
set_option maxRecDepth 65536 in
theorem w_hears : about1.hears theMethod below0 = true := by decide +kernel
set_option maxRecDepth 65536 in
theorem w_ripe : about1.ripe theMethod args0 below0 = true := by decide +kernel
theorem w_running : about1.status = .running := rfl
set_option maxRecDepth 65536 in
theorem w_room : about1.hasRoom e0.platform room_1 = true :=
  launch0.hasRoom_least _ room_1 (by decide +kernel) (by decide +kernel) (by decide +kernel) (by decide +kernel) (by decide +kernel) (by decide +kernel)
theorem allAtoms_all (ts : List Jvm.Cond) (a : Array Jvm.Value) (st : Jvm.State) : (allAtoms ts).before a st = ts.all (fun c => c.before a st) := by
  induction ts with
  | nil => rfl
  | cons c t ih =>
    show (Jvm.Cond.and c (allAtoms t)).before a st = _
    rw [Jvm.Cond.before_and, ih, List.all_cons]
def words1 : List Jvm.Cond := Jvm.Cond.code x code maxLocals ret :: tables_1
/-- a 'code' word, met by the world's own term for the bytes: nothing is compared byte by byte -/
theorem code_word {y : MethodName} {bytes : ByteArray} {mx : Nat} {rt : Option FieldType} {a : Array Value} {s : State} {m : MethodId} {meth : Method} {c : Code} (h1 : s.methodNamed? y = some m) (h2 : s.vm.method? m = some meth) (h3 : meth.code = some c) (h4 : c.code = bytes)
    (h5 : (c.maxLocals == mx && c.exceptionTable.isEmpty && decide (c.maxStack ≤ mostOperands) && decide (meth.sig.returnType = rt) && !meth.locks && decide (parseMethodDescriptor y.desc = some meth.sig)) = true) : (Jvm.Cond.code y bytes mx rt).before a s = true := by
  simp only [Bool.and_eq_true, beq_iff_eq, Bool.not_eq_true', decide_eq_true_eq] at h5
  obtain ⟨⟨⟨⟨⟨g1, g2⟩, g3⟩, g4⟩, g5⟩, g6⟩ := h5
  simp [Cond.before, Cond.holds, Cond.value, h1, h2, h3, h4, g1, g2, g3, g4, g5, g6]
def isCode : Jvm.Cond → Bool
  | .code _ _ _ _ => true
  | _ => false
theorem all_split {L : List Jvm.Cond} {P : Jvm.Cond → Bool} (h1 : L.all (fun c => isCode c || P c) = true) (h2 : ∀ c ∈ L.filter isCode, P c = true) : L.all P = true := by
  refine List.all_eq_true.mpr fun c hc => ?_
  have h := List.all_eq_true.mp h1 c hc
  rcases Bool.eq_false_or_eq_true (isCode c) with hi | hi
  · exact h2 c (List.mem_filter.mpr ⟨hc, hi⟩)
  · simpa [hi] using h
set_option maxRecDepth 65536 in
theorem w_c0 : (Jvm.Cond.code x code maxLocals ret).before args0 about1 = true := code_word (m := ⟨1, 1⟩) (meth := k1m1) (c := k1c1) (by decide +kernel) rfl rfl rfl (by decide +kernel)
set_option maxRecDepth 65536 in
theorem w_c1 : (Jvm.Cond.code ({ cls := "com/example/caseloom/caseloom/model/WorkItemState", name := "isClosed", desc := "()Z" } : Jvm.MethodName) prog_42_method_5_code (1 : Nat) (Option.some Jvm.ClassFile.FieldType.boolean)).before args0 about1 = true := code_word (m := ⟨6, 1⟩) (meth := k6m1) (c := k6c1) (by decide +kernel) rfl rfl rfl (by decide +kernel)
set_option maxRecDepth 65536 in
theorem w_c2 : (Jvm.Cond.code ({ cls := "com/example/caseloom/caseloom/model/WorkItemState", name := "isLive", desc := "()Z" } : Jvm.MethodName) prog_42_method_4_code (1 : Nat) (Option.some Jvm.ClassFile.FieldType.boolean)).before args0 about1 = true := code_word (m := ⟨6, 0⟩) (meth := k6m0) (c := k6c0) (by decide +kernel) rfl rfl rfl (by decide +kernel)
def codes1 : List Jvm.Cond := [Jvm.Cond.code x code maxLocals ret, Jvm.Cond.code ({ cls := "com/example/caseloom/caseloom/model/WorkItemState", name := "isClosed", desc := "()Z" } : Jvm.MethodName) prog_42_method_5_code (1 : Nat) (Option.some Jvm.ClassFile.FieldType.boolean), Jvm.Cond.code ({ cls := "com/example/caseloom/caseloom/model/WorkItemState", name := "isLive", desc := "()Z" } : Jvm.MethodName) prog_42_method_4_code (1 : Nat) (Option.some Jvm.ClassFile.FieldType.boolean)]
set_option maxRecDepth 65536 in
theorem codes_eq : words1.filter isCode = codes1 := rfl
theorem w_codes : ∀ c ∈ words1.filter isCode, c.before args0 about1 = true := by
  rw [codes_eq]
  intro c hc
  simp only [codes1, List.mem_cons, List.not_mem_nil, or_false] at hc
  rcases hc with rfl | rfl | rfl
  · exact w_c0
  · exact w_c1
  · exact w_c2
set_option maxRecDepth 65536 in
theorem w_t1 : (words1.take 24).all (fun c => isCode c || c.before args0 about1) = true := by decide +kernel
set_option maxRecDepth 65536 in
theorem w_t2 : (words1.drop 24).all (fun c => isCode c || c.before args0 about1) = true := by decide +kernel
theorem w_tables : (allAtoms (Jvm.Cond.code x code maxLocals ret :: tables_1)).before args0 about1 = true := by
  rw [allAtoms_all]
  show words1.all (fun c => c.before args0 about1) = true
  refine all_split ?_ w_codes
  rw [← List.take_append_drop 24 words1, List.all_append, w_t1, w_t2]
  rfl
set_option maxRecDepth 65536 in
theorem w_case : (Jvm.Cond.and given_1 narrow_1).before args0 about1 = true := by decide +kernel
theorem w_applies : (headSpec (Jvm.Cond.code x code maxLocals ret :: tables_1) room_1).applies x e0.platform about1 = true :=
  (Spec.applies_iff w_frames).mpr ⟨w_running, w_runnable, w_alone, w_named, w_hears, w_ripe, w_room, w_tables⟩
theorem atStart : AtStart classFile x code maxLocals ret World_1 tables_1 room_1 Calls_1 rest_1 Pre_1 launch0 p0 e0 about1 theMethod args0 below0 :=
  ⟨lists_1, trivial, launch0.admits_env _ _ _, launch0.least_env, fairChoices_fair.cas, fairChoices_fair.clock, w_frames, w_args, w_heap, w_applies, trivial, trivial, w_case⟩
end start1
theorem witness_1 : WitnessClaimed_1 := ⟨start1.p0, start1.e0, start1.about1, start1.theMethod, start1.args0, start1.below0, start1.atStart⟩
end Jvm.Pilot.@@N@@
