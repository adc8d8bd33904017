import JvmDerived
import JvmDerived.Pilot.@@N@@Statement
import JvmDerived.Pilot.@@N@@Code
set_option linter.unusedVariables false
set_option linter.unusedSimpArgs false
namespace Jvm.Pilot.@@N@@
open Jvm Jvm.ClassFile Sem Op Lib Jvm.Free Jvm.Stand Jvm.LawKit Jvm.RoadKit Bundle Jvm.Pilot.@@N@@.Jvm.D
section OwnKit
variable {p : Program} {l : Launch} {e : Env} {R : Room} {s : State} {m : MethodId} {args : Array Value} {below : List Frame} {meth : Method} {c : Code} {T : State} {locs : List Loc} {cells slots : Nat} {Z : State} {a0 : Array Value} {h : Heap} {bs : ByteArray} {own mnm : String} {mx : Nat} {rt : Option FieldType} {G : Outcome → State → Prop} {pc pc' : Nat} {Ls Ls' : Array Slot} {st : List Value}
/-- from T the run comes to an end of which G holds -/
def Go (tb : Tables) (e : Env) (below : List Frame) (G : Outcome → State → Prop) (T : State) : Prop := ∃ s₂ o, Steps tb e below T s₂ ∧ s₂.status = .running ∧ Ended s₂ below o ∧ G o s₂
theorem Go.step {tb : Tables} {T T' : State} (g : Go tb e below G T') (h : ∀ t, Steps tb e below T' t → Steps tb e below T t) : Go tb e below G T := by
  obtain ⟨s₂, o, h1, h2⟩ := g
  exact ⟨s₂, o, h _ h1, h2⟩
/-- what a walk knows of its own body -/
def Cx (p : Program) (s : State) (m : MethodId) (meth : Method) (c : Code) (bs : ByteArray) (mx : Nat) (own mnm : String) (rt : Option FieldType) (Z : State) : Prop :=
  p.tables.exec = Jvm.exec ∧ c.code = bs ∧ c.maxLocals = mx ∧ s.vm.findClass own = some m.cls ∧ meth.name = mnm ∧ meth.sig.returnType = rt ∧ meth.locks = false ∧ Z.Warmed39 s.vm
theorem Cx.hown (C : Cx p s m meth c bs mx own mnm rt Z) : s.vm.findClass own = some m.cls := C.2.2.2.1
theorem Cx.nm (C : Cx p s m meth c bs mx own mnm rt Z) : meth.name = mnm := C.2.2.2.2.1
theorem Cx.ret (C : Cx p s m meth c bs mx own mnm rt Z) : meth.sig.returnType = rt := C.2.2.2.2.2.1
theorem Cx.locks (C : Cx p s m meth c bs mx own mnm rt Z) : meth.locks = false := C.2.2.2.2.2.2.1
theorem Cx.hZ (C : Cx p s m meth c bs mx own mnm rt Z) : Z.Warmed39 s.vm := C.2.2.2.2.2.2.2
/-- the end: returned, Q of the value, the heap and the places written; the frame -/
def End (s : State) (Q : Option Value → Heap → List Loc → Prop) (ce sl : Nat) (o : Outcome) (U' : State) : Prop := ∃ v L, o = .returned v ∧ Q v U'.heap L ∧ FrameEnd s o U' L ce sl
theorem met_of {y : MethodName} {ws : List Jvm.Cond} {rm : Room} {as' : Array Value} {Q : Option Value → Heap → List Loc → Prop} {ce sl : Nat} (hpn : plainFor y = true) (hef : ∀ m, entryFrame m as' mx = mkF m 0 Ls [])
    (hbody : ∀ (p : Program) (e : Env) (s : State) (m : MethodId) (below : List Frame) (meth : Method) (c : Code) (T : State), Cx p s m meth c bs mx y.cls y.name rt Z → Stand p l e rm s m as' below meth c T [] 0 0 → T.heap = h → Go p.tables e below (End s Q ce sl) (T.setTop (mkF m 0 Ls []))) :
    MetFree l y (head1 (Jvm.Cond.code y bs mx rt :: ws) rm) (fun a U => a = as' ∧ Z.Warmed39 U.vm ∧ U.heap = h) (fun _ _ _ _ _ => True) (fun _ U o U' => ∃ v L, o = .returned v ∧ Q v U'.heap L ∧ FrameEnd U o U' L ce sl) := by
  refine MetFree.of_bodySF hpn hisR ?_
  intro p e s m args below meth c s₁ Bd hml0 hP hK
  obtain ⟨rfl, hZ, hh⟩ := hP
  have X0 : Stand p l e rm s m _ below meth c s₁ [] 0 0 := Stand.of_body Bd
  have e0 : s₁.heap = h := by rw [← hh, Bd.state]; rfl
  obtain ⟨s₂, o, h1, h2, h3, h4⟩ := hbody p e s m below meth c s₁ ⟨Bd.exec, Bd.bytes, hml0, findClass_of_methodNamed Bd.named, (name_of_methodNamed Bd.named Bd.method).1, Bd.returns, Bd.notSynchronized, hZ⟩ X0 e0
  exact ⟨s₂, o, castTop (hef m) h1, h2, h3, h4⟩

theorem g_iloadN (C : Cx p s m meth c bs mx own mnm rt Z) (X : Stand p l e R s m args below meth c T locs cells slots) {k : Fin 4} {v : Int32} (hd : decode bs pc = .ok (.iload_n k, 1)) (hl : Ls[k.val]? = some (.val (.int v))) (hn : pc + 1 = pc')
    (hr : Go p.tables e below G (T.setTop (mkF m pc' Ls (.int v :: st)))) : Go p.tables e below G (T.setTop (mkF m pc Ls st)) := by
  subst hn; exact hr.step fun t k => XS.iloadN X.here C.1 rfl (hb C.2.1 hd) hl k
theorem g_iload (C : Cx p s m meth c bs mx own mnm rt Z) (X : Stand p l e R s m args below meth c T locs cells slots) {k : Nat} {v : Int32} (hd : decode bs pc = .ok (.iload k, 2)) (hl : Ls[k]? = some (.val (.int v))) (hn : pc + 2 = pc')
    (hr : Go p.tables e below G (T.setTop (mkF m pc' Ls (.int v :: st)))) : Go p.tables e below G (T.setTop (mkF m pc Ls st)) := by
  subst hn; exact hr.step fun t k => XS.iload X.here C.1 rfl (hb C.2.1 hd) hl k
theorem g_istoreN (C : Cx p s m meth c bs mx own mnm rt Z) (X : Stand p l e R s m args below meth c T locs cells slots) {k : Fin 4} {v : Int32} (hd : decode bs pc = .ok (.istore_n k, 1)) (hl : storeLocals Ls k.val (.int v) = some Ls') (hn : pc + 1 = pc')
    (hr : Go p.tables e below G (T.setTop (mkF m pc' Ls' st))) : Go p.tables e below G (T.setTop (mkF m pc Ls (.int v :: st))) := by
  subst hn; exact hr.step fun t k => XS.istoreN X.here C.1 rfl (hb C.2.1 hd) rfl hl k
theorem g_istore (C : Cx p s m meth c bs mx own mnm rt Z) (X : Stand p l e R s m args below meth c T locs cells slots) {k : Nat} {v : Int32} (hd : decode bs pc = .ok (.istore k, 2)) (hl : storeLocals Ls k (.int v) = some Ls') (hn : pc + 2 = pc')
    (hr : Go p.tables e below G (T.setTop (mkF m pc' Ls' st))) : Go p.tables e below G (T.setTop (mkF m pc Ls (.int v :: st))) := by
  subst hn; exact hr.step fun t k => XS.istore X.here C.1 rfl (hb C.2.1 hd) rfl hl k
theorem g_aloadN (C : Cx p s m meth c bs mx own mnm rt Z) (X : Stand p l e R s m args below meth c T locs cells slots) {k : Fin 4} {v : Value} (hd : decode bs pc = .ok (.aload_n k, 1)) (hl : Ls[k.val]? = some (.val v)) (hv : v.isRef = true) (hn : pc + 1 = pc')
    (hr : Go p.tables e below G (T.setTop (mkF m pc' Ls (v :: st)))) : Go p.tables e below G (T.setTop (mkF m pc Ls st)) := by
  subst hn; exact hr.step fun t k => XS.aloadN X.here C.1 rfl (hb C.2.1 hd) hl hv k
theorem g_aload (C : Cx p s m meth c bs mx own mnm rt Z) (X : Stand p l e R s m args below meth c T locs cells slots) {k : Nat} {v : Value} (hd : decode bs pc = .ok (.aload k, 2)) (hl : Ls[k]? = some (.val v)) (hv : v.isRef = true) (hn : pc + 2 = pc')
    (hr : Go p.tables e below G (T.setTop (mkF m pc' Ls (v :: st)))) : Go p.tables e below G (T.setTop (mkF m pc Ls st)) := by
  subst hn; exact hr.step fun t k => XS.aload X.here C.1 rfl (hb C.2.1 hd) hl hv k
theorem g_astore (C : Cx p s m meth c bs mx own mnm rt Z) (X : Stand p l e R s m args below meth c T locs cells slots) {k : Nat} {v : Value} (hd : decode bs pc = .ok (.astore k, 2)) (hv : v.isRef = true) (hl : storeLocals Ls k v = some Ls') (hn : pc + 2 = pc')
    (hr : Go p.tables e below G (T.setTop (mkF m pc' Ls' st))) : Go p.tables e below G (T.setTop (mkF m pc Ls (v :: st))) := by
  subst hn; exact hr.step fun t k => XS.astore X.here C.1 rfl (hb C.2.1 hd) rfl hv hl k
theorem g_iconst (C : Cx p s m meth c bs mx own mnm rt Z) (X : Stand p l e R s m args below meth c T locs cells slots) {i : Int} {v : Int32} (hd : decode bs pc = .ok (.iconst i, 1)) (hv : Int32.ofInt i = v) (hn : pc + 1 = pc')
    (hr : Go p.tables e below G (T.setTop (mkF m pc' Ls (.int v :: st)))) : Go p.tables e below G (T.setTop (mkF m pc Ls st)) := by
  subst hn; exact hr.step fun t k => XS.iconst X.here C.1 rfl (hb C.2.1 hd) (by rw [hv]; exact k)
theorem g_iand (C : Cx p s m meth c bs mx own mnm rt Z) (X : Stand p l e R s m args below meth c T locs cells slots) {x y : Int32} (hd : decode bs pc = .ok (.iand, 1)) (hn : pc + 1 = pc')
    (hr : Go p.tables e below G (T.setTop (mkF m pc' Ls (.int (x &&& y) :: st)))) : Go p.tables e below G (T.setTop (mkF m pc Ls (.int y :: .int x :: st))) := by
  subst hn; exact hr.step fun t k => XS.iand X.here C.1 rfl (hb C.2.1 hd) rfl k
theorem g_irem (C : Cx p s m meth c bs mx own mnm rt Z) (X : Stand p l e R s m args below meth c T locs cells slots) {x y : Int32} (hd : decode bs pc = .ok (.irem, 1)) (hy : ¬ y = 0) (hn : pc + 1 = pc')
    (hr : Go p.tables e below G (T.setTop (mkF m pc' Ls (.int (x % y) :: st)))) : Go p.tables e below G (T.setTop (mkF m pc Ls (.int y :: .int x :: st))) := by
  subst hn; exact hr.step fun t k => Jvm.RoadKit.iremM X C.1 rfl (hb C.2.1 hd) rfl hy k
theorem g_goto (C : Cx p s m meth c bs mx own mnm rt Z) (X : Stand p l e R s m args below meth c T locs cells slots) {o : Int} (hd : decode bs pc = .ok (.goto o, 3)) (ho : 0 ≤ (pc : Int) + o) (hp : ((pc : Int) + o).toNat = pc')
    (hr : Go p.tables e below G (T.setTop (mkF m pc' Ls st))) : Go p.tables e below G (T.setTop (mkF m pc Ls st)) :=
  hr.step fun t k => XS.goto X.here C.1 rfl rfl (hb C.2.1 hd) ho hp k
theorem g_icmpY (C : Cx p s m meth c bs mx own mnm rt Z) (X : Stand p l e R s m args below meth c T locs cells slots) {cd : ClassFile.Cond} {x y : Int32} {o : Int} (hd : decode bs pc = .ok (.if_icmp cd o, 3)) (hc : if_icmp.holds cd x y = true) (ho : 0 ≤ (pc : Int) + o) (hp : ((pc : Int) + o).toNat = pc')
    (hr : Go p.tables e below G (T.setTop (mkF m pc' Ls st))) : Go p.tables e below G (T.setTop (mkF m pc Ls (.int y :: .int x :: st))) :=
  hr.step fun t k => XS.icmpYes X.here C.1 rfl rfl (hb C.2.1 hd) rfl hc ho hp k
theorem g_icmpN (C : Cx p s m meth c bs mx own mnm rt Z) (X : Stand p l e R s m args below meth c T locs cells slots) {cd : ClassFile.Cond} {x y : Int32} {o : Int} (hd : decode bs pc = .ok (.if_icmp cd o, 3)) (hc : if_icmp.holds cd x y = false) (hn : pc + 3 = pc')
    (hr : Go p.tables e below G (T.setTop (mkF m pc' Ls st))) : Go p.tables e below G (T.setTop (mkF m pc Ls (.int y :: .int x :: st))) := by
  subst hn; exact hr.step fun t k => XS.icmpNo X.here C.1 rfl (hb C.2.1 hd) rfl hc k
theorem g_ifY (C : Cx p s m meth c bs mx own mnm rt Z) (X : Stand p l e R s m args below meth c T locs cells slots) {cd : ClassFile.Cond} {x : Int32} {o : Int} (hd : decode bs pc = .ok (.ifCond cd o, 3)) (hc : if_icmp.holds cd x 0 = true) (ho : 0 ≤ (pc : Int) + o) (hp : ((pc : Int) + o).toNat = pc')
    (hr : Go p.tables e below G (T.setTop (mkF m pc' Ls st))) : Go p.tables e below G (T.setTop (mkF m pc Ls (.int x :: st))) :=
  hr.step fun t k => XS.ifYes X.here C.1 rfl rfl (hb C.2.1 hd) rfl ((if0 _ _).trans hc) ho hp k
theorem g_ifN (C : Cx p s m meth c bs mx own mnm rt Z) (X : Stand p l e R s m args below meth c T locs cells slots) {cd : ClassFile.Cond} {x : Int32} {o : Int} (hd : decode bs pc = .ok (.ifCond cd o, 3)) (hc : if_icmp.holds cd x 0 = false) (hn : pc + 3 = pc')
    (hr : Go p.tables e below G (T.setTop (mkF m pc' Ls st))) : Go p.tables e below G (T.setTop (mkF m pc Ls (.int x :: st))) := by
  subst hn; exact hr.step fun t k => XS.ifNo X.here C.1 rfl (hb C.2.1 hd) rfl ((if0 _ _).trans hc) k
theorem g_acmp (C : Cx p s m meth c bs mx own mnm rt Z) (X : Stand p l e R s m args below meth c T locs cells slots) {cd : ACond} {x y : Value} {o : Int} {same : Bool} (hd : decode bs pc = .ok (.if_acmp cd o, 3)) (h1 : x.isRef = true) (h2 : y.isRef = true) (hq : decide (x = y) = same) (ho : 0 ≤ (pc : Int) + o) (hp : pc' = if acV cd same = true then ((pc : Int) + o).toNat else pc + 3)
    (hr : Go p.tables e below G (T.setTop (mkF m pc' Ls st))) : Go p.tables e below G (T.setTop (mkF m pc Ls (y :: x :: st))) :=
  hr.step fun t k => Jvm.RoadKit.acmp X C.1 rfl h1 h2 rfl (hb C.2.1 hd) rfl hq ho hp k
theorem g_ldc (C : Cx p s m meth c bs mx own mnm rt Z) (X : Stand p l e R s m args below meth c T locs cells slots) {i : Nat} {v : Int32} (hd : decode bs pc = .ok (.ldc i, 2)) (w : (Jvm.Cond.constant own i v).before a0 Z = true) (hn : pc + 2 = pc')
    (hr : Go p.tables e below G (T.setTop (mkF m pc' Ls (.int v :: st)))) : Go p.tables e below G (T.setTop (mkF m pc Ls st)) := by
  subst hn; exact hr.step fun t k => X.ldcInt C.1 C.hown (mvT C.hZ w) (g := mkF m pc Ls st) rfl (hb C.2.1 hd) _ k
theorem g_getS (C : Cx p s m meth c bs mx own mnm rt Z) (X : Stand p l e R s m args below meth c T locs cells slots) {O n d R0 host : String} {i : Nat} {v : Value} (hd : decode bs pc = .ok (.getstatic i, 3)) (w : (Jvm.Cond.fieldLink own i R0 n d).before a0 Z = true ∨ (Jvm.Cond.fieldLinkNest own i R0 n d host).before a0 Z = true) (via : Via Z R0 O n d) (eT : T.heap = h) (F : Sta Z h O n d v) (hn : pc + 3 = pc')
    (hr : ∀ T', Stand p l e R s m args below meth c T' locs cells slots → T'.heap = h → Go p.tables e below G (T'.setTop (mkF m pc' Ls (v :: st)))) : Go p.tables e below G (T.setTop (mkF m pc Ls st)) := by
  subst hn
  obtain ⟨T', X', e', st'⟩ := getS2 X C.1 C.hZ C.hown w via eT F (g := mkF m pc Ls st) rfl (hb C.2.1 hd)
  exact (hr T' X' e').step st'
theorem g_callV (C : Cx p s m meth c bs mx own mnm rt Z) (X : Stand p l e R s m args below meth c T locs cells slots) {rm : Room} {as' : Array Value} {Q : Option Value → Heap → List Loc → Prop} {ml : Nat} {yb : ByteArray} {yr : Option FieldType} {ce sl W : Nat} {argsL : List Value} {ps : List FieldType} {pr : Option FieldType} {K : String} {y z : MethodName} {i : Nat} {b : Addr} (hd : decode bs pc = .ok (.invokevirtual i, 3)) (w1 : (Jvm.Cond.methodLink own i y).before a0 Z = true) (w2 : (Jvm.Cond.declares y).before a0 Z = true) (hnf : NotFace s y) (w3 : (Jvm.Cond.selects K y z).before a0 Z = true) (w4 : (Jvm.Cond.instanceMethod z).before a0 Z = true) (w5 : (Jvm.Cond.initialized z.cls).before a0 Z = true) (w6 : (Jvm.Cond.code z yb ml yr).before a0 Z = true) (hy : y.cls ≠ "java/lang/invoke/MethodHandle" ∧ y.cls ≠ "java/lang/invoke/VarHandle")
    (hM : MetFree l z (head1 [Jvm.Cond.code z yb ml yr] rm) (fun a U => a = as' ∧ Z.Warmed39 U.vm ∧ U.heap = h) (fun _ _ _ _ _ => True) (fun _ U o U' => ∃ v L, o = .returned v ∧ Q v U'.heap L ∧ FrameEnd U o U' L rm.cells rm.slots)) (hf : rm.frames + 1 ≤ R.frames) (hlo : W + (ml + 11) + rm.locals ≤ R.locals) (hce : cells + rm.cells = ce) (hsl : slots + rm.slots = sl) (hce' : ce ≤ R.cells) (hsl' : sl ≤ R.slots) (has : (.ref b :: argsL).toArray = as') (E : Exa Z h b K) (eT : T.heap = h) (hsz : Ls.size = mx) (hpd : parseMethodDescriptor y.desc = some ⟨ps, pr⟩) (hln : argsL.length = ps.length) (hW : (st.map fun v => v.category).sum ≤ W) (hn : pc + 3 = pc')
    (hr : ∀ v T' L, Stand p l e R s m args below meth c T' (locs ++ L) ce sl → Q v T'.heap L → Go p.tables e below G (T'.setTop (mkF m pc' Ls (v.toList ++ st)))) : Go p.tables e below G (T.setTop (mkF m pc Ls (argsL.reverse ++ .ref b :: st))) := by
  subst hn hce hsl has
  obtain ⟨cq, kq, qa, qb, qc⟩ := isOf C.hZ eT E
  obtain ⟨v, vm1, ⟨T', L', k', n'⟩, -, X', ⟨Lc, hQ, l', y', z'⟩, st'⟩ := X.virtualBack C.1 (y := y) (z := z) C.hown (mvT C.hZ w1) (mvT C.hZ w2) hnf (mvT C.hZ w3) (mvT C.hZ w4) hy (backOf (W := W) hM C.hZ w6 w5 hf hlo) qa qc (g := mkF m pc Ls (argsL.reverse ++ .ref b :: st)) rfl (hsz.trans C.2.2.1.symm) (Steps.refl _) (argsL := argsL) (rest := st) (lenOf hpd hln) rfl (by show 2 * 0 + _ ≤ _; omega) (hb C.2.1 hd) (fun _ _ => ⟨rfl, eT, hce', hsl'⟩)
  dsimp only [Pt.U, Pt.locs, Pt.cells, Pt.slots] at X' l' y' z' st' hQ
  subst l' y' z'
  exact (hr v T' Lc X' hQ).step fun t k => st'.trans k
theorem g_retN {t : FieldType} (C : Cx p s m meth c bs mx own mnm (some t) Z) (X : Stand p l e R s m args below meth c T locs cells slots) {Q : Option Value → Heap → List Loc → Prop} {ce sl : Nat} {z : Int32} (ht : t = .boolean ∨ t = .byte ∨ t = .char ∨ t = .short) (hd : decode bs pc = .ok (.ireturn, 1)) (hc : cells ≤ ce) (hs : slots ≤ sl) (hQ : Q (some (.int (nar t z))) T.heap locs) : Go p.tables e below (End s Q ce sl) (T.setTop (mkF m pc Ls (.int z :: st))) := by
  obtain ⟨fs, hr, hrun, hended, hW, hsame⟩ := X.leave (v := (some (.int (nar t z)))) (fun h => by rw [C.ret] at h; cases h) C.locks
  exact ⟨_, _, retN X C.1 C.ret ht (hb C.2.1 hd) hr, hrun, hended, _, _, rfl, hQ, ⟨_, rfl⟩, hW, hsame.mono hc hs⟩
end OwnKit
theorem own_eqi {args : Array Value} {s : State} {t : Term} {v : Int32} (h : (Jvm.Cond.eq t (.int v)).value args s none s [] = some true) : t.eval args s none [] s = some (.int v) := by
  simp only [Cond.value, Term.eval] at h
  cases ht : t.eval args s none [] s with
  | none => simp [ht] at h
  | some x => cases x <;> simp [ht] at h ⊢; exact h
theorem own_eqr {args : Array Value} {s : State} {t u : Term} {a : Addr} (h : (Jvm.Cond.eq t u).value args s none s [] = some true) (hu : u.eval args s none [] s = some (.ref a)) : t.eval args s none [] s = some (.ref a) := by
  simp only [Cond.value, hu] at h
  cases ht : t.eval args s none [] s with
  | none => simp [ht] at h
  | some x => cases x <;> simp [ht] at h ⊢; exact h
theorem own_len {args : Array Value} {s : State} {t : Term} {a : Addr} {cl : Cell} {ty : FieldType} {n : Int32} (ht : t.eval args s none [] s = some (.ref a)) (A : Arr s s.heap a cl ty) (h : (Term.length t).eval args s none [] s = some (.int n)) : cl.slots.size < 2 ^ 31 ∧ cl.slots.size.toInt32 = n := by
  have ha : s.arrayAt? a = some cl := A.fin (Vm.Alike.refl _)
  by_cases q : cl.slots.size < 2 ^ 31
  · rw [len_f ht ha q] at h
    exact ⟨q, Value.int.inj (Option.some.inj h)⟩
  · simp [Term.eval, ht, ha, q] at h
theorem own_fld {args : Array Value} {s : State} {t : Term} {C n d : String} {a : Addr} {v : Value} (ht : t.eval args s none [] s = some (.ref a)) (hv : (Term.field t C n d).eval args s none [] s = some v) : Fld s s.heap a C n d v := Fld.start ((fld_at ht).symm.trans hv)
def FX (Z : State) (h : Heap) (w_ALL : Addr) (w_AUTOMATIC : Addr) (w_RESOURCE : Addr) (w_NONE : Addr) (w_DATA : Addr) : Prop := (Sta Z h "com/example/pictor/pictor/DiskCacheStrategy" "ALL" "Lcom/example/pictor/pictor/DiskCacheStrategy;" (.ref w_ALL)) ∧ (Sta Z h "com/example/pictor/pictor/DiskCacheStrategy" "AUTOMATIC" "Lcom/example/pictor/pictor/DiskCacheStrategy;" (.ref w_AUTOMATIC)) ∧ (Sta Z h "com/example/pictor/pictor/DiskCacheStrategy" "RESOURCE" "Lcom/example/pictor/pictor/DiskCacheStrategy;" (.ref w_RESOURCE)) ∧ (Sta Z h "com/example/pictor/pictor/DiskCacheStrategy" "NONE" "Lcom/example/pictor/pictor/DiskCacheStrategy;" (.ref w_NONE)) ∧ (Sta Z h "com/example/pictor/pictor/DiskCacheStrategy" "DATA" "Lcom/example/pictor/pictor/DiskCacheStrategy;" (.ref w_DATA)) ∧ (Exa Z h w_ALL "com/example/pictor/pictor/DiskCacheStrategy") ∧ (Exa Z h w_AUTOMATIC "com/example/pictor/pictor/DiskCacheStrategy") ∧ (Fld Z h w_AUTOMATIC "java/lang/Enum" "ordinal" "I" (.int (4 : Int32))) ∧ (Fld Z h w_ALL "java/lang/Enum" "ordinal" "I" (.int (0 : Int32))) ∧ (Exa Z h w_RESOURCE "com/example/pictor/pictor/DiskCacheStrategy") ∧ (Fld Z h w_RESOURCE "java/lang/Enum" "ordinal" "I" (.int (2 : Int32))) ∧ (Exa Z h w_NONE "com/example/pictor/pictor/DiskCacheStrategy") ∧ (Fld Z h w_NONE "java/lang/Enum" "ordinal" "I" (.int (3 : Int32))) ∧ (Exa Z h w_DATA "com/example/pictor/pictor/DiskCacheStrategy") ∧ (Fld Z h w_DATA "java/lang/Enum" "ordinal" "I" (.int (1 : Int32)))
theorem d1_0 : decode prog_10_method_5_code 0 = .ok (.aload_n 0, 1) := by decide +kernel
theorem d1_1 : decode prog_10_method_5_code 1 = .ok (.getstatic 3, 3) := by decide +kernel
theorem d1_4 : decode prog_10_method_5_code 4 = .ok (.if_acmp .eq 21, 3) := by decide +kernel
theorem d1_25 : decode prog_10_method_5_code 25 = .ok (.iconst 1, 1) := by decide +kernel
theorem d1_26 : decode prog_10_method_5_code 26 = .ok (.goto 4, 3) := by decide +kernel
theorem d1_30 : decode prog_10_method_5_code 30 = .ok (.ireturn, 1) := by decide +kernel
theorem d1_7 : decode prog_10_method_5_code 7 = .ok (.aload_n 0, 1) := by decide +kernel
theorem d1_8 : decode prog_10_method_5_code 8 = .ok (.getstatic 10, 3) := by decide +kernel
theorem d1_11 : decode prog_10_method_5_code 11 = .ok (.if_acmp .eq 14, 3) := by decide +kernel
theorem d1_14 : decode prog_10_method_5_code 14 = .ok (.aload_n 0, 1) := by decide +kernel
theorem d1_15 : decode prog_10_method_5_code 15 = .ok (.getstatic 16, 3) := by decide +kernel
theorem d1_18 : decode prog_10_method_5_code 18 = .ok (.if_acmp .ne 11, 3) := by decide +kernel
theorem d1_21 : decode prog_10_method_5_code 21 = .ok (.iload_n 1, 1) := by decide +kernel
theorem d1_22 : decode prog_10_method_5_code 22 = .ok (.ifCond .eq 7, 3) := by decide +kernel
theorem d1_29 : decode prog_10_method_5_code 29 = .ok (.iconst 0, 1) := by decide +kernel
def F1 (a1 : Addr) (p2 : Int32) (w_ALL : Addr) (w_AUTOMATIC : Addr) (w_RESOURCE : Addr) : Int32 := (if a1 = w_ALL then (1 : Int32) else (if a1 = w_RESOURCE then (1 : Int32) else (if a1 = w_AUTOMATIC then (if p2 = (0 : Int32) then (0 : Int32) else (1 : Int32)) else (0 : Int32))))
theorem F1_l0 (a1 : Addr) (p2 : Int32) (w_ALL : Addr) (w_AUTOMATIC : Addr) (w_RESOURCE : Addr) (h0 : a1 = w_ALL) : F1 a1 p2 w_ALL w_AUTOMATIC w_RESOURCE = (1 : Int32) := by
  unfold F1; rw [if_pos h0]
theorem F1_l1 (a1 : Addr) (p2 : Int32) (w_ALL : Addr) (w_AUTOMATIC : Addr) (w_RESOURCE : Addr) (h0 : ¬ (a1 = w_ALL)) (h1 : a1 = w_RESOURCE) : F1 a1 p2 w_ALL w_AUTOMATIC w_RESOURCE = (1 : Int32) := by
  unfold F1; rw [if_neg h0, if_pos h1]
theorem F1_l2 (a1 : Addr) (p2 : Int32) (w_ALL : Addr) (w_AUTOMATIC : Addr) (w_RESOURCE : Addr) (h0 : ¬ (a1 = w_ALL)) (h1 : ¬ (a1 = w_RESOURCE)) (h2 : a1 = w_AUTOMATIC) (h3 : p2 = (0 : Int32)) : F1 a1 p2 w_ALL w_AUTOMATIC w_RESOURCE = (0 : Int32) := by
  unfold F1; rw [if_neg h0, if_neg h1, if_pos h2, if_pos h3]
theorem F1_l3 (a1 : Addr) (p2 : Int32) (w_ALL : Addr) (w_AUTOMATIC : Addr) (w_RESOURCE : Addr) (h0 : ¬ (a1 = w_ALL)) (h1 : ¬ (a1 = w_RESOURCE)) (h2 : a1 = w_AUTOMATIC) (h3 : ¬ (p2 = (0 : Int32))) : F1 a1 p2 w_ALL w_AUTOMATIC w_RESOURCE = (1 : Int32) := by
  unfold F1; rw [if_neg h0, if_neg h1, if_pos h2, if_neg h3]
theorem F1_l4 (a1 : Addr) (p2 : Int32) (w_ALL : Addr) (w_AUTOMATIC : Addr) (w_RESOURCE : Addr) (h0 : ¬ (a1 = w_ALL)) (h1 : ¬ (a1 = w_RESOURCE)) (h2 : ¬ (a1 = w_AUTOMATIC)) : F1 a1 p2 w_ALL w_AUTOMATIC w_RESOURCE = (0 : Int32) := by
  unfold F1; rw [if_neg h0, if_neg h1, if_neg h2]
theorem ef_1 (m : MethodId) (a1 : Addr) (p2 : Int32) : entryFrame m #[(.ref a1), (.int p2)] 2 = mkF m 0 #[.val (.ref a1), .val (.int p2)] [] := by first | (simp [entryFrame, mkF, argsToLocals, Value.category]; done) | rfl
def Q_1 (Z : State) (a1 : Addr) (p2 : Int32) (w_ALL : Addr) (w_AUTOMATIC : Addr) (w_RESOURCE : Addr) (w_NONE : Addr) (w_DATA : Addr) (h0 : Heap) (n0 : Nat) (v : Option Value) (h : Heap) (L : List Loc) : Prop := v = some (.int (F1 a1 p2 w_ALL w_AUTOMATIC w_RESOURCE)) ∧ Fr n0 L ∧ h = h0
set_option maxRecDepth 65536 in
set_option maxHeartbeats 40000000 in
theorem rm1 (l : Launch) (Z : State) (a0 : Array Value) (hw : ∀ d ∈ tables_1, d.before a0 Z = true) (ws : List Jvm.Cond) (a1 : Addr) (p2 : Int32) (w_ALL : Addr) (w_AUTOMATIC : Addr) (w_RESOURCE : Addr) (w_NONE : Addr) (w_DATA : Addr) (h0 : Heap) (n0 : Nat) (hF : FX Z h0 w_ALL w_AUTOMATIC w_RESOURCE w_NONE w_DATA) :
    MetFree l (⟨"com/example/pictor/pictor/DiskCacheStrategy", "usesResource", "(Z)Z"⟩ : MethodName) (head1 (Jvm.Cond.code (⟨"com/example/pictor/pictor/DiskCacheStrategy", "usesResource", "(Z)Z"⟩ : MethodName) prog_10_method_5_code 2 (some .boolean) :: ws) ({ frames := 0, cells := 0, slots := 0, locals := 0 } : Room)) (fun a U => a = #[(.ref a1), (.int p2)] ∧ Z.Warmed39 U.vm ∧ U.heap = h0) (fun _ _ _ _ _ => True) (fun _ U o U' => ∃ v L, o = .returned v ∧ Q_1 Z a1 p2 w_ALL w_AUTOMATIC w_RESOURCE w_NONE w_DATA h0 n0 v U'.heap L ∧ FrameEnd U o U' L ({ frames := 0, cells := 0, slots := 0, locals := 0 } : Room).cells ({ frames := 0, cells := 0, slots := 0, locals := 0 } : Room).slots) := by
  refine met_of (Ls := #[.val (.ref a1), .val (.int p2)]) (plainFor_of_name (by first | (simp [plainName, overriddenIn]; done) | decide +kernel)) (fun m => ef_1 m a1 p2) ?_
  intro p e s m below meth c T0 C X0 e0
  obtain ⟨S_w_ALL, S_w_AUTOMATIC, S_w_RESOURCE, S_w_NONE, S_w_DATA, E_w_ALL, E_w_AUTOMATIC, F_ordinal_w_AUTOMATIC, F_ordinal_w_ALL, E_w_RESOURCE, F_ordinal_w_RESOURCE, E_w_NONE, F_ordinal_w_NONE, E_w_DATA, F_ordinal_w_DATA⟩ := id hF
  have N0 := Fr.nil n0
  refine g_aloadN (pc' := 1) C X0 d1_0 rfl rfl rfl ?_
  refine g_getS (pc' := 4) C X0 d1_1 (host := "") (Or.inl (hw _ (List.mem_of_getElem? (i := 9) rfl))) Via.refl e0 S_w_ALL rfl (fun T1 X1 e1 => ?_)
  by_cases c2 : a1 = w_ALL
  · refine g_acmp (pc' := 25) (same := true) C X1 d1_4 rfl rfl (decide_eq_true (congrArg Value.ref c2)) (by decide) (by decide) ?_
    refine g_iconst (pc' := 26) (v := (1 : Int32)) C X1 d1_25 rfl rfl ?_
    refine g_goto (pc' := 30) C X1 d1_26 (by decide) (by decide) ?_
    exact g_retN C X1 (by simp) d1_30 (by decide) (by decide) ⟨congrArg (fun z => some (Value.int z)) (F1_l0 a1 p2 w_ALL w_AUTOMATIC w_RESOURCE c2).symm, N0, e1⟩
  · refine g_acmp (pc' := 7) (same := false) C X1 d1_4 rfl rfl (decide_eq_false fun q => c2 (Value.ref.inj q)) (by decide) (by decide) ?_
    refine g_aloadN (pc' := 8) C X1 d1_7 rfl rfl rfl ?_
    refine g_getS (pc' := 11) C X1 d1_8 (host := "") (Or.inl (hw _ (List.mem_of_getElem? (i := 12) rfl))) Via.refl e1 S_w_RESOURCE rfl (fun T3 X3 e3 => ?_)
    by_cases c4 : a1 = w_RESOURCE
    · refine g_acmp (pc' := 25) (same := true) C X3 d1_11 rfl rfl (decide_eq_true (congrArg Value.ref c4)) (by decide) (by decide) ?_
      refine g_iconst (pc' := 26) (v := (1 : Int32)) C X3 d1_25 rfl rfl ?_
      refine g_goto (pc' := 30) C X3 d1_26 (by decide) (by decide) ?_
      exact g_retN C X3 (by simp) d1_30 (by decide) (by decide) ⟨congrArg (fun z => some (Value.int z)) (F1_l1 a1 p2 w_ALL w_AUTOMATIC w_RESOURCE c2 c4).symm, N0, e3⟩
    · refine g_acmp (pc' := 14) (same := false) C X3 d1_11 rfl rfl (decide_eq_false fun q => c4 (Value.ref.inj q)) (by decide) (by decide) ?_
      refine g_aloadN (pc' := 15) C X3 d1_14 rfl rfl rfl ?_
      refine g_getS (pc' := 18) C X3 d1_15 (host := "") (Or.inl (hw _ (List.mem_of_getElem? (i := 14) rfl))) Via.refl e3 S_w_AUTOMATIC rfl (fun T5 X5 e5 => ?_)
      by_cases c6 : a1 = w_AUTOMATIC
      · refine g_acmp (pc' := 21) (same := true) C X5 d1_18 rfl rfl (decide_eq_true (congrArg Value.ref c6)) (by decide) (by decide) ?_
        refine g_iloadN (pc' := 22) C X5 d1_21 rfl rfl ?_
        by_cases c7 : p2 = (0 : Int32)
        · refine g_ifY (pc' := 29) C X5 d1_22 (teq c7).1 (by decide) (by decide) ?_
          refine g_iconst (pc' := 30) (v := (0 : Int32)) C X5 d1_29 rfl rfl ?_
          exact g_retN C X5 (by simp) d1_30 (by decide) (by decide) ⟨congrArg (fun z => some (Value.int z)) (F1_l2 a1 p2 w_ALL w_AUTOMATIC w_RESOURCE c2 c4 c6 c7).symm, N0, e5⟩
        · refine g_ifN (pc' := 25) C X5 d1_22 (feq c7).1 rfl ?_
          refine g_iconst (pc' := 26) (v := (1 : Int32)) C X5 d1_25 rfl rfl ?_
          refine g_goto (pc' := 30) C X5 d1_26 (by decide) (by decide) ?_
          exact g_retN C X5 (by simp) d1_30 (by decide) (by decide) ⟨congrArg (fun z => some (Value.int z)) (F1_l3 a1 p2 w_ALL w_AUTOMATIC w_RESOURCE c2 c4 c6 c7).symm, N0, e5⟩
      · refine g_acmp (pc' := 29) (same := false) C X5 d1_18 rfl rfl (decide_eq_false fun q => c6 (Value.ref.inj q)) (by decide) (by decide) ?_
        refine g_iconst (pc' := 30) (v := (0 : Int32)) C X5 d1_29 rfl rfl ?_
        exact g_retN C X5 (by simp) d1_30 (by decide) (by decide) ⟨congrArg (fun z => some (Value.int z)) (F1_l4 a1 p2 w_ALL w_AUTOMATIC w_RESOURCE c2 c4 c6).symm, N0, e5⟩
theorem pd_0 : parseMethodDescriptor "(Z)Z" = some ⟨[.boolean], some .boolean⟩ := by decide +kernel
theorem ef_0 (m : MethodId) (p1 : Int32) (p2 : Int32) : entryFrame m #[(.int p1), (.int p2)] maxLocals = mkF m 0 #[.val (.int p1), .val (.int p2), .unset, .unset, .unset, .unset] [] := by first | (simp [entryFrame, mkF, argsToLocals, Value.category, maxLocals]; done) | rfl
def Q_0 (Z : State) (p1 : Int32) (p2 : Int32) (w_ALL : Addr) (w_AUTOMATIC : Addr) (w_RESOURCE : Addr) (w_NONE : Addr) (w_DATA : Addr) (h0 : Heap) (n0 : Nat) (v : Option Value) (h : Heap) (L : List Loc) : Prop := v = some (.int 1) ∧ Fr n0 L
set_option maxRecDepth 65536 in
set_option maxHeartbeats 40000000 in
theorem rm0 (l : Launch) (Z : State) (a0 : Array Value) (hw : ∀ d ∈ tables_1, d.before a0 Z = true) (ws : List Jvm.Cond) (p1 : Int32) (p2 : Int32) (w_ALL : Addr) (w_AUTOMATIC : Addr) (w_RESOURCE : Addr) (w_NONE : Addr) (w_DATA : Addr) (h0 : Heap) (n0 : Nat) (hF : FX Z h0 w_ALL w_AUTOMATIC w_RESOURCE w_NONE w_DATA) (ne_w_AUTOMATIC_w_ALL : ¬ (w_AUTOMATIC = w_ALL)) (ne_w_AUTOMATIC_w_RESOURCE : ¬ (w_AUTOMATIC = w_RESOURCE)) (ne_w_AUTOMATIC_w_NONE : ¬ (w_AUTOMATIC = w_NONE)) (ne_w_AUTOMATIC_w_DATA : ¬ (w_AUTOMATIC = w_DATA)) (ne_w_ALL_w_RESOURCE : ¬ (w_ALL = w_RESOURCE)) (ne_w_ALL_w_NONE : ¬ (w_ALL = w_NONE)) (ne_w_ALL_w_DATA : ¬ (w_ALL = w_DATA)) (ne_w_RESOURCE_w_NONE : ¬ (w_RESOURCE = w_NONE)) (ne_w_RESOURCE_w_DATA : ¬ (w_RESOURCE = w_DATA)) (ne_w_NONE_w_DATA : ¬ (w_NONE = w_DATA)) :
    MetFree l x (head1 (Jvm.Cond.code x code maxLocals ret :: ws) room_1) (fun a U => a = #[(.int p1), (.int p2)] ∧ Z.Warmed39 U.vm ∧ U.heap = h0) (fun _ _ _ _ _ => True) (fun _ U o U' => ∃ v L, o = .returned v ∧ Q_0 Z p1 p2 w_ALL w_AUTOMATIC w_RESOURCE w_NONE w_DATA h0 n0 v U'.heap L ∧ FrameEnd U o U' L 0 0) := by
  refine met_of (Ls := #[.val (.int p1), .val (.int p2), .unset, .unset, .unset, .unset]) (plainFor_of_name (by first | (simp [plainName, overriddenIn]; done) | decide +kernel)) (fun m => ef_0 m p1 p2) ?_
  intro p e s m below meth c T0 C X0 e0
  obtain ⟨S_w_ALL, S_w_AUTOMATIC, S_w_RESOURCE, S_w_NONE, S_w_DATA, E_w_ALL, E_w_AUTOMATIC, F_ordinal_w_AUTOMATIC, F_ordinal_w_ALL, E_w_RESOURCE, F_ordinal_w_RESOURCE, E_w_NONE, F_ordinal_w_NONE, E_w_DATA, F_ordinal_w_DATA⟩ := id hF
  have N0 := Fr.nil n0
  refine g_iloadN (pc' := 1) C X0 at_0 rfl rfl ?_
  refine g_ldc (pc' := 3) (v := (2147483647 : Int32)) C X0 at_1 (hw _ (List.mem_of_getElem? (i := 0) rfl)) rfl ?_
  refine g_iand (pc' := 4) C X0 at_3 rfl ?_
  refine g_iconst (pc' := 5) (v := (5 : Int32)) C X0 at_4 rfl rfl ?_
  refine g_irem (pc' := 6) C X0 at_5 (by decide) rfl ?_
  refine g_istoreN (pc' := 7) (Ls' := #[.val (.int p1), .val (.int p2), .val (.int ((p1 &&& (2147483647 : Int32)) % (5 : Int32))), .unset, .unset, .unset]) C X0 at_6 rfl rfl ?_
  refine g_iloadN (pc' := 8) C X0 at_7 rfl rfl ?_
  refine g_iconst (pc' := 9) (v := (1 : Int32)) C X0 at_8 rfl rfl ?_
  refine g_iand (pc' := 10) C X0 at_9 rfl ?_
  by_cases c1 : (p2 &&& (1 : Int32)) = (0 : Int32)
  · refine g_ifY (pc' := 17) C X0 at_10 (teq c1).1 (by decide) (by decide) ?_
    refine g_iconst (pc' := 18) (v := (0 : Int32)) C X0 at_17 rfl rfl ?_
    refine g_istoreN (pc' := 19) (Ls' := #[.val (.int p1), .val (.int p2), .val (.int ((p1 &&& (2147483647 : Int32)) % (5 : Int32))), .val (.int (0 : Int32)), .unset, .unset]) C X0 at_18 rfl rfl ?_
    refine g_iloadN (pc' := 20) C X0 at_19 rfl rfl ?_
    by_cases c2 : ((p1 &&& (2147483647 : Int32)) % (5 : Int32)) = (0 : Int32)
    · refine g_ifN (pc' := 23) C X0 at_20 (teq c2).2 rfl ?_
      refine g_getS (pc' := 26) C X0 at_23 (host := "") (Or.inl (hw _ (List.mem_of_getElem? (i := 1) rfl))) Via.refl e0 S_w_ALL rfl (fun T3 X3 e3 => ?_)
      refine g_astore (pc' := 28) (Ls' := #[.val (.int p1), .val (.int p2), .val (.int ((p1 &&& (2147483647 : Int32)) % (5 : Int32))), .val (.int (0 : Int32)), .val (.ref w_ALL), .unset]) C X3 at_26 rfl rfl rfl ?_
      refine g_iconst (pc' := 29) (v := (1 : Int32)) C X3 at_28 rfl rfl ?_
      refine g_istore (pc' := 31) (Ls' := #[.val (.int p1), .val (.int p2), .val (.int ((p1 &&& (2147483647 : Int32)) % (5 : Int32))), .val (.int (0 : Int32)), .val (.ref w_ALL), .val (.int (1 : Int32))]) C X3 at_29 rfl rfl ?_
      refine g_goto (pc' := 90) C X3 at_31 (by decide) (by decide) ?_
      refine g_aload (pc' := 92) C X3 at_90 rfl rfl rfl ?_
      refine g_iloadN (pc' := 93) C X3 at_92 rfl rfl ?_
      refine g_callV (b := w_ALL) (z := (⟨"com/example/pictor/pictor/DiskCacheStrategy", "usesResource", "(Z)Z"⟩ : MethodName)) (y := (⟨"com/example/pictor/pictor/DiskCacheStrategy", "usesResource", "(Z)Z"⟩ : MethodName)) (argsL := [(.int (0 : Int32))]) (st := []) (pc' := 96) C X3 at_93 (hw _ (List.mem_of_getElem? (i := 4) rfl)) (hw _ (List.mem_of_getElem? (i := 5) rfl)) (notFace_of_selects (args := #[]) (mvT C.hZ (hw _ (List.mem_of_getElem? (i := 7) rfl)))) (hw _ (List.mem_of_getElem? (i := 7) rfl)) (hw _ (List.mem_of_getElem? (i := 6) rfl)) (hw _ (List.mem_of_getElem? (i := 2) rfl)) (hw _ (List.mem_of_getElem? (i := 8) rfl)) (by decide) (rm1 l Z a0 hw [] w_ALL (0 : Int32) w_ALL w_AUTOMATIC w_RESOURCE w_NONE w_DATA h0 n0 hF) (W := 0) (by decide) (by decide) (ce := 0) (sl := 0) rfl rfl (by decide) (by decide) rfl E_w_ALL e3 rfl pd_0 rfl (Nat.le_refl _) rfl (fun v4 T4 L4 X4 Q4 => ?_)
      obtain ⟨q4, Nq4, e4⟩ := Q4
      have N4 := Fr.app N0 Nq4
      rw [F1_l0 w_ALL (0 : Int32) w_ALL w_AUTOMATIC w_RESOURCE (show w_ALL = w_ALL from (rfl : w_ALL = w_ALL))] at q4
      subst q4
      show Go p.tables e below _ (T4.setTop (mkF m 96 #[.val (.int p1), .val (.int p2), .val (.int ((p1 &&& (2147483647 : Int32)) % (5 : Int32))), .val (.int (0 : Int32)), .val (.ref w_ALL), .val (.int (1 : Int32))] [(.int (1 : Int32))]))
      refine g_iload (pc' := 98) C X4 at_96 rfl rfl ?_
      refine g_icmpN (pc' := 101) C X4 at_98 (teq (show (1 : Int32) = (1 : Int32) from (by decide))).2 rfl ?_
      refine g_iconst (pc' := 102) (v := (1 : Int32)) C X4 at_101 rfl rfl ?_
      refine g_goto (pc' := 106) C X4 at_102 (by decide) (by decide) ?_
      exact g_retN C X4 (by simp) at_106 (by decide) (by decide) ⟨rfl, N4⟩
    · refine g_ifY (pc' := 34) C X0 at_20 (feq c2).2 (by decide) (by decide) ?_
      refine g_iloadN (pc' := 35) C X0 at_34 rfl rfl ?_
      refine g_iconst (pc' := 36) (v := (1 : Int32)) C X0 at_35 rfl rfl ?_
      by_cases c5 : ((p1 &&& (2147483647 : Int32)) % (5 : Int32)) = (1 : Int32)
      · refine g_icmpN (pc' := 39) C X0 at_36 (teq c5).2 rfl ?_
        refine g_getS (pc' := 42) C X0 at_39 (host := "") (Or.inl (hw _ (List.mem_of_getElem? (i := 17) rfl))) Via.refl e0 S_w_DATA rfl (fun T6 X6 e6 => ?_)
        refine g_astore (pc' := 44) (Ls' := #[.val (.int p1), .val (.int p2), .val (.int ((p1 &&& (2147483647 : Int32)) % (5 : Int32))), .val (.int (0 : Int32)), .val (.ref w_DATA), .unset]) C X6 at_42 rfl rfl rfl ?_
        refine g_iconst (pc' := 45) (v := (0 : Int32)) C X6 at_44 rfl rfl ?_
        refine g_istore (pc' := 47) (Ls' := #[.val (.int p1), .val (.int p2), .val (.int ((p1 &&& (2147483647 : Int32)) % (5 : Int32))), .val (.int (0 : Int32)), .val (.ref w_DATA), .val (.int (0 : Int32))]) C X6 at_45 rfl rfl ?_
        refine g_goto (pc' := 90) C X6 at_47 (by decide) (by decide) ?_
        refine g_aload (pc' := 92) C X6 at_90 rfl rfl rfl ?_
        refine g_iloadN (pc' := 93) C X6 at_92 rfl rfl ?_
        refine g_callV (b := w_DATA) (z := (⟨"com/example/pictor/pictor/DiskCacheStrategy", "usesResource", "(Z)Z"⟩ : MethodName)) (y := (⟨"com/example/pictor/pictor/DiskCacheStrategy", "usesResource", "(Z)Z"⟩ : MethodName)) (argsL := [(.int (0 : Int32))]) (st := []) (pc' := 96) C X6 at_93 (hw _ (List.mem_of_getElem? (i := 4) rfl)) (hw _ (List.mem_of_getElem? (i := 5) rfl)) (notFace_of_selects (args := #[]) (mvT C.hZ (hw _ (List.mem_of_getElem? (i := 7) rfl)))) (hw _ (List.mem_of_getElem? (i := 7) rfl)) (hw _ (List.mem_of_getElem? (i := 6) rfl)) (hw _ (List.mem_of_getElem? (i := 2) rfl)) (hw _ (List.mem_of_getElem? (i := 8) rfl)) (by decide) (rm1 l Z a0 hw [] w_DATA (0 : Int32) w_ALL w_AUTOMATIC w_RESOURCE w_NONE w_DATA h0 n0 hF) (W := 0) (by decide) (by decide) (ce := 0) (sl := 0) rfl rfl (by decide) (by decide) rfl E_w_DATA e6 rfl pd_0 rfl (Nat.le_refl _) rfl (fun v7 T7 L7 X7 Q7 => ?_)
        obtain ⟨q7, Nq7, e7⟩ := Q7
        have N7 := Fr.app N0 Nq7
        rw [F1_l4 w_DATA (0 : Int32) w_ALL w_AUTOMATIC w_RESOURCE (show ¬ (w_DATA = w_ALL) from (Ne.symm ne_w_ALL_w_DATA)) (show ¬ (w_DATA = w_RESOURCE) from (Ne.symm ne_w_RESOURCE_w_DATA)) (show ¬ (w_DATA = w_AUTOMATIC) from (Ne.symm ne_w_AUTOMATIC_w_DATA))] at q7
        subst q7
        show Go p.tables e below _ (T7.setTop (mkF m 96 #[.val (.int p1), .val (.int p2), .val (.int ((p1 &&& (2147483647 : Int32)) % (5 : Int32))), .val (.int (0 : Int32)), .val (.ref w_DATA), .val (.int (0 : Int32))] [(.int (0 : Int32))]))
        refine g_iload (pc' := 98) C X7 at_96 rfl rfl ?_
        refine g_icmpN (pc' := 101) C X7 at_98 (teq (show (0 : Int32) = (0 : Int32) from (by decide))).2 rfl ?_
        refine g_iconst (pc' := 102) (v := (1 : Int32)) C X7 at_101 rfl rfl ?_
        refine g_goto (pc' := 106) C X7 at_102 (by decide) (by decide) ?_
        exact g_retN C X7 (by simp) at_106 (by decide) (by decide) ⟨rfl, N7⟩
      · refine g_icmpY (pc' := 50) C X0 at_36 (feq c5).2 (by decide) (by decide) ?_
        refine g_iloadN (pc' := 51) C X0 at_50 rfl rfl ?_
        refine g_iconst (pc' := 52) (v := (2 : Int32)) C X0 at_51 rfl rfl ?_
        by_cases c8 : ((p1 &&& (2147483647 : Int32)) % (5 : Int32)) = (2 : Int32)
        · refine g_icmpN (pc' := 55) C X0 at_52 (teq c8).2 rfl ?_
          refine g_getS (pc' := 58) C X0 at_55 (host := "") (Or.inl (hw _ (List.mem_of_getElem? (i := 19) rfl))) Via.refl e0 S_w_RESOURCE rfl (fun T9 X9 e9 => ?_)
          refine g_astore (pc' := 60) (Ls' := #[.val (.int p1), .val (.int p2), .val (.int ((p1 &&& (2147483647 : Int32)) % (5 : Int32))), .val (.int (0 : Int32)), .val (.ref w_RESOURCE), .unset]) C X9 at_58 rfl rfl rfl ?_
          refine g_iconst (pc' := 61) (v := (1 : Int32)) C X9 at_60 rfl rfl ?_
          refine g_istore (pc' := 63) (Ls' := #[.val (.int p1), .val (.int p2), .val (.int ((p1 &&& (2147483647 : Int32)) % (5 : Int32))), .val (.int (0 : Int32)), .val (.ref w_RESOURCE), .val (.int (1 : Int32))]) C X9 at_61 rfl rfl ?_
          refine g_goto (pc' := 90) C X9 at_63 (by decide) (by decide) ?_
          refine g_aload (pc' := 92) C X9 at_90 rfl rfl rfl ?_
          refine g_iloadN (pc' := 93) C X9 at_92 rfl rfl ?_
          refine g_callV (b := w_RESOURCE) (z := (⟨"com/example/pictor/pictor/DiskCacheStrategy", "usesResource", "(Z)Z"⟩ : MethodName)) (y := (⟨"com/example/pictor/pictor/DiskCacheStrategy", "usesResource", "(Z)Z"⟩ : MethodName)) (argsL := [(.int (0 : Int32))]) (st := []) (pc' := 96) C X9 at_93 (hw _ (List.mem_of_getElem? (i := 4) rfl)) (hw _ (List.mem_of_getElem? (i := 5) rfl)) (notFace_of_selects (args := #[]) (mvT C.hZ (hw _ (List.mem_of_getElem? (i := 7) rfl)))) (hw _ (List.mem_of_getElem? (i := 7) rfl)) (hw _ (List.mem_of_getElem? (i := 6) rfl)) (hw _ (List.mem_of_getElem? (i := 2) rfl)) (hw _ (List.mem_of_getElem? (i := 8) rfl)) (by decide) (rm1 l Z a0 hw [] w_RESOURCE (0 : Int32) w_ALL w_AUTOMATIC w_RESOURCE w_NONE w_DATA h0 n0 hF) (W := 0) (by decide) (by decide) (ce := 0) (sl := 0) rfl rfl (by decide) (by decide) rfl E_w_RESOURCE e9 rfl pd_0 rfl (Nat.le_refl _) rfl (fun v10 T10 L10 X10 Q10 => ?_)
          obtain ⟨q10, Nq10, e10⟩ := Q10
          have N10 := Fr.app N0 Nq10
          rw [F1_l1 w_RESOURCE (0 : Int32) w_ALL w_AUTOMATIC w_RESOURCE (show ¬ (w_RESOURCE = w_ALL) from (Ne.symm ne_w_ALL_w_RESOURCE)) (show w_RESOURCE = w_RESOURCE from (rfl : w_RESOURCE = w_RESOURCE))] at q10
          subst q10
          show Go p.tables e below _ (T10.setTop (mkF m 96 #[.val (.int p1), .val (.int p2), .val (.int ((p1 &&& (2147483647 : Int32)) % (5 : Int32))), .val (.int (0 : Int32)), .val (.ref w_RESOURCE), .val (.int (1 : Int32))] [(.int (1 : Int32))]))
          refine g_iload (pc' := 98) C X10 at_96 rfl rfl ?_
          refine g_icmpN (pc' := 101) C X10 at_98 (teq (show (1 : Int32) = (1 : Int32) from (by decide))).2 rfl ?_
          refine g_iconst (pc' := 102) (v := (1 : Int32)) C X10 at_101 rfl rfl ?_
          refine g_goto (pc' := 106) C X10 at_102 (by decide) (by decide) ?_
          exact g_retN C X10 (by simp) at_106 (by decide) (by decide) ⟨rfl, N10⟩
        · refine g_icmpY (pc' := 66) C X0 at_52 (feq c8).2 (by decide) (by decide) ?_
          refine g_iloadN (pc' := 67) C X0 at_66 rfl rfl ?_
          refine g_iconst (pc' := 68) (v := (3 : Int32)) C X0 at_67 rfl rfl ?_
          by_cases c11 : ((p1 &&& (2147483647 : Int32)) % (5 : Int32)) = (3 : Int32)
          · refine g_icmpN (pc' := 71) C X0 at_68 (teq c11).2 rfl ?_
            refine g_getS (pc' := 74) C X0 at_71 (host := "") (Or.inl (hw _ (List.mem_of_getElem? (i := 15) rfl))) Via.refl e0 S_w_NONE rfl (fun T12 X12 e12 => ?_)
            refine g_astore (pc' := 76) (Ls' := #[.val (.int p1), .val (.int p2), .val (.int ((p1 &&& (2147483647 : Int32)) % (5 : Int32))), .val (.int (0 : Int32)), .val (.ref w_NONE), .unset]) C X12 at_74 rfl rfl rfl ?_
            refine g_iconst (pc' := 77) (v := (0 : Int32)) C X12 at_76 rfl rfl ?_
            refine g_istore (pc' := 79) (Ls' := #[.val (.int p1), .val (.int p2), .val (.int ((p1 &&& (2147483647 : Int32)) % (5 : Int32))), .val (.int (0 : Int32)), .val (.ref w_NONE), .val (.int (0 : Int32))]) C X12 at_77 rfl rfl ?_
            refine g_goto (pc' := 90) C X12 at_79 (by decide) (by decide) ?_
            refine g_aload (pc' := 92) C X12 at_90 rfl rfl rfl ?_
            refine g_iloadN (pc' := 93) C X12 at_92 rfl rfl ?_
            refine g_callV (b := w_NONE) (z := (⟨"com/example/pictor/pictor/DiskCacheStrategy", "usesResource", "(Z)Z"⟩ : MethodName)) (y := (⟨"com/example/pictor/pictor/DiskCacheStrategy", "usesResource", "(Z)Z"⟩ : MethodName)) (argsL := [(.int (0 : Int32))]) (st := []) (pc' := 96) C X12 at_93 (hw _ (List.mem_of_getElem? (i := 4) rfl)) (hw _ (List.mem_of_getElem? (i := 5) rfl)) (notFace_of_selects (args := #[]) (mvT C.hZ (hw _ (List.mem_of_getElem? (i := 7) rfl)))) (hw _ (List.mem_of_getElem? (i := 7) rfl)) (hw _ (List.mem_of_getElem? (i := 6) rfl)) (hw _ (List.mem_of_getElem? (i := 2) rfl)) (hw _ (List.mem_of_getElem? (i := 8) rfl)) (by decide) (rm1 l Z a0 hw [] w_NONE (0 : Int32) w_ALL w_AUTOMATIC w_RESOURCE w_NONE w_DATA h0 n0 hF) (W := 0) (by decide) (by decide) (ce := 0) (sl := 0) rfl rfl (by decide) (by decide) rfl E_w_NONE e12 rfl pd_0 rfl (Nat.le_refl _) rfl (fun v13 T13 L13 X13 Q13 => ?_)
            obtain ⟨q13, Nq13, e13⟩ := Q13
            have N13 := Fr.app N0 Nq13
            rw [F1_l4 w_NONE (0 : Int32) w_ALL w_AUTOMATIC w_RESOURCE (show ¬ (w_NONE = w_ALL) from (Ne.symm ne_w_ALL_w_NONE)) (show ¬ (w_NONE = w_RESOURCE) from (Ne.symm ne_w_RESOURCE_w_NONE)) (show ¬ (w_NONE = w_AUTOMATIC) from (Ne.symm ne_w_AUTOMATIC_w_NONE))] at q13
            subst q13
            show Go p.tables e below _ (T13.setTop (mkF m 96 #[.val (.int p1), .val (.int p2), .val (.int ((p1 &&& (2147483647 : Int32)) % (5 : Int32))), .val (.int (0 : Int32)), .val (.ref w_NONE), .val (.int (0 : Int32))] [(.int (0 : Int32))]))
            refine g_iload (pc' := 98) C X13 at_96 rfl rfl ?_
            refine g_icmpN (pc' := 101) C X13 at_98 (teq (show (0 : Int32) = (0 : Int32) from (by decide))).2 rfl ?_
            refine g_iconst (pc' := 102) (v := (1 : Int32)) C X13 at_101 rfl rfl ?_
            refine g_goto (pc' := 106) C X13 at_102 (by decide) (by decide) ?_
            exact g_retN C X13 (by simp) at_106 (by decide) (by decide) ⟨rfl, N13⟩
          · refine g_icmpY (pc' := 82) C X0 at_68 (feq c11).2 (by decide) (by decide) ?_
            refine g_getS (pc' := 85) C X0 at_82 (host := "") (Or.inl (hw _ (List.mem_of_getElem? (i := 10) rfl))) Via.refl e0 S_w_AUTOMATIC rfl (fun T14 X14 e14 => ?_)
            refine g_astore (pc' := 87) (Ls' := #[.val (.int p1), .val (.int p2), .val (.int ((p1 &&& (2147483647 : Int32)) % (5 : Int32))), .val (.int (0 : Int32)), .val (.ref w_AUTOMATIC), .unset]) C X14 at_85 rfl rfl rfl ?_
            refine g_iloadN (pc' := 88) C X14 at_87 rfl rfl ?_
            refine g_istore (pc' := 90) (Ls' := #[.val (.int p1), .val (.int p2), .val (.int ((p1 &&& (2147483647 : Int32)) % (5 : Int32))), .val (.int (0 : Int32)), .val (.ref w_AUTOMATIC), .val (.int (0 : Int32))]) C X14 at_88 rfl rfl ?_
            refine g_aload (pc' := 92) C X14 at_90 rfl rfl rfl ?_
            refine g_iloadN (pc' := 93) C X14 at_92 rfl rfl ?_
            refine g_callV (b := w_AUTOMATIC) (z := (⟨"com/example/pictor/pictor/DiskCacheStrategy", "usesResource", "(Z)Z"⟩ : MethodName)) (y := (⟨"com/example/pictor/pictor/DiskCacheStrategy", "usesResource", "(Z)Z"⟩ : MethodName)) (argsL := [(.int (0 : Int32))]) (st := []) (pc' := 96) C X14 at_93 (hw _ (List.mem_of_getElem? (i := 4) rfl)) (hw _ (List.mem_of_getElem? (i := 5) rfl)) (notFace_of_selects (args := #[]) (mvT C.hZ (hw _ (List.mem_of_getElem? (i := 7) rfl)))) (hw _ (List.mem_of_getElem? (i := 7) rfl)) (hw _ (List.mem_of_getElem? (i := 6) rfl)) (hw _ (List.mem_of_getElem? (i := 2) rfl)) (hw _ (List.mem_of_getElem? (i := 8) rfl)) (by decide) (rm1 l Z a0 hw [] w_AUTOMATIC (0 : Int32) w_ALL w_AUTOMATIC w_RESOURCE w_NONE w_DATA h0 n0 hF) (W := 0) (by decide) (by decide) (ce := 0) (sl := 0) rfl rfl (by decide) (by decide) rfl E_w_AUTOMATIC e14 rfl pd_0 rfl (Nat.le_refl _) rfl (fun v15 T15 L15 X15 Q15 => ?_)
            obtain ⟨q15, Nq15, e15⟩ := Q15
            have N15 := Fr.app N0 Nq15
            rw [F1_l2 w_AUTOMATIC (0 : Int32) w_ALL w_AUTOMATIC w_RESOURCE ne_w_AUTOMATIC_w_ALL ne_w_AUTOMATIC_w_RESOURCE (show w_AUTOMATIC = w_AUTOMATIC from (rfl : w_AUTOMATIC = w_AUTOMATIC)) (show (0 : Int32) = (0 : Int32) from (by decide))] at q15
            subst q15
            show Go p.tables e below _ (T15.setTop (mkF m 96 #[.val (.int p1), .val (.int p2), .val (.int ((p1 &&& (2147483647 : Int32)) % (5 : Int32))), .val (.int (0 : Int32)), .val (.ref w_AUTOMATIC), .val (.int (0 : Int32))] [(.int (0 : Int32))]))
            refine g_iload (pc' := 98) C X15 at_96 rfl rfl ?_
            refine g_icmpN (pc' := 101) C X15 at_98 (teq (show (0 : Int32) = (0 : Int32) from (by decide))).2 rfl ?_
            refine g_iconst (pc' := 102) (v := (1 : Int32)) C X15 at_101 rfl rfl ?_
            refine g_goto (pc' := 106) C X15 at_102 (by decide) (by decide) ?_
            exact g_retN C X15 (by simp) at_106 (by decide) (by decide) ⟨rfl, N15⟩
  · refine g_ifN (pc' := 13) C X0 at_10 (feq c1).1 rfl ?_
    refine g_iconst (pc' := 14) (v := (1 : Int32)) C X0 at_13 rfl rfl ?_
    refine g_goto (pc' := 18) C X0 at_14 (by decide) (by decide) ?_
    refine g_istoreN (pc' := 19) (Ls' := #[.val (.int p1), .val (.int p2), .val (.int ((p1 &&& (2147483647 : Int32)) % (5 : Int32))), .val (.int (1 : Int32)), .unset, .unset]) C X0 at_18 rfl rfl ?_
    refine g_iloadN (pc' := 20) C X0 at_19 rfl rfl ?_
    by_cases c16 : ((p1 &&& (2147483647 : Int32)) % (5 : Int32)) = (0 : Int32)
    · refine g_ifN (pc' := 23) C X0 at_20 (teq c16).2 rfl ?_
      refine g_getS (pc' := 26) C X0 at_23 (host := "") (Or.inl (hw _ (List.mem_of_getElem? (i := 1) rfl))) Via.refl e0 S_w_ALL rfl (fun T17 X17 e17 => ?_)
      refine g_astore (pc' := 28) (Ls' := #[.val (.int p1), .val (.int p2), .val (.int ((p1 &&& (2147483647 : Int32)) % (5 : Int32))), .val (.int (1 : Int32)), .val (.ref w_ALL), .unset]) C X17 at_26 rfl rfl rfl ?_
      refine g_iconst (pc' := 29) (v := (1 : Int32)) C X17 at_28 rfl rfl ?_
      refine g_istore (pc' := 31) (Ls' := #[.val (.int p1), .val (.int p2), .val (.int ((p1 &&& (2147483647 : Int32)) % (5 : Int32))), .val (.int (1 : Int32)), .val (.ref w_ALL), .val (.int (1 : Int32))]) C X17 at_29 rfl rfl ?_
      refine g_goto (pc' := 90) C X17 at_31 (by decide) (by decide) ?_
      refine g_aload (pc' := 92) C X17 at_90 rfl rfl rfl ?_
      refine g_iloadN (pc' := 93) C X17 at_92 rfl rfl ?_
      refine g_callV (b := w_ALL) (z := (⟨"com/example/pictor/pictor/DiskCacheStrategy", "usesResource", "(Z)Z"⟩ : MethodName)) (y := (⟨"com/example/pictor/pictor/DiskCacheStrategy", "usesResource", "(Z)Z"⟩ : MethodName)) (argsL := [(.int (1 : Int32))]) (st := []) (pc' := 96) C X17 at_93 (hw _ (List.mem_of_getElem? (i := 4) rfl)) (hw _ (List.mem_of_getElem? (i := 5) rfl)) (notFace_of_selects (args := #[]) (mvT C.hZ (hw _ (List.mem_of_getElem? (i := 7) rfl)))) (hw _ (List.mem_of_getElem? (i := 7) rfl)) (hw _ (List.mem_of_getElem? (i := 6) rfl)) (hw _ (List.mem_of_getElem? (i := 2) rfl)) (hw _ (List.mem_of_getElem? (i := 8) rfl)) (by decide) (rm1 l Z a0 hw [] w_ALL (1 : Int32) w_ALL w_AUTOMATIC w_RESOURCE w_NONE w_DATA h0 n0 hF) (W := 0) (by decide) (by decide) (ce := 0) (sl := 0) rfl rfl (by decide) (by decide) rfl E_w_ALL e17 rfl pd_0 rfl (Nat.le_refl _) rfl (fun v18 T18 L18 X18 Q18 => ?_)
      obtain ⟨q18, Nq18, e18⟩ := Q18
      have N18 := Fr.app N0 Nq18
      rw [F1_l0 w_ALL (1 : Int32) w_ALL w_AUTOMATIC w_RESOURCE (show w_ALL = w_ALL from (rfl : w_ALL = w_ALL))] at q18
      subst q18
      show Go p.tables e below _ (T18.setTop (mkF m 96 #[.val (.int p1), .val (.int p2), .val (.int ((p1 &&& (2147483647 : Int32)) % (5 : Int32))), .val (.int (1 : Int32)), .val (.ref w_ALL), .val (.int (1 : Int32))] [(.int (1 : Int32))]))
      refine g_iload (pc' := 98) C X18 at_96 rfl rfl ?_
      refine g_icmpN (pc' := 101) C X18 at_98 (teq (show (1 : Int32) = (1 : Int32) from (by decide))).2 rfl ?_
      refine g_iconst (pc' := 102) (v := (1 : Int32)) C X18 at_101 rfl rfl ?_
      refine g_goto (pc' := 106) C X18 at_102 (by decide) (by decide) ?_
      exact g_retN C X18 (by simp) at_106 (by decide) (by decide) ⟨rfl, N18⟩
    · refine g_ifY (pc' := 34) C X0 at_20 (feq c16).2 (by decide) (by decide) ?_
      refine g_iloadN (pc' := 35) C X0 at_34 rfl rfl ?_
      refine g_iconst (pc' := 36) (v := (1 : Int32)) C X0 at_35 rfl rfl ?_
      by_cases c19 : ((p1 &&& (2147483647 : Int32)) % (5 : Int32)) = (1 : Int32)
      · refine g_icmpN (pc' := 39) C X0 at_36 (teq c19).2 rfl ?_
        refine g_getS (pc' := 42) C X0 at_39 (host := "") (Or.inl (hw _ (List.mem_of_getElem? (i := 17) rfl))) Via.refl e0 S_w_DATA rfl (fun T20 X20 e20 => ?_)
        refine g_astore (pc' := 44) (Ls' := #[.val (.int p1), .val (.int p2), .val (.int ((p1 &&& (2147483647 : Int32)) % (5 : Int32))), .val (.int (1 : Int32)), .val (.ref w_DATA), .unset]) C X20 at_42 rfl rfl rfl ?_
        refine g_iconst (pc' := 45) (v := (0 : Int32)) C X20 at_44 rfl rfl ?_
        refine g_istore (pc' := 47) (Ls' := #[.val (.int p1), .val (.int p2), .val (.int ((p1 &&& (2147483647 : Int32)) % (5 : Int32))), .val (.int (1 : Int32)), .val (.ref w_DATA), .val (.int (0 : Int32))]) C X20 at_45 rfl rfl ?_
        refine g_goto (pc' := 90) C X20 at_47 (by decide) (by decide) ?_
        refine g_aload (pc' := 92) C X20 at_90 rfl rfl rfl ?_
        refine g_iloadN (pc' := 93) C X20 at_92 rfl rfl ?_
        refine g_callV (b := w_DATA) (z := (⟨"com/example/pictor/pictor/DiskCacheStrategy", "usesResource", "(Z)Z"⟩ : MethodName)) (y := (⟨"com/example/pictor/pictor/DiskCacheStrategy", "usesResource", "(Z)Z"⟩ : MethodName)) (argsL := [(.int (1 : Int32))]) (st := []) (pc' := 96) C X20 at_93 (hw _ (List.mem_of_getElem? (i := 4) rfl)) (hw _ (List.mem_of_getElem? (i := 5) rfl)) (notFace_of_selects (args := #[]) (mvT C.hZ (hw _ (List.mem_of_getElem? (i := 7) rfl)))) (hw _ (List.mem_of_getElem? (i := 7) rfl)) (hw _ (List.mem_of_getElem? (i := 6) rfl)) (hw _ (List.mem_of_getElem? (i := 2) rfl)) (hw _ (List.mem_of_getElem? (i := 8) rfl)) (by decide) (rm1 l Z a0 hw [] w_DATA (1 : Int32) w_ALL w_AUTOMATIC w_RESOURCE w_NONE w_DATA h0 n0 hF) (W := 0) (by decide) (by decide) (ce := 0) (sl := 0) rfl rfl (by decide) (by decide) rfl E_w_DATA e20 rfl pd_0 rfl (Nat.le_refl _) rfl (fun v21 T21 L21 X21 Q21 => ?_)
        obtain ⟨q21, Nq21, e21⟩ := Q21
        have N21 := Fr.app N0 Nq21
        rw [F1_l4 w_DATA (1 : Int32) w_ALL w_AUTOMATIC w_RESOURCE (show ¬ (w_DATA = w_ALL) from (Ne.symm ne_w_ALL_w_DATA)) (show ¬ (w_DATA = w_RESOURCE) from (Ne.symm ne_w_RESOURCE_w_DATA)) (show ¬ (w_DATA = w_AUTOMATIC) from (Ne.symm ne_w_AUTOMATIC_w_DATA))] at q21
        subst q21
        show Go p.tables e below _ (T21.setTop (mkF m 96 #[.val (.int p1), .val (.int p2), .val (.int ((p1 &&& (2147483647 : Int32)) % (5 : Int32))), .val (.int (1 : Int32)), .val (.ref w_DATA), .val (.int (0 : Int32))] [(.int (0 : Int32))]))
        refine g_iload (pc' := 98) C X21 at_96 rfl rfl ?_
        refine g_icmpN (pc' := 101) C X21 at_98 (teq (show (0 : Int32) = (0 : Int32) from (by decide))).2 rfl ?_
        refine g_iconst (pc' := 102) (v := (1 : Int32)) C X21 at_101 rfl rfl ?_
        refine g_goto (pc' := 106) C X21 at_102 (by decide) (by decide) ?_
        exact g_retN C X21 (by simp) at_106 (by decide) (by decide) ⟨rfl, N21⟩
      · refine g_icmpY (pc' := 50) C X0 at_36 (feq c19).2 (by decide) (by decide) ?_
        refine g_iloadN (pc' := 51) C X0 at_50 rfl rfl ?_
        refine g_iconst (pc' := 52) (v := (2 : Int32)) C X0 at_51 rfl rfl ?_
        by_cases c22 : ((p1 &&& (2147483647 : Int32)) % (5 : Int32)) = (2 : Int32)
        · refine g_icmpN (pc' := 55) C X0 at_52 (teq c22).2 rfl ?_
          refine g_getS (pc' := 58) C X0 at_55 (host := "") (Or.inl (hw _ (List.mem_of_getElem? (i := 19) rfl))) Via.refl e0 S_w_RESOURCE rfl (fun T23 X23 e23 => ?_)
          refine g_astore (pc' := 60) (Ls' := #[.val (.int p1), .val (.int p2), .val (.int ((p1 &&& (2147483647 : Int32)) % (5 : Int32))), .val (.int (1 : Int32)), .val (.ref w_RESOURCE), .unset]) C X23 at_58 rfl rfl rfl ?_
          refine g_iconst (pc' := 61) (v := (1 : Int32)) C X23 at_60 rfl rfl ?_
          refine g_istore (pc' := 63) (Ls' := #[.val (.int p1), .val (.int p2), .val (.int ((p1 &&& (2147483647 : Int32)) % (5 : Int32))), .val (.int (1 : Int32)), .val (.ref w_RESOURCE), .val (.int (1 : Int32))]) C X23 at_61 rfl rfl ?_
          refine g_goto (pc' := 90) C X23 at_63 (by decide) (by decide) ?_
          refine g_aload (pc' := 92) C X23 at_90 rfl rfl rfl ?_
          refine g_iloadN (pc' := 93) C X23 at_92 rfl rfl ?_
          refine g_callV (b := w_RESOURCE) (z := (⟨"com/example/pictor/pictor/DiskCacheStrategy", "usesResource", "(Z)Z"⟩ : MethodName)) (y := (⟨"com/example/pictor/pictor/DiskCacheStrategy", "usesResource", "(Z)Z"⟩ : MethodName)) (argsL := [(.int (1 : Int32))]) (st := []) (pc' := 96) C X23 at_93 (hw _ (List.mem_of_getElem? (i := 4) rfl)) (hw _ (List.mem_of_getElem? (i := 5) rfl)) (notFace_of_selects (args := #[]) (mvT C.hZ (hw _ (List.mem_of_getElem? (i := 7) rfl)))) (hw _ (List.mem_of_getElem? (i := 7) rfl)) (hw _ (List.mem_of_getElem? (i := 6) rfl)) (hw _ (List.mem_of_getElem? (i := 2) rfl)) (hw _ (List.mem_of_getElem? (i := 8) rfl)) (by decide) (rm1 l Z a0 hw [] w_RESOURCE (1 : Int32) w_ALL w_AUTOMATIC w_RESOURCE w_NONE w_DATA h0 n0 hF) (W := 0) (by decide) (by decide) (ce := 0) (sl := 0) rfl rfl (by decide) (by decide) rfl E_w_RESOURCE e23 rfl pd_0 rfl (Nat.le_refl _) rfl (fun v24 T24 L24 X24 Q24 => ?_)
          obtain ⟨q24, Nq24, e24⟩ := Q24
          have N24 := Fr.app N0 Nq24
          rw [F1_l1 w_RESOURCE (1 : Int32) w_ALL w_AUTOMATIC w_RESOURCE (show ¬ (w_RESOURCE = w_ALL) from (Ne.symm ne_w_ALL_w_RESOURCE)) (show w_RESOURCE = w_RESOURCE from (rfl : w_RESOURCE = w_RESOURCE))] at q24
          subst q24
          show Go p.tables e below _ (T24.setTop (mkF m 96 #[.val (.int p1), .val (.int p2), .val (.int ((p1 &&& (2147483647 : Int32)) % (5 : Int32))), .val (.int (1 : Int32)), .val (.ref w_RESOURCE), .val (.int (1 : Int32))] [(.int (1 : Int32))]))
          refine g_iload (pc' := 98) C X24 at_96 rfl rfl ?_
          refine g_icmpN (pc' := 101) C X24 at_98 (teq (show (1 : Int32) = (1 : Int32) from (by decide))).2 rfl ?_
          refine g_iconst (pc' := 102) (v := (1 : Int32)) C X24 at_101 rfl rfl ?_
          refine g_goto (pc' := 106) C X24 at_102 (by decide) (by decide) ?_
          exact g_retN C X24 (by simp) at_106 (by decide) (by decide) ⟨rfl, N24⟩
        · refine g_icmpY (pc' := 66) C X0 at_52 (feq c22).2 (by decide) (by decide) ?_
          refine g_iloadN (pc' := 67) C X0 at_66 rfl rfl ?_
          refine g_iconst (pc' := 68) (v := (3 : Int32)) C X0 at_67 rfl rfl ?_
          by_cases c25 : ((p1 &&& (2147483647 : Int32)) % (5 : Int32)) = (3 : Int32)
          · refine g_icmpN (pc' := 71) C X0 at_68 (teq c25).2 rfl ?_
            refine g_getS (pc' := 74) C X0 at_71 (host := "") (Or.inl (hw _ (List.mem_of_getElem? (i := 15) rfl))) Via.refl e0 S_w_NONE rfl (fun T26 X26 e26 => ?_)
            refine g_astore (pc' := 76) (Ls' := #[.val (.int p1), .val (.int p2), .val (.int ((p1 &&& (2147483647 : Int32)) % (5 : Int32))), .val (.int (1 : Int32)), .val (.ref w_NONE), .unset]) C X26 at_74 rfl rfl rfl ?_
            refine g_iconst (pc' := 77) (v := (0 : Int32)) C X26 at_76 rfl rfl ?_
            refine g_istore (pc' := 79) (Ls' := #[.val (.int p1), .val (.int p2), .val (.int ((p1 &&& (2147483647 : Int32)) % (5 : Int32))), .val (.int (1 : Int32)), .val (.ref w_NONE), .val (.int (0 : Int32))]) C X26 at_77 rfl rfl ?_
            refine g_goto (pc' := 90) C X26 at_79 (by decide) (by decide) ?_
            refine g_aload (pc' := 92) C X26 at_90 rfl rfl rfl ?_
            refine g_iloadN (pc' := 93) C X26 at_92 rfl rfl ?_
            refine g_callV (b := w_NONE) (z := (⟨"com/example/pictor/pictor/DiskCacheStrategy", "usesResource", "(Z)Z"⟩ : MethodName)) (y := (⟨"com/example/pictor/pictor/DiskCacheStrategy", "usesResource", "(Z)Z"⟩ : MethodName)) (argsL := [(.int (1 : Int32))]) (st := []) (pc' := 96) C X26 at_93 (hw _ (List.mem_of_getElem? (i := 4) rfl)) (hw _ (List.mem_of_getElem? (i := 5) rfl)) (notFace_of_selects (args := #[]) (mvT C.hZ (hw _ (List.mem_of_getElem? (i := 7) rfl)))) (hw _ (List.mem_of_getElem? (i := 7) rfl)) (hw _ (List.mem_of_getElem? (i := 6) rfl)) (hw _ (List.mem_of_getElem? (i := 2) rfl)) (hw _ (List.mem_of_getElem? (i := 8) rfl)) (by decide) (rm1 l Z a0 hw [] w_NONE (1 : Int32) w_ALL w_AUTOMATIC w_RESOURCE w_NONE w_DATA h0 n0 hF) (W := 0) (by decide) (by decide) (ce := 0) (sl := 0) rfl rfl (by decide) (by decide) rfl E_w_NONE e26 rfl pd_0 rfl (Nat.le_refl _) rfl (fun v27 T27 L27 X27 Q27 => ?_)
            obtain ⟨q27, Nq27, e27⟩ := Q27
            have N27 := Fr.app N0 Nq27
            rw [F1_l4 w_NONE (1 : Int32) w_ALL w_AUTOMATIC w_RESOURCE (show ¬ (w_NONE = w_ALL) from (Ne.symm ne_w_ALL_w_NONE)) (show ¬ (w_NONE = w_RESOURCE) from (Ne.symm ne_w_RESOURCE_w_NONE)) (show ¬ (w_NONE = w_AUTOMATIC) from (Ne.symm ne_w_AUTOMATIC_w_NONE))] at q27
            subst q27
            show Go p.tables e below _ (T27.setTop (mkF m 96 #[.val (.int p1), .val (.int p2), .val (.int ((p1 &&& (2147483647 : Int32)) % (5 : Int32))), .val (.int (1 : Int32)), .val (.ref w_NONE), .val (.int (0 : Int32))] [(.int (0 : Int32))]))
            refine g_iload (pc' := 98) C X27 at_96 rfl rfl ?_
            refine g_icmpN (pc' := 101) C X27 at_98 (teq (show (0 : Int32) = (0 : Int32) from (by decide))).2 rfl ?_
            refine g_iconst (pc' := 102) (v := (1 : Int32)) C X27 at_101 rfl rfl ?_
            refine g_goto (pc' := 106) C X27 at_102 (by decide) (by decide) ?_
            exact g_retN C X27 (by simp) at_106 (by decide) (by decide) ⟨rfl, N27⟩
          · refine g_icmpY (pc' := 82) C X0 at_68 (feq c25).2 (by decide) (by decide) ?_
            refine g_getS (pc' := 85) C X0 at_82 (host := "") (Or.inl (hw _ (List.mem_of_getElem? (i := 10) rfl))) Via.refl e0 S_w_AUTOMATIC rfl (fun T28 X28 e28 => ?_)
            refine g_astore (pc' := 87) (Ls' := #[.val (.int p1), .val (.int p2), .val (.int ((p1 &&& (2147483647 : Int32)) % (5 : Int32))), .val (.int (1 : Int32)), .val (.ref w_AUTOMATIC), .unset]) C X28 at_85 rfl rfl rfl ?_
            refine g_iloadN (pc' := 88) C X28 at_87 rfl rfl ?_
            refine g_istore (pc' := 90) (Ls' := #[.val (.int p1), .val (.int p2), .val (.int ((p1 &&& (2147483647 : Int32)) % (5 : Int32))), .val (.int (1 : Int32)), .val (.ref w_AUTOMATIC), .val (.int (1 : Int32))]) C X28 at_88 rfl rfl ?_
            refine g_aload (pc' := 92) C X28 at_90 rfl rfl rfl ?_
            refine g_iloadN (pc' := 93) C X28 at_92 rfl rfl ?_
            refine g_callV (b := w_AUTOMATIC) (z := (⟨"com/example/pictor/pictor/DiskCacheStrategy", "usesResource", "(Z)Z"⟩ : MethodName)) (y := (⟨"com/example/pictor/pictor/DiskCacheStrategy", "usesResource", "(Z)Z"⟩ : MethodName)) (argsL := [(.int (1 : Int32))]) (st := []) (pc' := 96) C X28 at_93 (hw _ (List.mem_of_getElem? (i := 4) rfl)) (hw _ (List.mem_of_getElem? (i := 5) rfl)) (notFace_of_selects (args := #[]) (mvT C.hZ (hw _ (List.mem_of_getElem? (i := 7) rfl)))) (hw _ (List.mem_of_getElem? (i := 7) rfl)) (hw _ (List.mem_of_getElem? (i := 6) rfl)) (hw _ (List.mem_of_getElem? (i := 2) rfl)) (hw _ (List.mem_of_getElem? (i := 8) rfl)) (by decide) (rm1 l Z a0 hw [] w_AUTOMATIC (1 : Int32) w_ALL w_AUTOMATIC w_RESOURCE w_NONE w_DATA h0 n0 hF) (W := 0) (by decide) (by decide) (ce := 0) (sl := 0) rfl rfl (by decide) (by decide) rfl E_w_AUTOMATIC e28 rfl pd_0 rfl (Nat.le_refl _) rfl (fun v29 T29 L29 X29 Q29 => ?_)
            obtain ⟨q29, Nq29, e29⟩ := Q29
            have N29 := Fr.app N0 Nq29
            rw [F1_l3 w_AUTOMATIC (1 : Int32) w_ALL w_AUTOMATIC w_RESOURCE ne_w_AUTOMATIC_w_ALL ne_w_AUTOMATIC_w_RESOURCE (show w_AUTOMATIC = w_AUTOMATIC from (rfl : w_AUTOMATIC = w_AUTOMATIC)) (show ¬ ((1 : Int32) = (0 : Int32)) from (by decide))] at q29
            subst q29
            show Go p.tables e below _ (T29.setTop (mkF m 96 #[.val (.int p1), .val (.int p2), .val (.int ((p1 &&& (2147483647 : Int32)) % (5 : Int32))), .val (.int (1 : Int32)), .val (.ref w_AUTOMATIC), .val (.int (1 : Int32))] [(.int (1 : Int32))]))
            refine g_iload (pc' := 98) C X29 at_96 rfl rfl ?_
            refine g_icmpN (pc' := 101) C X29 at_98 (teq (show (1 : Int32) = (1 : Int32) from (by decide))).2 rfl ?_
            refine g_iconst (pc' := 102) (v := (1 : Int32)) C X29 at_101 rfl rfl ?_
            refine g_goto (pc' := 106) C X29 at_102 (by decide) (by decide) ?_
            exact g_retN C X29 (by simp) at_106 (by decide) (by decide) ⟨rfl, N29⟩
set_option maxRecDepth 65536 in
set_option maxHeartbeats 40000000 in
theorem comes_1 {Post : Tables → Env → Array Value → State → Outcome → State → Prop} (hpost : ∀ tb e args s v u, (limb_1_1.after args s (.returned v) u = true ∧ limb_1_2.after args s (.returned v) u = true ∧ True) → FrameEnd s (.returned v) u (Jvm.fieldLocs frame_1_writes args s ++ Jvm.arrayLocs frame_1_arrays args s ++ Jvm.staticLocs frame_1_statics s) 0 0 → Post tb e args s (.returned v) u) :
    ArmFor flags0 classFile x code maxLocals ret World_1 tables_1 room_1 Calls_1 rest_1 Pre_1 Post := by
  intro l hfl _ _ p e ha hc hk s m args below hf hA hF happ hP
  obtain ⟨hcalls, hrest, hpre⟩ := hP
  obtain ⟨-, -, -, hnamed, -, -, -, hat⟩ := (Spec.applies_iff hf).mp happ
  obtain ⟨hg, hnr⟩ := and_e (Cond.before_iff.mp (show (Jvm.Cond.and given_1 narrow_1).before args s = true from hpre))
  obtain ⟨gg1, gg2⟩ := and_e hg
  obtain ⟨gg3, gg4⟩ := and_e gg2
  obtain ⟨w0, w1, rfl⟩ : ∃ w0 w1 : Value, args = #[w0, w1] := by
    have hs : args.size = 2 := by simpa [Cond.value, given_1] using gg1
    obtain ⟨L⟩ := args
    match L, hs with
    | [w0, w1], _ => exact ⟨w0, w1, rfl⟩
  have hw := fun d (hd : d ∈ tables_1) => atoms_spec (ws := Jvm.Cond.code x code maxLocals ret :: tables_1) hat d (List.mem_cons_of_mem _ hd)
  have hfit : Fit s := fun {y c} hc i hi => by
    obtain ⟨ha, rfl⟩ := Array.getElem?_eq_some_iff.mp hc
    have q := List.all_eq_true.mp ((Array.all_eq_true_iff_forall_mem.mp hF) _ (Array.getElem_mem ha)) i (List.mem_range.mpr hi)
    simpa [Array.getElem?_eq_getElem hi] using q
  obtain ⟨i0, ei0⟩ := is_v gg3
  obtain rfl : w0 = (.int i0) := Option.some.inj ei0
  obtain ⟨i1, ei1⟩ := is_v gg4
  obtain rfl : w1 = (.int i1) := Option.some.inj ei1
  obtain ⟨hn0, hnr0⟩ := and_e hnr
  obtain ⟨hn1, hnr1⟩ := and_e hnr0
  obtain ⟨hn2, hnr2⟩ := and_e hnr1
  obtain ⟨hn3, hnr3⟩ := and_e hnr2
  obtain ⟨hn4, hnr4⟩ := and_e hnr3
  obtain ⟨hn5, hnr5⟩ := and_e hnr4
  obtain ⟨hn6, hnr6⟩ := and_e hnr5
  obtain ⟨hn7, hnr7⟩ := and_e hnr6
  obtain ⟨hn8, hn9⟩ := and_e hnr7
  obtain ⟨w_ALL, ev_w_ALL⟩ := exa_v hn0
  have S_w_ALL := Sta.start ev_w_ALL (Or.inr ⟨(hw _ (List.mem_of_getElem? (i := 2) rfl)), (hw _ (List.mem_of_getElem? (i := 3) rfl))⟩)
  obtain ⟨w_AUTOMATIC, ev_w_AUTOMATIC⟩ := exa_v hn1
  have S_w_AUTOMATIC := Sta.start ev_w_AUTOMATIC (Or.inr ⟨(hw _ (List.mem_of_getElem? (i := 2) rfl)), (hw _ (List.mem_of_getElem? (i := 11) rfl))⟩)
  obtain ⟨w_RESOURCE, ev_w_RESOURCE⟩ := exa_v hn4
  have S_w_RESOURCE := Sta.start ev_w_RESOURCE (Or.inr ⟨(hw _ (List.mem_of_getElem? (i := 2) rfl)), (hw _ (List.mem_of_getElem? (i := 13) rfl))⟩)
  obtain ⟨w_NONE, ev_w_NONE⟩ := exa_v hn6
  have S_w_NONE := Sta.start ev_w_NONE (Or.inr ⟨(hw _ (List.mem_of_getElem? (i := 2) rfl)), (hw _ (List.mem_of_getElem? (i := 16) rfl))⟩)
  obtain ⟨w_DATA, ev_w_DATA⟩ := exa_v hn8
  have S_w_DATA := Sta.start ev_w_DATA (Or.inr ⟨(hw _ (List.mem_of_getElem? (i := 2) rfl)), (hw _ (List.mem_of_getElem? (i := 18) rfl))⟩)
  have E_w_ALL := Exa.start ev_w_ALL hn0
  have E_w_AUTOMATIC := Exa.start ev_w_AUTOMATIC hn1
  have F_ordinal_w_AUTOMATIC := own_fld ev_w_AUTOMATIC (own_eqi hn2)
  have F_ordinal_w_ALL := own_fld ev_w_ALL (own_eqi hn3)
  have E_w_RESOURCE := Exa.start ev_w_RESOURCE hn4
  have F_ordinal_w_RESOURCE := own_fld ev_w_RESOURCE (own_eqi hn5)
  have E_w_NONE := Exa.start ev_w_NONE hn6
  have F_ordinal_w_NONE := own_fld ev_w_NONE (own_eqi hn7)
  have E_w_DATA := Exa.start ev_w_DATA hn8
  have F_ordinal_w_DATA := own_fld ev_w_DATA (own_eqi hn9)
  have ne_w_AUTOMATIC_w_ALL : ¬ (w_AUTOMATIC = w_ALL) := Fld.ne F_ordinal_w_AUTOMATIC F_ordinal_w_ALL (by decide)
  have ne_w_AUTOMATIC_w_RESOURCE : ¬ (w_AUTOMATIC = w_RESOURCE) := Fld.ne F_ordinal_w_AUTOMATIC F_ordinal_w_RESOURCE (by decide)
  have ne_w_AUTOMATIC_w_NONE : ¬ (w_AUTOMATIC = w_NONE) := Fld.ne F_ordinal_w_AUTOMATIC F_ordinal_w_NONE (by decide)
  have ne_w_AUTOMATIC_w_DATA : ¬ (w_AUTOMATIC = w_DATA) := Fld.ne F_ordinal_w_AUTOMATIC F_ordinal_w_DATA (by decide)
  have ne_w_ALL_w_RESOURCE : ¬ (w_ALL = w_RESOURCE) := Fld.ne F_ordinal_w_ALL F_ordinal_w_RESOURCE (by decide)
  have ne_w_ALL_w_NONE : ¬ (w_ALL = w_NONE) := Fld.ne F_ordinal_w_ALL F_ordinal_w_NONE (by decide)
  have ne_w_ALL_w_DATA : ¬ (w_ALL = w_DATA) := Fld.ne F_ordinal_w_ALL F_ordinal_w_DATA (by decide)
  have ne_w_RESOURCE_w_NONE : ¬ (w_RESOURCE = w_NONE) := Fld.ne F_ordinal_w_RESOURCE F_ordinal_w_NONE (by decide)
  have ne_w_RESOURCE_w_DATA : ¬ (w_RESOURCE = w_DATA) := Fld.ne F_ordinal_w_RESOURCE F_ordinal_w_DATA (by decide)
  have ne_w_NONE_w_DATA : ¬ (w_NONE = w_DATA) := Fld.ne F_ordinal_w_NONE F_ordinal_w_DATA (by decide)
  have hFX : FX s s.heap w_ALL w_AUTOMATIC w_RESOURCE w_NONE w_DATA := ⟨S_w_ALL, S_w_AUTOMATIC, S_w_RESOURCE, S_w_NONE, S_w_DATA, E_w_ALL, E_w_AUTOMATIC, F_ordinal_w_AUTOMATIC, F_ordinal_w_ALL, E_w_RESOURCE, F_ordinal_w_RESOURCE, E_w_NONE, F_ordinal_w_NONE, E_w_DATA, F_ordinal_w_DATA⟩
  obtain ⟨n, o, h1, h2, h3, _, L, rfl, ⟨hv, N⟩, hq⟩ := rm0 l s _ hw tables_1 i0 i1 w_ALL w_AUTOMATIC w_RESOURCE w_NONE w_DATA s.heap s.heap.size hFX ne_w_AUTOMATIC_w_ALL ne_w_AUTOMATIC_w_RESOURCE ne_w_AUTOMATIC_w_NONE ne_w_AUTOMATIC_w_DATA ne_w_ALL_w_RESOURCE ne_w_ALL_w_NONE ne_w_ALL_w_DATA ne_w_RESOURCE_w_NONE ne_w_RESOURCE_w_DATA ne_w_NONE_w_DATA p e ha hc hk s m _ below hf ((Spec.applies_iff_loose hf).mp happ).1 ⟨rfl, State.Warmed39.refl s, rfl⟩ trivial
  subst hv
  refine ⟨n, _, h1, h2, h3, hpost _ _ _ _ _ _ ⟨Cond.after_iff.mpr rfl, Cond.after_iff.mpr (eq_i res_at (Term.int_eval (1)) rfl), trivial⟩ ⟨hq.1, hq.2.1, (hq.2.2.sift fun y hy => Or.inr (N y hy)).mono (by decide) (by decide)⟩⟩
theorem main_1_1 : Claimed_1_1 := comes_1 fun _ _ _ _ _ _ h hF => ⟨h.1, hF⟩
theorem main_1_2 : Claimed_1_2 := comes_1 fun _ _ _ _ _ _ h hF => ⟨h.2.1, hF⟩
end Jvm.Pilot.@@N@@
namespace Jvm.Pilot.@@N@@
open Jvm Jvm.ClassFile Sem Op Lib Jvm.Free Jvm.Stand Jvm.Pilot.@@N@@.Jvm.D
/-! MADE BY PROGRAM (witnessworld.py) out of the Statement's table words and the real class files: 12 classes; the members and pool entries that the words name. The judged class is class 1, her method 1. -/
namespace start1
open Jvm.ClassFile
def u (s : String) : CpInfo := .utf8 (stringToUtf16 s)
/-- a pool by its gaps: so many unusable entries, then the entry; so many at the end -/
def gap : Nat → List CpInfo → List CpInfo
  | 0, r => r
  | n + 1, r => .unusable :: gap n r
def poolList (es : List (Nat × CpInfo)) (last : Nat) : List CpInfo := es.foldr (fun e r => gap e.1 (e.2 :: r)) (gap last [])
def pool (es : List (Nat × CpInfo)) (last : Nat) : Array CpInfo := ⟨poolList es last⟩
def fileOf (pool : Array CpInfo) (this : Nat) (attrs : Array Attribute := #[]) (ms : Array MethodInfo := #[]) (fl : Nat := 33) (sup : Nat := 0) (ifs : Array Nat := #[]) (fds : Array FieldInfo := #[]) : ClassFile where
  minorVersion := 0
  majorVersion := 65
  constantPool := pool
  accessFlags := fl
  thisClass := this
  superClass := sup
  interfaces := ifs
  fields := fds
  methods := ms
  attributes := attrs
def plain (name : String) (sup : Option ClassId) : Class where
  name := name
  kind := .ordinary
  loader := none
  accessFlags := 33
  super := sup
  interfaces := #[]
  cf := none
  fields := #[]
  methods := #[]
  instanceTypes := #[]
  staticTypes := #[]
  resolved := #[]
  callSites := []
  init := .initialized
  statics := none
  mirror := none

def pool0 : Array CpInfo := pool [(5, u "<init>"), (0, u "()V"), (1, .class_ 10), (1, u "java/lang/Object")] 113

def k0m0 : Method := { name := "<init>", desc := "()V", sig := { parameters := [], returnType := none }, accessFlags := 1, code := none }
/-- java/lang/Object -/
def k0 : Class := { plain "java/lang/Object" none with
  accessFlags := 33
  interfaces := #[]
  cf := some (fileOf pool0 8 #[] #[{ accessFlags := 1, nameIndex := 5, descriptorIndex := 6, attributes := #[] }] 33 0 #[] #[])
  fields := #[]
  methods := #[k0m0]
  instanceTypes := #[]
  staticTypes := #[]
  resolved := Array.replicate 124 none
  statics := none }

def pool1 : Array CpInfo := pool [(2, .class_ 4), (1, u "java/lang/Object"), (0, u "<init>"), (0, u "()V"), (0, .integer 2147483647), (0, .fieldref 9 10), (0, .class_ 11), (0, .nameAndType 12 13), (0, u "com/example/pictor/pictor/DiskCacheStrategy"), (0, u "ALL"), (0, u "Lcom/example/pictor/pictor/DiskCacheStrategy;"), (0, .fieldref 9 15), (0, .nameAndType 16 13), (0, u "DATA"), (0, .fieldref 9 18), (0, .nameAndType 19 13), (0, u "RESOURCE"), (0, .fieldref 9 21), (0, .nameAndType 22 13), (0, u "NONE"), (0, .fieldref 9 24), (0, .nameAndType 25 13), (0, u "AUTOMATIC"), (0, .methodref 9 27), (0, .nameAndType 28 29), (0, u "usesResource"), (0, u "(Z)Z"), (0, .class_ 31), (0, u "com/example/pictor/pictor/DiskCacheStrategyUsesResourcePinLaw"), (2, u "law"), (0, u "(II)Z")] 3

def k1m0 : Method := { name := "<init>", desc := "()V", sig := { parameters := [], returnType := none }, accessFlags := 1, code := none }
def k1c1 : Code := { maxStack := 2, maxLocals := 6, code := code, exceptionTable := #[], attributes := #[] }
def k1m1 : Method := { name := "law", desc := "(II)Z", sig := { parameters := [.int, .int], returnType := some .boolean }, accessFlags := 9, code := some k1c1 }
/-- com/example/pictor/pictor/DiskCacheStrategyUsesResourcePinLaw -/
def k1 : Class := { plain "com/example/pictor/pictor/DiskCacheStrategyUsesResourcePinLaw" (some 0) with
  accessFlags := 49
  interfaces := #[]
  cf := some (fileOf pool1 30 #[] #[{ accessFlags := 1, nameIndex := 5, descriptorIndex := 6, attributes := #[] }, { accessFlags := 9, nameIndex := 34, descriptorIndex := 35, attributes := #[] }] 49 2 #[] #[])
  fields := #[]
  methods := #[k1m0, k1m1]
  instanceTypes := #[]
  staticTypes := #[]
  resolved := Array.replicate 39 none
  statics := none }

def pool2 : Array CpInfo := pool [(1, .class_ 2), (0, u "java/lang/constant/Constable"), (0, .class_ 4), (0, u "java/lang/Object")] 6

/-- java/lang/constant/Constable -/
def k2 : Class := { plain "java/lang/constant/Constable" (some 0) with
  accessFlags := 1537
  interfaces := #[]
  cf := some (fileOf pool2 1 #[] #[] 1537 3 #[] #[])
  fields := #[]
  methods := #[]
  instanceTypes := #[]
  staticTypes := #[]
  resolved := Array.replicate 11 none
  statics := none }

def pool3 : Array CpInfo := pool [(1, .class_ 2), (0, u "java/lang/Comparable"), (0, .class_ 4), (0, u "java/lang/Object")] 7

/-- java/lang/Comparable -/
def k3 : Class := { plain "java/lang/Comparable" (some 0) with
  accessFlags := 1537
  interfaces := #[]
  cf := some (fileOf pool3 1 #[] #[] 1537 3 #[] #[])
  fields := #[]
  methods := #[]
  instanceTypes := #[]
  staticTypes := #[]
  resolved := Array.replicate 12 none
  statics := none }

def pool4 : Array CpInfo := pool [(1, .class_ 2), (0, u "java/io/Serializable"), (0, .class_ 4), (0, u "java/lang/Object")] 2

/-- java/io/Serializable -/
def k4 : Class := { plain "java/io/Serializable" (some 0) with
  accessFlags := 1537
  interfaces := #[]
  cf := some (fileOf pool4 1 #[] #[] 1537 3 #[] #[])
  fields := #[]
  methods := #[]
  instanceTypes := #[]
  staticTypes := #[]
  resolved := Array.replicate 7 none
  statics := none }

def pool5 : Array CpInfo := pool [(2, .class_ 4), (1, u "java/lang/Enum"), (0, u "name"), (0, u "Ljava/lang/String;"), (2, u "ordinal"), (0, u "I"), (1, .class_ 14), (1, u "java/lang/Object"), (4, u "hash"), (86, .class_ 108), (1, u "java/lang/Enum$EnumDesc"), (2, .class_ 112), (0, u "java/lang/constant/Constable"), (0, .class_ 114), (0, u "java/lang/Comparable"), (0, .class_ 116), (0, u "java/io/Serializable")] 87

/-- java/lang/Enum -/
def k5 : Class := { plain "java/lang/Enum" (some 0) with
  accessFlags := 1057
  interfaces := #[2, 3, 4]
  cf := some (fileOf pool5 2 #[.nestMembers #[106]] #[] 1057 12 #[111, 113, 115] #[{ accessFlags := 18, nameIndex := 5, descriptorIndex := 6, attributes := #[] }, { accessFlags := 18, nameIndex := 9, descriptorIndex := 10, attributes := #[] }, { accessFlags := 2, nameIndex := 19, descriptorIndex := 10, attributes := #[] }])
  fields := #[{ name := "name", type := (.object "java/lang/String"), accessFlags := 18, slot := 0, constantValue := 0 }, { name := "ordinal", type := .int, accessFlags := 18, slot := 1, constantValue := 0 }, { name := "hash", type := .int, accessFlags := 2, slot := 2, constantValue := 0 }]
  methods := #[]
  instanceTypes := #[(.object "java/lang/String"), .int, .int]
  staticTypes := #[]
  resolved := Array.replicate 204 none
  statics := none }

def pool6 : Array CpInfo := pool [(1, .class_ 2), (0, u "com/example/pictor/pictor/DiskCacheStrategy"), (0, .fieldref 1 4), (0, .nameAndType 5 6), (0, u "ALL"), (0, u "Lcom/example/pictor/pictor/DiskCacheStrategy;"), (2, u "DATA"), (0, .fieldref 1 11), (0, .nameAndType 12 6), (0, u "RESOURCE"), (2, u "NONE"), (0, .fieldref 1 17), (0, .nameAndType 18 6), (0, u "AUTOMATIC"), (2, u "$VALUES"), (0, u "[Lcom/example/pictor/pictor/DiskCacheStrategy;"), (6, .class_ 31), (1, u "java/lang/Enum"), (32, u "usesResource"), (0, u "(Z)Z")] 4

def k6c0 : Code := { maxStack := 2, maxLocals := 2, code := prog_10_method_5_code, exceptionTable := #[], attributes := #[] }
def k6m0 : Method := { name := "usesResource", desc := "(Z)Z", sig := { parameters := [.boolean], returnType := some .boolean }, accessFlags := 0, code := some k6c0 }
/-- com/example/pictor/pictor/DiskCacheStrategy -/
def k6 : Class := { plain "com/example/pictor/pictor/DiskCacheStrategy" (some 5) with
  accessFlags := 16433
  interfaces := #[]
  cf := some (fileOf pool6 1 #[] #[{ accessFlags := 0, nameIndex := 64, descriptorIndex := 65, attributes := #[] }] 16433 29 #[] #[{ accessFlags := 16409, nameIndex := 5, descriptorIndex := 6, attributes := #[] }, { accessFlags := 16409, nameIndex := 9, descriptorIndex := 6, attributes := #[] }, { accessFlags := 16409, nameIndex := 12, descriptorIndex := 6, attributes := #[] }, { accessFlags := 16409, nameIndex := 15, descriptorIndex := 6, attributes := #[] }, { accessFlags := 16409, nameIndex := 18, descriptorIndex := 6, attributes := #[] }, { accessFlags := 4122, nameIndex := 21, descriptorIndex := 22, attributes := #[] }])
  fields := #[{ name := "ALL", type := (.object "com/example/pictor/pictor/DiskCacheStrategy"), accessFlags := 16409, slot := 0, constantValue := 0 }, { name := "DATA", type := (.object "com/example/pictor/pictor/DiskCacheStrategy"), accessFlags := 16409, slot := 1, constantValue := 0 }, { name := "RESOURCE", type := (.object "com/example/pictor/pictor/DiskCacheStrategy"), accessFlags := 16409, slot := 2, constantValue := 0 }, { name := "NONE", type := (.object "com/example/pictor/pictor/DiskCacheStrategy"), accessFlags := 16409, slot := 3, constantValue := 0 }, { name := "AUTOMATIC", type := (.object "com/example/pictor/pictor/DiskCacheStrategy"), accessFlags := 16409, slot := 4, constantValue := 0 }, { name := "$VALUES", type := (.array (.object "com/example/pictor/pictor/DiskCacheStrategy")), accessFlags := 4122, slot := 5, constantValue := 0 }]
  methods := #[k6m0]
  instanceTypes := #[(.object "java/lang/String"), .int, .int]
  staticTypes := #[(.object "com/example/pictor/pictor/DiskCacheStrategy"), (.object "com/example/pictor/pictor/DiskCacheStrategy"), (.object "com/example/pictor/pictor/DiskCacheStrategy"), (.object "com/example/pictor/pictor/DiskCacheStrategy"), (.object "com/example/pictor/pictor/DiskCacheStrategy"), (.array (.object "com/example/pictor/pictor/DiskCacheStrategy"))]
  resolved := Array.replicate 70 none
  statics := some 0 }

def pool7 : Array CpInfo := pool [(1, u "java/lang/Cloneable"), (0, .class_ 1), (0, u "java/lang/Object"), (0, .class_ 3)] 3

/-- java/lang/Cloneable -/
def k7 : Class := { plain "java/lang/Cloneable" (some 0) with
  accessFlags := 1537
  interfaces := #[]
  cf := some (fileOf pool7 2 #[] #[] 1537 4 #[] #[])
  fields := #[]
  methods := #[]
  instanceTypes := #[]
  staticTypes := #[]
  resolved := Array.replicate 8 none
  statics := none }

/-- the primitive byte -/
def k8 : Class := { plain "byte" none with kind := .primitive 'B', accessFlags := 0x411 }
/-- [B -/
def k9 : Class := { plain "[B" (some 0) with kind := .array 8 .byte, interfaces := #[7, 4], accessFlags := 1041 }

/-- the primitive int -/
def k10 : Class := { plain "int" none with kind := .primitive 'I', accessFlags := 0x411 }
/-- [I -/
def k11 : Class := { plain "[I" (some 0) with kind := .array 10 .int, interfaces := #[7, 4], accessFlags := 1041 }

def heap : Heap := #[{ cls := 6, slots := #[.ref 1, .ref 5, .ref 3, .ref 4, .ref 2, .null], vm := .statics 6 },
  { cls := 6, slots := #[.null, .int 0, .int 0], vm := .none },
  { cls := 6, slots := #[.null, .int 4, .int 0], vm := .none },
  { cls := 6, slots := #[.null, .int 2, .int 0], vm := .none },
  { cls := 6, slots := #[.null, .int 3, .int 0], vm := .none },
  { cls := 6, slots := #[.null, .int 1, .int 0], vm := .none }]
def classes : Array Class := #[k0, k1, k2, k3, k4, k5, k6, k7, k8, k9, k10, k11]
def interned : List (Array UInt16 × Addr) := []
def slotsUsed : Nat := 21
def theMethod : MethodId := ⟨1, 1⟩
def args0 : Array Value := #[.int 5, .int 5]
def aboutOver (below : List Frame) : State where
  vm := { classes := classes, interned := interned.toArray }
  heap := heap
  slotsUsed := slotsUsed
  threads := #[{ frames := .invoking theMethod args0 :: below }]
def below0 : List Frame := [.native { method := ⟨0, 0⟩, args := #[] }]
def about1 : State := aboutOver below0
def p0 : Program := .bare "" "" ""
def e0 : Env := launch0.env 0 0 0
theorem w_frames : about1.frames = Frame.invoking theMethod args0 :: below0 := rfl
set_option maxRecDepth 65536 in
theorem w_args : argsFit about1.vm theMethod args0 = true := by decide +kernel
set_option maxRecDepth 65536 in
theorem w_heap : heapFits about1 = true := by decide +kernel
set_option maxRecDepth 65536 in
theorem w_runnable : about1.curStatus? = some .runnable := by decide +kernel
set_option maxRecDepth 65536 in
theorem w_alone : about1.alone = true := by decide +kernel
set_option maxRecDepth 65536 in
theorem w_named : about1.methodNamed? x = some theMethod := by decide +kernel
set_option maxRecDepth 65536 in
theorem w_hears : about1.hears theMethod below0 = true := by decide +kernel
set_option maxRecDepth 65536 in
theorem w_ripe : about1.ripe theMethod args0 below0 = true := by decide +kernel
theorem w_running : about1.status = .running := rfl
set_option maxRecDepth 65536 in
theorem w_room : about1.hasRoom e0.platform room_1 = true :=
  launch0.hasRoom_least _ room_1 (by decide +kernel) (by decide +kernel) (by decide +kernel) (by decide +kernel) (by decide +kernel) (by decide +kernel)
theorem allAtoms_all (ts : List Jvm.Cond) (a : Array Jvm.Value) (st : Jvm.State) : (allAtoms ts).before a st = ts.all (fun c => c.before a st) := by
  induction ts with
  | nil => rfl
  | cons c t ih =>
    show (Jvm.Cond.and c (allAtoms t)).before a st = _
    rw [Jvm.Cond.before_and, ih, List.all_cons]
def words1 : List Jvm.Cond := Jvm.Cond.code x code maxLocals ret :: tables_1
/-- a 'code' word, met by the world's own term for the bytes: nothing is compared byte by byte -/
theorem code_word {y : MethodName} {bytes : ByteArray} {mx : Nat} {rt : Option FieldType} {a : Array Value} {s : State} {m : MethodId} {meth : Method} {c : Code} (h1 : s.methodNamed? y = some m) (h2 : s.vm.method? m = some meth) (h3 : meth.code = some c) (h4 : c.code = bytes)
    (h5 : (c.maxLocals == mx && c.exceptionTable.isEmpty && decide (c.maxStack ≤ mostOperands) && decide (meth.sig.returnType = rt) && !meth.locks && decide (parseMethodDescriptor y.desc = some meth.sig)) = true) : (Jvm.Cond.code y bytes mx rt).before a s = true := by
  simp only [Bool.and_eq_true, beq_iff_eq, Bool.not_eq_true', decide_eq_true_eq] at h5
  obtain ⟨⟨⟨⟨⟨g1, g2⟩, g3⟩, g4⟩, g5⟩, g6⟩ := h5
  simp [Cond.before, Cond.holds, Cond.value, h1, h2, h3, h4, g1, g2, g3, g4, g5, g6]
def isCode : Jvm.Cond → Bool
  | .code _ _ _ _ => true
  | _ => false
theorem all_split {L : List Jvm.Cond} {P : Jvm.Cond → Bool} (h1 : L.all (fun c => isCode c || P c) = true) (h2 : ∀ c ∈ L.filter isCode, P c = true) : L.all P = true := by
  refine List.all_eq_true.mpr fun c hc => ?_
  have h := List.all_eq_true.mp h1 c hc
  rcases Bool.eq_false_or_eq_true (isCode c) with hi | hi
  · exact h2 c (List.mem_filter.mpr ⟨hc, hi⟩)
  · simpa [hi] using h
set_option maxRecDepth 65536 in
theorem w_c0 : (Jvm.Cond.code x code maxLocals ret).before args0 about1 = true := code_word (m := ⟨1, 1⟩) (meth := k1m1) (c := k1c1) (by decide +kernel) rfl rfl rfl (by decide +kernel)
set_option maxRecDepth 65536 in
theorem w_c1 : (Jvm.Cond.code ({ cls := "com/example/pictor/pictor/DiskCacheStrategy", name := "usesResource", desc := "(Z)Z" } : Jvm.MethodName) prog_10_method_5_code (2 : Nat) (Option.some Jvm.ClassFile.FieldType.boolean)).before args0 about1 = true := code_word (m := ⟨6, 0⟩) (meth := k6m0) (c := k6c0) (by decide +kernel) rfl rfl rfl (by decide +kernel)
def codes1 : List Jvm.Cond := [Jvm.Cond.code x code maxLocals ret, Jvm.Cond.code ({ cls := "com/example/pictor/pictor/DiskCacheStrategy", name := "usesResource", desc := "(Z)Z" } : Jvm.MethodName) prog_10_method_5_code (2 : Nat) (Option.some Jvm.ClassFile.FieldType.boolean)]
set_option maxRecDepth 65536 in
theorem codes_eq : words1.filter isCode = codes1 := rfl
theorem w_codes : ∀ c ∈ words1.filter isCode, c.before args0 about1 = true := by
  rw [codes_eq]
  intro c hc
  simp only [codes1, List.mem_cons, List.not_mem_nil, or_false] at hc
  rcases hc with rfl | rfl
  · exact w_c0
  · exact w_c1
set_option maxRecDepth 65536 in
theorem w_t1 : words1.all (fun c => isCode c || c.before args0 about1) = true := by decide +kernel
theorem w_tables : (allAtoms (Jvm.Cond.code x code maxLocals ret :: tables_1)).before args0 about1 = true := by
  rw [allAtoms_all]
  show words1.all (fun c => c.before args0 about1) = true
  refine all_split ?_ w_codes
  rw [w_t1]
set_option maxRecDepth 65536 in
theorem w_case : (Jvm.Cond.and given_1 narrow_1).before args0 about1 = true := by decide +kernel
theorem w_applies : (headSpec (Jvm.Cond.code x code maxLocals ret :: tables_1) room_1).applies x e0.platform about1 = true :=
  (Spec.applies_iff w_frames).mpr ⟨w_running, w_runnable, w_alone, w_named, w_hears, w_ripe, w_room, w_tables⟩
theorem atStart : AtStart classFile x code maxLocals ret World_1 tables_1 room_1 Calls_1 rest_1 Pre_1 launch0 p0 e0 about1 theMethod args0 below0 :=
  ⟨lists_1, trivial, launch0.admits_env _ _ _, launch0.least_env, fairChoices_fair.cas, fairChoices_fair.clock, w_frames, w_args, w_heap, w_applies, trivial, trivial, w_case⟩
end start1
theorem witness_1 : WitnessClaimed_1 := ⟨start1.p0, start1.e0, start1.about1, start1.theMethod, start1.args0, start1.below0, start1.atStart⟩
end Jvm.Pilot.@@N@@
