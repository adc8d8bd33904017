import JvmDerived
import JvmDerived.Pilot.@@N@@Statement
import JvmDerived.Pilot.@@N@@Code
set_option linter.unusedVariables false
set_option linter.unusedSimpArgs false
namespace Jvm.Pilot.@@N@@
open Jvm Jvm.ClassFile Sem Op Lib Jvm.Free Jvm.Stand Jvm.LawKit Jvm.RoadKit Bundle Jvm.Pilot.@@N@@.Jvm.D
section OwnKit
variable {p : Program} {l : Launch} {e : Env} {R : Room} {s : State} {m : MethodId} {args : Array Value} {below : List Frame} {meth : Method} {c : Code} {T : State} {locs : List Loc} {cells slots : Nat} {Z : State} {a0 : Array Value} {h : Heap} {bs : ByteArray} {own mnm : String} {mx : Nat} {rt : Option FieldType} {G : Outcome → State → Prop} {pc pc' : Nat} {Ls Ls' : Array Slot} {st : List Value}
/-- from T the run comes to an end of which G holds -/
def Go (tb : Tables) (e : Env) (below : List Frame) (G : Outcome → State → Prop) (T : State) : Prop := ∃ s₂ o, Steps tb e below T s₂ ∧ s₂.status = .running ∧ Ended s₂ below o ∧ G o s₂
theorem Go.step {tb : Tables} {T T' : State} (g : Go tb e below G T') (h : ∀ t, Steps tb e below T' t → Steps tb e below T t) : Go tb e below G T := by
  obtain ⟨s₂, o, h1, h2⟩ := g
  exact ⟨s₂, o, h _ h1, h2⟩
/-- what a walk knows of its own body -/
def Cx (p : Program) (s : State) (m : MethodId) (meth : Method) (c : Code) (bs : ByteArray) (mx : Nat) (own mnm : String) (rt : Option FieldType) (Z : State) : Prop :=
  p.tables.exec = Jvm.exec ∧ c.code = bs ∧ c.maxLocals = mx ∧ s.vm.findClass own = some m.cls ∧ meth.name = mnm ∧ meth.sig.returnType = rt ∧ meth.locks = false ∧ Z.Warmed39 s.vm
theorem Cx.hown (C : Cx p s m meth c bs mx own mnm rt Z) : s.vm.findClass own = some m.cls := C.2.2.2.1
theorem Cx.nm (C : Cx p s m meth c bs mx own mnm rt Z) : meth.name = mnm := C.2.2.2.2.1
theorem Cx.ret (C : Cx p s m meth c bs mx own mnm rt Z) : meth.sig.returnType = rt := C.2.2.2.2.2.1
theorem Cx.locks (C : Cx p s m meth c bs mx own mnm rt Z) : meth.locks = false := C.2.2.2.2.2.2.1
theorem Cx.hZ (C : Cx p s m meth c bs mx own mnm rt Z) : Z.Warmed39 s.vm := C.2.2.2.2.2.2.2
/-- the end: returned, Q of the value, the heap and the places written; the frame -/
def End (s : State) (Q : Option Value → Heap → List Loc → Prop) (ce sl : Nat) (o : Outcome) (U' : State) : Prop := ∃ v L, o = .returned v ∧ Q v U'.heap L ∧ FrameEnd s o U' L ce sl
theorem met_of {y : MethodName} {ws : List Jvm.Cond} {rm : Room} {as' : Array Value} {Q : Option Value → Heap → List Loc → Prop} {ce sl : Nat} (hpn : plainFor y = true) (hef : ∀ m, entryFrame m as' mx = mkF m 0 Ls [])
    (hbody : ∀ (p : Program) (e : Env) (s : State) (m : MethodId) (below : List Frame) (meth : Method) (c : Code) (T : State), Cx p s m meth c bs mx y.cls y.name rt Z → Stand p l e rm s m as' below meth c T [] 0 0 → T.heap = h → Go p.tables e below (End s Q ce sl) (T.setTop (mkF m 0 Ls []))) :
    MetFree l y (head1 (Jvm.Cond.code y bs mx rt :: ws) rm) (fun a U => a = as' ∧ Z.Warmed39 U.vm ∧ U.heap = h) (fun _ _ _ _ _ => True) (fun _ U o U' => ∃ v L, o = .returned v ∧ Q v U'.heap L ∧ FrameEnd U o U' L ce sl) := by
  refine MetFree.of_bodySF hpn hisR ?_
  intro p e s m args below meth c s₁ Bd hml0 hP hK
  obtain ⟨rfl, hZ, hh⟩ := hP
  have X0 : Stand p l e rm s m _ below meth c s₁ [] 0 0 := Stand.of_body Bd
  have e0 : s₁.heap = h := by rw [← hh, Bd.state]; rfl
  obtain ⟨s₂, o, h1, h2, h3, h4⟩ := hbody p e s m below meth c s₁ ⟨Bd.exec, Bd.bytes, hml0, findClass_of_methodNamed Bd.named, (name_of_methodNamed Bd.named Bd.method).1, Bd.returns, Bd.notSynchronized, hZ⟩ X0 e0
  exact ⟨s₂, o, castTop (hef m) h1, h2, h3, h4⟩

theorem g_iloadN (C : Cx p s m meth c bs mx own mnm rt Z) (X : Stand p l e R s m args below meth c T locs cells slots) {k : Fin 4} {v : Int32} (hd : decode bs pc = .ok (.iload_n k, 1)) (hl : Ls[k.val]? = some (.val (.int v))) (hn : pc + 1 = pc')
    (hr : Go p.tables e below G (T.setTop (mkF m pc' Ls (.int v :: st)))) : Go p.tables e below G (T.setTop (mkF m pc Ls st)) := by
  subst hn; exact hr.step fun t k => XS.iloadN X.here C.1 rfl (hb C.2.1 hd) hl k
theorem g_istoreN (C : Cx p s m meth c bs mx own mnm rt Z) (X : Stand p l e R s m args below meth c T locs cells slots) {k : Fin 4} {v : Int32} (hd : decode bs pc = .ok (.istore_n k, 1)) (hl : storeLocals Ls k.val (.int v) = some Ls') (hn : pc + 1 = pc')
    (hr : Go p.tables e below G (T.setTop (mkF m pc' Ls' st))) : Go p.tables e below G (T.setTop (mkF m pc Ls (.int v :: st))) := by
  subst hn; exact hr.step fun t k => XS.istoreN X.here C.1 rfl (hb C.2.1 hd) rfl hl k
theorem g_aloadN (C : Cx p s m meth c bs mx own mnm rt Z) (X : Stand p l e R s m args below meth c T locs cells slots) {k : Fin 4} {v : Value} (hd : decode bs pc = .ok (.aload_n k, 1)) (hl : Ls[k.val]? = some (.val v)) (hv : v.isRef = true) (hn : pc + 1 = pc')
    (hr : Go p.tables e below G (T.setTop (mkF m pc' Ls (v :: st)))) : Go p.tables e below G (T.setTop (mkF m pc Ls st)) := by
  subst hn; exact hr.step fun t k => XS.aloadN X.here C.1 rfl (hb C.2.1 hd) hl hv k
theorem g_astoreN (C : Cx p s m meth c bs mx own mnm rt Z) (X : Stand p l e R s m args below meth c T locs cells slots) {k : Fin 4} {v : Value} (hd : decode bs pc = .ok (.astore_n k, 1)) (hv : v.isRef = true) (hl : storeLocals Ls k.val v = some Ls') (hn : pc + 1 = pc')
    (hr : Go p.tables e below G (T.setTop (mkF m pc' Ls' st))) : Go p.tables e below G (T.setTop (mkF m pc Ls (v :: st))) := by
  subst hn; exact hr.step fun t k => XS.astoreN X.here C.1 rfl (hb C.2.1 hd) rfl hv hl k
theorem g_iconst (C : Cx p s m meth c bs mx own mnm rt Z) (X : Stand p l e R s m args below meth c T locs cells slots) {i : Int} {v : Int32} (hd : decode bs pc = .ok (.iconst i, 1)) (hv : Int32.ofInt i = v) (hn : pc + 1 = pc')
    (hr : Go p.tables e below G (T.setTop (mkF m pc' Ls (.int v :: st)))) : Go p.tables e below G (T.setTop (mkF m pc Ls st)) := by
  subst hn; exact hr.step fun t k => XS.iconst X.here C.1 rfl (hb C.2.1 hd) (by rw [hv]; exact k)
theorem g_iand (C : Cx p s m meth c bs mx own mnm rt Z) (X : Stand p l e R s m args below meth c T locs cells slots) {x y : Int32} (hd : decode bs pc = .ok (.iand, 1)) (hn : pc + 1 = pc')
    (hr : Go p.tables e below G (T.setTop (mkF m pc' Ls (.int (x &&& y) :: st)))) : Go p.tables e below G (T.setTop (mkF m pc Ls (.int y :: .int x :: st))) := by
  subst hn; exact hr.step fun t k => XS.iand X.here C.1 rfl (hb C.2.1 hd) rfl k
theorem g_irem (C : Cx p s m meth c bs mx own mnm rt Z) (X : Stand p l e R s m args below meth c T locs cells slots) {x y : Int32} (hd : decode bs pc = .ok (.irem, 1)) (hy : ¬ y = 0) (hn : pc + 1 = pc')
    (hr : Go p.tables e below G (T.setTop (mkF m pc' Ls (.int (x % y) :: st)))) : Go p.tables e below G (T.setTop (mkF m pc Ls (.int y :: .int x :: st))) := by
  subst hn; exact hr.step fun t k => Jvm.RoadKit.iremM X C.1 rfl (hb C.2.1 hd) rfl hy k
theorem g_goto (C : Cx p s m meth c bs mx own mnm rt Z) (X : Stand p l e R s m args below meth c T locs cells slots) {o : Int} (hd : decode bs pc = .ok (.goto o, 3)) (ho : 0 ≤ (pc : Int) + o) (hp : ((pc : Int) + o).toNat = pc')
    (hr : Go p.tables e below G (T.setTop (mkF m pc' Ls st))) : Go p.tables e below G (T.setTop (mkF m pc Ls st)) :=
  hr.step fun t k => XS.goto X.here C.1 rfl rfl (hb C.2.1 hd) ho hp k
theorem g_icmpY (C : Cx p s m meth c bs mx own mnm rt Z) (X : Stand p l e R s m args below meth c T locs cells slots) {cd : ClassFile.Cond} {x y : Int32} {o : Int} (hd : decode bs pc = .ok (.if_icmp cd o, 3)) (hc : if_icmp.holds cd x y = true) (ho : 0 ≤ (pc : Int) + o) (hp : ((pc : Int) + o).toNat = pc')
    (hr : Go p.tables e below G (T.setTop (mkF m pc' Ls st))) : Go p.tables e below G (T.setTop (mkF m pc Ls (.int y :: .int x :: st))) :=
  hr.step fun t k => XS.icmpYes X.here C.1 rfl rfl (hb C.2.1 hd) rfl hc ho hp k
theorem g_icmpN (C : Cx p s m meth c bs mx own mnm rt Z) (X : Stand p l e R s m args below meth c T locs cells slots) {cd : ClassFile.Cond} {x y : Int32} {o : Int} (hd : decode bs pc = .ok (.if_icmp cd o, 3)) (hc : if_icmp.holds cd x y = false) (hn : pc + 3 = pc')
    (hr : Go p.tables e below G (T.setTop (mkF m pc' Ls st))) : Go p.tables e below G (T.setTop (mkF m pc Ls (.int y :: .int x :: st))) := by
  subst hn; exact hr.step fun t k => XS.icmpNo X.here C.1 rfl (hb C.2.1 hd) rfl hc k
theorem g_ifY (C : Cx p s m meth c bs mx own mnm rt Z) (X : Stand p l e R s m args below meth c T locs cells slots) {cd : ClassFile.Cond} {x : Int32} {o : Int} (hd : decode bs pc = .ok (.ifCond cd o, 3)) (hc : if_icmp.holds cd x 0 = true) (ho : 0 ≤ (pc : Int) + o) (hp : ((pc : Int) + o).toNat = pc')
    (hr : Go p.tables e below G (T.setTop (mkF m pc' Ls st))) : Go p.tables e below G (T.setTop (mkF m pc Ls (.int x :: st))) :=
  hr.step fun t k => XS.ifYes X.here C.1 rfl rfl (hb C.2.1 hd) rfl ((if0 _ _).trans hc) ho hp k
theorem g_ifN (C : Cx p s m meth c bs mx own mnm rt Z) (X : Stand p l e R s m args below meth c T locs cells slots) {cd : ClassFile.Cond} {x : Int32} {o : Int} (hd : decode bs pc = .ok (.ifCond cd o, 3)) (hc : if_icmp.holds cd x 0 = false) (hn : pc + 3 = pc')
    (hr : Go p.tables e below G (T.setTop (mkF m pc' Ls st))) : Go p.tables e below G (T.setTop (mkF m pc Ls (.int x :: st))) := by
  subst hn; exact hr.step fun t k => XS.ifNo X.here C.1 rfl (hb C.2.1 hd) rfl ((if0 _ _).trans hc) k
theorem g_acmp (C : Cx p s m meth c bs mx own mnm rt Z) (X : Stand p l e R s m args below meth c T locs cells slots) {cd : ACond} {x y : Value} {o : Int} {same : Bool} (hd : decode bs pc = .ok (.if_acmp cd o, 3)) (h1 : x.isRef = true) (h2 : y.isRef = true) (hq : decide (x = y) = same) (ho : 0 ≤ (pc : Int) + o) (hp : pc' = if acV cd same = true then ((pc : Int) + o).toNat else pc + 3)
    (hr : Go p.tables e below G (T.setTop (mkF m pc' Ls st))) : Go p.tables e below G (T.setTop (mkF m pc Ls (y :: x :: st))) :=
  hr.step fun t k => Jvm.RoadKit.acmp X C.1 rfl h1 h2 rfl (hb C.2.1 hd) rfl hq ho hp k
theorem g_ldc (C : Cx p s m meth c bs mx own mnm rt Z) (X : Stand p l e R s m args below meth c T locs cells slots) {i : Nat} {v : Int32} (hd : decode bs pc = .ok (.ldc i, 2)) (w : (Jvm.Cond.constant own i v).before a0 Z = true) (hn : pc + 2 = pc')
    (hr : Go p.tables e below G (T.setTop (mkF m pc' Ls (.int v :: st)))) : Go p.tables e below G (T.setTop (mkF m pc Ls st)) := by
  subst hn; exact hr.step fun t k => X.ldcInt C.1 C.hown (mvT C.hZ w) (g := mkF m pc Ls st) rfl (hb C.2.1 hd) _ k
theorem g_getS (C : Cx p s m meth c bs mx own mnm rt Z) (X : Stand p l e R s m args below meth c T locs cells slots) {O n d R0 host : String} {i : Nat} {v : Value} (hd : decode bs pc = .ok (.getstatic i, 3)) (w : (Jvm.Cond.fieldLink own i R0 n d).before a0 Z = true ∨ (Jvm.Cond.fieldLinkNest own i R0 n d host).before a0 Z = true) (via : Via Z R0 O n d) (eT : T.heap = h) (F : Sta Z h O n d v) (hn : pc + 3 = pc')
    (hr : ∀ T', Stand p l e R s m args below meth c T' locs cells slots → T'.heap = h → Go p.tables e below G (T'.setTop (mkF m pc' Ls (v :: st)))) : Go p.tables e below G (T.setTop (mkF m pc Ls st)) := by
  subst hn
  obtain ⟨T', X', e', st'⟩ := getS2 X C.1 C.hZ C.hown w via eT F (g := mkF m pc Ls st) rfl (hb C.2.1 hd)
  exact (hr T' X' e').step st'
theorem g_callV (C : Cx p s m meth c bs mx own mnm rt Z) (X : Stand p l e R s m args below meth c T locs cells slots) {rm : Room} {as' : Array Value} {Q : Option Value → Heap → List Loc → Prop} {ml : Nat} {yb : ByteArray} {yr : Option FieldType} {ce sl W : Nat} {argsL : List Value} {ps : List FieldType} {pr : Option FieldType} {K : String} {y z : MethodName} {i : Nat} {b : Addr} (hd : decode bs pc = .ok (.invokevirtual i, 3)) (w1 : (Jvm.Cond.methodLink own i y).before a0 Z = true) (w2 : (Jvm.Cond.declares y).before a0 Z = true) (hnf : NotFace s y) (w3 : (Jvm.Cond.selects K y z).before a0 Z = true) (w4 : (Jvm.Cond.instanceMethod z).before a0 Z = true) (w5 : (Jvm.Cond.initialized z.cls).before a0 Z = true) (w6 : (Jvm.Cond.code z yb ml yr).before a0 Z = true) (hy : y.cls ≠ "java/lang/invoke/MethodHandle" ∧ y.cls ≠ "java/lang/invoke/VarHandle")
    (hM : MetFree l z (head1 [Jvm.Cond.code z yb ml yr] rm) (fun a U => a = as' ∧ Z.Warmed39 U.vm ∧ U.heap = h) (fun _ _ _ _ _ => True) (fun _ U o U' => ∃ v L, o = .returned v ∧ Q v U'.heap L ∧ FrameEnd U o U' L rm.cells rm.slots)) (hf : rm.frames + 1 ≤ R.frames) (hlo : W + (ml + 11) + rm.locals ≤ R.locals) (hce : cells + rm.cells = ce) (hsl : slots + rm.slots = sl) (hce' : ce ≤ R.cells) (hsl' : sl ≤ R.slots) (has : (.ref b :: argsL).toArray = as') (E : Exa Z h b K) (eT : T.heap = h) (hsz : Ls.size = mx) (hpd : parseMethodDescriptor y.desc = some ⟨ps, pr⟩) (hln : argsL.length = ps.length) (hW : (st.map fun v => v.category).sum ≤ W) (hn : pc + 3 = pc')
    (hr : ∀ v T' L, Stand p l e R s m args below meth c T' (locs ++ L) ce sl → Q v T'.heap L → Go p.tables e below G (T'.setTop (mkF m pc' Ls (v.toList ++ st)))) : Go p.tables e below G (T.setTop (mkF m pc Ls (argsL.reverse ++ .ref b :: st))) := by
  subst hn hce hsl has
  obtain ⟨cq, kq, qa, qb, qc⟩ := isOf C.hZ eT E
  obtain ⟨v, vm1, ⟨T', L', k', n'⟩, -, X', ⟨Lc, hQ, l', y', z'⟩, st'⟩ := X.virtualBack C.1 (y := y) (z := z) C.hown (mvT C.hZ w1) (mvT C.hZ w2) hnf (mvT C.hZ w3) (mvT C.hZ w4) hy (backOf (W := W) hM C.hZ w6 w5 hf hlo) qa qc (g := mkF m pc Ls (argsL.reverse ++ .ref b :: st)) rfl (hsz.trans C.2.2.1.symm) (Steps.refl _) (argsL := argsL) (rest := st) (lenOf hpd hln) rfl (by show 2 * 0 + _ ≤ _; omega) (hb C.2.1 hd) (fun _ _ => ⟨rfl, eT, hce', hsl'⟩)
  dsimp only [Pt.U, Pt.locs, Pt.cells, Pt.slots] at X' l' y' z' st' hQ
  subst l' y' z'
  exact (hr v T' Lc X' hQ).step fun t k => st'.trans k
theorem g_retN {t : FieldType} (C : Cx p s m meth c bs mx own mnm (some t) Z) (X : Stand p l e R s m args below meth c T locs cells slots) {Q : Option Value → Heap → List Loc → Prop} {ce sl : Nat} {z : Int32} (ht : t = .boolean ∨ t = .byte ∨ t = .char ∨ t = .short) (hd : decode bs pc = .ok (.ireturn, 1)) (hc : cells ≤ ce) (hs : slots ≤ sl) (hQ : Q (some (.int (nar t z))) T.heap locs) : Go p.tables e below (End s Q ce sl) (T.setTop (mkF m pc Ls (.int z :: st))) := by
  obtain ⟨fs, hr, hrun, hended, hW, hsame⟩ := X.leave (v := (some (.int (nar t z)))) (fun h => by rw [C.ret] at h; cases h) C.locks
  exact ⟨_, _, retN X C.1 C.ret ht (hb C.2.1 hd) hr, hrun, hended, _, _, rfl, hQ, ⟨_, rfl⟩, hW, hsame.mono hc hs⟩
end OwnKit
theorem own_eqi {args : Array Value} {s : State} {t : Term} {v : Int32} (h : (Jvm.Cond.eq t (.int v)).value args s none s [] = some true) : t.eval args s none [] s = some (.int v) := by
  simp only [Cond.value, Term.eval] at h
  cases ht : t.eval args s none [] s with
  | none => simp [ht] at h
  | some x => cases x <;> simp [ht] at h ⊢; exact h
theorem own_eqr {args : Array Value} {s : State} {t u : Term} {a : Addr} (h : (Jvm.Cond.eq t u).value args s none s [] = some true) (hu : u.eval args s none [] s = some (.ref a)) : t.eval args s none [] s = some (.ref a) := by
  simp only [Cond.value, hu] at h
  cases ht : t.eval args s none [] s with
  | none => simp [ht] at h
  | some x => cases x <;> simp [ht] at h ⊢; exact h
theorem own_len {args : Array Value} {s : State} {t : Term} {a : Addr} {cl : Cell} {ty : FieldType} {n : Int32} (ht : t.eval args s none [] s = some (.ref a)) (A : Arr s s.heap a cl ty) (h : (Term.length t).eval args s none [] s = some (.int n)) : cl.slots.size < 2 ^ 31 ∧ cl.slots.size.toInt32 = n := by
  have ha : s.arrayAt? a = some cl := A.fin (Vm.Alike.refl _)
  by_cases q : cl.slots.size < 2 ^ 31
  · rw [len_f ht ha q] at h
    exact ⟨q, Value.int.inj (Option.some.inj h)⟩
  · simp [Term.eval, ht, ha, q] at h
theorem own_fld {args : Array Value} {s : State} {t : Term} {C n d : String} {a : Addr} {v : Value} (ht : t.eval args s none [] s = some (.ref a)) (hv : (Term.field t C n d).eval args s none [] s = some v) : Fld s s.heap a C n d v := Fld.start ((fld_at ht).symm.trans hv)
def FX (Z : State) (h : Heap) (w_STRUCT : Addr) (w_ENUM : Addr) (w_BITS : Addr) (w_TABLE : Addr) (w_UNION : Addr) : Prop := (Sta Z h "com/example/declarant/declarant/model/Layout$Kind" "STRUCT" "Lcom/example/declarant/declarant/model/Layout$Kind;" (.ref w_STRUCT)) ∧ (Sta Z h "com/example/declarant/declarant/model/Layout$Kind" "ENUM" "Lcom/example/declarant/declarant/model/Layout$Kind;" (.ref w_ENUM)) ∧ (Sta Z h "com/example/declarant/declarant/model/Layout$Kind" "BITS" "Lcom/example/declarant/declarant/model/Layout$Kind;" (.ref w_BITS)) ∧ (Sta Z h "com/example/declarant/declarant/model/Layout$Kind" "TABLE" "Lcom/example/declarant/declarant/model/Layout$Kind;" (.ref w_TABLE)) ∧ (Sta Z h "com/example/declarant/declarant/model/Layout$Kind" "UNION" "Lcom/example/declarant/declarant/model/Layout$Kind;" (.ref w_UNION)) ∧ (Exa Z h w_STRUCT "com/example/declarant/declarant/model/Layout$Kind") ∧ (Exa Z h w_ENUM "com/example/declarant/declarant/model/Layout$Kind") ∧ (Fld Z h w_STRUCT "java/lang/Enum" "ordinal" "I" (.int (0 : Int32))) ∧ (Fld Z h w_ENUM "java/lang/Enum" "ordinal" "I" (.int (3 : Int32))) ∧ (Exa Z h w_BITS "com/example/declarant/declarant/model/Layout$Kind") ∧ (Fld Z h w_BITS "java/lang/Enum" "ordinal" "I" (.int (4 : Int32))) ∧ (Exa Z h w_TABLE "com/example/declarant/declarant/model/Layout$Kind") ∧ (Fld Z h w_TABLE "java/lang/Enum" "ordinal" "I" (.int (1 : Int32))) ∧ (Exa Z h w_UNION "com/example/declarant/declarant/model/Layout$Kind") ∧ (Fld Z h w_UNION "java/lang/Enum" "ordinal" "I" (.int (2 : Int32)))
theorem d1_0 : decode prog_57_method_4_code 0 = .ok (.aload_n 0, 1) := by decide +kernel
theorem d1_1 : decode prog_57_method_4_code 1 = .ok (.getstatic 13, 3) := by decide +kernel
theorem d1_4 : decode prog_57_method_4_code 4 = .ok (.if_acmp .eq 10, 3) := by decide +kernel
theorem d1_14 : decode prog_57_method_4_code 14 = .ok (.iconst 1, 1) := by decide +kernel
theorem d1_15 : decode prog_57_method_4_code 15 = .ok (.goto 4, 3) := by decide +kernel
theorem d1_19 : decode prog_57_method_4_code 19 = .ok (.ireturn, 1) := by decide +kernel
theorem d1_7 : decode prog_57_method_4_code 7 = .ok (.aload_n 0, 1) := by decide +kernel
theorem d1_8 : decode prog_57_method_4_code 8 = .ok (.getstatic 16, 3) := by decide +kernel
theorem d1_11 : decode prog_57_method_4_code 11 = .ok (.if_acmp .ne 7, 3) := by decide +kernel
theorem d1_18 : decode prog_57_method_4_code 18 = .ok (.iconst 0, 1) := by decide +kernel
def F1 (a1 : Addr) (w_ENUM : Addr) (w_BITS : Addr) : Int32 := (if a1 = w_ENUM then (1 : Int32) else (if a1 = w_BITS then (1 : Int32) else (0 : Int32)))
theorem F1_l0 (a1 : Addr) (w_ENUM : Addr) (w_BITS : Addr) (h0 : a1 = w_ENUM) : F1 a1 w_ENUM w_BITS = (1 : Int32) := by
  unfold F1; rw [if_pos h0]
theorem F1_l1 (a1 : Addr) (w_ENUM : Addr) (w_BITS : Addr) (h0 : ¬ (a1 = w_ENUM)) (h1 : a1 = w_BITS) : F1 a1 w_ENUM w_BITS = (1 : Int32) := by
  unfold F1; rw [if_neg h0, if_pos h1]
theorem F1_l2 (a1 : Addr) (w_ENUM : Addr) (w_BITS : Addr) (h0 : ¬ (a1 = w_ENUM)) (h1 : ¬ (a1 = w_BITS)) : F1 a1 w_ENUM w_BITS = (0 : Int32) := by
  unfold F1; rw [if_neg h0, if_neg h1]
theorem ef_1 (m : MethodId) (a1 : Addr) : entryFrame m #[(.ref a1)] 1 = mkF m 0 #[.val (.ref a1)] [] := by first | (simp [entryFrame, mkF, argsToLocals, Value.category]; done) | rfl
def Q_1 (Z : State) (a1 : Addr) (w_STRUCT : Addr) (w_ENUM : Addr) (w_BITS : Addr) (w_TABLE : Addr) (w_UNION : Addr) (h0 : Heap) (n0 : Nat) (v : Option Value) (h : Heap) (L : List Loc) : Prop := v = some (.int (F1 a1 w_ENUM w_BITS)) ∧ Fr n0 L ∧ h = h0
set_option maxRecDepth 65536 in
set_option maxHeartbeats 40000000 in
theorem rm1 (l : Launch) (Z : State) (a0 : Array Value) (hw : ∀ d ∈ tables_1, d.before a0 Z = true) (ws : List Jvm.Cond) (a1 : Addr) (w_STRUCT : Addr) (w_ENUM : Addr) (w_BITS : Addr) (w_TABLE : Addr) (w_UNION : Addr) (h0 : Heap) (n0 : Nat) (hF : FX Z h0 w_STRUCT w_ENUM w_BITS w_TABLE w_UNION) :
    MetFree l (⟨"com/example/declarant/declarant/model/Layout$Kind", "holdsValueMembers", "()Z"⟩ : MethodName) (head1 (Jvm.Cond.code (⟨"com/example/declarant/declarant/model/Layout$Kind", "holdsValueMembers", "()Z"⟩ : MethodName) prog_57_method_4_code 1 (some .boolean) :: ws) ({ frames := 0, cells := 0, slots := 0, locals := 0 } : Room)) (fun a U => a = #[(.ref a1)] ∧ Z.Warmed39 U.vm ∧ U.heap = h0) (fun _ _ _ _ _ => True) (fun _ U o U' => ∃ v L, o = .returned v ∧ Q_1 Z a1 w_STRUCT w_ENUM w_BITS w_TABLE w_UNION h0 n0 v U'.heap L ∧ FrameEnd U o U' L ({ frames := 0, cells := 0, slots := 0, locals := 0 } : Room).cells ({ frames := 0, cells := 0, slots := 0, locals := 0 } : Room).slots) := by
  refine met_of (Ls := #[.val (.ref a1)]) (plainFor_of_name (by first | (simp [plainName, overriddenIn]; done) | decide +kernel)) (fun m => ef_1 m a1) ?_
  intro p e s m below meth c T0 C X0 e0
  obtain ⟨S_w_STRUCT, S_w_ENUM, S_w_BITS, S_w_TABLE, S_w_UNION, E_w_STRUCT, E_w_ENUM, F_ordinal_w_STRUCT, F_ordinal_w_ENUM, E_w_BITS, F_ordinal_w_BITS, E_w_TABLE, F_ordinal_w_TABLE, E_w_UNION, F_ordinal_w_UNION⟩ := id hF
  have N0 := Fr.nil n0
  refine g_aloadN (pc' := 1) C X0 d1_0 rfl rfl rfl ?_
  refine g_getS (pc' := 4) C X0 d1_1 (host := "") (Or.inl (hw _ (List.mem_of_getElem? (i := 9) rfl))) Via.refl e0 S_w_ENUM rfl (fun T1 X1 e1 => ?_)
  by_cases c2 : a1 = w_ENUM
  · refine g_acmp (pc' := 14) (same := true) C X1 d1_4 rfl rfl (decide_eq_true (congrArg Value.ref c2)) (by decide) (by decide) ?_
    refine g_iconst (pc' := 15) (v := (1 : Int32)) C X1 d1_14 rfl rfl ?_
    refine g_goto (pc' := 19) C X1 d1_15 (by decide) (by decide) ?_
    exact g_retN C X1 (by simp) d1_19 (by decide) (by decide) ⟨congrArg (fun z => some (Value.int z)) (F1_l0 a1 w_ENUM w_BITS c2).symm, N0, e1⟩
  · refine g_acmp (pc' := 7) (same := false) C X1 d1_4 rfl rfl (decide_eq_false fun q => c2 (Value.ref.inj q)) (by decide) (by decide) ?_
    refine g_aloadN (pc' := 8) C X1 d1_7 rfl rfl rfl ?_
    refine g_getS (pc' := 11) C X1 d1_8 (host := "") (Or.inl (hw _ (List.mem_of_getElem? (i := 11) rfl))) Via.refl e1 S_w_BITS rfl (fun T3 X3 e3 => ?_)
    by_cases c4 : a1 = w_BITS
    · refine g_acmp (pc' := 14) (same := true) C X3 d1_11 rfl rfl (decide_eq_true (congrArg Value.ref c4)) (by decide) (by decide) ?_
      refine g_iconst (pc' := 15) (v := (1 : Int32)) C X3 d1_14 rfl rfl ?_
      refine g_goto (pc' := 19) C X3 d1_15 (by decide) (by decide) ?_
      exact g_retN C X3 (by simp) d1_19 (by decide) (by decide) ⟨congrArg (fun z => some (Value.int z)) (F1_l1 a1 w_ENUM w_BITS c2 c4).symm, N0, e3⟩
    · refine g_acmp (pc' := 18) (same := false) C X3 d1_11 rfl rfl (decide_eq_false fun q => c4 (Value.ref.inj q)) (by decide) (by decide) ?_
      refine g_iconst (pc' := 19) (v := (0 : Int32)) C X3 d1_18 rfl rfl ?_
      exact g_retN C X3 (by simp) d1_19 (by decide) (by decide) ⟨congrArg (fun z => some (Value.int z)) (F1_l2 a1 w_ENUM w_BITS c2 c4).symm, N0, e3⟩
theorem pd_0 : parseMethodDescriptor "()Z" = some ⟨[], some .boolean⟩ := by decide +kernel
theorem ef_0 (m : MethodId) (p1 : Int32) : entryFrame m #[(.int p1)] maxLocals = mkF m 0 #[.val (.int p1), .unset, .unset, .unset] [] := by first | (simp [entryFrame, mkF, argsToLocals, Value.category, maxLocals]; done) | rfl
def Q_0 (Z : State) (p1 : Int32) (w_STRUCT : Addr) (w_ENUM : Addr) (w_BITS : Addr) (w_TABLE : Addr) (w_UNION : Addr) (h0 : Heap) (n0 : Nat) (v : Option Value) (h : Heap) (L : List Loc) : Prop := v = some (.int 1) ∧ Fr n0 L
set_option maxRecDepth 65536 in
set_option maxHeartbeats 40000000 in
theorem rm0 (l : Launch) (Z : State) (a0 : Array Value) (hw : ∀ d ∈ tables_1, d.before a0 Z = true) (ws : List Jvm.Cond) (p1 : Int32) (w_STRUCT : Addr) (w_ENUM : Addr) (w_BITS : Addr) (w_TABLE : Addr) (w_UNION : Addr) (h0 : Heap) (n0 : Nat) (hF : FX Z h0 w_STRUCT w_ENUM w_BITS w_TABLE w_UNION) (ne_w_STRUCT_w_ENUM : ¬ (w_STRUCT = w_ENUM)) (ne_w_STRUCT_w_BITS : ¬ (w_STRUCT = w_BITS)) (ne_w_STRUCT_w_TABLE : ¬ (w_STRUCT = w_TABLE)) (ne_w_STRUCT_w_UNION : ¬ (w_STRUCT = w_UNION)) (ne_w_ENUM_w_BITS : ¬ (w_ENUM = w_BITS)) (ne_w_ENUM_w_TABLE : ¬ (w_ENUM = w_TABLE)) (ne_w_ENUM_w_UNION : ¬ (w_ENUM = w_UNION)) (ne_w_BITS_w_TABLE : ¬ (w_BITS = w_TABLE)) (ne_w_BITS_w_UNION : ¬ (w_BITS = w_UNION)) (ne_w_TABLE_w_UNION : ¬ (w_TABLE = w_UNION)) :
    MetFree l x (head1 (Jvm.Cond.code x code maxLocals ret :: ws) room_1) (fun a U => a = #[(.int p1)] ∧ Z.Warmed39 U.vm ∧ U.heap = h0) (fun _ _ _ _ _ => True) (fun _ U o U' => ∃ v L, o = .returned v ∧ Q_0 Z p1 w_STRUCT w_ENUM w_BITS w_TABLE w_UNION h0 n0 v U'.heap L ∧ FrameEnd U o U' L 0 0) := by
  refine met_of (Ls := #[.val (.int p1), .unset, .unset, .unset]) (plainFor_of_name (by first | (simp [plainName, overriddenIn]; done) | decide +kernel)) (fun m => ef_0 m p1) ?_
  intro p e s m below meth c T0 C X0 e0
  obtain ⟨S_w_STRUCT, S_w_ENUM, S_w_BITS, S_w_TABLE, S_w_UNION, E_w_STRUCT, E_w_ENUM, F_ordinal_w_STRUCT, F_ordinal_w_ENUM, E_w_BITS, F_ordinal_w_BITS, E_w_TABLE, F_ordinal_w_TABLE, E_w_UNION, F_ordinal_w_UNION⟩ := id hF
  have N0 := Fr.nil n0
  refine g_iloadN (pc' := 1) C X0 at_0 rfl rfl ?_
  refine g_ldc (pc' := 3) (v := (2147483647 : Int32)) C X0 at_1 (hw _ (List.mem_of_getElem? (i := 0) rfl)) rfl ?_
  refine g_iand (pc' := 4) C X0 at_3 rfl ?_
  refine g_iconst (pc' := 5) (v := (5 : Int32)) C X0 at_4 rfl rfl ?_
  refine g_irem (pc' := 6) C X0 at_5 (by decide) rfl ?_
  refine g_istoreN (pc' := 7) (Ls' := #[.val (.int p1), .val (.int ((p1 &&& (2147483647 : Int32)) % (5 : Int32))), .unset, .unset]) C X0 at_6 rfl rfl ?_
  refine g_iloadN (pc' := 8) C X0 at_7 rfl rfl ?_
  by_cases c1 : ((p1 &&& (2147483647 : Int32)) % (5 : Int32)) = (0 : Int32)
  · refine g_ifN (pc' := 11) C X0 at_8 (teq c1).2 rfl ?_
    refine g_getS (pc' := 14) C X0 at_11 (host := "") (Or.inl (hw _ (List.mem_of_getElem? (i := 1) rfl))) Via.refl e0 S_w_STRUCT rfl (fun T2 X2 e2 => ?_)
    refine g_astoreN (pc' := 15) (Ls' := #[.val (.int p1), .val (.int ((p1 &&& (2147483647 : Int32)) % (5 : Int32))), .val (.ref w_STRUCT), .unset]) C X2 at_14 rfl rfl rfl ?_
    refine g_iconst (pc' := 16) (v := (0 : Int32)) C X2 at_15 rfl rfl ?_
    refine g_istoreN (pc' := 17) (Ls' := #[.val (.int p1), .val (.int ((p1 &&& (2147483647 : Int32)) % (5 : Int32))), .val (.ref w_STRUCT), .val (.int (0 : Int32))]) C X2 at_16 rfl rfl ?_
    refine g_goto (pc' := 68) C X2 at_17 (by decide) (by decide) ?_
    refine g_aloadN (pc' := 69) C X2 at_68 rfl rfl rfl ?_
    refine g_callV (b := w_STRUCT) (z := (⟨"com/example/declarant/declarant/model/Layout$Kind", "holdsValueMembers", "()Z"⟩ : MethodName)) (y := (⟨"com/example/declarant/declarant/model/Layout$Kind", "holdsValueMembers", "()Z"⟩ : MethodName)) (argsL := []) (st := []) (pc' := 72) C X2 at_69 (hw _ (List.mem_of_getElem? (i := 4) rfl)) (hw _ (List.mem_of_getElem? (i := 5) rfl)) (notFace_of_selects (args := #[]) (mvT C.hZ (hw _ (List.mem_of_getElem? (i := 7) rfl)))) (hw _ (List.mem_of_getElem? (i := 7) rfl)) (hw _ (List.mem_of_getElem? (i := 6) rfl)) (hw _ (List.mem_of_getElem? (i := 2) rfl)) (hw _ (List.mem_of_getElem? (i := 8) rfl)) (by decide) (rm1 l Z a0 hw [] w_STRUCT w_STRUCT w_ENUM w_BITS w_TABLE w_UNION h0 n0 hF) (W := 0) (by decide) (by decide) (ce := 0) (sl := 0) rfl rfl (by decide) (by decide) rfl E_w_STRUCT e2 rfl pd_0 rfl (Nat.le_refl _) rfl (fun v3 T3 L3 X3 Q3 => ?_)
    obtain ⟨q3, Nq3, e3⟩ := Q3
    have N3 := Fr.app N0 Nq3
    rw [F1_l2 w_STRUCT w_ENUM w_BITS ne_w_STRUCT_w_ENUM ne_w_STRUCT_w_BITS] at q3
    subst q3
    show Go p.tables e below _ (T3.setTop (mkF m 72 #[.val (.int p1), .val (.int ((p1 &&& (2147483647 : Int32)) % (5 : Int32))), .val (.ref w_STRUCT), .val (.int (0 : Int32))] [(.int (0 : Int32))]))
    refine g_iloadN (pc' := 73) C X3 at_72 rfl rfl ?_
    refine g_icmpN (pc' := 76) C X3 at_73 (teq (show (0 : Int32) = (0 : Int32) from (by decide))).2 rfl ?_
    refine g_iconst (pc' := 77) (v := (1 : Int32)) C X3 at_76 rfl rfl ?_
    refine g_goto (pc' := 81) C X3 at_77 (by decide) (by decide) ?_
    exact g_retN C X3 (by simp) at_81 (by decide) (by decide) ⟨rfl, N3⟩
  · refine g_ifY (pc' := 20) C X0 at_8 (feq c1).2 (by decide) (by decide) ?_
    refine g_iloadN (pc' := 21) C X0 at_20 rfl rfl ?_
    refine g_iconst (pc' := 22) (v := (1 : Int32)) C X0 at_21 rfl rfl ?_
    by_cases c4 : ((p1 &&& (2147483647 : Int32)) % (5 : Int32)) = (1 : Int32)
    · refine g_icmpN (pc' := 25) C X0 at_22 (teq c4).2 rfl ?_
      refine g_getS (pc' := 28) C X0 at_25 (host := "") (Or.inl (hw _ (List.mem_of_getElem? (i := 14) rfl))) Via.refl e0 S_w_TABLE rfl (fun T5 X5 e5 => ?_)
      refine g_astoreN (pc' := 29) (Ls' := #[.val (.int p1), .val (.int ((p1 &&& (2147483647 : Int32)) % (5 : Int32))), .val (.ref w_TABLE), .unset]) C X5 at_28 rfl rfl rfl ?_
      refine g_iconst (pc' := 30) (v := (0 : Int32)) C X5 at_29 rfl rfl ?_
      refine g_istoreN (pc' := 31) (Ls' := #[.val (.int p1), .val (.int ((p1 &&& (2147483647 : Int32)) % (5 : Int32))), .val (.ref w_TABLE), .val (.int (0 : Int32))]) C X5 at_30 rfl rfl ?_
      refine g_goto (pc' := 68) C X5 at_31 (by decide) (by decide) ?_
      refine g_aloadN (pc' := 69) C X5 at_68 rfl rfl rfl ?_
      refine g_callV (b := w_TABLE) (z := (⟨"com/example/declarant/declarant/model/Layout$Kind", "holdsValueMembers", "()Z"⟩ : MethodName)) (y := (⟨"com/example/declarant/declarant/model/Layout$Kind", "holdsValueMembers", "()Z"⟩ : MethodName)) (argsL := []) (st := []) (pc' := 72) C X5 at_69 (hw _ (List.mem_of_getElem? (i := 4) rfl)) (hw _ (List.mem_of_getElem? (i := 5) rfl)) (notFace_of_selects (args := #[]) (mvT C.hZ (hw _ (List.mem_of_getElem? (i := 7) rfl)))) (hw _ (List.mem_of_getElem? (i := 7) rfl)) (hw _ (List.mem_of_getElem? (i := 6) rfl)) (hw _ (List.mem_of_getElem? (i := 2) rfl)) (hw _ (List.mem_of_getElem? (i := 8) rfl)) (by decide) (rm1 l Z a0 hw [] w_TABLE w_STRUCT w_ENUM w_BITS w_TABLE w_UNION h0 n0 hF) (W := 0) (by decide) (by decide) (ce := 0) (sl := 0) rfl rfl (by decide) (by decide) rfl E_w_TABLE e5 rfl pd_0 rfl (Nat.le_refl _) rfl (fun v6 T6 L6 X6 Q6 => ?_)
      obtain ⟨q6, Nq6, e6⟩ := Q6
      have N6 := Fr.app N0 Nq6
      rw [F1_l2 w_TABLE w_ENUM w_BITS (show ¬ (w_TABLE = w_ENUM) from (Ne.symm ne_w_ENUM_w_TABLE)) (show ¬ (w_TABLE = w_BITS) from (Ne.symm ne_w_BITS_w_TABLE))] at q6
      subst q6
      show Go p.tables e below _ (T6.setTop (mkF m 72 #[.val (.int p1), .val (.int ((p1 &&& (2147483647 : Int32)) % (5 : Int32))), .val (.ref w_TABLE), .val (.int (0 : Int32))] [(.int (0 : Int32))]))
      refine g_iloadN (pc' := 73) C X6 at_72 rfl rfl ?_
      refine g_icmpN (pc' := 76) C X6 at_73 (teq (show (0 : Int32) = (0 : Int32) from (by decide))).2 rfl ?_
      refine g_iconst (pc' := 77) (v := (1 : Int32)) C X6 at_76 rfl rfl ?_
      refine g_goto (pc' := 81) C X6 at_77 (by decide) (by decide) ?_
      exact g_retN C X6 (by simp) at_81 (by decide) (by decide) ⟨rfl, N6⟩
    · refine g_icmpY (pc' := 34) C X0 at_22 (feq c4).2 (by decide) (by decide) ?_
      refine g_iloadN (pc' := 35) C X0 at_34 rfl rfl ?_
      refine g_iconst (pc' := 36) (v := (2 : Int32)) C X0 at_35 rfl rfl ?_
      by_cases c7 : ((p1 &&& (2147483647 : Int32)) % (5 : Int32)) = (2 : Int32)
      · refine g_icmpN (pc' := 39) C X0 at_36 (teq c7).2 rfl ?_
        refine g_getS (pc' := 42) C X0 at_39 (host := "") (Or.inl (hw _ (List.mem_of_getElem? (i := 17) rfl))) Via.refl e0 S_w_UNION rfl (fun T8 X8 e8 => ?_)
        refine g_astoreN (pc' := 43) (Ls' := #[.val (.int p1), .val (.int ((p1 &&& (2147483647 : Int32)) % (5 : Int32))), .val (.ref w_UNION), .unset]) C X8 at_42 rfl rfl rfl ?_
        refine g_iconst (pc' := 44) (v := (0 : Int32)) C X8 at_43 rfl rfl ?_
        refine g_istoreN (pc' := 45) (Ls' := #[.val (.int p1), .val (.int ((p1 &&& (2147483647 : Int32)) % (5 : Int32))), .val (.ref w_UNION), .val (.int (0 : Int32))]) C X8 at_44 rfl rfl ?_
        refine g_goto (pc' := 68) C X8 at_45 (by decide) (by decide) ?_
        refine g_aloadN (pc' := 69) C X8 at_68 rfl rfl rfl ?_
        refine g_callV (b := w_UNION) (z := (⟨"com/example/declarant/declarant/model/Layout$Kind", "holdsValueMembers", "()Z"⟩ : MethodName)) (y := (⟨"com/example/declarant/declarant/model/Layout$Kind", "holdsValueMembers", "()Z"⟩ : MethodName)) (argsL := []) (st := []) (pc' := 72) C X8 at_69 (hw _ (List.mem_of_getElem? (i := 4) rfl)) (hw _ (List.mem_of_getElem? (i := 5) rfl)) (notFace_of_selects (args := #[]) (mvT C.hZ (hw _ (List.mem_of_getElem? (i := 7) rfl)))) (hw _ (List.mem_of_getElem? (i := 7) rfl)) (hw _ (List.mem_of_getElem? (i := 6) rfl)) (hw _ (List.mem_of_getElem? (i := 2) rfl)) (hw _ (List.mem_of_getElem? (i := 8) rfl)) (by decide) (rm1 l Z a0 hw [] w_UNION w_STRUCT w_ENUM w_BITS w_TABLE w_UNION h0 n0 hF) (W := 0) (by decide) (by decide) (ce := 0) (sl := 0) rfl rfl (by decide) (by decide) rfl E_w_UNION e8 rfl pd_0 rfl (Nat.le_refl _) rfl (fun v9 T9 L9 X9 Q9 => ?_)
        obtain ⟨q9, Nq9, e9⟩ := Q9
        have N9 := Fr.app N0 Nq9
        rw [F1_l2 w_UNION w_ENUM w_BITS (show ¬ (w_UNION = w_ENUM) from (Ne.symm ne_w_ENUM_w_UNION)) (show ¬ (w_UNION = w_BITS) from (Ne.symm ne_w_BITS_w_UNION))] at q9
        subst q9
        show Go p.tables e below _ (T9.setTop (mkF m 72 #[.val (.int p1), .val (.int ((p1 &&& (2147483647 : Int32)) % (5 : Int32))), .val (.ref w_UNION), .val (.int (0 : Int32))] [(.int (0 : Int32))]))
        refine g_iloadN (pc' := 73) C X9 at_72 rfl rfl ?_
        refine g_icmpN (pc' := 76) C X9 at_73 (teq (show (0 : Int32) = (0 : Int32) from (by decide))).2 rfl ?_
        refine g_iconst (pc' := 77) (v := (1 : Int32)) C X9 at_76 rfl rfl ?_
        refine g_goto (pc' := 81) C X9 at_77 (by decide) (by decide) ?_
        exact g_retN C X9 (by simp) at_81 (by decide) (by decide) ⟨rfl, N9⟩
      · refine g_icmpY (pc' := 48) C X0 at_36 (feq c7).2 (by decide) (by decide) ?_
        refine g_iloadN (pc' := 49) C X0 at_48 rfl rfl ?_
        refine g_iconst (pc' := 50) (v := (3 : Int32)) C X0 at_49 rfl rfl ?_
        by_cases c10 : ((p1 &&& (2147483647 : Int32)) % (5 : Int32)) = (3 : Int32)
        · refine g_icmpN (pc' := 53) C X0 at_50 (teq c10).2 rfl ?_
          refine g_getS (pc' := 56) C X0 at_53 (host := "") (Or.inl (hw _ (List.mem_of_getElem? (i := 13) rfl))) Via.refl e0 S_w_ENUM rfl (fun T11 X11 e11 => ?_)
          refine g_astoreN (pc' := 57) (Ls' := #[.val (.int p1), .val (.int ((p1 &&& (2147483647 : Int32)) % (5 : Int32))), .val (.ref w_ENUM), .unset]) C X11 at_56 rfl rfl rfl ?_
          refine g_iconst (pc' := 58) (v := (1 : Int32)) C X11 at_57 rfl rfl ?_
          refine g_istoreN (pc' := 59) (Ls' := #[.val (.int p1), .val (.int ((p1 &&& (2147483647 : Int32)) % (5 : Int32))), .val (.ref w_ENUM), .val (.int (1 : Int32))]) C X11 at_58 rfl rfl ?_
          refine g_goto (pc' := 68) C X11 at_59 (by decide) (by decide) ?_
          refine g_aloadN (pc' := 69) C X11 at_68 rfl rfl rfl ?_
          refine g_callV (b := w_ENUM) (z := (⟨"com/example/declarant/declarant/model/Layout$Kind", "holdsValueMembers", "()Z"⟩ : MethodName)) (y := (⟨"com/example/declarant/declarant/model/Layout$Kind", "holdsValueMembers", "()Z"⟩ : MethodName)) (argsL := []) (st := []) (pc' := 72) C X11 at_69 (hw _ (List.mem_of_getElem? (i := 4) rfl)) (hw _ (List.mem_of_getElem? (i := 5) rfl)) (notFace_of_selects (args := #[]) (mvT C.hZ (hw _ (List.mem_of_getElem? (i := 7) rfl)))) (hw _ (List.mem_of_getElem? (i := 7) rfl)) (hw _ (List.mem_of_getElem? (i := 6) rfl)) (hw _ (List.mem_of_getElem? (i := 2) rfl)) (hw _ (List.mem_of_getElem? (i := 8) rfl)) (by decide) (rm1 l Z a0 hw [] w_ENUM w_STRUCT w_ENUM w_BITS w_TABLE w_UNION h0 n0 hF) (W := 0) (by decide) (by decide) (ce := 0) (sl := 0) rfl rfl (by decide) (by decide) rfl E_w_ENUM e11 rfl pd_0 rfl (Nat.le_refl _) rfl (fun v12 T12 L12 X12 Q12 => ?_)
          obtain ⟨q12, Nq12, e12⟩ := Q12
          have N12 := Fr.app N0 Nq12
          rw [F1_l0 w_ENUM w_ENUM w_BITS (show w_ENUM = w_ENUM from (rfl : w_ENUM = w_ENUM))] at q12
          subst q12
          show Go p.tables e below _ (T12.setTop (mkF m 72 #[.val (.int p1), .val (.int ((p1 &&& (2147483647 : Int32)) % (5 : Int32))), .val (.ref w_ENUM), .val (.int (1 : Int32))] [(.int (1 : Int32))]))
          refine g_iloadN (pc' := 73) C X12 at_72 rfl rfl ?_
          refine g_icmpN (pc' := 76) C X12 at_73 (teq (show (1 : Int32) = (1 : Int32) from (by decide))).2 rfl ?_
          refine g_iconst (pc' := 77) (v := (1 : Int32)) C X12 at_76 rfl rfl ?_
          refine g_goto (pc' := 81) C X12 at_77 (by decide) (by decide) ?_
          exact g_retN C X12 (by simp) at_81 (by decide) (by decide) ⟨rfl, N12⟩
        · refine g_icmpY (pc' := 62) C X0 at_50 (feq c10).2 (by decide) (by decide) ?_
          refine g_getS (pc' := 65) C X0 at_62 (host := "") (Or.inl (hw _ (List.mem_of_getElem? (i := 16) rfl))) Via.refl e0 S_w_BITS rfl (fun T13 X13 e13 => ?_)
          refine g_astoreN (pc' := 66) (Ls' := #[.val (.int p1), .val (.int ((p1 &&& (2147483647 : Int32)) % (5 : Int32))), .val (.ref w_BITS), .unset]) C X13 at_65 rfl rfl rfl ?_
          refine g_iconst (pc' := 67) (v := (1 : Int32)) C X13 at_66 rfl rfl ?_
          refine g_istoreN (pc' := 68) (Ls' := #[.val (.int p1), .val (.int ((p1 &&& (2147483647 : Int32)) % (5 : Int32))), .val (.ref w_BITS), .val (.int (1 : Int32))]) C X13 at_67 rfl rfl ?_
          refine g_aloadN (pc' := 69) C X13 at_68 rfl rfl rfl ?_
          refine g_callV (b := w_BITS) (z := (⟨"com/example/declarant/declarant/model/Layout$Kind", "holdsValueMembers", "()Z"⟩ : MethodName)) (y := (⟨"com/example/declarant/declarant/model/Layout$Kind", "holdsValueMembers", "()Z"⟩ : MethodName)) (argsL := []) (st := []) (pc' := 72) C X13 at_69 (hw _ (List.mem_of_getElem? (i := 4) rfl)) (hw _ (List.mem_of_getElem? (i := 5) rfl)) (notFace_of_selects (args := #[]) (mvT C.hZ (hw _ (List.mem_of_getElem? (i := 7) rfl)))) (hw _ (List.mem_of_getElem? (i := 7) rfl)) (hw _ (List.mem_of_getElem? (i := 6) rfl)) (hw _ (List.mem_of_getElem? (i := 2) rfl)) (hw _ (List.mem_of_getElem? (i := 8) rfl)) (by decide) (rm1 l Z a0 hw [] w_BITS w_STRUCT w_ENUM w_BITS w_TABLE w_UNION h0 n0 hF) (W := 0) (by decide) (by decide) (ce := 0) (sl := 0) rfl rfl (by decide) (by decide) rfl E_w_BITS e13 rfl pd_0 rfl (Nat.le_refl _) rfl (fun v14 T14 L14 X14 Q14 => ?_)
          obtain ⟨q14, Nq14, e14⟩ := Q14
          have N14 := Fr.app N0 Nq14
          rw [F1_l1 w_BITS w_ENUM w_BITS (show ¬ (w_BITS = w_ENUM) from (Ne.symm ne_w_ENUM_w_BITS)) (show w_BITS = w_BITS from (rfl : w_BITS = w_BITS))] at q14
          subst q14
          show Go p.tables e below _ (T14.setTop (mkF m 72 #[.val (.int p1), .val (.int ((p1 &&& (2147483647 : Int32)) % (5 : Int32))), .val (.ref w_BITS), .val (.int (1 : Int32))] [(.int (1 : Int32))]))
          refine g_iloadN (pc' := 73) C X14 at_72 rfl rfl ?_
          refine g_icmpN (pc' := 76) C X14 at_73 (teq (show (1 : Int32) = (1 : Int32) from (by decide))).2 rfl ?_
          refine g_iconst (pc' := 77) (v := (1 : Int32)) C X14 at_76 rfl rfl ?_
          refine g_goto (pc' := 81) C X14 at_77 (by decide) (by decide) ?_
          exact g_retN C X14 (by simp) at_81 (by decide) (by decide) ⟨rfl, N14⟩
set_option maxRecDepth 65536 in
set_option maxHeartbeats 40000000 in
theorem comes_1 {Post : Tables → Env → Array Value → State → Outcome → State → Prop} (hpost : ∀ tb e args s v u, (limb_1_1.after args s (.returned v) u = true ∧ limb_1_2.after args s (.returned v) u = true ∧ True) → FrameEnd s (.returned v) u (Jvm.fieldLocs frame_1_writes args s ++ Jvm.arrayLocs frame_1_arrays args s ++ Jvm.staticLocs frame_1_statics s) 0 0 → Post tb e args s (.returned v) u) :
    ArmFor flags0 classFile x code maxLocals ret World_1 tables_1 room_1 Calls_1 rest_1 Pre_1 Post := by
  intro l hfl _ _ p e ha hc hk s m args below hf hA hF happ hP
  obtain ⟨hcalls, hrest, hpre⟩ := hP
  obtain ⟨-, -, -, hnamed, -, -, -, hat⟩ := (Spec.applies_iff hf).mp happ
  obtain ⟨hg, hnr⟩ := and_e (Cond.before_iff.mp (show (Jvm.Cond.and given_1 narrow_1).before args s = true from hpre))
  obtain ⟨gg1, gg2⟩ := and_e hg
  obtain ⟨w0, rfl⟩ : ∃ w0 : Value, args = #[w0] := by
    have hs : args.size = 1 := by simpa [Cond.value, given_1] using gg1
    obtain ⟨L⟩ := args
    match L, hs with
    | [w0], _ => exact ⟨w0, rfl⟩
  have hw := fun d (hd : d ∈ tables_1) => atoms_spec (ws := Jvm.Cond.code x code maxLocals ret :: tables_1) hat d (List.mem_cons_of_mem _ hd)
  have hfit : Fit s := fun {y c} hc i hi => by
    obtain ⟨ha, rfl⟩ := Array.getElem?_eq_some_iff.mp hc
    have q := List.all_eq_true.mp ((Array.all_eq_true_iff_forall_mem.mp hF) _ (Array.getElem_mem ha)) i (List.mem_range.mpr hi)
    simpa [Array.getElem?_eq_getElem hi] using q
  obtain ⟨i0, ei0⟩ := is_v gg2
  obtain rfl : w0 = (.int i0) := Option.some.inj ei0
  obtain ⟨hn0, hnr0⟩ := and_e hnr
  obtain ⟨hn1, hnr1⟩ := and_e hnr0
  obtain ⟨hn2, hnr2⟩ := and_e hnr1
  obtain ⟨hn3, hnr3⟩ := and_e hnr2
  obtain ⟨hn4, hnr4⟩ := and_e hnr3
  obtain ⟨hn5, hnr5⟩ := and_e hnr4
  obtain ⟨hn6, hnr6⟩ := and_e hnr5
  obtain ⟨hn7, hnr7⟩ := and_e hnr6
  obtain ⟨hn8, hn9⟩ := and_e hnr7
  obtain ⟨w_STRUCT, ev_w_STRUCT⟩ := exa_v hn0
  have S_w_STRUCT := Sta.start ev_w_STRUCT (Or.inr ⟨(hw _ (List.mem_of_getElem? (i := 2) rfl)), (hw _ (List.mem_of_getElem? (i := 3) rfl))⟩)
  obtain ⟨w_ENUM, ev_w_ENUM⟩ := exa_v hn1
  have S_w_ENUM := Sta.start ev_w_ENUM (Or.inr ⟨(hw _ (List.mem_of_getElem? (i := 2) rfl)), (hw _ (List.mem_of_getElem? (i := 10) rfl))⟩)
  obtain ⟨w_BITS, ev_w_BITS⟩ := exa_v hn4
  have S_w_BITS := Sta.start ev_w_BITS (Or.inr ⟨(hw _ (List.mem_of_getElem? (i := 2) rfl)), (hw _ (List.mem_of_getElem? (i := 12) rfl))⟩)
  obtain ⟨w_TABLE, ev_w_TABLE⟩ := exa_v hn6
  have S_w_TABLE := Sta.start ev_w_TABLE (Or.inr ⟨(hw _ (List.mem_of_getElem? (i := 2) rfl)), (hw _ (List.mem_of_getElem? (i := 15) rfl))⟩)
  obtain ⟨w_UNION, ev_w_UNION⟩ := exa_v hn8
  have S_w_UNION := Sta.start ev_w_UNION (Or.inr ⟨(hw _ (List.mem_of_getElem? (i := 2) rfl)), (hw _ (List.mem_of_getElem? (i := 18) rfl))⟩)
  have E_w_STRUCT := Exa.start ev_w_STRUCT hn0
  have E_w_ENUM := Exa.start ev_w_ENUM hn1
  have F_ordinal_w_STRUCT := own_fld ev_w_STRUCT (own_eqi hn2)
  have F_ordinal_w_ENUM := own_fld ev_w_ENUM (own_eqi hn3)
  have E_w_BITS := Exa.start ev_w_BITS hn4
  have F_ordinal_w_BITS := own_fld ev_w_BITS (own_eqi hn5)
  have E_w_TABLE := Exa.start ev_w_TABLE hn6
  have F_ordinal_w_TABLE := own_fld ev_w_TABLE (own_eqi hn7)
  have E_w_UNION := Exa.start ev_w_UNION hn8
  have F_ordinal_w_UNION := own_fld ev_w_UNION (own_eqi hn9)
  have ne_w_STRUCT_w_ENUM : ¬ (w_STRUCT = w_ENUM) := Fld.ne F_ordinal_w_STRUCT F_ordinal_w_ENUM (by decide)
  have ne_w_STRUCT_w_BITS : ¬ (w_STRUCT = w_BITS) := Fld.ne F_ordinal_w_STRUCT F_ordinal_w_BITS (by decide)
  have ne_w_STRUCT_w_TABLE : ¬ (w_STRUCT = w_TABLE) := Fld.ne F_ordinal_w_STRUCT F_ordinal_w_TABLE (by decide)
  have ne_w_STRUCT_w_UNION : ¬ (w_STRUCT = w_UNION) := Fld.ne F_ordinal_w_STRUCT F_ordinal_w_UNION (by decide)
  have ne_w_ENUM_w_BITS : ¬ (w_ENUM = w_BITS) := Fld.ne F_ordinal_w_ENUM F_ordinal_w_BITS (by decide)
  have ne_w_ENUM_w_TABLE : ¬ (w_ENUM = w_TABLE) := Fld.ne F_ordinal_w_ENUM F_ordinal_w_TABLE (by decide)
  have ne_w_ENUM_w_UNION : ¬ (w_ENUM = w_UNION) := Fld.ne F_ordinal_w_ENUM F_ordinal_w_UNION (by decide)
  have ne_w_BITS_w_TABLE : ¬ (w_BITS = w_TABLE) := Fld.ne F_ordinal_w_BITS F_ordinal_w_TABLE (by decide)
  have ne_w_BITS_w_UNION : ¬ (w_BITS = w_UNION) := Fld.ne F_ordinal_w_BITS F_ordinal_w_UNION (by decide)
  have ne_w_TABLE_w_UNION : ¬ (w_TABLE = w_UNION) := Fld.ne F_ordinal_w_TABLE F_ordinal_w_UNION (by decide)
  have hFX : FX s s.heap w_STRUCT w_ENUM w_BITS w_TABLE w_UNION := ⟨S_w_STRUCT, S_w_ENUM, S_w_BITS, S_w_TABLE, S_w_UNION, E_w_STRUCT, E_w_ENUM, F_ordinal_w_STRUCT, F_ordinal_w_ENUM, E_w_BITS, F_ordinal_w_BITS, E_w_TABLE, F_ordinal_w_TABLE, E_w_UNION, F_ordinal_w_UNION⟩
  obtain ⟨n, o, h1, h2, h3, _, L, rfl, ⟨hv, N⟩, hq⟩ := rm0 l s _ hw tables_1 i0 w_STRUCT w_ENUM w_BITS w_TABLE w_UNION s.heap s.heap.size hFX ne_w_STRUCT_w_ENUM ne_w_STRUCT_w_BITS ne_w_STRUCT_w_TABLE ne_w_STRUCT_w_UNION ne_w_ENUM_w_BITS ne_w_ENUM_w_TABLE ne_w_ENUM_w_UNION ne_w_BITS_w_TABLE ne_w_BITS_w_UNION ne_w_TABLE_w_UNION p e ha hc hk s m _ below hf ((Spec.applies_iff_loose hf).mp happ).1 ⟨rfl, State.Warmed39.refl s, rfl⟩ trivial
  subst hv
  refine ⟨n, _, h1, h2, h3, hpost _ _ _ _ _ _ ⟨Cond.after_iff.mpr rfl, Cond.after_iff.mpr (eq_i res_at (Term.int_eval (1)) rfl), trivial⟩ ⟨hq.1, hq.2.1, (hq.2.2.sift fun y hy => Or.inr (N y hy)).mono (by decide) (by decide)⟩⟩
theorem main_1_1 : Claimed_1_1 := comes_1 fun _ _ _ _ _ _ h hF => ⟨h.1, hF⟩
theorem main_1_2 : Claimed_1_2 := comes_1 fun _ _ _ _ _ _ h hF => ⟨h.2.1, hF⟩
end Jvm.Pilot.@@N@@
namespace Jvm.Pilot.@@N@@
open Jvm Jvm.ClassFile Sem Op Lib Jvm.Free Jvm.Stand Jvm.Pilot.@@N@@.Jvm.D
/-! MADE BY PROGRAM (witnessworld.py) out of the Statement's table words and the real class files: 12 classes; the members and pool entries that the words name. The judged class is class 1, her method 1. -/
namespace start1
open Jvm.ClassFile
def u (s : String) : CpInfo := .utf8 (stringToUtf16 s)
/-- a pool by its gaps: so many unusable entries, then the entry; so many at the end -/
def gap : Nat → List CpInfo → List CpInfo
  | 0, r => r
  | n + 1, r => .unusable :: gap n r
def poolList (es : List (Nat × CpInfo)) (last : Nat) : List CpInfo := es.foldr (fun e r => gap e.1 (e.2 :: r)) (gap last [])
def pool (es : List (Nat × CpInfo)) (last : Nat) : Array CpInfo := ⟨poolList es last⟩
def fileOf (pool : Array CpInfo) (this : Nat) (attrs : Array Attribute := #[]) (ms : Array MethodInfo := #[]) (fl : Nat := 33) (sup : Nat := 0) (ifs : Array Nat := #[]) (fds : Array FieldInfo := #[]) : ClassFile where
  minorVersion := 0
  majorVersion := 65
  constantPool := pool
  accessFlags := fl
  thisClass := this
  superClass := sup
  interfaces := ifs
  fields := fds
  methods := ms
  attributes := attrs
def plain (name : String) (sup : Option ClassId) : Class where
  name := name
  kind := .ordinary
  loader := none
  accessFlags := 33
  super := sup
  interfaces := #[]
  cf := none
  fields := #[]
  methods := #[]
  instanceTypes := #[]
  staticTypes := #[]
  resolved := #[]
  callSites := []
  init := .initialized
  statics := none
  mirror := none

def pool0 : Array CpInfo := pool [(5, u "<init>"), (0, u "()V"), (1, .class_ 10), (1, u "java/lang/Object")] 113

def k0m0 : Method := { name := "<init>", desc := "()V", sig := { parameters := [], returnType := none }, accessFlags := 1, code := none }
/-- java/lang/Object -/
def k0 : Class := { plain "java/lang/Object" none with
  accessFlags := 33
  interfaces := #[]
  cf := some (fileOf pool0 8 #[] #[{ accessFlags := 1, nameIndex := 5, descriptorIndex := 6, attributes := #[] }] 33 0 #[] #[])
  fields := #[]
  methods := #[k0m0]
  instanceTypes := #[]
  staticTypes := #[]
  resolved := Array.replicate 124 none
  statics := none }

def pool1 : Array CpInfo := pool [(2, .class_ 4), (1, u "java/lang/Object"), (0, u "<init>"), (0, u "()V"), (0, .integer 2147483647), (0, .fieldref 9 10), (0, .class_ 11), (0, .nameAndType 12 13), (0, u "com/example/declarant/declarant/model/Layout$Kind"), (0, u "STRUCT"), (0, u "Lcom/example/declarant/declarant/model/Layout$Kind;"), (0, .fieldref 9 15), (0, .nameAndType 16 13), (0, u "TABLE"), (0, .fieldref 9 18), (0, .nameAndType 19 13), (0, u "UNION"), (0, .fieldref 9 21), (0, .nameAndType 22 13), (0, u "ENUM"), (0, .fieldref 9 24), (0, .nameAndType 25 13), (0, u "BITS"), (0, .methodref 9 27), (0, .nameAndType 28 29), (0, u "holdsValueMembers"), (0, u "()Z"), (0, .class_ 31), (0, u "com/example/declarant/declarant/model/KindHoldsValueMembersPinLaw"), (2, u "law"), (0, u "(I)Z")] 7

def k1m0 : Method := { name := "<init>", desc := "()V", sig := { parameters := [], returnType := none }, accessFlags := 2, code := none }
def k1c1 : Code := { maxStack := 2, maxLocals := 4, code := code, exceptionTable := #[], attributes := #[] }
def k1m1 : Method := { name := "law", desc := "(I)Z", sig := { parameters := [.int], returnType := some .boolean }, accessFlags := 9, code := some k1c1 }
/-- com/example/declarant/declarant/model/KindHoldsValueMembersPinLaw -/
def k1 : Class := { plain "com/example/declarant/declarant/model/KindHoldsValueMembersPinLaw" (some 0) with
  accessFlags := 49
  interfaces := #[]
  cf := some (fileOf pool1 30 #[] #[{ accessFlags := 2, nameIndex := 5, descriptorIndex := 6, attributes := #[] }, { accessFlags := 9, nameIndex := 34, descriptorIndex := 35, attributes := #[] }] 49 2 #[] #[])
  fields := #[]
  methods := #[k1m0, k1m1]
  instanceTypes := #[]
  staticTypes := #[]
  resolved := Array.replicate 43 none
  statics := none }

def pool2 : Array CpInfo := pool [(1, .class_ 2), (0, u "java/lang/constant/Constable"), (0, .class_ 4), (0, u "java/lang/Object")] 6

/-- java/lang/constant/Constable -/
def k2 : Class := { plain "java/lang/constant/Constable" (some 0) with
  accessFlags := 1537
  interfaces := #[]
  cf := some (fileOf pool2 1 #[] #[] 1537 3 #[] #[])
  fields := #[]
  methods := #[]
  instanceTypes := #[]
  staticTypes := #[]
  resolved := Array.replicate 11 none
  statics := none }

def pool3 : Array CpInfo := pool [(1, .class_ 2), (0, u "java/lang/Comparable"), (0, .class_ 4), (0, u "java/lang/Object")] 7

/-- java/lang/Comparable -/
def k3 : Class := { plain "java/lang/Comparable" (some 0) with
  accessFlags := 1537
  interfaces := #[]
  cf := some (fileOf pool3 1 #[] #[] 1537 3 #[] #[])
  fields := #[]
  methods := #[]
  instanceTypes := #[]
  staticTypes := #[]
  resolved := Array.replicate 12 none
  statics := none }

def pool4 : Array CpInfo := pool [(1, .class_ 2), (0, u "java/io/Serializable"), (0, .class_ 4), (0, u "java/lang/Object")] 2

/-- java/io/Serializable -/
def k4 : Class := { plain "java/io/Serializable" (some 0) with
  accessFlags := 1537
  interfaces := #[]
  cf := some (fileOf pool4 1 #[] #[] 1537 3 #[] #[])
  fields := #[]
  methods := #[]
  instanceTypes := #[]
  staticTypes := #[]
  resolved := Array.replicate 7 none
  statics := none }

def pool5 : Array CpInfo := pool [(2, .class_ 4), (1, u "java/lang/Enum"), (0, u "name"), (0, u "Ljava/lang/String;"), (2, u "ordinal"), (0, u "I"), (1, .class_ 14), (1, u "java/lang/Object"), (4, u "hash"), (86, .class_ 108), (1, u "java/lang/Enum$EnumDesc"), (2, .class_ 112), (0, u "java/lang/constant/Constable"), (0, .class_ 114), (0, u "java/lang/Comparable"), (0, .class_ 116), (0, u "java/io/Serializable")] 87

/-- java/lang/Enum -/
def k5 : Class := { plain "java/lang/Enum" (some 0) with
  accessFlags := 1057
  interfaces := #[2, 3, 4]
  cf := some (fileOf pool5 2 #[.nestMembers #[106]] #[] 1057 12 #[111, 113, 115] #[{ accessFlags := 18, nameIndex := 5, descriptorIndex := 6, attributes := #[] }, { accessFlags := 18, nameIndex := 9, descriptorIndex := 10, attributes := #[] }, { accessFlags := 2, nameIndex := 19, descriptorIndex := 10, attributes := #[] }])
  fields := #[{ name := "name", type := (.object "java/lang/String"), accessFlags := 18, slot := 0, constantValue := 0 }, { name := "ordinal", type := .int, accessFlags := 18, slot := 1, constantValue := 0 }, { name := "hash", type := .int, accessFlags := 2, slot := 2, constantValue := 0 }]
  methods := #[]
  instanceTypes := #[(.object "java/lang/String"), .int, .int]
  staticTypes := #[]
  resolved := Array.replicate 204 none
  statics := none }

def pool6 : Array CpInfo := pool [(1, .class_ 2), (0, u "com/example/declarant/declarant/model/Layout$Kind"), (2, u "STRUCT"), (0, u "Lcom/example/declarant/declarant/model/Layout$Kind;"), (2, u "TABLE"), (2, u "UNION"), (0, .fieldref 1 14), (0, .nameAndType 15 6), (0, u "ENUM"), (0, .fieldref 1 17), (0, .nameAndType 18 6), (0, u "BITS"), (2, u "$VALUES"), (0, u "[Lcom/example/declarant/declarant/model/Layout$Kind;"), (6, .class_ 31), (1, u "java/lang/Enum"), (23, u "holdsValueMembers"), (0, u "()Z"), (6, .class_ 64), (0, u "com/example/declarant/declarant/model/Layout")] 2

def k6c0 : Code := { maxStack := 2, maxLocals := 1, code := prog_57_method_4_code, exceptionTable := #[], attributes := #[] }
def k6m0 : Method := { name := "holdsValueMembers", desc := "()Z", sig := { parameters := [], returnType := some .boolean }, accessFlags := 1, code := some k6c0 }
/-- com/example/declarant/declarant/model/Layout$Kind -/
def k6 : Class := { plain "com/example/declarant/declarant/model/Layout$Kind" (some 5) with
  accessFlags := 16433
  interfaces := #[]
  cf := some (fileOf pool6 1 #[.nestHost 63] #[{ accessFlags := 1, nameIndex := 55, descriptorIndex := 56, attributes := #[] }] 16433 29 #[] #[{ accessFlags := 16409, nameIndex := 5, descriptorIndex := 6, attributes := #[] }, { accessFlags := 16409, nameIndex := 9, descriptorIndex := 6, attributes := #[] }, { accessFlags := 16409, nameIndex := 12, descriptorIndex := 6, attributes := #[] }, { accessFlags := 16409, nameIndex := 15, descriptorIndex := 6, attributes := #[] }, { accessFlags := 16409, nameIndex := 18, descriptorIndex := 6, attributes := #[] }, { accessFlags := 4122, nameIndex := 21, descriptorIndex := 22, attributes := #[] }])
  fields := #[{ name := "STRUCT", type := (.object "com/example/declarant/declarant/model/Layout$Kind"), accessFlags := 16409, slot := 0, constantValue := 0 }, { name := "TABLE", type := (.object "com/example/declarant/declarant/model/Layout$Kind"), accessFlags := 16409, slot := 1, constantValue := 0 }, { name := "UNION", type := (.object "com/example/declarant/declarant/model/Layout$Kind"), accessFlags := 16409, slot := 2, constantValue := 0 }, { name := "ENUM", type := (.object "com/example/declarant/declarant/model/Layout$Kind"), accessFlags := 16409, slot := 3, constantValue := 0 }, { name := "BITS", type := (.object "com/example/declarant/declarant/model/Layout$Kind"), accessFlags := 16409, slot := 4, constantValue := 0 }, { name := "$VALUES", type := (.array (.object "com/example/declarant/declarant/model/Layout$Kind")), accessFlags := 4122, slot := 5, constantValue := 0 }]
  methods := #[k6m0]
  instanceTypes := #[(.object "java/lang/String"), .int, .int]
  staticTypes := #[(.object "com/example/declarant/declarant/model/Layout$Kind"), (.object "com/example/declarant/declarant/model/Layout$Kind"), (.object "com/example/declarant/declarant/model/Layout$Kind"), (.object "com/example/declarant/declarant/model/Layout$Kind"), (.object "com/example/declarant/declarant/model/Layout$Kind"), (.array (.object "com/example/declarant/declarant/model/Layout$Kind"))]
  resolved := Array.replicate 67 none
  statics := some 0 }

def pool7 : Array CpInfo := pool [(1, u "java/lang/Cloneable"), (0, .class_ 1), (0, u "java/lang/Object"), (0, .class_ 3)] 3

/-- java/lang/Cloneable -/
def k7 : Class := { plain "java/lang/Cloneable" (some 0) with
  accessFlags := 1537
  interfaces := #[]
  cf := some (fileOf pool7 2 #[] #[] 1537 4 #[] #[])
  fields := #[]
  methods := #[]
  instanceTypes := #[]
  staticTypes := #[]
  resolved := Array.replicate 8 none
  statics := none }

/-- the primitive byte -/
def k8 : Class := { plain "byte" none with kind := .primitive 'B', accessFlags := 0x411 }
/-- [B -/
def k9 : Class := { plain "[B" (some 0) with kind := .array 8 .byte, interfaces := #[7, 4], accessFlags := 1041 }

/-- the primitive int -/
def k10 : Class := { plain "int" none with kind := .primitive 'I', accessFlags := 0x411 }
/-- [I -/
def k11 : Class := { plain "[I" (some 0) with kind := .array 10 .int, interfaces := #[7, 4], accessFlags := 1041 }

def heap : Heap := #[{ cls := 6, slots := #[.ref 1, .ref 4, .ref 5, .ref 2, .ref 3, .null], vm := .statics 6 },
  { cls := 6, slots := #[.null, .int 0, .int 0], vm := .none },
  { cls := 6, slots := #[.null, .int 3, .int 0], vm := .none },
  { cls := 6, slots := #[.null, .int 4, .int 0], vm := .none },
  { cls := 6, slots := #[.null, .int 1, .int 0], vm := .none },
  { cls := 6, slots := #[.null, .int 2, .int 0], vm := .none }]
def classes : Array Class := #[k0, k1, k2, k3, k4, k5, k6, k7, k8, k9, k10, k11]
def interned : List (Array UInt16 × Addr) := []
def slotsUsed : Nat := 21
def theMethod : MethodId := ⟨1, 1⟩
def args0 : Array Value := #[.int 5]
def aboutOver (below : List Frame) : State where
  vm := { classes := classes, interned := interned.toArray }
  heap := heap
  slotsUsed := slotsUsed
  threads := #[{ frames := .invoking theMethod args0 :: below }]
def below0 : List Frame := [.native { method := ⟨0, 0⟩, args := #[] }]
def about1 : State := aboutOver below0
def p0 : Program := .bare "" "" ""
def e0 : Env := launch0.env 0 0 0
theorem w_frames : about1.frames = Frame.invoking theMethod args0 :: below0 := rfl
set_option maxRecDepth 65536 in
theorem w_args : argsFit about1.vm theMethod args0 = true := by decide +kernel
set_option maxRecDepth 65536 in
theorem w_heap : heapFits about1 = true := by decide +kernel
set_option maxRecDepth 65536 in
theorem w_runnable : about1.curStatus? = some .runnable := by decide +kernel
set_option maxRecDepth 65536 in
theorem w_alone : about1.alone = true := by decide +kernel
set_option maxRecDepth 65536 in
theorem w_named : about1.methodNamed? x = some theMethod := by decide +kernel
set_option maxRecDepth 65536 in
theorem w_hears : about1.hears theMethod below0 = true := by decide +kernel
set_option maxRecDepth 65536 in
theorem w_ripe : about1.ripe theMethod args0 below0 = true := by decide +kernel
theorem w_running : about1.status = .running := rfl
set_option maxRecDepth 65536 in
theorem w_room : about1.hasRoom e0.platform room_1 = true :=
  launch0.hasRoom_least _ room_1 (by decide +kernel) (by decide +kernel) (by decide +kernel) (by decide +kernel) (by decide +kernel) (by decide +kernel)
theorem allAtoms_all (ts : List Jvm.Cond) (a : Array Jvm.Value) (st : Jvm.State) : (allAtoms ts).before a st = ts.all (fun c => c.before a st) := by
  induction ts with
  | nil => rfl
  | cons c t ih =>
    show (Jvm.Cond.and c (allAtoms t)).before a st = _
    rw [Jvm.Cond.before_and, ih, List.all_cons]
def words1 : List Jvm.Cond := Jvm.Cond.code x code maxLocals ret :: tables_1
/-- a 'code' word, met by the world's own term for the bytes: nothing is compared byte by byte -/
theorem code_word {y : MethodName} {bytes : ByteArray} {mx : Nat} {rt : Option FieldType} {a : Array Value} {s : State} {m : MethodId} {meth : Method} {c : Code} (h1 : s.methodNamed? y = some m) (h2 : s.vm.method? m = some meth) (h3 : meth.code = some c) (h4 : c.code = bytes)
    (h5 : (c.maxLocals == mx && c.exceptionTable.isEmpty && decide (c.maxStack ≤ mostOperands) && decide (meth.sig.returnType = rt) && !meth.locks && decide (parseMethodDescriptor y.desc = some meth.sig)) = true) : (Jvm.Cond.code y bytes mx rt).before a s = true := by
  simp only [Bool.and_eq_true, beq_iff_eq, Bool.not_eq_true', decide_eq_true_eq] at h5
  obtain ⟨⟨⟨⟨⟨g1, g2⟩, g3⟩, g4⟩, g5⟩, g6⟩ := h5
  simp [Cond.before, Cond.holds, Cond.value, h1, h2, h3, h4, g1, g2, g3, g4, g5, g6]
def isCode : Jvm.Cond → Bool
  | .code _ _ _ _ => true
  | _ => false
theorem all_split {L : List Jvm.Cond} {P : Jvm.Cond → Bool} (h1 : L.all (fun c => isCode c || P c) = true) (h2 : ∀ c ∈ L.filter isCode, P c = true) : L.all P = true := by
  refine List.all_eq_true.mpr fun c hc => ?_
  have h := List.all_eq_true.mp h1 c hc
  rcases Bool.eq_false_or_eq_true (isCode c) with hi | hi
  · exact h2 c (List.mem_filter.mpr ⟨hc, hi⟩)
  · simpa [hi] using h
set_option maxRecDepth 65536 in
theorem w_c0 : (Jvm.Cond.code x code maxLocals ret).before args0 about1 = true := code_word (m := ⟨1, 1⟩) (meth := k1m1) (c := k1c1) (by decide +kernel) rfl rfl rfl (by decide +kernel)
set_option maxRecDepth 65536 in
theorem w_c1 : (Jvm.Cond.code ({ cls := "com/example/declarant/declarant/model/Layout$Kind", name := "holdsValueMembers", desc := "()Z" } : Jvm.MethodName) prog_57_method_4_code (1 : Nat) (Option.some Jvm.ClassFile.FieldType.boolean)).before args0 about1 = true := code_word (m := ⟨6, 0⟩) (meth := k6m0) (c := k6c0) (by decide +kernel) rfl rfl rfl (by decide +kernel)
def codes1 : List Jvm.Cond := [Jvm.Cond.code x code maxLocals ret, Jvm.Cond.code ({ cls := "com/example/declarant/declarant/model/Layout$Kind", name := "holdsValueMembers", desc := "()Z" } : Jvm.MethodName) prog_57_method_4_code (1 : Nat) (Option.some Jvm.ClassFile.FieldType.boolean)]
set_option maxRecDepth 65536 in
theorem codes_eq : words1.filter isCode = codes1 := rfl
theorem w_codes : ∀ c ∈ words1.filter isCode, c.before args0 about1 = true := by
  rw [codes_eq]
  intro c hc
  simp only [codes1, List.mem_cons, List.not_mem_nil, or_false] at hc
  rcases hc with rfl | rfl
  · exact w_c0
  · exact w_c1
set_option maxRecDepth 65536 in
theorem w_t1 : words1.all (fun c => isCode c || c.before args0 about1) = true := by decide +kernel
theorem w_tables : (allAtoms (Jvm.Cond.code x code maxLocals ret :: tables_1)).before args0 about1 = true := by
  rw [allAtoms_all]
  show words1.all (fun c => c.before args0 about1) = true
  refine all_split ?_ w_codes
  rw [w_t1]
set_option maxRecDepth 65536 in
theorem w_case : (Jvm.Cond.and given_1 narrow_1).before args0 about1 = true := by decide +kernel
theorem w_applies : (headSpec (Jvm.Cond.code x code maxLocals ret :: tables_1) room_1).applies x e0.platform about1 = true :=
  (Spec.applies_iff w_frames).mpr ⟨w_running, w_runnable, w_alone, w_named, w_hears, w_ripe, w_room, w_tables⟩
theorem atStart : AtStart classFile x code maxLocals ret World_1 tables_1 room_1 Calls_1 rest_1 Pre_1 launch0 p0 e0 about1 theMethod args0 below0 :=
  ⟨lists_1, trivial, launch0.admits_env _ _ _, launch0.least_env, fairChoices_fair.cas, fairChoices_fair.clock, w_frames, w_args, w_heap, w_applies, trivial, trivial, w_case⟩
end start1
theorem witness_1 : WitnessClaimed_1 := ⟨start1.p0, start1.e0, start1.about1, start1.theMethod, start1.args0, start1.below0, start1.atStart⟩
end Jvm.Pilot.@@N@@
