import JvmDerived
import JvmDerived.Pilot.@@N@@Statement
import JvmDerived.Pilot.@@N@@Code
set_option linter.unusedVariables false
set_option linter.unusedSimpArgs false
namespace Jvm.Pilot.@@N@@
open Jvm Jvm.ClassFile Sem Op Lib Jvm.Free Jvm.Stand Jvm.LawKit Jvm.RoadKit Bundle Jvm.Pilot.@@N@@.Jvm.D
section OwnKit
variable {p : Program} {l : Launch} {e : Env} {R : Room} {s : State} {m : MethodId} {args : Array Value} {below : List Frame} {meth : Method} {c : Code} {T : State} {locs : List Loc} {cells slots : Nat} {Z : State} {a0 : Array Value} {h : Heap} {bs : ByteArray} {own mnm : String} {mx : Nat} {rt : Option FieldType} {G : Outcome → State → Prop} {pc pc' : Nat} {Ls Ls' : Array Slot} {st : List Value}
/-- from T the run comes to an end of which G holds -/
def Go (tb : Tables) (e : Env) (below : List Frame) (G : Outcome → State → Prop) (T : State) : Prop := ∃ s₂ o, Steps tb e below T s₂ ∧ s₂.status = .running ∧ Ended s₂ below o ∧ G o s₂
theorem Go.step {tb : Tables} {T T' : State} (g : Go tb e below G T') (h : ∀ t, Steps tb e below T' t → Steps tb e below T t) : Go tb e below G T := by
  obtain ⟨s₂, o, h1, h2⟩ := g
  exact ⟨s₂, o, h _ h1, h2⟩
/-- what a walk knows of its own body -/
def Cx (p : Program) (s : State) (m : MethodId) (meth : Method) (c : Code) (bs : ByteArray) (mx : Nat) (own mnm : String) (rt : Option FieldType) (Z : State) : Prop :=
  p.tables.exec = Jvm.exec ∧ c.code = bs ∧ c.maxLocals = mx ∧ s.vm.findClass own = some m.cls ∧ meth.name = mnm ∧ meth.sig.returnType = rt ∧ meth.locks = false ∧ Z.Warmed39 s.vm
theorem Cx.hown (C : Cx p s m meth c bs mx own mnm rt Z) : s.vm.findClass own = some m.cls := C.2.2.2.1
theorem Cx.nm (C : Cx p s m meth c bs mx own mnm rt Z) : meth.name = mnm := C.2.2.2.2.1
theorem Cx.ret (C : Cx p s m meth c bs mx own mnm rt Z) : meth.sig.returnType = rt := C.2.2.2.2.2.1
theorem Cx.locks (C : Cx p s m meth c bs mx own mnm rt Z) : meth.locks = false := C.2.2.2.2.2.2.1
theorem Cx.hZ (C : Cx p s m meth c bs mx own mnm rt Z) : Z.Warmed39 s.vm := C.2.2.2.2.2.2.2
/-- the end: returned, Q of the value, the heap and the places written; the frame -/
def End (s : State) (Q : Option Value → Heap → List Loc → Prop) (ce sl : Nat) (o : Outcome) (U' : State) : Prop := ∃ v L, o = .returned v ∧ Q v U'.heap L ∧ FrameEnd s o U' L ce sl
theorem met_of {y : MethodName} {ws : List Jvm.Cond} {rm : Room} {as' : Array Value} {Q : Option Value → Heap → List Loc → Prop} {ce sl : Nat} (hpn : plainFor y = true) (hef : ∀ m, entryFrame m as' mx = mkF m 0 Ls [])
    (hbody : ∀ (p : Program) (e : Env) (s : State) (m : MethodId) (below : List Frame) (meth : Method) (c : Code) (T : State), Cx p s m meth c bs mx y.cls y.name rt Z → Stand p l e rm s m as' below meth c T [] 0 0 → T.heap = h → Go p.tables e below (End s Q ce sl) (T.setTop (mkF m 0 Ls []))) :
    MetFree l y (head1 (Jvm.Cond.code y bs mx rt :: ws) rm) (fun a U => a = as' ∧ Z.Warmed39 U.vm ∧ U.heap = h) (fun _ _ _ _ _ => True) (fun _ U o U' => ∃ v L, o = .returned v ∧ Q v U'.heap L ∧ FrameEnd U o U' L ce sl) := by
  refine MetFree.of_bodySF hpn hisR ?_
  intro p e s m args below meth c s₁ Bd hml0 hP hK
  obtain ⟨rfl, hZ, hh⟩ := hP
  have X0 : Stand p l e rm s m _ below meth c s₁ [] 0 0 := Stand.of_body Bd
  have e0 : s₁.heap = h := by rw [← hh, Bd.state]; rfl
  obtain ⟨s₂, o, h1, h2, h3, h4⟩ := hbody p e s m below meth c s₁ ⟨Bd.exec, Bd.bytes, hml0, findClass_of_methodNamed Bd.named, (name_of_methodNamed Bd.named Bd.method).1, Bd.returns, Bd.notSynchronized, hZ⟩ X0 e0
  exact ⟨s₂, o, castTop (hef m) h1, h2, h3, h4⟩

theorem g_iloadN (C : Cx p s m meth c bs mx own mnm rt Z) (X : Stand p l e R s m args below meth c T locs cells slots) {k : Fin 4} {v : Int32} (hd : decode bs pc = .ok (.iload_n k, 1)) (hl : Ls[k.val]? = some (.val (.int v))) (hn : pc + 1 = pc')
    (hr : Go p.tables e below G (T.setTop (mkF m pc' Ls (.int v :: st)))) : Go p.tables e below G (T.setTop (mkF m pc Ls st)) := by
  subst hn; exact hr.step fun t k => XS.iloadN X.here C.1 rfl (hb C.2.1 hd) hl k
theorem g_istoreN (C : Cx p s m meth c bs mx own mnm rt Z) (X : Stand p l e R s m args below meth c T locs cells slots) {k : Fin 4} {v : Int32} (hd : decode bs pc = .ok (.istore_n k, 1)) (hl : storeLocals Ls k.val (.int v) = some Ls') (hn : pc + 1 = pc')
    (hr : Go p.tables e below G (T.setTop (mkF m pc' Ls' st))) : Go p.tables e below G (T.setTop (mkF m pc Ls (.int v :: st))) := by
  subst hn; exact hr.step fun t k => XS.istoreN X.here C.1 rfl (hb C.2.1 hd) rfl hl k
theorem g_aloadN (C : Cx p s m meth c bs mx own mnm rt Z) (X : Stand p l e R s m args below meth c T locs cells slots) {k : Fin 4} {v : Value} (hd : decode bs pc = .ok (.aload_n k, 1)) (hl : Ls[k.val]? = some (.val v)) (hv : v.isRef = true) (hn : pc + 1 = pc')
    (hr : Go p.tables e below G (T.setTop (mkF m pc' Ls (v :: st)))) : Go p.tables e below G (T.setTop (mkF m pc Ls st)) := by
  subst hn; exact hr.step fun t k => XS.aloadN X.here C.1 rfl (hb C.2.1 hd) hl hv k
theorem g_aload (C : Cx p s m meth c bs mx own mnm rt Z) (X : Stand p l e R s m args below meth c T locs cells slots) {k : Nat} {v : Value} (hd : decode bs pc = .ok (.aload k, 2)) (hl : Ls[k]? = some (.val v)) (hv : v.isRef = true) (hn : pc + 2 = pc')
    (hr : Go p.tables e below G (T.setTop (mkF m pc' Ls (v :: st)))) : Go p.tables e below G (T.setTop (mkF m pc Ls st)) := by
  subst hn; exact hr.step fun t k => XS.aload X.here C.1 rfl (hb C.2.1 hd) hl hv k
theorem g_astoreN (C : Cx p s m meth c bs mx own mnm rt Z) (X : Stand p l e R s m args below meth c T locs cells slots) {k : Fin 4} {v : Value} (hd : decode bs pc = .ok (.astore_n k, 1)) (hv : v.isRef = true) (hl : storeLocals Ls k.val v = some Ls') (hn : pc + 1 = pc')
    (hr : Go p.tables e below G (T.setTop (mkF m pc' Ls' st))) : Go p.tables e below G (T.setTop (mkF m pc Ls (v :: st))) := by
  subst hn; exact hr.step fun t k => XS.astoreN X.here C.1 rfl (hb C.2.1 hd) rfl hv hl k
theorem g_astore (C : Cx p s m meth c bs mx own mnm rt Z) (X : Stand p l e R s m args below meth c T locs cells slots) {k : Nat} {v : Value} (hd : decode bs pc = .ok (.astore k, 2)) (hv : v.isRef = true) (hl : storeLocals Ls k v = some Ls') (hn : pc + 2 = pc')
    (hr : Go p.tables e below G (T.setTop (mkF m pc' Ls' st))) : Go p.tables e below G (T.setTop (mkF m pc Ls (v :: st))) := by
  subst hn; exact hr.step fun t k => XS.astore X.here C.1 rfl (hb C.2.1 hd) rfl hv hl k
theorem g_iconst (C : Cx p s m meth c bs mx own mnm rt Z) (X : Stand p l e R s m args below meth c T locs cells slots) {i : Int} {v : Int32} (hd : decode bs pc = .ok (.iconst i, 1)) (hv : Int32.ofInt i = v) (hn : pc + 1 = pc')
    (hr : Go p.tables e below G (T.setTop (mkF m pc' Ls (.int v :: st)))) : Go p.tables e below G (T.setTop (mkF m pc Ls st)) := by
  subst hn; exact hr.step fun t k => XS.iconst X.here C.1 rfl (hb C.2.1 hd) (by rw [hv]; exact k)
theorem g_isub (C : Cx p s m meth c bs mx own mnm rt Z) (X : Stand p l e R s m args below meth c T locs cells slots) {x y : Int32} (hd : decode bs pc = .ok (.isub, 1)) (hn : pc + 1 = pc')
    (hr : Go p.tables e below G (T.setTop (mkF m pc' Ls (.int (x - y) :: st)))) : Go p.tables e below G (T.setTop (mkF m pc Ls (.int y :: .int x :: st))) := by
  subst hn; exact hr.step fun t k => XS.isub X.here C.1 rfl (hb C.2.1 hd) rfl k
theorem g_iand (C : Cx p s m meth c bs mx own mnm rt Z) (X : Stand p l e R s m args below meth c T locs cells slots) {x y : Int32} (hd : decode bs pc = .ok (.iand, 1)) (hn : pc + 1 = pc')
    (hr : Go p.tables e below G (T.setTop (mkF m pc' Ls (.int (x &&& y) :: st)))) : Go p.tables e below G (T.setTop (mkF m pc Ls (.int y :: .int x :: st))) := by
  subst hn; exact hr.step fun t k => XS.iand X.here C.1 rfl (hb C.2.1 hd) rfl k
theorem g_goto (C : Cx p s m meth c bs mx own mnm rt Z) (X : Stand p l e R s m args below meth c T locs cells slots) {o : Int} (hd : decode bs pc = .ok (.goto o, 3)) (ho : 0 ≤ (pc : Int) + o) (hp : ((pc : Int) + o).toNat = pc')
    (hr : Go p.tables e below G (T.setTop (mkF m pc' Ls st))) : Go p.tables e below G (T.setTop (mkF m pc Ls st)) :=
  hr.step fun t k => XS.goto X.here C.1 rfl rfl (hb C.2.1 hd) ho hp k
theorem g_icmpN (C : Cx p s m meth c bs mx own mnm rt Z) (X : Stand p l e R s m args below meth c T locs cells slots) {cd : ClassFile.Cond} {x y : Int32} {o : Int} (hd : decode bs pc = .ok (.if_icmp cd o, 3)) (hc : if_icmp.holds cd x y = false) (hn : pc + 3 = pc')
    (hr : Go p.tables e below G (T.setTop (mkF m pc' Ls st))) : Go p.tables e below G (T.setTop (mkF m pc Ls (.int y :: .int x :: st))) := by
  subst hn; exact hr.step fun t k => XS.icmpNo X.here C.1 rfl (hb C.2.1 hd) rfl hc k
theorem g_ifY (C : Cx p s m meth c bs mx own mnm rt Z) (X : Stand p l e R s m args below meth c T locs cells slots) {cd : ClassFile.Cond} {x : Int32} {o : Int} (hd : decode bs pc = .ok (.ifCond cd o, 3)) (hc : if_icmp.holds cd x 0 = true) (ho : 0 ≤ (pc : Int) + o) (hp : ((pc : Int) + o).toNat = pc')
    (hr : Go p.tables e below G (T.setTop (mkF m pc' Ls st))) : Go p.tables e below G (T.setTop (mkF m pc Ls (.int x :: st))) :=
  hr.step fun t k => XS.ifYes X.here C.1 rfl rfl (hb C.2.1 hd) rfl ((if0 _ _).trans hc) ho hp k
theorem g_ifN (C : Cx p s m meth c bs mx own mnm rt Z) (X : Stand p l e R s m args below meth c T locs cells slots) {cd : ClassFile.Cond} {x : Int32} {o : Int} (hd : decode bs pc = .ok (.ifCond cd o, 3)) (hc : if_icmp.holds cd x 0 = false) (hn : pc + 3 = pc')
    (hr : Go p.tables e below G (T.setTop (mkF m pc' Ls st))) : Go p.tables e below G (T.setTop (mkF m pc Ls (.int x :: st))) := by
  subst hn; exact hr.step fun t k => XS.ifNo X.here C.1 rfl (hb C.2.1 hd) rfl ((if0 _ _).trans hc) k
theorem g_acmp (C : Cx p s m meth c bs mx own mnm rt Z) (X : Stand p l e R s m args below meth c T locs cells slots) {cd : ACond} {x y : Value} {o : Int} {same : Bool} (hd : decode bs pc = .ok (.if_acmp cd o, 3)) (h1 : x.isRef = true) (h2 : y.isRef = true) (hq : decide (x = y) = same) (ho : 0 ≤ (pc : Int) + o) (hp : pc' = if acV cd same = true then ((pc : Int) + o).toNat else pc + 3)
    (hr : Go p.tables e below G (T.setTop (mkF m pc' Ls st))) : Go p.tables e below G (T.setTop (mkF m pc Ls (y :: x :: st))) :=
  hr.step fun t k => Jvm.RoadKit.acmp X C.1 rfl h1 h2 rfl (hb C.2.1 hd) rfl hq ho hp k
theorem g_ifnonnullY (C : Cx p s m meth c bs mx own mnm rt Z) (X : Stand p l e R s m args below meth c T locs cells slots) {b : Addr} {o : Int} (hd : decode bs pc = .ok (.ifnonnull o, 3)) (ho : 0 ≤ (pc : Int) + o) (hp : ((pc : Int) + o).toNat = pc')
    (hr : Go p.tables e below G (T.setTop (mkF m pc' Ls st))) : Go p.tables e below G (T.setTop (mkF m pc Ls (.ref b :: st))) :=
  hr.step fun t k => XS.ifnonnullYes X.here C.1 rfl rfl (hb C.2.1 hd) rfl ho hp k
theorem g_getS (C : Cx p s m meth c bs mx own mnm rt Z) (X : Stand p l e R s m args below meth c T locs cells slots) {O n d R0 host : String} {i : Nat} {v : Value} (hd : decode bs pc = .ok (.getstatic i, 3)) (w : (Jvm.Cond.fieldLink own i R0 n d).before a0 Z = true ∨ (Jvm.Cond.fieldLinkNest own i R0 n d host).before a0 Z = true) (via : Via Z R0 O n d) (eT : T.heap = h) (F : Sta Z h O n d v) (hn : pc + 3 = pc')
    (hr : ∀ T', Stand p l e R s m args below meth c T' locs cells slots → T'.heap = h → Go p.tables e below G (T'.setTop (mkF m pc' Ls (v :: st)))) : Go p.tables e below G (T.setTop (mkF m pc Ls st)) := by
  subst hn
  obtain ⟨T', X', e', st'⟩ := getS2 X C.1 C.hZ C.hown w via eT F (g := mkF m pc Ls st) rfl (hb C.2.1 hd)
  exact (hr T' X' e').step st'
theorem g_callV (C : Cx p s m meth c bs mx own mnm rt Z) (X : Stand p l e R s m args below meth c T locs cells slots) {rm : Room} {as' : Array Value} {Q : Option Value → Heap → List Loc → Prop} {ml : Nat} {yb : ByteArray} {yr : Option FieldType} {ce sl W : Nat} {argsL : List Value} {ps : List FieldType} {pr : Option FieldType} {K : String} {y z : MethodName} {i : Nat} {b : Addr} (hd : decode bs pc = .ok (.invokevirtual i, 3)) (w1 : (Jvm.Cond.methodLink own i y).before a0 Z = true) (w2 : (Jvm.Cond.declares y).before a0 Z = true) (hnf : NotFace s y) (w3 : (Jvm.Cond.selects K y z).before a0 Z = true) (w4 : (Jvm.Cond.instanceMethod z).before a0 Z = true) (w5 : (Jvm.Cond.initialized z.cls).before a0 Z = true) (w6 : (Jvm.Cond.code z yb ml yr).before a0 Z = true) (hy : y.cls ≠ "java/lang/invoke/MethodHandle" ∧ y.cls ≠ "java/lang/invoke/VarHandle")
    (hM : MetFree l z (head1 [Jvm.Cond.code z yb ml yr] rm) (fun a U => a = as' ∧ Z.Warmed39 U.vm ∧ U.heap = h) (fun _ _ _ _ _ => True) (fun _ U o U' => ∃ v L, o = .returned v ∧ Q v U'.heap L ∧ FrameEnd U o U' L rm.cells rm.slots)) (hf : rm.frames + 1 ≤ R.frames) (hlo : W + (ml + 11) + rm.locals ≤ R.locals) (hce : cells + rm.cells = ce) (hsl : slots + rm.slots = sl) (hce' : ce ≤ R.cells) (hsl' : sl ≤ R.slots) (has : (.ref b :: argsL).toArray = as') (E : Exa Z h b K) (eT : T.heap = h) (hsz : Ls.size = mx) (hpd : parseMethodDescriptor y.desc = some ⟨ps, pr⟩) (hln : argsL.length = ps.length) (hW : (st.map fun v => v.category).sum ≤ W) (hn : pc + 3 = pc')
    (hr : ∀ v T' L, Stand p l e R s m args below meth c T' (locs ++ L) ce sl → Q v T'.heap L → Go p.tables e below G (T'.setTop (mkF m pc' Ls (v.toList ++ st)))) : Go p.tables e below G (T.setTop (mkF m pc Ls (argsL.reverse ++ .ref b :: st))) := by
  subst hn hce hsl has
  obtain ⟨cq, kq, qa, qb, qc⟩ := isOf C.hZ eT E
  obtain ⟨v, vm1, ⟨T', L', k', n'⟩, -, X', ⟨Lc, hQ, l', y', z'⟩, st'⟩ := X.virtualBack C.1 (y := y) (z := z) C.hown (mvT C.hZ w1) (mvT C.hZ w2) hnf (mvT C.hZ w3) (mvT C.hZ w4) hy (backOf (W := W) hM C.hZ w6 w5 hf hlo) qa qc (g := mkF m pc Ls (argsL.reverse ++ .ref b :: st)) rfl (hsz.trans C.2.2.1.symm) (Steps.refl _) (argsL := argsL) (rest := st) (lenOf hpd hln) rfl (by show 2 * 0 + _ ≤ _; omega) (hb C.2.1 hd) (fun _ _ => ⟨rfl, eT, hce', hsl'⟩)
  dsimp only [Pt.U, Pt.locs, Pt.cells, Pt.slots] at X' l' y' z' st' hQ
  subst l' y' z'
  exact (hr v T' Lc X' hQ).step fun t k => st'.trans k
theorem g_retI (C : Cx p s m meth c bs mx own mnm (some .int) Z) (X : Stand p l e R s m args below meth c T locs cells slots) {Q : Option Value → Heap → List Loc → Prop} {ce sl : Nat} {z : Int32} (hd : decode bs pc = .ok (.ireturn, 1)) (hc : cells ≤ ce) (hs : slots ≤ sl) (hQ : Q (some (.int z)) T.heap locs) : Go p.tables e below (End s Q ce sl) (T.setTop (mkF m pc Ls (.int z :: st))) := by
  obtain ⟨fs, hr, hrun, hended, hW, hsame⟩ := X.leave (v := (some (.int z))) (fun h => by rw [C.ret] at h; cases h) C.locks
  exact ⟨_, _, retOut X C.1 C.ret rfl (Or.inl ⟨rfl, Or.inl rfl, _, rfl⟩) (hb C.2.1 hd) hr, hrun, hended, _, _, rfl, hQ, ⟨_, rfl⟩, hW, hsame.mono hc hs⟩
theorem g_retA {t : FieldType} (C : Cx p s m meth c bs mx own mnm (some t) Z) (X : Stand p l e R s m args below meth c T locs cells slots) {Q : Option Value → Heap → List Loc → Prop} {ce sl : Nat} {v : Value} (ht : t.isReference = true) (hnw : narrow t v = v) (hv : v.isRef = true) (hd : decode bs pc = .ok (.areturn, 1)) (hc : cells ≤ ce) (hs : slots ≤ sl) (hQ : Q (some v) T.heap locs) : Go p.tables e below (End s Q ce sl) (T.setTop (mkF m pc Ls (v :: st))) := by
  obtain ⟨fs, hr, hrun, hended, hW, hsame⟩ := X.leave (v := (some v)) (fun h => by rw [C.ret] at h; cases h) C.locks
  exact ⟨_, _, retOut X C.1 C.ret hnw (Or.inr (Or.inr (Or.inr (Or.inr ⟨rfl, ht, hv⟩)))) (hb C.2.1 hd) hr, hrun, hended, _, _, rfl, hQ, ⟨_, rfl⟩, hW, hsame.mono hc hs⟩
theorem g_retN {t : FieldType} (C : Cx p s m meth c bs mx own mnm (some t) Z) (X : Stand p l e R s m args below meth c T locs cells slots) {Q : Option Value → Heap → List Loc → Prop} {ce sl : Nat} {z : Int32} (ht : t = .boolean ∨ t = .byte ∨ t = .char ∨ t = .short) (hd : decode bs pc = .ok (.ireturn, 1)) (hc : cells ≤ ce) (hs : slots ≤ sl) (hQ : Q (some (.int (nar t z))) T.heap locs) : Go p.tables e below (End s Q ce sl) (T.setTop (mkF m pc Ls (.int z :: st))) := by
  obtain ⟨fs, hr, hrun, hended, hW, hsame⟩ := X.leave (v := (some (.int (nar t z)))) (fun h => by rw [C.ret] at h; cases h) C.locks
  exact ⟨_, _, retN X C.1 C.ret ht (hb C.2.1 hd) hr, hrun, hended, _, _, rfl, hQ, ⟨_, rfl⟩, hW, hsame.mono hc hs⟩
theorem own_cast {tb : Tables} {S S' : State} (q : S = S') (g : Go tb e below G S') : Go tb e below G S := q ▸ g
end OwnKit
theorem own_eqi {args : Array Value} {s : State} {t : Term} {v : Int32} (h : (Jvm.Cond.eq t (.int v)).value args s none s [] = some true) : t.eval args s none [] s = some (.int v) := by
  simp only [Cond.value, Term.eval] at h
  cases ht : t.eval args s none [] s with
  | none => simp [ht] at h
  | some x => cases x <;> simp [ht] at h ⊢; exact h
theorem own_eqr {args : Array Value} {s : State} {t u : Term} {a : Addr} (h : (Jvm.Cond.eq t u).value args s none s [] = some true) (hu : u.eval args s none [] s = some (.ref a)) : t.eval args s none [] s = some (.ref a) := by
  simp only [Cond.value, hu] at h
  cases ht : t.eval args s none [] s with
  | none => simp [ht] at h
  | some x => cases x <;> simp [ht] at h ⊢; exact h
theorem own_len {args : Array Value} {s : State} {t : Term} {a : Addr} {cl : Cell} {ty : FieldType} {n : Int32} (ht : t.eval args s none [] s = some (.ref a)) (A : Arr s s.heap a cl ty) (h : (Term.length t).eval args s none [] s = some (.int n)) : cl.slots.size < 2 ^ 31 ∧ cl.slots.size.toInt32 = n := by
  have ha : s.arrayAt? a = some cl := A.fin (Vm.Alike.refl _)
  by_cases q : cl.slots.size < 2 ^ 31
  · rw [len_f ht ha q] at h
    exact ⟨q, Value.int.inj (Option.some.inj h)⟩
  · simp [Term.eval, ht, ha, q] at h
theorem own_fld {args : Array Value} {s : State} {t : Term} {C n d : String} {a : Addr} {v : Value} (ht : t.eval args s none [] s = some (.ref a)) (hv : (Term.field t C n d).eval args s none [] s = some v) : Fld s s.heap a C n d v := Fld.start ((fld_at ht).symm.trans hv)
def FX (Z : State) (h : Heap) (w_ZERO : Addr) (w_ONE : Addr) : Prop := (Sta Z h "com/example/talence/talence/games/Player" "ZERO" "Lcom/example/talence/talence/games/Player;" (.ref w_ZERO)) ∧ (Sta Z h "com/example/talence/talence/games/Player" "ONE" "Lcom/example/talence/talence/games/Player;" (.ref w_ONE)) ∧ (Exa Z h w_ZERO "com/example/talence/talence/games/Player") ∧ (Exa Z h w_ONE "com/example/talence/talence/games/Player") ∧ (Fld Z h w_ONE "java/lang/Enum" "ordinal" "I" (.int (1 : Int32))) ∧ (Fld Z h w_ZERO "java/lang/Enum" "ordinal" "I" (.int (0 : Int32)))
theorem d1_0 : decode prog_51_method_4_code 0 = .ok (.aload_n 0, 1) := by decide +kernel
theorem d1_1 : decode prog_51_method_4_code 1 = .ok (.getstatic 3, 3) := by decide +kernel
theorem d1_4 : decode prog_51_method_4_code 4 = .ok (.if_acmp .ne 9, 3) := by decide +kernel
theorem d1_7 : decode prog_51_method_4_code 7 = .ok (.getstatic 7, 3) := by decide +kernel
theorem d1_10 : decode prog_51_method_4_code 10 = .ok (.goto 6, 3) := by decide +kernel
theorem d1_16 : decode prog_51_method_4_code 16 = .ok (.areturn, 1) := by decide +kernel
theorem d1_13 : decode prog_51_method_4_code 13 = .ok (.getstatic 3, 3) := by decide +kernel
def F1 (a1 : Addr) (w_ZERO : Addr) (w_ONE : Addr) : Addr := (if a1 = w_ZERO then w_ONE else w_ZERO)
theorem F1_l0 (a1 : Addr) (w_ZERO : Addr) (w_ONE : Addr) (h0 : a1 = w_ZERO) : F1 a1 w_ZERO w_ONE = w_ONE := by
  unfold F1; rw [if_pos h0]
theorem F1_l1 (a1 : Addr) (w_ZERO : Addr) (w_ONE : Addr) (h0 : ¬ (a1 = w_ZERO)) : F1 a1 w_ZERO w_ONE = w_ZERO := by
  unfold F1; rw [if_neg h0]
theorem ef_1 (m : MethodId) (a1 : Addr) : entryFrame m #[(.ref a1)] 1 = mkF m 0 #[.val (.ref a1)] [] := by first | (simp [entryFrame, mkF, argsToLocals, Value.category]; done) | rfl
def Q_1 (Z : State) (a1 : Addr) (w_ZERO : Addr) (w_ONE : Addr) (h0 : Heap) (n0 : Nat) (v : Option Value) (h : Heap) (L : List Loc) : Prop := v = some (.ref (F1 a1 w_ZERO w_ONE)) ∧ Fr n0 L ∧ h = h0
set_option maxRecDepth 65536 in
set_option maxHeartbeats 40000000 in
theorem rm1 (l : Launch) (Z : State) (a0 : Array Value) (hw : ∀ d ∈ tables_1, d.before a0 Z = true) (ws : List Jvm.Cond) (a1 : Addr) (w_ZERO : Addr) (w_ONE : Addr) (h0 : Heap) (n0 : Nat) (hF : FX Z h0 w_ZERO w_ONE) :
    MetFree l (⟨"com/example/talence/talence/games/Player", "opponent", "()Lcom/example/talence/talence/games/Player;"⟩ : MethodName) (head1 (Jvm.Cond.code (⟨"com/example/talence/talence/games/Player", "opponent", "()Lcom/example/talence/talence/games/Player;"⟩ : MethodName) prog_51_method_4_code 1 (some (.object "com/example/talence/talence/games/Player")) :: ws) ({ frames := 0, cells := 0, slots := 0, locals := 0 } : Room)) (fun a U => a = #[(.ref a1)] ∧ Z.Warmed39 U.vm ∧ U.heap = h0) (fun _ _ _ _ _ => True) (fun _ U o U' => ∃ v L, o = .returned v ∧ Q_1 Z a1 w_ZERO w_ONE h0 n0 v U'.heap L ∧ FrameEnd U o U' L ({ frames := 0, cells := 0, slots := 0, locals := 0 } : Room).cells ({ frames := 0, cells := 0, slots := 0, locals := 0 } : Room).slots) := by
  refine met_of (Ls := #[.val (.ref a1)]) (plainFor_of_name (by first | (simp [plainName, overriddenIn]; done) | decide +kernel)) (fun m => ef_1 m a1) ?_
  intro p e s m below meth c T0 C X0 e0
  obtain ⟨S_w_ZERO, S_w_ONE, E_w_ZERO, E_w_ONE, F_ordinal_w_ONE, F_ordinal_w_ZERO⟩ := id hF
  have N0 := Fr.nil n0
  refine g_aloadN (pc' := 1) C X0 d1_0 rfl rfl rfl ?_
  refine g_getS (pc' := 4) C X0 d1_1 (host := "") (Or.inl (hw _ (List.mem_of_getElem? (i := 10) rfl))) Via.refl e0 S_w_ZERO rfl (fun T1 X1 e1 => ?_)
  by_cases c2 : a1 = w_ZERO
  · refine g_acmp (pc' := 7) (same := true) C X1 d1_4 rfl rfl (decide_eq_true (congrArg Value.ref c2)) (by decide) (by decide) ?_
    refine g_getS (pc' := 10) C X1 d1_7 (host := "") (Or.inl (hw _ (List.mem_of_getElem? (i := 11) rfl))) Via.refl e1 S_w_ONE rfl (fun T3 X3 e3 => ?_)
    refine g_goto (pc' := 16) C X3 d1_10 (by decide) (by decide) ?_
    exact g_retA C X3 rfl rfl rfl d1_16 (by decide) (by decide) ⟨congrArg (fun z => some (Value.ref z)) (F1_l0 a1 w_ZERO w_ONE c2).symm, N0, e3⟩
  · refine g_acmp (pc' := 13) (same := false) C X1 d1_4 rfl rfl (decide_eq_false fun q => c2 (Value.ref.inj q)) (by decide) (by decide) ?_
    refine g_getS (pc' := 16) C X1 d1_13 (host := "") (Or.inl (hw _ (List.mem_of_getElem? (i := 10) rfl))) Via.refl e1 S_w_ZERO rfl (fun T4 X4 e4 => ?_)
    exact g_retA C X4 rfl rfl rfl d1_16 (by decide) (by decide) ⟨congrArg (fun z => some (Value.ref z)) (F1_l1 a1 w_ZERO w_ONE c2).symm, N0, e4⟩
theorem d2_0 : decode prog_51_method_5_code 0 = .ok (.aload_n 0, 1) := by decide +kernel
theorem d2_1 : decode prog_51_method_5_code 1 = .ok (.getstatic 3, 3) := by decide +kernel
theorem d2_4 : decode prog_51_method_5_code 4 = .ok (.if_acmp .ne 7, 3) := by decide +kernel
theorem d2_7 : decode prog_51_method_5_code 7 = .ok (.iconst 0, 1) := by decide +kernel
theorem d2_8 : decode prog_51_method_5_code 8 = .ok (.goto 4, 3) := by decide +kernel
theorem d2_12 : decode prog_51_method_5_code 12 = .ok (.ireturn, 1) := by decide +kernel
theorem d2_11 : decode prog_51_method_5_code 11 = .ok (.iconst 1, 1) := by decide +kernel
def F2 (a1 : Addr) (w_ZERO : Addr) : Int32 := (if a1 = w_ZERO then (0 : Int32) else (1 : Int32))
theorem F2_l0 (a1 : Addr) (w_ZERO : Addr) (h0 : a1 = w_ZERO) : F2 a1 w_ZERO = (0 : Int32) := by
  unfold F2; rw [if_pos h0]
theorem F2_l1 (a1 : Addr) (w_ZERO : Addr) (h0 : ¬ (a1 = w_ZERO)) : F2 a1 w_ZERO = (1 : Int32) := by
  unfold F2; rw [if_neg h0]
theorem ef_2 (m : MethodId) (a1 : Addr) : entryFrame m #[(.ref a1)] 1 = mkF m 0 #[.val (.ref a1)] [] := by first | (simp [entryFrame, mkF, argsToLocals, Value.category]; done) | rfl
def Q_2 (Z : State) (a1 : Addr) (w_ZERO : Addr) (w_ONE : Addr) (h0 : Heap) (n0 : Nat) (v : Option Value) (h : Heap) (L : List Loc) : Prop := v = some (.int (F2 a1 w_ZERO)) ∧ Fr n0 L ∧ h = h0
set_option maxRecDepth 65536 in
set_option maxHeartbeats 40000000 in
theorem rm2 (l : Launch) (Z : State) (a0 : Array Value) (hw : ∀ d ∈ tables_1, d.before a0 Z = true) (ws : List Jvm.Cond) (a1 : Addr) (w_ZERO : Addr) (w_ONE : Addr) (h0 : Heap) (n0 : Nat) (hF : FX Z h0 w_ZERO w_ONE) :
    MetFree l (⟨"com/example/talence/talence/games/Player", "getNumber", "()I"⟩ : MethodName) (head1 (Jvm.Cond.code (⟨"com/example/talence/talence/games/Player", "getNumber", "()I"⟩ : MethodName) prog_51_method_5_code 1 (some .int) :: ws) ({ frames := 0, cells := 0, slots := 0, locals := 0 } : Room)) (fun a U => a = #[(.ref a1)] ∧ Z.Warmed39 U.vm ∧ U.heap = h0) (fun _ _ _ _ _ => True) (fun _ U o U' => ∃ v L, o = .returned v ∧ Q_2 Z a1 w_ZERO w_ONE h0 n0 v U'.heap L ∧ FrameEnd U o U' L ({ frames := 0, cells := 0, slots := 0, locals := 0 } : Room).cells ({ frames := 0, cells := 0, slots := 0, locals := 0 } : Room).slots) := by
  refine met_of (Ls := #[.val (.ref a1)]) (plainFor_of_name (by first | (simp [plainName, overriddenIn]; done) | decide +kernel)) (fun m => ef_2 m a1) ?_
  intro p e s m below meth c T0 C X0 e0
  obtain ⟨S_w_ZERO, S_w_ONE, E_w_ZERO, E_w_ONE, F_ordinal_w_ONE, F_ordinal_w_ZERO⟩ := id hF
  have N0 := Fr.nil n0
  refine g_aloadN (pc' := 1) C X0 d2_0 rfl rfl rfl ?_
  refine g_getS (pc' := 4) C X0 d2_1 (host := "") (Or.inl (hw _ (List.mem_of_getElem? (i := 10) rfl))) Via.refl e0 S_w_ZERO rfl (fun T1 X1 e1 => ?_)
  by_cases c2 : a1 = w_ZERO
  · refine g_acmp (pc' := 7) (same := true) C X1 d2_4 rfl rfl (decide_eq_true (congrArg Value.ref c2)) (by decide) (by decide) ?_
    refine g_iconst (pc' := 8) (v := (0 : Int32)) C X1 d2_7 rfl rfl ?_
    refine g_goto (pc' := 12) C X1 d2_8 (by decide) (by decide) ?_
    exact g_retI C X1 d2_12 (by decide) (by decide) ⟨congrArg (fun z => some (Value.int z)) (F2_l0 a1 w_ZERO c2).symm, N0, e1⟩
  · refine g_acmp (pc' := 11) (same := false) C X1 d2_4 rfl rfl (decide_eq_false fun q => c2 (Value.ref.inj q)) (by decide) (by decide) ?_
    refine g_iconst (pc' := 12) (v := (1 : Int32)) C X1 d2_11 rfl rfl ?_
    exact g_retI C X1 d2_12 (by decide) (by decide) ⟨congrArg (fun z => some (Value.int z)) (F2_l1 a1 w_ZERO c2).symm, N0, e1⟩
theorem pd_0 : parseMethodDescriptor "()Lcom/example/talence/talence/games/Player;" = some ⟨[], some (.object "com/example/talence/talence/games/Player")⟩ := by decide +kernel
theorem pd_1 : parseMethodDescriptor "()I" = some ⟨[], some .int⟩ := by decide +kernel
theorem ef_0 (m : MethodId) (p1 : Int32) : entryFrame m #[(.int p1)] maxLocals = mkF m 0 #[.val (.int p1), .unset, .unset, .unset, .unset] [] := by first | (simp [entryFrame, mkF, argsToLocals, Value.category, maxLocals]; done) | rfl
def Q_0 (Z : State) (p1 : Int32) (w_ZERO : Addr) (w_ONE : Addr) (h0 : Heap) (n0 : Nat) (v : Option Value) (h : Heap) (L : List Loc) : Prop := v = some (.int 1) ∧ Fr n0 L
set_option maxRecDepth 65536 in
set_option maxHeartbeats 40000000 in
theorem rm0 (l : Launch) (Z : State) (a0 : Array Value) (hw : ∀ d ∈ tables_1, d.before a0 Z = true) (ws : List Jvm.Cond) (p1 : Int32) (w_ZERO : Addr) (w_ONE : Addr) (h0 : Heap) (n0 : Nat) (hF : FX Z h0 w_ZERO w_ONE) (ne_w_ONE_w_ZERO : ¬ (w_ONE = w_ZERO)) :
    MetFree l x (head1 (Jvm.Cond.code x code maxLocals ret :: ws) room_1) (fun a U => a = #[(.int p1)] ∧ Z.Warmed39 U.vm ∧ U.heap = h0) (fun _ _ _ _ _ => True) (fun _ U o U' => ∃ v L, o = .returned v ∧ Q_0 Z p1 w_ZERO w_ONE h0 n0 v U'.heap L ∧ FrameEnd U o U' L 0 0) := by
  refine met_of (Ls := #[.val (.int p1), .unset, .unset, .unset, .unset]) (plainFor_of_name (by first | (simp [plainName, overriddenIn]; done) | decide +kernel)) (fun m => ef_0 m p1) ?_
  intro p e s m below meth c T0 C X0 e0
  obtain ⟨S_w_ZERO, S_w_ONE, E_w_ZERO, E_w_ONE, F_ordinal_w_ONE, F_ordinal_w_ZERO⟩ := id hF
  have N0 := Fr.nil n0
  refine g_iloadN (pc' := 1) C X0 at_0 rfl rfl ?_
  refine g_iconst (pc' := 2) (v := (1 : Int32)) C X0 at_1 rfl rfl ?_
  refine g_iand (pc' := 3) C X0 at_2 rfl ?_
  by_cases c1 : (p1 &&& (1 : Int32)) = (0 : Int32)
  · refine g_ifY (pc' := 10) C X0 at_3 (teq c1).1 (by decide) (by decide) ?_
    refine g_iconst (pc' := 11) (v := (0 : Int32)) C X0 at_10 rfl rfl ?_
    refine g_istoreN (pc' := 12) (Ls' := #[.val (.int p1), .val (.int (0 : Int32)), .unset, .unset, .unset]) C X0 at_11 rfl rfl ?_
    refine g_iloadN (pc' := 13) C X0 at_12 rfl rfl ?_
    refine g_ifY (pc' := 22) C X0 at_13 (teq (show (0 : Int32) = (0 : Int32) from (by decide))).1 (by decide) (by decide) ?_
    refine g_getS (pc' := 25) C X0 at_22 (host := "") (Or.inl (hw _ (List.mem_of_getElem? (i := 0) rfl))) Via.refl e0 S_w_ZERO rfl (fun T2 X2 e2 => ?_)
    refine g_astoreN (pc' := 26) (Ls' := #[.val (.int p1), .val (.int (0 : Int32)), .val (.ref w_ZERO), .unset, .unset]) C X2 at_25 rfl rfl rfl ?_
    refine g_iloadN (pc' := 27) C X2 at_26 rfl rfl ?_
    refine g_ifY (pc' := 36) C X2 at_27 (teq (show (0 : Int32) = (0 : Int32) from (by decide))).1 (by decide) (by decide) ?_
    refine g_getS (pc' := 39) C X2 at_36 (host := "") (Or.inl (hw _ (List.mem_of_getElem? (i := 3) rfl))) Via.refl e2 S_w_ONE rfl (fun T3 X3 e3 => ?_)
    refine g_astoreN (pc' := 40) (Ls' := #[.val (.int p1), .val (.int (0 : Int32)), .val (.ref w_ZERO), .val (.ref w_ONE), .unset]) C X3 at_39 rfl rfl rfl ?_
    refine g_aloadN (pc' := 41) C X3 at_40 rfl rfl rfl ?_
    refine g_callV (b := w_ZERO) (z := (⟨"com/example/talence/talence/games/Player", "opponent", "()Lcom/example/talence/talence/games/Player;"⟩ : MethodName)) (y := (⟨"com/example/talence/talence/games/Player", "opponent", "()Lcom/example/talence/talence/games/Player;"⟩ : MethodName)) (argsL := []) (st := []) (pc' := 44) C X3 at_41 (hw _ (List.mem_of_getElem? (i := 5) rfl)) (hw _ (List.mem_of_getElem? (i := 6) rfl)) (notFace_of_selects (args := #[]) (mvT C.hZ (hw _ (List.mem_of_getElem? (i := 8) rfl)))) (hw _ (List.mem_of_getElem? (i := 8) rfl)) (hw _ (List.mem_of_getElem? (i := 7) rfl)) (hw _ (List.mem_of_getElem? (i := 1) rfl)) (hw _ (List.mem_of_getElem? (i := 9) rfl)) (by decide) (rm1 l Z a0 hw [] w_ZERO w_ZERO w_ONE h0 n0 hF) (W := 0) (by decide) (by decide) (ce := 0) (sl := 0) rfl rfl (by decide) (by decide) rfl E_w_ZERO e3 rfl pd_0 rfl (Nat.le_refl _) rfl (fun v4 T4 L4 X4 Q4 => ?_)
    obtain ⟨q4, Nq4, e4⟩ := Q4
    have N4 := Fr.app N0 Nq4
    rw [F1_l0 w_ZERO w_ZERO w_ONE (show w_ZERO = w_ZERO from (rfl : w_ZERO = w_ZERO))] at q4
    subst q4
    show Go p.tables e below _ (T4.setTop (mkF m 44 #[.val (.int p1), .val (.int (0 : Int32)), .val (.ref w_ZERO), .val (.ref w_ONE), .unset] [(.ref w_ONE)]))
    refine g_astore (pc' := 46) (Ls' := #[.val (.int p1), .val (.int (0 : Int32)), .val (.ref w_ZERO), .val (.ref w_ONE), .val (.ref w_ONE)]) C X4 at_44 rfl rfl rfl ?_
    refine g_aload (pc' := 48) C X4 at_46 rfl rfl rfl ?_
    refine g_ifnonnullY (pc' := 53) C X4 at_48 (by decide) (by decide) ?_
    refine g_aload (pc' := 55) C X4 at_53 rfl rfl rfl ?_
    refine g_aloadN (pc' := 56) C X4 at_55 rfl rfl rfl ?_
    refine g_acmp (pc' := 61) (same := false) C X4 at_56 rfl rfl (decide_eq_false fun q => ne_w_ONE_w_ZERO (Value.ref.inj q)) (by decide) (by decide) ?_
    refine g_aload (pc' := 63) C X4 at_61 rfl rfl rfl ?_
    refine g_aloadN (pc' := 64) C X4 at_63 rfl rfl rfl ?_
    refine g_acmp (pc' := 69) (same := true) C X4 at_64 rfl rfl (decide_eq_true rfl) (by decide) (by decide) ?_
    refine g_aload (pc' := 71) C X4 at_69 rfl rfl rfl ?_
    refine g_callV (b := w_ONE) (z := (⟨"com/example/talence/talence/games/Player", "opponent", "()Lcom/example/talence/talence/games/Player;"⟩ : MethodName)) (y := (⟨"com/example/talence/talence/games/Player", "opponent", "()Lcom/example/talence/talence/games/Player;"⟩ : MethodName)) (argsL := []) (st := []) (pc' := 74) C X4 at_71 (hw _ (List.mem_of_getElem? (i := 5) rfl)) (hw _ (List.mem_of_getElem? (i := 6) rfl)) (notFace_of_selects (args := #[]) (mvT C.hZ (hw _ (List.mem_of_getElem? (i := 8) rfl)))) (hw _ (List.mem_of_getElem? (i := 8) rfl)) (hw _ (List.mem_of_getElem? (i := 7) rfl)) (hw _ (List.mem_of_getElem? (i := 1) rfl)) (hw _ (List.mem_of_getElem? (i := 9) rfl)) (by decide) (rm1 l Z a0 hw [] w_ONE w_ZERO w_ONE h0 n0 hF) (W := 0) (by decide) (by decide) (ce := 0) (sl := 0) rfl rfl (by decide) (by decide) rfl E_w_ONE e4 rfl pd_0 rfl (Nat.le_refl _) rfl (fun v5 T5 L5 X5 Q5 => ?_)
    obtain ⟨q5, Nq5, e5⟩ := Q5
    have N5 := Fr.app N4 Nq5
    rw [F1_l1 w_ONE w_ZERO w_ONE ne_w_ONE_w_ZERO] at q5
    subst q5
    show Go p.tables e below _ (T5.setTop (mkF m 74 #[.val (.int p1), .val (.int (0 : Int32)), .val (.ref w_ZERO), .val (.ref w_ONE), .val (.ref w_ONE)] [(.ref w_ZERO)]))
    refine g_aloadN (pc' := 75) C X5 at_74 rfl rfl rfl ?_
    refine g_acmp (pc' := 80) (same := true) C X5 at_75 rfl rfl (decide_eq_true rfl) (by decide) (by decide) ?_
    refine g_aload (pc' := 82) C X5 at_80 rfl rfl rfl ?_
    refine g_callV (b := w_ONE) (z := (⟨"com/example/talence/talence/games/Player", "getNumber", "()I"⟩ : MethodName)) (y := (⟨"com/example/talence/talence/games/Player", "getNumber", "()I"⟩ : MethodName)) (argsL := []) (st := []) (pc' := 85) C X5 at_82 (hw _ (List.mem_of_getElem? (i := 12) rfl)) (hw _ (List.mem_of_getElem? (i := 13) rfl)) (notFace_of_selects (args := #[]) (mvT C.hZ (hw _ (List.mem_of_getElem? (i := 15) rfl)))) (hw _ (List.mem_of_getElem? (i := 15) rfl)) (hw _ (List.mem_of_getElem? (i := 14) rfl)) (hw _ (List.mem_of_getElem? (i := 1) rfl)) (hw _ (List.mem_of_getElem? (i := 16) rfl)) (by decide) (rm2 l Z a0 hw [] w_ONE w_ZERO w_ONE h0 n0 hF) (W := 0) (by decide) (by decide) (ce := 0) (sl := 0) rfl rfl (by decide) (by decide) rfl E_w_ONE e5 rfl pd_1 rfl (Nat.le_refl _) rfl (fun v6 T6 L6 X6 Q6 => ?_)
    obtain ⟨q6, Nq6, e6⟩ := Q6
    have N6 := Fr.app N5 Nq6
    rw [F2_l1 w_ONE w_ZERO ne_w_ONE_w_ZERO] at q6
    subst q6
    show Go p.tables e below _ (T6.setTop (mkF m 85 #[.val (.int p1), .val (.int (0 : Int32)), .val (.ref w_ZERO), .val (.ref w_ONE), .val (.ref w_ONE)] [(.int (1 : Int32))]))
    refine g_iconst (pc' := 86) (v := (1 : Int32)) C X6 at_85 rfl rfl ?_
    refine g_aloadN (pc' := 87) C X6 at_86 rfl rfl rfl ?_
    refine g_callV (b := w_ZERO) (z := (⟨"com/example/talence/talence/games/Player", "getNumber", "()I"⟩ : MethodName)) (y := (⟨"com/example/talence/talence/games/Player", "getNumber", "()I"⟩ : MethodName)) (argsL := []) (st := [(.int (1 : Int32)), (.int (1 : Int32))]) (pc' := 90) C X6 at_87 (hw _ (List.mem_of_getElem? (i := 12) rfl)) (hw _ (List.mem_of_getElem? (i := 13) rfl)) (notFace_of_selects (args := #[]) (mvT C.hZ (hw _ (List.mem_of_getElem? (i := 15) rfl)))) (hw _ (List.mem_of_getElem? (i := 15) rfl)) (hw _ (List.mem_of_getElem? (i := 14) rfl)) (hw _ (List.mem_of_getElem? (i := 1) rfl)) (hw _ (List.mem_of_getElem? (i := 16) rfl)) (by decide) (rm2 l Z a0 hw [] w_ZERO w_ZERO w_ONE h0 n0 hF) (W := 2) (by decide) (by decide) (ce := 0) (sl := 0) rfl rfl (by decide) (by decide) rfl E_w_ZERO e6 rfl pd_1 rfl (Nat.le_refl _) rfl (fun v7 T7 L7 X7 Q7 => ?_)
    obtain ⟨q7, Nq7, e7⟩ := Q7
    have N7 := Fr.app N6 Nq7
    rw [F2_l0 w_ZERO w_ZERO (show w_ZERO = w_ZERO from (rfl : w_ZERO = w_ZERO))] at q7
    subst q7
    show Go p.tables e below _ (T7.setTop (mkF m 90 #[.val (.int p1), .val (.int (0 : Int32)), .val (.ref w_ZERO), .val (.ref w_ONE), .val (.ref w_ONE)] [(.int (0 : Int32)), (.int (1 : Int32)), (.int (1 : Int32))]))
    refine g_isub (pc' := 91) C X7 at_90 rfl ?_
    refine own_cast (congrArg (fun z => T7.setTop (mkF m 91 #[.val (.int p1), .val (.int (0 : Int32)), .val (.ref w_ZERO), .val (.ref w_ONE), .val (.ref w_ONE)] (.int z :: [(.int (1 : Int32))]))) (show ((1 : Int32) - (0 : Int32)) = (1 : Int32) from by decide)) ?_
    refine g_icmpN (pc' := 94) C X7 at_91 (teq (show (1 : Int32) = (1 : Int32) from (by decide))).2 rfl ?_
    refine g_iconst (pc' := 95) (v := (1 : Int32)) C X7 at_94 rfl rfl ?_
    refine g_goto (pc' := 99) C X7 at_95 (by decide) (by decide) ?_
    exact g_retN C X7 (by simp) at_99 (by decide) (by decide) ⟨rfl, N7⟩
  · refine g_ifN (pc' := 6) C X0 at_3 (feq c1).1 rfl ?_
    refine g_iconst (pc' := 7) (v := (1 : Int32)) C X0 at_6 rfl rfl ?_
    refine g_goto (pc' := 11) C X0 at_7 (by decide) (by decide) ?_
    refine g_istoreN (pc' := 12) (Ls' := #[.val (.int p1), .val (.int (1 : Int32)), .unset, .unset, .unset]) C X0 at_11 rfl rfl ?_
    refine g_iloadN (pc' := 13) C X0 at_12 rfl rfl ?_
    refine g_ifN (pc' := 16) C X0 at_13 (feq (show ¬ ((1 : Int32) = (0 : Int32)) from (by decide))).1 rfl ?_
    refine g_getS (pc' := 19) C X0 at_16 (host := "") (Or.inl (hw _ (List.mem_of_getElem? (i := 3) rfl))) Via.refl e0 S_w_ONE rfl (fun T8 X8 e8 => ?_)
    refine g_goto (pc' := 25) C X8 at_19 (by decide) (by decide) ?_
    refine g_astoreN (pc' := 26) (Ls' := #[.val (.int p1), .val (.int (1 : Int32)), .val (.ref w_ONE), .unset, .unset]) C X8 at_25 rfl rfl rfl ?_
    refine g_iloadN (pc' := 27) C X8 at_26 rfl rfl ?_
    refine g_ifN (pc' := 30) C X8 at_27 (feq (show ¬ ((1 : Int32) = (0 : Int32)) from (by decide))).1 rfl ?_
    refine g_getS (pc' := 33) C X8 at_30 (host := "") (Or.inl (hw _ (List.mem_of_getElem? (i := 0) rfl))) Via.refl e8 S_w_ZERO rfl (fun T9 X9 e9 => ?_)
    refine g_goto (pc' := 39) C X9 at_33 (by decide) (by decide) ?_
    refine g_astoreN (pc' := 40) (Ls' := #[.val (.int p1), .val (.int (1 : Int32)), .val (.ref w_ONE), .val (.ref w_ZERO), .unset]) C X9 at_39 rfl rfl rfl ?_
    refine g_aloadN (pc' := 41) C X9 at_40 rfl rfl rfl ?_
    refine g_callV (b := w_ONE) (z := (⟨"com/example/talence/talence/games/Player", "opponent", "()Lcom/example/talence/talence/games/Player;"⟩ : MethodName)) (y := (⟨"com/example/talence/talence/games/Player", "opponent", "()Lcom/example/talence/talence/games/Player;"⟩ : MethodName)) (argsL := []) (st := []) (pc' := 44) C X9 at_41 (hw _ (List.mem_of_getElem? (i := 5) rfl)) (hw _ (List.mem_of_getElem? (i := 6) rfl)) (notFace_of_selects (args := #[]) (mvT C.hZ (hw _ (List.mem_of_getElem? (i := 8) rfl)))) (hw _ (List.mem_of_getElem? (i := 8) rfl)) (hw _ (List.mem_of_getElem? (i := 7) rfl)) (hw _ (List.mem_of_getElem? (i := 1) rfl)) (hw _ (List.mem_of_getElem? (i := 9) rfl)) (by decide) (rm1 l Z a0 hw [] w_ONE w_ZERO w_ONE h0 n0 hF) (W := 0) (by decide) (by decide) (ce := 0) (sl := 0) rfl rfl (by decide) (by decide) rfl E_w_ONE e9 rfl pd_0 rfl (Nat.le_refl _) rfl (fun v10 T10 L10 X10 Q10 => ?_)
    obtain ⟨q10, Nq10, e10⟩ := Q10
    have N10 := Fr.app N0 Nq10
    rw [F1_l1 w_ONE w_ZERO w_ONE ne_w_ONE_w_ZERO] at q10
    subst q10
    show Go p.tables e below _ (T10.setTop (mkF m 44 #[.val (.int p1), .val (.int (1 : Int32)), .val (.ref w_ONE), .val (.ref w_ZERO), .unset] [(.ref w_ZERO)]))
    refine g_astore (pc' := 46) (Ls' := #[.val (.int p1), .val (.int (1 : Int32)), .val (.ref w_ONE), .val (.ref w_ZERO), .val (.ref w_ZERO)]) C X10 at_44 rfl rfl rfl ?_
    refine g_aload (pc' := 48) C X10 at_46 rfl rfl rfl ?_
    refine g_ifnonnullY (pc' := 53) C X10 at_48 (by decide) (by decide) ?_
    refine g_aload (pc' := 55) C X10 at_53 rfl rfl rfl ?_
    refine g_aloadN (pc' := 56) C X10 at_55 rfl rfl rfl ?_
    refine g_acmp (pc' := 61) (same := false) C X10 at_56 rfl rfl (decide_eq_false fun q => (Ne.symm ne_w_ONE_w_ZERO) (Value.ref.inj q)) (by decide) (by decide) ?_
    refine g_aload (pc' := 63) C X10 at_61 rfl rfl rfl ?_
    refine g_aloadN (pc' := 64) C X10 at_63 rfl rfl rfl ?_
    refine g_acmp (pc' := 69) (same := true) C X10 at_64 rfl rfl (decide_eq_true rfl) (by decide) (by decide) ?_
    refine g_aload (pc' := 71) C X10 at_69 rfl rfl rfl ?_
    refine g_callV (b := w_ZERO) (z := (⟨"com/example/talence/talence/games/Player", "opponent", "()Lcom/example/talence/talence/games/Player;"⟩ : MethodName)) (y := (⟨"com/example/talence/talence/games/Player", "opponent", "()Lcom/example/talence/talence/games/Player;"⟩ : MethodName)) (argsL := []) (st := []) (pc' := 74) C X10 at_71 (hw _ (List.mem_of_getElem? (i := 5) rfl)) (hw _ (List.mem_of_getElem? (i := 6) rfl)) (notFace_of_selects (args := #[]) (mvT C.hZ (hw _ (List.mem_of_getElem? (i := 8) rfl)))) (hw _ (List.mem_of_getElem? (i := 8) rfl)) (hw _ (List.mem_of_getElem? (i := 7) rfl)) (hw _ (List.mem_of_getElem? (i := 1) rfl)) (hw _ (List.mem_of_getElem? (i := 9) rfl)) (by decide) (rm1 l Z a0 hw [] w_ZERO w_ZERO w_ONE h0 n0 hF) (W := 0) (by decide) (by decide) (ce := 0) (sl := 0) rfl rfl (by decide) (by decide) rfl E_w_ZERO e10 rfl pd_0 rfl (Nat.le_refl _) rfl (fun v11 T11 L11 X11 Q11 => ?_)
    obtain ⟨q11, Nq11, e11⟩ := Q11
    have N11 := Fr.app N10 Nq11
    rw [F1_l0 w_ZERO w_ZERO w_ONE (show w_ZERO = w_ZERO from (rfl : w_ZERO = w_ZERO))] at q11
    subst q11
    show Go p.tables e below _ (T11.setTop (mkF m 74 #[.val (.int p1), .val (.int (1 : Int32)), .val (.ref w_ONE), .val (.ref w_ZERO), .val (.ref w_ZERO)] [(.ref w_ONE)]))
    refine g_aloadN (pc' := 75) C X11 at_74 rfl rfl rfl ?_
    refine g_acmp (pc' := 80) (same := true) C X11 at_75 rfl rfl (decide_eq_true rfl) (by decide) (by decide) ?_
    refine g_aload (pc' := 82) C X11 at_80 rfl rfl rfl ?_
    refine g_callV (b := w_ZERO) (z := (⟨"com/example/talence/talence/games/Player", "getNumber", "()I"⟩ : MethodName)) (y := (⟨"com/example/talence/talence/games/Player", "getNumber", "()I"⟩ : MethodName)) (argsL := []) (st := []) (pc' := 85) C X11 at_82 (hw _ (List.mem_of_getElem? (i := 12) rfl)) (hw _ (List.mem_of_getElem? (i := 13) rfl)) (notFace_of_selects (args := #[]) (mvT C.hZ (hw _ (List.mem_of_getElem? (i := 15) rfl)))) (hw _ (List.mem_of_getElem? (i := 15) rfl)) (hw _ (List.mem_of_getElem? (i := 14) rfl)) (hw _ (List.mem_of_getElem? (i := 1) rfl)) (hw _ (List.mem_of_getElem? (i := 16) rfl)) (by decide) (rm2 l Z a0 hw [] w_ZERO w_ZERO w_ONE h0 n0 hF) (W := 0) (by decide) (by decide) (ce := 0) (sl := 0) rfl rfl (by decide) (by decide) rfl E_w_ZERO e11 rfl pd_1 rfl (Nat.le_refl _) rfl (fun v12 T12 L12 X12 Q12 => ?_)
    obtain ⟨q12, Nq12, e12⟩ := Q12
    have N12 := Fr.app N11 Nq12
    rw [F2_l0 w_ZERO w_ZERO (show w_ZERO = w_ZERO from (rfl : w_ZERO = w_ZERO))] at q12
    subst q12
    show Go p.tables e below _ (T12.setTop (mkF m 85 #[.val (.int p1), .val (.int (1 : Int32)), .val (.ref w_ONE), .val (.ref w_ZERO), .val (.ref w_ZERO)] [(.int (0 : Int32))]))
    refine g_iconst (pc' := 86) (v := (1 : Int32)) C X12 at_85 rfl rfl ?_
    refine g_aloadN (pc' := 87) C X12 at_86 rfl rfl rfl ?_
    refine g_callV (b := w_ONE) (z := (⟨"com/example/talence/talence/games/Player", "getNumber", "()I"⟩ : MethodName)) (y := (⟨"com/example/talence/talence/games/Player", "getNumber", "()I"⟩ : MethodName)) (argsL := []) (st := [(.int (1 : Int32)), (.int (0 : Int32))]) (pc' := 90) C X12 at_87 (hw _ (List.mem_of_getElem? (i := 12) rfl)) (hw _ (List.mem_of_getElem? (i := 13) rfl)) (notFace_of_selects (args := #[]) (mvT C.hZ (hw _ (List.mem_of_getElem? (i := 15) rfl)))) (hw _ (List.mem_of_getElem? (i := 15) rfl)) (hw _ (List.mem_of_getElem? (i := 14) rfl)) (hw _ (List.mem_of_getElem? (i := 1) rfl)) (hw _ (List.mem_of_getElem? (i := 16) rfl)) (by decide) (rm2 l Z a0 hw [] w_ONE w_ZERO w_ONE h0 n0 hF) (W := 2) (by decide) (by decide) (ce := 0) (sl := 0) rfl rfl (by decide) (by decide) rfl E_w_ONE e12 rfl pd_1 rfl (Nat.le_refl _) rfl (fun v13 T13 L13 X13 Q13 => ?_)
    obtain ⟨q13, Nq13, e13⟩ := Q13
    have N13 := Fr.app N12 Nq13
    rw [F2_l1 w_ONE w_ZERO ne_w_ONE_w_ZERO] at q13
    subst q13
    show Go p.tables e below _ (T13.setTop (mkF m 90 #[.val (.int p1), .val (.int (1 : Int32)), .val (.ref w_ONE), .val (.ref w_ZERO), .val (.ref w_ZERO)] [(.int (1 : Int32)), (.int (1 : Int32)), (.int (0 : Int32))]))
    refine g_isub (pc' := 91) C X13 at_90 rfl ?_
    refine own_cast (congrArg (fun z => T13.setTop (mkF m 91 #[.val (.int p1), .val (.int (1 : Int32)), .val (.ref w_ONE), .val (.ref w_ZERO), .val (.ref w_ZERO)] (.int z :: [(.int (0 : Int32))]))) (show ((1 : Int32) - (1 : Int32)) = (0 : Int32) from by decide)) ?_
    refine g_icmpN (pc' := 94) C X13 at_91 (teq (show (0 : Int32) = (0 : Int32) from (by decide))).2 rfl ?_
    refine g_iconst (pc' := 95) (v := (1 : Int32)) C X13 at_94 rfl rfl ?_
    refine g_goto (pc' := 99) C X13 at_95 (by decide) (by decide) ?_
    exact g_retN C X13 (by simp) at_99 (by decide) (by decide) ⟨rfl, N13⟩
set_option maxRecDepth 65536 in
set_option maxHeartbeats 40000000 in
theorem comes_1 {Post : Tables → Env → Array Value → State → Outcome → State → Prop} (hpost : ∀ tb e args s v u, (limb_1_1.after args s (.returned v) u = true ∧ limb_1_2.after args s (.returned v) u = true ∧ True) → FrameEnd s (.returned v) u (Jvm.fieldLocs frame_1_writes args s ++ Jvm.arrayLocs frame_1_arrays args s ++ Jvm.staticLocs frame_1_statics s) 0 0 → Post tb e args s (.returned v) u) :
    ArmFor flags0 classFile x code maxLocals ret World_1 tables_1 room_1 Calls_1 rest_1 Pre_1 Post := by
  intro l hfl _ _ p e ha hc hk s m args below hf hA hF happ hP
  obtain ⟨hcalls, hrest, hpre⟩ := hP
  obtain ⟨-, -, -, hnamed, -, -, -, hat⟩ := (Spec.applies_iff hf).mp happ
  obtain ⟨hg, hnr⟩ := and_e (Cond.before_iff.mp (show (Jvm.Cond.and given_1 narrow_1).before args s = true from hpre))
  obtain ⟨gg1, gg2⟩ := and_e hg
  obtain ⟨w0, rfl⟩ : ∃ w0 : Value, args = #[w0] := by
    have hs : args.size = 1 := by simpa [Cond.value, given_1] using gg1
    obtain ⟨L⟩ := args
    match L, hs with
    | [w0], _ => exact ⟨w0, rfl⟩
  have hw := fun d (hd : d ∈ tables_1) => atoms_spec (ws := Jvm.Cond.code x code maxLocals ret :: tables_1) hat d (List.mem_cons_of_mem _ hd)
  have hfit : Fit s := fun {y c} hc i hi => by
    obtain ⟨ha, rfl⟩ := Array.getElem?_eq_some_iff.mp hc
    have q := List.all_eq_true.mp ((Array.all_eq_true_iff_forall_mem.mp hF) _ (Array.getElem_mem ha)) i (List.mem_range.mpr hi)
    simpa [Array.getElem?_eq_getElem hi] using q
  obtain ⟨i0, ei0⟩ := is_v gg2
  obtain rfl : w0 = (.int i0) := Option.some.inj ei0
  obtain ⟨hn0, hnr0⟩ := and_e hnr
  obtain ⟨hn1, hnr1⟩ := and_e hnr0
  obtain ⟨hn2, hn3⟩ := and_e hnr1
  obtain ⟨w_ZERO, ev_w_ZERO⟩ := exa_v hn0
  have S_w_ZERO := Sta.start ev_w_ZERO (Or.inr ⟨(hw _ (List.mem_of_getElem? (i := 1) rfl)), (hw _ (List.mem_of_getElem? (i := 2) rfl))⟩)
  obtain ⟨w_ONE, ev_w_ONE⟩ := exa_v hn1
  have S_w_ONE := Sta.start ev_w_ONE (Or.inr ⟨(hw _ (List.mem_of_getElem? (i := 1) rfl)), (hw _ (List.mem_of_getElem? (i := 4) rfl))⟩)
  have E_w_ZERO := Exa.start ev_w_ZERO hn0
  have E_w_ONE := Exa.start ev_w_ONE hn1
  have F_ordinal_w_ONE := own_fld ev_w_ONE (own_eqi hn2)
  have F_ordinal_w_ZERO := own_fld ev_w_ZERO (own_eqi hn3)
  have ne_w_ONE_w_ZERO : ¬ (w_ONE = w_ZERO) := Fld.ne F_ordinal_w_ONE F_ordinal_w_ZERO (by decide)
  have hFX : FX s s.heap w_ZERO w_ONE := ⟨S_w_ZERO, S_w_ONE, E_w_ZERO, E_w_ONE, F_ordinal_w_ONE, F_ordinal_w_ZERO⟩
  obtain ⟨n, o, h1, h2, h3, _, L, rfl, ⟨hv, N⟩, hq⟩ := rm0 l s _ hw tables_1 i0 w_ZERO w_ONE s.heap s.heap.size hFX ne_w_ONE_w_ZERO p e ha hc hk s m _ below hf ((Spec.applies_iff_loose hf).mp happ).1 ⟨rfl, State.Warmed39.refl s, rfl⟩ trivial
  subst hv
  refine ⟨n, _, h1, h2, h3, hpost _ _ _ _ _ _ ⟨Cond.after_iff.mpr rfl, Cond.after_iff.mpr (eq_i res_at (Term.int_eval (1)) rfl), trivial⟩ ⟨hq.1, hq.2.1, (hq.2.2.sift fun y hy => Or.inr (N y hy)).mono (by decide) (by decide)⟩⟩
theorem main_1_1 : Claimed_1_1 := comes_1 fun _ _ _ _ _ _ h hF => ⟨h.1, hF⟩
theorem main_1_2 : Claimed_1_2 := comes_1 fun _ _ _ _ _ _ h hF => ⟨h.2.1, hF⟩
end Jvm.Pilot.@@N@@
namespace Jvm.Pilot.@@N@@
open Jvm Jvm.ClassFile Sem Op Lib Jvm.Free Jvm.Stand Jvm.Pilot.@@N@@.Jvm.D
/-! MADE BY PROGRAM (witnessworld.py) out of the Statement's table words and the real class files: 12 classes; the members and pool entries that the words name. The judged class is class 1, her method 1. -/
namespace start1
open Jvm.ClassFile
def u (s : String) : CpInfo := .utf8 (stringToUtf16 s)
/-- a pool by its gaps: so many unusable entries, then the entry; so many at the end -/
def gap : Nat → List CpInfo → List CpInfo
  | 0, r => r
  | n + 1, r => .unusable :: gap n r
def poolList (es : List (Nat × CpInfo)) (last : Nat) : List CpInfo := es.foldr (fun e r => gap e.1 (e.2 :: r)) (gap last [])
def pool (es : List (Nat × CpInfo)) (last : Nat) : Array CpInfo := ⟨poolList es last⟩
def fileOf (pool : Array CpInfo) (this : Nat) (attrs : Array Attribute := #[]) (ms : Array MethodInfo := #[]) (fl : Nat := 33) (sup : Nat := 0) (ifs : Array Nat := #[]) (fds : Array FieldInfo := #[]) : ClassFile where
  minorVersion := 0
  majorVersion := 65
  constantPool := pool
  accessFlags := fl
  thisClass := this
  superClass := sup
  interfaces := ifs
  fields := fds
  methods := ms
  attributes := attrs
def plain (name : String) (sup : Option ClassId) : Class where
  name := name
  kind := .ordinary
  loader := none
  accessFlags := 33
  super := sup
  interfaces := #[]
  cf := none
  fields := #[]
  methods := #[]
  instanceTypes := #[]
  staticTypes := #[]
  resolved := #[]
  callSites := []
  init := .initialized
  statics := none
  mirror := none

def pool0 : Array CpInfo := pool [(5, u "<init>"), (0, u "()V"), (1, .class_ 10), (1, u "java/lang/Object")] 113

def k0m0 : Method := { name := "<init>", desc := "()V", sig := { parameters := [], returnType := none }, accessFlags := 1, code := none }
/-- java/lang/Object -/
def k0 : Class := { plain "java/lang/Object" none with
  accessFlags := 33
  interfaces := #[]
  cf := some (fileOf pool0 8 #[] #[{ accessFlags := 1, nameIndex := 5, descriptorIndex := 6, attributes := #[] }] 33 0 #[] #[])
  fields := #[]
  methods := #[k0m0]
  instanceTypes := #[]
  staticTypes := #[]
  resolved := Array.replicate 124 none
  statics := none }

def pool1 : Array CpInfo := pool [(2, .class_ 4), (1, u "java/lang/Object"), (0, u "<init>"), (0, u "()V"), (0, .fieldref 8 9), (0, .class_ 10), (0, .nameAndType 11 12), (0, u "com/example/talence/talence/games/Player"), (0, u "ONE"), (0, u "Lcom/example/talence/talence/games/Player;"), (0, .fieldref 8 14), (0, .nameAndType 15 12), (0, u "ZERO"), (0, .methodref 8 17), (0, .nameAndType 18 19), (0, u "opponent"), (0, u "()Lcom/example/talence/talence/games/Player;"), (0, .methodref 8 21), (0, .nameAndType 22 23), (0, u "getNumber"), (0, u "()I"), (0, .class_ 25), (0, u "com/example/talence/talence/games/PlayerOpponentPinLaw"), (2, u "law"), (0, u "(I)Z")] 3

def k1m0 : Method := { name := "<init>", desc := "()V", sig := { parameters := [], returnType := none }, accessFlags := 2, code := none }
def k1c1 : Code := { maxStack := 3, maxLocals := 5, code := code, exceptionTable := #[], attributes := #[] }
def k1m1 : Method := { name := "law", desc := "(I)Z", sig := { parameters := [.int], returnType := some .boolean }, accessFlags := 9, code := some k1c1 }
/-- com/example/talence/talence/games/PlayerOpponentPinLaw -/
def k1 : Class := { plain "com/example/talence/talence/games/PlayerOpponentPinLaw" (some 0) with
  accessFlags := 49
  interfaces := #[]
  cf := some (fileOf pool1 24 #[] #[{ accessFlags := 2, nameIndex := 5, descriptorIndex := 6, attributes := #[] }, { accessFlags := 9, nameIndex := 28, descriptorIndex := 29, attributes := #[] }] 49 2 #[] #[])
  fields := #[]
  methods := #[k1m0, k1m1]
  instanceTypes := #[]
  staticTypes := #[]
  resolved := Array.replicate 33 none
  statics := none }

def pool2 : Array CpInfo := pool [(1, .class_ 2), (0, u "java/lang/constant/Constable"), (0, .class_ 4), (0, u "java/lang/Object")] 6

/-- java/lang/constant/Constable -/
def k2 : Class := { plain "java/lang/constant/Constable" (some 0) with
  accessFlags := 1537
  interfaces := #[]
  cf := some (fileOf pool2 1 #[] #[] 1537 3 #[] #[])
  fields := #[]
  methods := #[]
  instanceTypes := #[]
  staticTypes := #[]
  resolved := Array.replicate 11 none
  statics := none }

def pool3 : Array CpInfo := pool [(1, .class_ 2), (0, u "java/lang/Comparable"), (0, .class_ 4), (0, u "java/lang/Object")] 7

/-- java/lang/Comparable -/
def k3 : Class := { plain "java/lang/Comparable" (some 0) with
  accessFlags := 1537
  interfaces := #[]
  cf := some (fileOf pool3 1 #[] #[] 1537 3 #[] #[])
  fields := #[]
  methods := #[]
  instanceTypes := #[]
  staticTypes := #[]
  resolved := Array.replicate 12 none
  statics := none }

def pool4 : Array CpInfo := pool [(1, .class_ 2), (0, u "java/io/Serializable"), (0, .class_ 4), (0, u "java/lang/Object")] 2

/-- java/io/Serializable -/
def k4 : Class := { plain "java/io/Serializable" (some 0) with
  accessFlags := 1537
  interfaces := #[]
  cf := some (fileOf pool4 1 #[] #[] 1537 3 #[] #[])
  fields := #[]
  methods := #[]
  instanceTypes := #[]
  staticTypes := #[]
  resolved := Array.replicate 7 none
  statics := none }

def pool5 : Array CpInfo := pool [(2, .class_ 4), (1, u "java/lang/Enum"), (0, u "name"), (0, u "Ljava/lang/String;"), (2, u "ordinal"), (0, u "I"), (1, .class_ 14), (1, u "java/lang/Object"), (4, u "hash"), (86, .class_ 108), (1, u "java/lang/Enum$EnumDesc"), (2, .class_ 112), (0, u "java/lang/constant/Constable"), (0, .class_ 114), (0, u "java/lang/Comparable"), (0, .class_ 116), (0, u "java/io/Serializable")] 87

/-- java/lang/Enum -/
def k5 : Class := { plain "java/lang/Enum" (some 0) with
  accessFlags := 1057
  interfaces := #[2, 3, 4]
  cf := some (fileOf pool5 2 #[.nestMembers #[106]] #[] 1057 12 #[111, 113, 115] #[{ accessFlags := 18, nameIndex := 5, descriptorIndex := 6, attributes := #[] }, { accessFlags := 18, nameIndex := 9, descriptorIndex := 10, attributes := #[] }, { accessFlags := 2, nameIndex := 19, descriptorIndex := 10, attributes := #[] }])
  fields := #[{ name := "name", type := (.object "java/lang/String"), accessFlags := 18, slot := 0, constantValue := 0 }, { name := "ordinal", type := .int, accessFlags := 18, slot := 1, constantValue := 0 }, { name := "hash", type := .int, accessFlags := 2, slot := 2, constantValue := 0 }]
  methods := #[]
  instanceTypes := #[(.object "java/lang/String"), .int, .int]
  staticTypes := #[]
  resolved := Array.replicate 204 none
  statics := none }

def pool6 : Array CpInfo := pool [(1, .class_ 2), (0, u "com/example/talence/talence/games/Player"), (0, .fieldref 1 4), (0, .nameAndType 5 6), (0, u "ZERO"), (0, u "Lcom/example/talence/talence/games/Player;"), (0, .fieldref 1 8), (0, .nameAndType 9 6), (0, u "ONE"), (2, u "$VALUES"), (0, u "[Lcom/example/talence/talence/games/Player;"), (6, .class_ 22), (1, u "java/lang/Enum"), (20, u "opponent"), (0, u "()Lcom/example/talence/talence/games/Player;"), (1, u "getNumber"), (0, u "()I")] 4

def k6c0 : Code := { maxStack := 2, maxLocals := 1, code := prog_51_method_4_code, exceptionTable := #[], attributes := #[] }
def k6m0 : Method := { name := "opponent", desc := "()Lcom/example/talence/talence/games/Player;", sig := { parameters := [], returnType := some (.object "com/example/talence/talence/games/Player") }, accessFlags := 1, code := some k6c0 }
def k6c1 : Code := { maxStack := 2, maxLocals := 1, code := prog_51_method_5_code, exceptionTable := #[], attributes := #[] }
def k6m1 : Method := { name := "getNumber", desc := "()I", sig := { parameters := [], returnType := some .int }, accessFlags := 1, code := some k6c1 }
/-- com/example/talence/talence/games/Player -/
def k6 : Class := { plain "com/example/talence/talence/games/Player" (some 5) with
  accessFlags := 16433
  interfaces := #[]
  cf := some (fileOf pool6 1 #[] #[{ accessFlags := 1, nameIndex := 43, descriptorIndex := 44, attributes := #[] }, { accessFlags := 1, nameIndex := 46, descriptorIndex := 47, attributes := #[] }] 16433 20 #[] #[{ accessFlags := 16409, nameIndex := 5, descriptorIndex := 6, attributes := #[] }, { accessFlags := 16409, nameIndex := 9, descriptorIndex := 6, attributes := #[] }, { accessFlags := 4122, nameIndex := 12, descriptorIndex := 13, attributes := #[] }])
  fields := #[{ name := "ZERO", type := (.object "com/example/talence/talence/games/Player"), accessFlags := 16409, slot := 0, constantValue := 0 }, { name := "ONE", type := (.object "com/example/talence/talence/games/Player"), accessFlags := 16409, slot := 1, constantValue := 0 }, { name := "$VALUES", type := (.array (.object "com/example/talence/talence/games/Player")), accessFlags := 4122, slot := 2, constantValue := 0 }]
  methods := #[k6m0, k6m1]
  instanceTypes := #[(.object "java/lang/String"), .int, .int]
  staticTypes := #[(.object "com/example/talence/talence/games/Player"), (.object "com/example/talence/talence/games/Player"), (.array (.object "com/example/talence/talence/games/Player"))]
  resolved := Array.replicate 52 none
  statics := some 0 }

def pool7 : Array CpInfo := pool [(1, u "java/lang/Cloneable"), (0, .class_ 1), (0, u "java/lang/Object"), (0, .class_ 3)] 3

/-- java/lang/Cloneable -/
def k7 : Class := { plain "java/lang/Cloneable" (some 0) with
  accessFlags := 1537
  interfaces := #[]
  cf := some (fileOf pool7 2 #[] #[] 1537 4 #[] #[])
  fields := #[]
  methods := #[]
  instanceTypes := #[]
  staticTypes := #[]
  resolved := Array.replicate 8 none
  statics := none }

/-- the primitive byte -/
def k8 : Class := { plain "byte" none with kind := .primitive 'B', accessFlags := 0x411 }
/-- [B -/
def k9 : Class := { plain "[B" (some 0) with kind := .array 8 .byte, interfaces := #[7, 4], accessFlags := 1041 }

/-- the primitive int -/
def k10 : Class := { plain "int" none with kind := .primitive 'I', accessFlags := 0x411 }
/-- [I -/
def k11 : Class := { plain "[I" (some 0) with kind := .array 10 .int, interfaces := #[7, 4], accessFlags := 1041 }

def heap : Heap := #[{ cls := 6, slots := #[.ref 1, .ref 2, .null], vm := .statics 6 },
  { cls := 6, slots := #[.null, .int 0, .int 0], vm := .none },
  { cls := 6, slots := #[.null, .int 1, .int 0], vm := .none }]
def classes : Array Class := #[k0, k1, k2, k3, k4, k5, k6, k7, k8, k9, k10, k11]
def interned : List (Array UInt16 × Addr) := []
def slotsUsed : Nat := 9
def theMethod : MethodId := ⟨1, 1⟩
def args0 : Array Value := #[.int 5]
def aboutOver (below : List Frame) : State where
  vm := { classes := classes, interned := interned.toArray }
  heap := heap
  slotsUsed := slotsUsed
  threads := #[{ frames := .invoking theMethod args0 :: below }]
def below0 : List Frame := [.native { method := ⟨0, 0⟩, args := #[] }]
def about1 : State := aboutOver below0
def p0 : Program := .bare "" "" ""
def e0 : Env := launch0.env 0 0 0
theorem w_frames : about1.frames = Frame.invoking theMethod args0 :: below0 := rfl
set_option maxRecDepth 65536 in
theorem w_args : argsFit about1.vm theMethod args0 = true := by decide +kernel
set_option maxRecDepth 65536 in
theorem w_heap : heapFits about1 = true := by decide +kernel
set_option maxRecDepth 65536 in
theorem w_runnable : about1.curStatus? = some .runnable := by decide +kernel
set_option maxRecDepth 65536 in
theorem w_alone : about1.alone = true := by decide +kernel
set_option maxRecDepth 65536 in
theorem w_named : about1.methodNamed? x = some theMethod := by decide +kernel
set_option maxRecDepth 65536 in
theorem w_hears : about1.hears theMethod below0 = true := by decide +kernel
set_option maxRecDepth 65536 in
theorem w_ripe : about1.ripe theMethod args0 below0 = true := by decide +kernel
theorem w_running : about1.status = .running := rfl
set_option maxRecDepth 65536 in
theorem w_room : about1.hasRoom e0.platform room_1 = true :=
  launch0.hasRoom_least _ room_1 (by decide +kernel) (by decide +kernel) (by decide +kernel) (by decide +kernel) (by decide +kernel) (by decide +kernel)
theorem allAtoms_all (ts : List Jvm.Cond) (a : Array Jvm.Value) (st : Jvm.State) : (allAtoms ts).before a st = ts.all (fun c => c.before a st) := by
  induction ts with
  | nil => rfl
  | cons c t ih =>
    show (Jvm.Cond.and c (allAtoms t)).before a st = _
    rw [Jvm.Cond.before_and, ih, List.all_cons]
def words1 : List Jvm.Cond := Jvm.Cond.code x code maxLocals ret :: tables_1
/-- a 'code' word, met by the world's own term for the bytes: nothing is compared byte by byte -/
theorem code_word {y : MethodName} {bytes : ByteArray} {mx : Nat} {rt : Option FieldType} {a : Array Value} {s : State} {m : MethodId} {meth : Method} {c : Code} (h1 : s.methodNamed? y = some m) (h2 : s.vm.method? m = some meth) (h3 : meth.code = some c) (h4 : c.code = bytes)
    (h5 : (c.maxLocals == mx && c.exceptionTable.isEmpty && decide (c.maxStack ≤ mostOperands) && decide (meth.sig.returnType = rt) && !meth.locks && decide (parseMethodDescriptor y.desc = some meth.sig)) = true) : (Jvm.Cond.code y bytes mx rt).before a s = true := by
  simp only [Bool.and_eq_true, beq_iff_eq, Bool.not_eq_true', decide_eq_true_eq] at h5
  obtain ⟨⟨⟨⟨⟨g1, g2⟩, g3⟩, g4⟩, g5⟩, g6⟩ := h5
  simp [Cond.before, Cond.holds, Cond.value, h1, h2, h3, h4, g1, g2, g3, g4, g5, g6]
def isCode : Jvm.Cond → Bool
  | .code _ _ _ _ => true
  | _ => false
theorem all_split {L : List Jvm.Cond} {P : Jvm.Cond → Bool} (h1 : L.all (fun c => isCode c || P c) = true) (h2 : ∀ c ∈ L.filter isCode, P c = true) : L.all P = true := by
  refine List.all_eq_true.mpr fun c hc => ?_
  have h := List.all_eq_true.mp h1 c hc
  rcases Bool.eq_false_or_eq_true (isCode c) with hi | hi
  · exact h2 c (List.mem_filter.mpr ⟨hc, hi⟩)
  · simpa [hi] using h
set_option maxRecDepth 65536 in
theorem w_c0 : (Jvm.Cond.code x code maxLocals ret).before args0 about1 = true := code_word (m := ⟨1, 1⟩) (meth := k1m1) (c := k1c1) (by decide +kernel) rfl rfl rfl (by decide +kernel)
set_option maxRecDepth 65536 in
theorem w_c1 : (Jvm.Cond.code ({ cls := "com/example/talence/talence/games/Player", name := "opponent", desc := "()Lcom/example/talence/talence/games/Player;" } : Jvm.MethodName) prog_51_method_4_code (1 : Nat) (Option.some (Jvm.ClassFile.FieldType.object "com/example/talence/talence/games/Player"))).before args0 about1 = true := code_word (m := ⟨6, 0⟩) (meth := k6m0) (c := k6c0) (by decide +kernel) rfl rfl rfl (by decide +kernel)
set_option maxRecDepth 65536 in
theorem w_c2 : (Jvm.Cond.code ({ cls := "com/example/talence/talence/games/Player", name := "getNumber", desc := "()I" } : Jvm.MethodName) prog_51_method_5_code (1 : Nat) (Option.some Jvm.ClassFile.FieldType.int)).before args0 about1 = true := code_word (m := ⟨6, 1⟩) (meth := k6m1) (c := k6c1) (by decide +kernel) rfl rfl rfl (by decide +kernel)
def codes1 : List Jvm.Cond := [Jvm.Cond.code x code maxLocals ret, Jvm.Cond.code ({ cls := "com/example/talence/talence/games/Player", name := "opponent", desc := "()Lcom/example/talence/talence/games/Player;" } : Jvm.MethodName) prog_51_method_4_code (1 : Nat) (Option.some (Jvm.ClassFile.FieldType.object "com/example/talence/talence/games/Player")), Jvm.Cond.code ({ cls := "com/example/talence/talence/games/Player", name := "getNumber", desc := "()I" } : Jvm.MethodName) prog_51_method_5_code (1 : Nat) (Option.some Jvm.ClassFile.FieldType.int)]
set_option maxRecDepth 65536 in
theorem codes_eq : words1.filter isCode = codes1 := rfl
theorem w_codes : ∀ c ∈ words1.filter isCode, c.before args0 about1 = true := by
  rw [codes_eq]
  intro c hc
  simp only [codes1, List.mem_cons, List.not_mem_nil, or_false] at hc
  rcases hc with rfl | rfl | rfl
  · exact w_c0
  · exact w_c1
  · exact w_c2
set_option maxRecDepth 65536 in
theorem w_t1 : words1.all (fun c => isCode c || c.before args0 about1) = true := by decide +kernel
theorem w_tables : (allAtoms (Jvm.Cond.code x code maxLocals ret :: tables_1)).before args0 about1 = true := by
  rw [allAtoms_all]
  show words1.all (fun c => c.before args0 about1) = true
  refine all_split ?_ w_codes
  rw [w_t1]
set_option maxRecDepth 65536 in
theorem w_case : (Jvm.Cond.and given_1 narrow_1).before args0 about1 = true := by decide +kernel
theorem w_applies : (headSpec (Jvm.Cond.code x code maxLocals ret :: tables_1) room_1).applies x e0.platform about1 = true :=
  (Spec.applies_iff w_frames).mpr ⟨w_running, w_runnable, w_alone, w_named, w_hears, w_ripe, w_room, w_tables⟩
theorem atStart : AtStart classFile x code maxLocals ret World_1 tables_1 room_1 Calls_1 rest_1 Pre_1 launch0 p0 e0 about1 theMethod args0 below0 :=
  ⟨lists_1, trivial, launch0.admits_env _ _ _, launch0.least_env, fairChoices_fair.cas, fairChoices_fair.clock, w_frames, w_args, w_heap, w_applies, trivial, trivial, w_case⟩
end start1
theorem witness_1 : WitnessClaimed_1 := ⟨start1.p0, start1.e0, start1.about1, start1.theMethod, start1.args0, start1.below0, start1.atStart⟩
end Jvm.Pilot.@@N@@
