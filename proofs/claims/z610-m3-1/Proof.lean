import JvmDerived
import JvmDerived.Pilot.@@N@@Statement
import JvmDerived.Pilot.@@N@@Code
set_option linter.unusedVariables false
set_option linter.unusedSimpArgs false
namespace Jvm.Pilot.@@N@@
open Jvm Jvm.ClassFile Sem Op Lib Jvm.Free Jvm.Stand Jvm.LawKit Jvm.RoadKit Bundle Jvm.Pilot.@@N@@.Jvm.D
section OwnKit
variable {p : Program} {l : Launch} {e : Env} {R : Room} {s : State} {m : MethodId} {args : Array Value} {below : List Frame} {meth : Method} {c : Code} {T : State} {locs : List Loc} {cells slots : Nat} {Z : State} {a0 : Array Value} {h : Heap} {bs : ByteArray} {own mnm : String} {mx : Nat} {rt : Option FieldType} {G : Outcome → State → Prop} {pc pc' : Nat} {Ls Ls' : Array Slot} {st : List Value}
/-- from T the run comes to an end of which G holds -/
def Go (tb : Tables) (e : Env) (below : List Frame) (G : Outcome → State → Prop) (T : State) : Prop := ∃ s₂ o, Steps tb e below T s₂ ∧ s₂.status = .running ∧ Ended s₂ below o ∧ G o s₂
theorem Go.step {tb : Tables} {T T' : State} (g : Go tb e below G T') (h : ∀ t, Steps tb e below T' t → Steps tb e below T t) : Go tb e below G T := by
  obtain ⟨s₂, o, h1, h2⟩ := g
  exact ⟨s₂, o, h _ h1, h2⟩
/-- what a walk knows of its own body -/
def Cx (p : Program) (s : State) (m : MethodId) (meth : Method) (c : Code) (bs : ByteArray) (mx : Nat) (own mnm : String) (rt : Option FieldType) (Z : State) : Prop :=
  p.tables.exec = Jvm.exec ∧ c.code = bs ∧ c.maxLocals = mx ∧ s.vm.findClass own = some m.cls ∧ meth.name = mnm ∧ meth.sig.returnType = rt ∧ meth.locks = false ∧ Z.Warmed39 s.vm
theorem Cx.hown (C : Cx p s m meth c bs mx own mnm rt Z) : s.vm.findClass own = some m.cls := C.2.2.2.1
theorem Cx.nm (C : Cx p s m meth c bs mx own mnm rt Z) : meth.name = mnm := C.2.2.2.2.1
theorem Cx.ret (C : Cx p s m meth c bs mx own mnm rt Z) : meth.sig.returnType = rt := C.2.2.2.2.2.1
theorem Cx.locks (C : Cx p s m meth c bs mx own mnm rt Z) : meth.locks = false := C.2.2.2.2.2.2.1
theorem Cx.hZ (C : Cx p s m meth c bs mx own mnm rt Z) : Z.Warmed39 s.vm := C.2.2.2.2.2.2.2
/-- the end: returned, Q of the value, the heap and the places written; the frame -/
def End (s : State) (Q : Option Value → Heap → List Loc → Prop) (ce sl : Nat) (o : Outcome) (U' : State) : Prop := ∃ v L, o = .returned v ∧ Q v U'.heap L ∧ FrameEnd s o U' L ce sl
theorem met_of {y : MethodName} {ws : List Jvm.Cond} {rm : Room} {as' : Array Value} {Q : Option Value → Heap → List Loc → Prop} {ce sl : Nat} (hpn : plainFor y = true) (hef : ∀ m, entryFrame m as' mx = mkF m 0 Ls [])
    (hbody : ∀ (p : Program) (e : Env) (s : State) (m : MethodId) (below : List Frame) (meth : Method) (c : Code) (T : State), Cx p s m meth c bs mx y.cls y.name rt Z → Stand p l e rm s m as' below meth c T [] 0 0 → T.heap = h → Go p.tables e below (End s Q ce sl) (T.setTop (mkF m 0 Ls []))) :
    MetFree l y (head1 (Jvm.Cond.code y bs mx rt :: ws) rm) (fun a U => a = as' ∧ Z.Warmed39 U.vm ∧ U.heap = h) (fun _ _ _ _ _ => True) (fun _ U o U' => ∃ v L, o = .returned v ∧ Q v U'.heap L ∧ FrameEnd U o U' L ce sl) := by
  refine MetFree.of_bodySF hpn hisR ?_
  intro p e s m args below meth c s₁ Bd hml0 hP hK
  obtain ⟨rfl, hZ, hh⟩ := hP
  have X0 : Stand p l e rm s m _ below meth c s₁ [] 0 0 := Stand.of_body Bd
  have e0 : s₁.heap = h := by rw [← hh, Bd.state]; rfl
  obtain ⟨s₂, o, h1, h2, h3, h4⟩ := hbody p e s m below meth c s₁ ⟨Bd.exec, Bd.bytes, hml0, findClass_of_methodNamed Bd.named, (name_of_methodNamed Bd.named Bd.method).1, Bd.returns, Bd.notSynchronized, hZ⟩ X0 e0
  exact ⟨s₂, o, castTop (hef m) h1, h2, h3, h4⟩

theorem g_iloadN (C : Cx p s m meth c bs mx own mnm rt Z) (X : Stand p l e R s m args below meth c T locs cells slots) {k : Fin 4} {v : Int32} (hd : decode bs pc = .ok (.iload_n k, 1)) (hl : Ls[k.val]? = some (.val (.int v))) (hn : pc + 1 = pc')
    (hr : Go p.tables e below G (T.setTop (mkF m pc' Ls (.int v :: st)))) : Go p.tables e below G (T.setTop (mkF m pc Ls st)) := by
  subst hn; exact hr.step fun t k => XS.iloadN X.here C.1 rfl (hb C.2.1 hd) hl k
theorem g_istoreN (C : Cx p s m meth c bs mx own mnm rt Z) (X : Stand p l e R s m args below meth c T locs cells slots) {k : Fin 4} {v : Int32} (hd : decode bs pc = .ok (.istore_n k, 1)) (hl : storeLocals Ls k.val (.int v) = some Ls') (hn : pc + 1 = pc')
    (hr : Go p.tables e below G (T.setTop (mkF m pc' Ls' st))) : Go p.tables e below G (T.setTop (mkF m pc Ls (.int v :: st))) := by
  subst hn; exact hr.step fun t k => XS.istoreN X.here C.1 rfl (hb C.2.1 hd) rfl hl k
theorem g_aloadN (C : Cx p s m meth c bs mx own mnm rt Z) (X : Stand p l e R s m args below meth c T locs cells slots) {k : Fin 4} {v : Value} (hd : decode bs pc = .ok (.aload_n k, 1)) (hl : Ls[k.val]? = some (.val v)) (hv : v.isRef = true) (hn : pc + 1 = pc')
    (hr : Go p.tables e below G (T.setTop (mkF m pc' Ls (v :: st)))) : Go p.tables e below G (T.setTop (mkF m pc Ls st)) := by
  subst hn; exact hr.step fun t k => XS.aloadN X.here C.1 rfl (hb C.2.1 hd) hl hv k
theorem g_aload (C : Cx p s m meth c bs mx own mnm rt Z) (X : Stand p l e R s m args below meth c T locs cells slots) {k : Nat} {v : Value} (hd : decode bs pc = .ok (.aload k, 2)) (hl : Ls[k]? = some (.val v)) (hv : v.isRef = true) (hn : pc + 2 = pc')
    (hr : Go p.tables e below G (T.setTop (mkF m pc' Ls (v :: st)))) : Go p.tables e below G (T.setTop (mkF m pc Ls st)) := by
  subst hn; exact hr.step fun t k => XS.aload X.here C.1 rfl (hb C.2.1 hd) hl hv k
theorem g_astoreN (C : Cx p s m meth c bs mx own mnm rt Z) (X : Stand p l e R s m args below meth c T locs cells slots) {k : Fin 4} {v : Value} (hd : decode bs pc = .ok (.astore_n k, 1)) (hv : v.isRef = true) (hl : storeLocals Ls k.val v = some Ls') (hn : pc + 1 = pc')
    (hr : Go p.tables e below G (T.setTop (mkF m pc' Ls' st))) : Go p.tables e below G (T.setTop (mkF m pc Ls (v :: st))) := by
  subst hn; exact hr.step fun t k => XS.astoreN X.here C.1 rfl (hb C.2.1 hd) rfl hv hl k
theorem g_astore (C : Cx p s m meth c bs mx own mnm rt Z) (X : Stand p l e R s m args below meth c T locs cells slots) {k : Nat} {v : Value} (hd : decode bs pc = .ok (.astore k, 2)) (hv : v.isRef = true) (hl : storeLocals Ls k v = some Ls') (hn : pc + 2 = pc')
    (hr : Go p.tables e below G (T.setTop (mkF m pc' Ls' st))) : Go p.tables e below G (T.setTop (mkF m pc Ls (v :: st))) := by
  subst hn; exact hr.step fun t k => XS.astore X.here C.1 rfl (hb C.2.1 hd) rfl hv hl k
theorem g_iconst (C : Cx p s m meth c bs mx own mnm rt Z) (X : Stand p l e R s m args below meth c T locs cells slots) {i : Int} {v : Int32} (hd : decode bs pc = .ok (.iconst i, 1)) (hv : Int32.ofInt i = v) (hn : pc + 1 = pc')
    (hr : Go p.tables e below G (T.setTop (mkF m pc' Ls (.int v :: st)))) : Go p.tables e below G (T.setTop (mkF m pc Ls st)) := by
  subst hn; exact hr.step fun t k => XS.iconst X.here C.1 rfl (hb C.2.1 hd) (by rw [hv]; exact k)
theorem g_bipush (C : Cx p s m meth c bs mx own mnm rt Z) (X : Stand p l e R s m args below meth c T locs cells slots) {i : Int} {v : Int32} (hd : decode bs pc = .ok (.bipush i, 2)) (hv : (Int8.ofInt i).toInt32 = v) (hn : pc + 2 = pc')
    (hr : Go p.tables e below G (T.setTop (mkF m pc' Ls (.int v :: st)))) : Go p.tables e below G (T.setTop (mkF m pc Ls st)) := by
  subst hn; exact hr.step fun t k => XS.bipush X.here C.1 rfl (hb C.2.1 hd) (by rw [hv]; exact k)
theorem g_isub (C : Cx p s m meth c bs mx own mnm rt Z) (X : Stand p l e R s m args below meth c T locs cells slots) {x y : Int32} (hd : decode bs pc = .ok (.isub, 1)) (hn : pc + 1 = pc')
    (hr : Go p.tables e below G (T.setTop (mkF m pc' Ls (.int (x - y) :: st)))) : Go p.tables e below G (T.setTop (mkF m pc Ls (.int y :: .int x :: st))) := by
  subst hn; exact hr.step fun t k => XS.isub X.here C.1 rfl (hb C.2.1 hd) rfl k
theorem g_iand (C : Cx p s m meth c bs mx own mnm rt Z) (X : Stand p l e R s m args below meth c T locs cells slots) {x y : Int32} (hd : decode bs pc = .ok (.iand, 1)) (hn : pc + 1 = pc')
    (hr : Go p.tables e below G (T.setTop (mkF m pc' Ls (.int (x &&& y) :: st)))) : Go p.tables e below G (T.setTop (mkF m pc Ls (.int y :: .int x :: st))) := by
  subst hn; exact hr.step fun t k => XS.iand X.here C.1 rfl (hb C.2.1 hd) rfl k
theorem g_goto (C : Cx p s m meth c bs mx own mnm rt Z) (X : Stand p l e R s m args below meth c T locs cells slots) {o : Int} (hd : decode bs pc = .ok (.goto o, 3)) (ho : 0 ≤ (pc : Int) + o) (hp : ((pc : Int) + o).toNat = pc')
    (hr : Go p.tables e below G (T.setTop (mkF m pc' Ls st))) : Go p.tables e below G (T.setTop (mkF m pc Ls st)) :=
  hr.step fun t k => XS.goto X.here C.1 rfl rfl (hb C.2.1 hd) ho hp k
theorem g_icmpY (C : Cx p s m meth c bs mx own mnm rt Z) (X : Stand p l e R s m args below meth c T locs cells slots) {cd : ClassFile.Cond} {x y : Int32} {o : Int} (hd : decode bs pc = .ok (.if_icmp cd o, 3)) (hc : if_icmp.holds cd x y = true) (ho : 0 ≤ (pc : Int) + o) (hp : ((pc : Int) + o).toNat = pc')
    (hr : Go p.tables e below G (T.setTop (mkF m pc' Ls st))) : Go p.tables e below G (T.setTop (mkF m pc Ls (.int y :: .int x :: st))) :=
  hr.step fun t k => XS.icmpYes X.here C.1 rfl rfl (hb C.2.1 hd) rfl hc ho hp k
theorem g_icmpN (C : Cx p s m meth c bs mx own mnm rt Z) (X : Stand p l e R s m args below meth c T locs cells slots) {cd : ClassFile.Cond} {x y : Int32} {o : Int} (hd : decode bs pc = .ok (.if_icmp cd o, 3)) (hc : if_icmp.holds cd x y = false) (hn : pc + 3 = pc')
    (hr : Go p.tables e below G (T.setTop (mkF m pc' Ls st))) : Go p.tables e below G (T.setTop (mkF m pc Ls (.int y :: .int x :: st))) := by
  subst hn; exact hr.step fun t k => XS.icmpNo X.here C.1 rfl (hb C.2.1 hd) rfl hc k
theorem g_acmp (C : Cx p s m meth c bs mx own mnm rt Z) (X : Stand p l e R s m args below meth c T locs cells slots) {cd : ACond} {x y : Value} {o : Int} {same : Bool} (hd : decode bs pc = .ok (.if_acmp cd o, 3)) (h1 : x.isRef = true) (h2 : y.isRef = true) (hq : decide (x = y) = same) (ho : 0 ≤ (pc : Int) + o) (hp : pc' = if acV cd same = true then ((pc : Int) + o).toNat else pc + 3)
    (hr : Go p.tables e below G (T.setTop (mkF m pc' Ls st))) : Go p.tables e below G (T.setTop (mkF m pc Ls (y :: x :: st))) :=
  hr.step fun t k => Jvm.RoadKit.acmp X C.1 rfl h1 h2 rfl (hb C.2.1 hd) rfl hq ho hp k
theorem g_getS (C : Cx p s m meth c bs mx own mnm rt Z) (X : Stand p l e R s m args below meth c T locs cells slots) {O n d R0 host : String} {i : Nat} {v : Value} (hd : decode bs pc = .ok (.getstatic i, 3)) (w : (Jvm.Cond.fieldLink own i R0 n d).before a0 Z = true ∨ (Jvm.Cond.fieldLinkNest own i R0 n d host).before a0 Z = true) (via : Via Z R0 O n d) (eT : T.heap = h) (F : Sta Z h O n d v) (hn : pc + 3 = pc')
    (hr : ∀ T', Stand p l e R s m args below meth c T' locs cells slots → T'.heap = h → Go p.tables e below G (T'.setTop (mkF m pc' Ls (v :: st)))) : Go p.tables e below G (T.setTop (mkF m pc Ls st)) := by
  subst hn
  obtain ⟨T', X', e', st'⟩ := getS2 X C.1 C.hZ C.hown w via eT F (g := mkF m pc Ls st) rfl (hb C.2.1 hd)
  exact (hr T' X' e').step st'
theorem g_callS (C : Cx p s m meth c bs mx own mnm rt Z) (X : Stand p l e R s m args below meth c T locs cells slots) {rm : Room} {as' : Array Value} {Q : Option Value → Heap → List Loc → Prop} {ml : Nat} {yb : ByteArray} {yr : Option FieldType} {ce sl W : Nat} {argsL : List Value} {ps : List FieldType} {pr : Option FieldType} {y : MethodName} {i : Nat} (hd : decode bs pc = .ok (.invokestatic i, 3)) (w1 : (Jvm.Cond.methodLink own i y).before a0 Z = true) (w2 : (Jvm.Cond.static y).before a0 Z = true) (w3 : (Jvm.Cond.initialized y.cls).before a0 Z = true) (w4 : (Jvm.Cond.code y yb ml yr).before a0 Z = true) (hy : y.cls ≠ "java/lang/invoke/MethodHandle" ∧ y.cls ≠ "java/lang/invoke/VarHandle")
    (hM : MetFree l y (head1 [Jvm.Cond.code y yb ml yr] rm) (fun a U => a = as' ∧ Z.Warmed39 U.vm ∧ U.heap = h) (fun _ _ _ _ _ => True) (fun _ U o U' => ∃ v L, o = .returned v ∧ Q v U'.heap L ∧ FrameEnd U o U' L rm.cells rm.slots)) (hf : rm.frames + 1 ≤ R.frames) (hlo : W + (ml + 11) + rm.locals ≤ R.locals) (hce : cells + rm.cells = ce) (hsl : slots + rm.slots = sl) (hce' : ce ≤ R.cells) (hsl' : sl ≤ R.slots) (has : argsL.toArray = as') (eT : T.heap = h) (hsz : Ls.size = mx) (hpd : parseMethodDescriptor y.desc = some ⟨ps, pr⟩) (hln : argsL.length = ps.length) (hW : (st.map fun v => v.category).sum ≤ W) (hn : pc + 3 = pc')
    (hr : ∀ v T' L, Stand p l e R s m args below meth c T' (locs ++ L) ce sl → Q v T'.heap L → Go p.tables e below G (T'.setTop (mkF m pc' Ls (v.toList ++ st)))) : Go p.tables e below G (T.setTop (mkF m pc Ls (argsL.reverse ++ st))) := by
  subst hn hce hsl has
  obtain ⟨v, vm1, ⟨T', L', k', n'⟩, -, X', ⟨Lc, hQ, l', y', z'⟩, st'⟩ := Jvm.LawKit.callS X C.1 (y := y) C.hown (mvT C.hZ w1) (mvT C.hZ w2) (mvT C.hZ w3) (mvT C.hZ w4) hy (backOf (W := W) hM C.hZ w4 w3 hf hlo) (g := mkF m pc Ls (argsL.reverse ++ st)) rfl (hsz.trans C.2.2.1.symm) (argsL := argsL) (rest := st) (lenOf hpd hln) rfl (by show 2 * 0 + _ ≤ _; omega) (hb C.2.1 hd) (fun _ _ => ⟨rfl, eT, hce', hsl'⟩)
  dsimp only [Pt.U, Pt.locs, Pt.cells, Pt.slots] at X' l' y' z' st' hQ
  subst l' y' z'
  exact (hr v T' Lc X' hQ).step st'
theorem g_retA {t : FieldType} (C : Cx p s m meth c bs mx own mnm (some t) Z) (X : Stand p l e R s m args below meth c T locs cells slots) {Q : Option Value → Heap → List Loc → Prop} {ce sl : Nat} {v : Value} (ht : t.isReference = true) (hnw : narrow t v = v) (hv : v.isRef = true) (hd : decode bs pc = .ok (.areturn, 1)) (hc : cells ≤ ce) (hs : slots ≤ sl) (hQ : Q (some v) T.heap locs) : Go p.tables e below (End s Q ce sl) (T.setTop (mkF m pc Ls (v :: st))) := by
  obtain ⟨fs, hr, hrun, hended, hW, hsame⟩ := X.leave (v := (some v)) (fun h => by rw [C.ret] at h; cases h) C.locks
  exact ⟨_, _, retOut X C.1 C.ret hnw (Or.inr (Or.inr (Or.inr (Or.inr ⟨rfl, ht, hv⟩)))) (hb C.2.1 hd) hr, hrun, hended, _, _, rfl, hQ, ⟨_, rfl⟩, hW, hsame.mono hc hs⟩
theorem g_retN {t : FieldType} (C : Cx p s m meth c bs mx own mnm (some t) Z) (X : Stand p l e R s m args below meth c T locs cells slots) {Q : Option Value → Heap → List Loc → Prop} {ce sl : Nat} {z : Int32} (ht : t = .boolean ∨ t = .byte ∨ t = .char ∨ t = .short) (hd : decode bs pc = .ok (.ireturn, 1)) (hc : cells ≤ ce) (hs : slots ≤ sl) (hQ : Q (some (.int (nar t z))) T.heap locs) : Go p.tables e below (End s Q ce sl) (T.setTop (mkF m pc Ls (.int z :: st))) := by
  obtain ⟨fs, hr, hrun, hended, hW, hsame⟩ := X.leave (v := (some (.int (nar t z)))) (fun h => by rw [C.ret] at h; cases h) C.locks
  exact ⟨_, _, retN X C.1 C.ret ht (hb C.2.1 hd) hr, hrun, hended, _, _, rfl, hQ, ⟨_, rfl⟩, hW, hsame.mono hc hs⟩
theorem g_ldR (C : Cx p s m meth c bs mx own mnm rt Z) (X : Stand p l e R s m args below meth c T locs cells slots) {a : Addr} {k : ClassId} {n j : Int32} {vs : List Value} {dv v : Value} {t : FieldType} (hd : decode bs pc = .ok (.aaload, 1)) (eT : T.heap = h) (F : Arv Z h a k t n vs dv) (ht : t.isReference = true) (hj : ¬ j < 0 ∧ j < n) (hv : vs.getD j.toNatClampNeg dv = v) (hn : pc + 1 = pc')
    (hr : Go p.tables e below G (T.setTop (mkF m pc' Ls (v :: st)))) : Go p.tables e below G (T.setTop (mkF m pc Ls (.int j :: .ref a :: st))) := by
  subst hn
  obtain ⟨cl, A, q, Sz, N, H, Gf⟩ := F
  have hin := inb_of Sz hj
  exact hr.step fun t k => X.aaload C.1 (j := j) (by rw [eT]; exact A.1) (State.isArrayOf_alike C.hZ.alike A.2.1) ht A.2.2 hin ((H _ (Nat.lt_of_not_le fun q => hin (Or.inr q))).trans (congrArg some hv)) (g := mkF m pc Ls (.int j :: .ref a :: st)) rfl rfl (hb C.2.1 hd) _ k
theorem g_len (C : Cx p s m meth c bs mx own mnm rt Z) (X : Stand p l e R s m args below meth c T locs cells slots) {a : Addr} {k : ClassId} {n : Int32} {ty : FieldType} {vs : List Value} {dv : Value} (hd : decode bs pc = .ok (.arraylength, 1)) (eT : T.heap = h) (F : Arv Z h a k ty n vs dv) (hn : pc + 1 = pc')
    (hr : Go p.tables e below G (T.setTop (mkF m pc' Ls (.int n :: st)))) : Go p.tables e below G (T.setTop (mkF m pc Ls (.ref a :: st))) := by
  subst hn
  obtain ⟨cl, A, q, Sz, N, H, Gf⟩ := F
  exact hr.step fun t k => X.arraylength C.1 (by rw [eT]; exact A.1) (State.isArrayOf_alike C.hZ.alike A.2.1) (g := mkF m pc Ls (.ref a :: st)) rfl rfl (hb C.2.1 hd) _ (by rw [len_of Sz N]; exact k)
theorem own_sta_keep {h' : Heap} {ws : List Addr} {K n d : String} {v : Value} (F : Sta Z h K n d v) (Kp : Keep h h' ws) (q : ∀ a ∈ ws, ∃ c : Cell, h[a]? = some c ∧ c.vm.isStatics = false) : Sta Z h' K n d v := by
  obtain ⟨cf, i, k, f, st, cell, h1, h2, h3, h4, h5, h6, h7⟩ := F
  refine ⟨cf, i, k, f, st, cell, h1, h2, h3, h4, Kp.2.1 st cell h5 (fun hm => ?_), h6, h7⟩
  obtain ⟨c', e1, e2⟩ := q st hm
  cases h5.symm.trans e1
  rw [h6] at e2
  cases e2
theorem own_fin (n : Nat) (x : Int32) (h0 : 0 ≤ x.toInt) (h1 : x.toInt < n) : ∃ i : Fin n, x = Int32.ofNat i.val :=
  ⟨⟨x.toNatClampNeg, by show x.toInt.toNat < n; omega⟩, (back32 (by rw [Int32.lt_iff_toInt_lt]; show ¬ x.toInt < 0; omega)).1.symm⟩
theorem own_fitc {a : Addr} {k : ClassId} {ty : FieldType} {n : Int32} {vs : List Value} {dv : Value} {cl : Cell} (A : Arr Z h a cl ty) (Hs : Has cl vs dv) (Gf : ∀ i, i < cl.slots.size → fits ty (vs.getD i dv) = true) : FitC Z cl := fun i v hv => by
  obtain ⟨hi, -⟩ := Array.getElem?_eq_some_iff.mp hv
  have e := Hs i hi
  rw [hv] at e
  obtain rfl := Option.some.inj e
  obtain ⟨-, kk, hk, comp, hkind⟩ := A.2.1
  simp [State.fitsSlot, State.slotType?, hk, hkind]
  simpa using Gf i hi
theorem g_clone (C : Cx p s m meth c bs mx own mnm rt Z) (X : Stand p l e R s m args below meth c T locs cells slots) {i W cap ce sl : Nat} {ad : String} {a : Addr} {k : ClassId} {ty : FieldType} {n : Int32} {vs : List Value} {dv : Value} (hd : decode bs pc = .ok (.invokevirtual i, 3)) (w1 : (Jvm.Cond.methodLink own i ⟨ad, "clone", "()Ljava/lang/Object;"⟩).before a0 Z = true) (w2 : (Jvm.Cond.sameMethod ad "java/lang/Object" "clone" "()Ljava/lang/Object;").before a0 Z = true) (w3 : (Jvm.Cond.native ⟨"java/lang/Object", "clone", "()Ljava/lang/Object;"⟩).before a0 Z = true) (w4 : (Jvm.Cond.instanceMethod ⟨"java/lang/Object", "clone", "()Ljava/lang/Object;"⟩).before a0 Z = true) (w5 : (Jvm.Cond.selects ad ⟨ad, "clone", "()Ljava/lang/Object;"⟩ ⟨"java/lang/Object", "clone", "()Ljava/lang/Object;"⟩).before a0 Z = true) (w6 : (Jvm.Cond.castable ad "java/lang/Cloneable").before a0 Z = true)
    (eT : T.heap = h) (F : Arv Z h a k ty n vs dv) (E : Exa Z h a ad) (hsz : Ls.size = mx) (hf : 1 ≤ R.frames) (hW : (st.map fun v => v.category).sum ≤ W) (hlo : W + 14 ≤ R.locals) (hcap : n.toNatClampNeg ≤ cap) (hce : cells + 1 = ce) (hsl : slots + cap = sl) (hce' : ce ≤ R.cells) (hsl' : sl ≤ R.slots) (hn : pc + 3 = pc')
    (hr : ∀ T' h' b, b = h.size → Stand p l e R s m args below meth c T' locs ce sl → T'.heap = h' → Ext h h' → Arv Z h' b k ty n vs dv → Exa Z h' b ad → Go p.tables e below G (T'.setTop (mkF m pc' Ls (.ref b :: st)))) : Go p.tables e below G (T.setTop (mkF m pc Ls (.ref a :: st))) := by
  subst hn hce hsl
  obtain ⟨cl, A, q, Sz, N, H, Gf⟩ := F
  obtain ⟨T', h', X', e', E', A', Ex', st'⟩ := cloneA X C.1 C.hZ C.hown w1 w2 w3 w4 w5 w6 eT A E (own_fitc (k := k) (n := n) A H Gf) (g := mkF m pc Ls (.ref a :: st)) rfl (hsz.trans C.2.2.1.symm) rfl (hb C.2.1 hd) hf (W := W) (by show 2 * 0 + _ ≤ _; omega) hlo (by rw [Sz]; exact hcap) hce' hsl'
  exact (hr T' h' _ rfl X' e' E' ⟨cloneOf cl, A', q, Sz, N, H, Gf⟩ Ex').step st'
theorem g_castY (C : Cx p s m meth c bs mx own mnm rt Z) (X : Stand p l e R s m args below meth c T locs cells slots) {i : Nat} {K : String} {a : Addr} (hd : decode bs pc = .ok (.checkcast i, 3)) (w : (Jvm.Cond.classLink own i K).before a0 Z = true) (eT : T.heap = h) (Iy : Ins Z h a K true) (hn : pc + 3 = pc')
    (hr : ∀ T', Stand p l e R s m args below meth c T' locs cells slots → T'.heap = h → Go p.tables e below G (T'.setTop (mkF m pc' Ls (.ref a :: st)))) : Go p.tables e below G (T.setTop (mkF m pc Ls (.ref a :: st))) := by
  subst hn
  obtain ⟨T', X', e', st'⟩ := castY X C.1 C.hZ C.hown w eT Iy (g := mkF m pc Ls (.ref a :: st)) rfl rfl (hb C.2.1 hd)
  exact (hr T' X' e').step st'
theorem own_cast {tb : Tables} {S S' : State} (q : S = S') (g : Go tb e below G S') : Go tb e below G S := q ▸ g
end OwnKit
theorem own_eqi {args : Array Value} {s : State} {t : Term} {v : Int32} (h : (Jvm.Cond.eq t (.int v)).value args s none s [] = some true) : t.eval args s none [] s = some (.int v) := by
  simp only [Cond.value, Term.eval] at h
  cases ht : t.eval args s none [] s with
  | none => simp [ht] at h
  | some x => cases x <;> simp [ht] at h ⊢; exact h
theorem own_eqr {args : Array Value} {s : State} {t u : Term} {a : Addr} (h : (Jvm.Cond.eq t u).value args s none s [] = some true) (hu : u.eval args s none [] s = some (.ref a)) : t.eval args s none [] s = some (.ref a) := by
  simp only [Cond.value, hu] at h
  cases ht : t.eval args s none [] s with
  | none => simp [ht] at h
  | some x => cases x <;> simp [ht] at h ⊢; exact h
theorem own_len {args : Array Value} {s : State} {t : Term} {a : Addr} {cl : Cell} {ty : FieldType} {n : Int32} (ht : t.eval args s none [] s = some (.ref a)) (A : Arr s s.heap a cl ty) (h : (Term.length t).eval args s none [] s = some (.int n)) : cl.slots.size < 2 ^ 31 ∧ cl.slots.size.toInt32 = n := by
  have ha : s.arrayAt? a = some cl := A.fin (Vm.Alike.refl _)
  by_cases q : cl.slots.size < 2 ^ 31
  · rw [len_f ht ha q] at h
    exact ⟨q, Value.int.inj (Option.some.inj h)⟩
  · simp [Term.eval, ht, ha, q] at h
theorem own_fld {args : Array Value} {s : State} {t : Term} {C n d : String} {a : Addr} {v : Value} (ht : t.eval args s none [] s = some (.ref a)) (hv : (Term.field t C n d).eval args s none [] s = some v) : Fld s s.heap a C n d v := Fld.start ((fld_at ht).symm.trans hv)
def FX (Z : State) (h : Heap) (w_UPRIGHT : Addr) (w_VALUES : Addr) (w_MIRRORED : Addr) (w_UPSIDE_DOWN : Addr) (w_FLIPPED : Addr) (w_TRANSPOSED : Addr) (w_TURNED_ANTICLOCKWISE : Addr) (w_TRANSVERSED : Addr) (w_TURNED_CLOCKWISE : Addr) (k_VALUES : ClassId) : Prop := (Sta Z h "com/example/pictor/pictor/Orientation" "UPRIGHT" "Lcom/example/pictor/pictor/Orientation;" (.ref w_UPRIGHT)) ∧ (Sta Z h "com/example/pictor/pictor/Orientation" "$VALUES" "[Lcom/example/pictor/pictor/Orientation;" (.ref w_VALUES)) ∧ (Sta Z h "com/example/pictor/pictor/Orientation" "MIRRORED" "Lcom/example/pictor/pictor/Orientation;" (.ref w_MIRRORED)) ∧ (Sta Z h "com/example/pictor/pictor/Orientation" "UPSIDE_DOWN" "Lcom/example/pictor/pictor/Orientation;" (.ref w_UPSIDE_DOWN)) ∧ (Sta Z h "com/example/pictor/pictor/Orientation" "FLIPPED" "Lcom/example/pictor/pictor/Orientation;" (.ref w_FLIPPED)) ∧ (Sta Z h "com/example/pictor/pictor/Orientation" "TRANSPOSED" "Lcom/example/pictor/pictor/Orientation;" (.ref w_TRANSPOSED)) ∧ (Sta Z h "com/example/pictor/pictor/Orientation" "TURNED_ANTICLOCKWISE" "Lcom/example/pictor/pictor/Orientation;" (.ref w_TURNED_ANTICLOCKWISE)) ∧ (Sta Z h "com/example/pictor/pictor/Orientation" "TRANSVERSED" "Lcom/example/pictor/pictor/Orientation;" (.ref w_TRANSVERSED)) ∧ (Sta Z h "com/example/pictor/pictor/Orientation" "TURNED_CLOCKWISE" "Lcom/example/pictor/pictor/Orientation;" (.ref w_TURNED_CLOCKWISE)) ∧ (Exa Z h w_UPRIGHT "com/example/pictor/pictor/Orientation") ∧ (Exa Z h w_VALUES "[Lcom/example/pictor/pictor/Orientation;") ∧ (Exa Z h w_MIRRORED "com/example/pictor/pictor/Orientation") ∧ (Exa Z h w_UPSIDE_DOWN "com/example/pictor/pictor/Orientation") ∧ (Exa Z h w_FLIPPED "com/example/pictor/pictor/Orientation") ∧ (Exa Z h w_TRANSPOSED "com/example/pictor/pictor/Orientation") ∧ (Exa Z h w_TURNED_ANTICLOCKWISE "com/example/pictor/pictor/Orientation") ∧ (Exa Z h w_TRANSVERSED "com/example/pictor/pictor/Orientation") ∧ (Exa Z h w_TURNED_CLOCKWISE "com/example/pictor/pictor/Orientation") ∧ (Arv Z h w_VALUES k_VALUES (.object "com/example/pictor/pictor/Orientation") (8 : Int32) [(.ref w_UPRIGHT), (.ref w_MIRRORED), (.ref w_UPSIDE_DOWN), (.ref w_FLIPPED), (.ref w_TRANSPOSED), (.ref w_TURNED_ANTICLOCKWISE), (.ref w_TRANSVERSED), (.ref w_TURNED_CLOCKWISE)] .null)
theorem d3_0 : decode prog_35_method_1_code 0 = .ok (.getstatic 28, 3) := by decide +kernel
theorem d3_3 : decode prog_35_method_1_code 3 = .ok (.invokevirtual 32, 3) := by decide +kernel
theorem d3_6 : decode prog_35_method_1_code 6 = .ok (.checkcast 33, 3) := by decide +kernel
theorem d3_9 : decode prog_35_method_1_code 9 = .ok (.areturn, 1) := by decide +kernel
theorem ef_3 (m : MethodId)  : entryFrame m #[] 0 = mkF m 0 #[] [] := by first | (simp [entryFrame, mkF, argsToLocals, Value.category]; done) | rfl
def Q_3 (Z : State) (w_UPRIGHT : Addr) (w_VALUES : Addr) (w_MIRRORED : Addr) (w_UPSIDE_DOWN : Addr) (w_FLIPPED : Addr) (w_TRANSPOSED : Addr) (w_TURNED_ANTICLOCKWISE : Addr) (w_TRANSVERSED : Addr) (w_TURNED_CLOCKWISE : Addr) (k_VALUES : ClassId) (h0 : Heap) (n0 : Nat) (v : Option Value) (h : Heap) (L : List Loc) : Prop := ∃ r : Addr, (v = some (.ref r)) ∧ (Fr n0 L) ∧ (Keep h0 h []) ∧ (h0.size ≤ r) ∧ (n0 ≤ r) ∧ (Arv Z h r k_VALUES (.object "com/example/pictor/pictor/Orientation") (8 : Int32) [(.ref w_UPRIGHT), (.ref w_MIRRORED), (.ref w_UPSIDE_DOWN), (.ref w_FLIPPED), (.ref w_TRANSPOSED), (.ref w_TURNED_ANTICLOCKWISE), (.ref w_TRANSVERSED), (.ref w_TURNED_CLOCKWISE)] .null)
set_option maxRecDepth 65536 in
set_option maxHeartbeats 40000000 in
theorem rm3 (l : Launch) (Z : State) (a0 : Array Value) (hw : ∀ d ∈ tables_1, d.before a0 Z = true) (ws : List Jvm.Cond) (w_UPRIGHT : Addr) (w_VALUES : Addr) (w_MIRRORED : Addr) (w_UPSIDE_DOWN : Addr) (w_FLIPPED : Addr) (w_TRANSPOSED : Addr) (w_TURNED_ANTICLOCKWISE : Addr) (w_TRANSVERSED : Addr) (w_TURNED_CLOCKWISE : Addr) (k_VALUES : ClassId) (h0 : Heap) (n0 : Nat) (Z0 : n0 ≤ h0.size) (hF : FX Z h0 w_UPRIGHT w_VALUES w_MIRRORED w_UPSIDE_DOWN w_FLIPPED w_TRANSPOSED w_TURNED_ANTICLOCKWISE w_TRANSVERSED w_TURNED_CLOCKWISE k_VALUES) :
    MetFree l (⟨"com/example/pictor/pictor/Orientation", "values", "()[Lcom/example/pictor/pictor/Orientation;"⟩ : MethodName) (head1 (Jvm.Cond.code (⟨"com/example/pictor/pictor/Orientation", "values", "()[Lcom/example/pictor/pictor/Orientation;"⟩ : MethodName) prog_35_method_1_code 0 (some (.array (.object "com/example/pictor/pictor/Orientation"))) :: ws) ({ frames := 1, cells := 1, slots := 8, locals := 14 } : Room)) (fun a U => a = #[] ∧ Z.Warmed39 U.vm ∧ U.heap = h0) (fun _ _ _ _ _ => True) (fun _ U o U' => ∃ v L, o = .returned v ∧ Q_3 Z w_UPRIGHT w_VALUES w_MIRRORED w_UPSIDE_DOWN w_FLIPPED w_TRANSPOSED w_TURNED_ANTICLOCKWISE w_TRANSVERSED w_TURNED_CLOCKWISE k_VALUES h0 n0 v U'.heap L ∧ FrameEnd U o U' L ({ frames := 1, cells := 1, slots := 8, locals := 14 } : Room).cells ({ frames := 1, cells := 1, slots := 8, locals := 14 } : Room).slots) := by
  refine met_of (Ls := #[]) (plainFor_of_name (by first | (simp [plainName, overriddenIn]; done) | decide +kernel)) (fun m => ef_3 m ) ?_
  intro p e s m below meth c T0 C X0 e0
  obtain ⟨S_w_UPRIGHT, S_w_VALUES, S_w_MIRRORED, S_w_UPSIDE_DOWN, S_w_FLIPPED, S_w_TRANSPOSED, S_w_TURNED_ANTICLOCKWISE, S_w_TRANSVERSED, S_w_TURNED_CLOCKWISE, E_w_UPRIGHT, E_w_VALUES, E_w_MIRRORED, E_w_UPSIDE_DOWN, E_w_FLIPPED, E_w_TRANSPOSED, E_w_TURNED_ANTICLOCKWISE, E_w_TRANSVERSED, E_w_TURNED_CLOCKWISE, V_w_VALUES⟩ := id hF
  have N0 := Fr.nil n0
  have K0 : Keep h0 h0 [] := Keep.refl h0 _
  refine g_getS (pc' := 3) C X0 d3_0 (host := "") (Or.inl (hw _ (List.mem_of_getElem? (i := 14) rfl))) Via.refl e0 S_w_VALUES rfl (fun T1 X1 e1 => ?_)
  refine g_clone (W := 0) (cap := 8) (pc' := 6) C X1 d3_3 (hw _ (List.mem_of_getElem? (i := 16) rfl)) (hw _ (List.mem_of_getElem? (i := 17) rfl)) (hw _ (List.mem_of_getElem? (i := 21) rfl)) (hw _ (List.mem_of_getElem? (i := 19) rfl)) (hw _ (List.mem_of_getElem? (i := 20) rfl)) (hw _ (List.mem_of_getElem? (i := 22) rfl)) e1 V_w_VALUES E_w_VALUES rfl (by decide) (Nat.le_refl _) (by decide) (by decide) (ce := 1) (sl := 8) rfl rfl (by decide) (by decide) rfl (fun T2 h2 b2 g2 X2 e2 E2 V2 A2 => ?_)
  have ne2_3 : ¬ (w_UPRIGHT = b2) := Nat.ne_of_lt (Nat.lt_of_lt_of_le E_w_UPRIGHT.lt (Nat.le_of_eq g2.symm))
  have ne2_4 : ¬ (w_VALUES = b2) := Nat.ne_of_lt (Nat.lt_of_lt_of_le E_w_VALUES.lt (Nat.le_of_eq g2.symm))
  have ne2_5 : ¬ (w_MIRRORED = b2) := Nat.ne_of_lt (Nat.lt_of_lt_of_le E_w_MIRRORED.lt (Nat.le_of_eq g2.symm))
  have ne2_6 : ¬ (w_UPSIDE_DOWN = b2) := Nat.ne_of_lt (Nat.lt_of_lt_of_le E_w_UPSIDE_DOWN.lt (Nat.le_of_eq g2.symm))
  have ne2_7 : ¬ (w_FLIPPED = b2) := Nat.ne_of_lt (Nat.lt_of_lt_of_le E_w_FLIPPED.lt (Nat.le_of_eq g2.symm))
  have ne2_8 : ¬ (w_TRANSPOSED = b2) := Nat.ne_of_lt (Nat.lt_of_lt_of_le E_w_TRANSPOSED.lt (Nat.le_of_eq g2.symm))
  have ne2_9 : ¬ (w_TURNED_ANTICLOCKWISE = b2) := Nat.ne_of_lt (Nat.lt_of_lt_of_le E_w_TURNED_ANTICLOCKWISE.lt (Nat.le_of_eq g2.symm))
  have ne2_10 : ¬ (w_TRANSVERSED = b2) := Nat.ne_of_lt (Nat.lt_of_lt_of_le E_w_TRANSVERSED.lt (Nat.le_of_eq g2.symm))
  have ne2_11 : ¬ (w_TURNED_CLOCKWISE = b2) := Nat.ne_of_lt (Nat.lt_of_lt_of_le E_w_TURNED_CLOCKWISE.lt (Nat.le_of_eq g2.symm))
  have S_w_UPRIGHT_2 := S_w_UPRIGHT.ext E2
  have S_w_VALUES_2 := S_w_VALUES.ext E2
  have S_w_MIRRORED_2 := S_w_MIRRORED.ext E2
  have S_w_UPSIDE_DOWN_2 := S_w_UPSIDE_DOWN.ext E2
  have S_w_FLIPPED_2 := S_w_FLIPPED.ext E2
  have S_w_TRANSPOSED_2 := S_w_TRANSPOSED.ext E2
  have S_w_TURNED_ANTICLOCKWISE_2 := S_w_TURNED_ANTICLOCKWISE.ext E2
  have S_w_TRANSVERSED_2 := S_w_TRANSVERSED.ext E2
  have S_w_TURNED_CLOCKWISE_2 := S_w_TURNED_CLOCKWISE.ext E2
  have E_w_UPRIGHT_2 := E_w_UPRIGHT.ext E2
  have E_w_VALUES_2 := E_w_VALUES.ext E2
  have E_w_MIRRORED_2 := E_w_MIRRORED.ext E2
  have E_w_UPSIDE_DOWN_2 := E_w_UPSIDE_DOWN.ext E2
  have E_w_FLIPPED_2 := E_w_FLIPPED.ext E2
  have E_w_TRANSPOSED_2 := E_w_TRANSPOSED.ext E2
  have E_w_TURNED_ANTICLOCKWISE_2 := E_w_TURNED_ANTICLOCKWISE.ext E2
  have E_w_TRANSVERSED_2 := E_w_TRANSVERSED.ext E2
  have E_w_TURNED_CLOCKWISE_2 := E_w_TURNED_CLOCKWISE.ext E2
  have V_w_VALUES_2 := V_w_VALUES.ext E2
  have gn_b2 : n0 ≤ b2 := Nat.le_trans Z0 (Nat.le_of_eq g2.symm)
  have Z2 := Nat.le_trans Z0 E2.1
  have sz_b2 : h0.size ≤ b2 := Nat.le_trans K0.1 (Nat.le_of_eq g2.symm)
  have K2 := K0.ext E2
  refine g_castY (pc' := 9) C X2 d3_6 (hw _ (List.mem_of_getElem? (i := 31) rfl)) e2 (Ins.self A2) rfl (fun T12 X12 e12 => ?_)
  exact g_retA C X12 rfl rfl rfl d3_9 (by decide) (by decide) ⟨b2, rfl, N0, (by rw [e12]; exact K2), sz_b2, gn_b2, (by rw [e12]; exact V2)⟩
theorem own_18 (p : Int32) (h1 : ¬ (p < (1 : Int32))) (h2 : ¬ ((8 : Int32) < p)) : p = (1 : Int32) ∨ p = (2 : Int32) ∨ p = (3 : Int32) ∨ p = (4 : Int32) ∨ p = (5 : Int32) ∨ p = (6 : Int32) ∨ p = (7 : Int32) ∨ p = (8 : Int32) := by
  rw [Int32.lt_iff_toInt_lt] at h1 h2
  have e1 : (1 : Int32).toInt = 1 := by decide
  have e8 : (8 : Int32).toInt = 8 := by decide
  obtain ⟨i, hi⟩ := own_fin 9 p (by omega) (by omega)
  have h1' : ¬ (Int32.ofNat i.val < (1 : Int32)) := by rw [← hi, Int32.lt_iff_toInt_lt]; exact h1
  clear h1 h2; subst hi; revert h1'; revert i; decide
theorem d1_0 : decode prog_35_method_4_code 0 = .ok (.iload_n 0, 1) := by decide +kernel
theorem d1_1 : decode prog_35_method_4_code 1 = .ok (.iconst 1, 1) := by decide +kernel
theorem d1_2 : decode prog_35_method_4_code 2 = .ok (.if_icmp .lt 21, 3) := by decide +kernel
theorem d1_23 : decode prog_35_method_4_code 23 = .ok (.getstatic 3, 3) := by decide +kernel
theorem d1_26 : decode prog_35_method_4_code 26 = .ok (.areturn, 1) := by decide +kernel
theorem d1_5 : decode prog_35_method_4_code 5 = .ok (.iload_n 0, 1) := by decide +kernel
theorem d1_6 : decode prog_35_method_4_code 6 = .ok (.invokestatic 57, 3) := by decide +kernel
theorem pd_0 : parseMethodDescriptor "()[Lcom/example/pictor/pictor/Orientation;" = some ⟨[], some (.array (.object "com/example/pictor/pictor/Orientation"))⟩ := by decide +kernel
theorem d1_9 : decode prog_35_method_4_code 9 = .ok (.arraylength, 1) := by decide +kernel
theorem d1_10 : decode prog_35_method_4_code 10 = .ok (.if_icmp .gt 13, 3) := by decide +kernel
theorem d1_13 : decode prog_35_method_4_code 13 = .ok (.invokestatic 57, 3) := by decide +kernel
theorem d1_16 : decode prog_35_method_4_code 16 = .ok (.iload_n 0, 1) := by decide +kernel
theorem d1_17 : decode prog_35_method_4_code 17 = .ok (.iconst 1, 1) := by decide +kernel
theorem d1_18 : decode prog_35_method_4_code 18 = .ok (.isub, 1) := by decide +kernel
theorem d1_19 : decode prog_35_method_4_code 19 = .ok (.aaload, 1) := by decide +kernel
theorem d1_20 : decode prog_35_method_4_code 20 = .ok (.goto 6, 3) := by decide +kernel
def F1 (p1 : Int32) (w_UPRIGHT : Addr) (w_MIRRORED : Addr) (w_UPSIDE_DOWN : Addr) (w_FLIPPED : Addr) (w_TRANSPOSED : Addr) (w_TURNED_ANTICLOCKWISE : Addr) (w_TRANSVERSED : Addr) (w_TURNED_CLOCKWISE : Addr) : Addr := (if p1 < (1 : Int32) then w_UPRIGHT else (if (8 : Int32) < p1 then w_UPRIGHT else (if p1 = (1 : Int32) then w_UPRIGHT else (if p1 = (2 : Int32) then w_MIRRORED else (if p1 = (3 : Int32) then w_UPSIDE_DOWN else (if p1 = (4 : Int32) then w_FLIPPED else (if p1 = (5 : Int32) then w_TRANSPOSED else (if p1 = (6 : Int32) then w_TURNED_ANTICLOCKWISE else (if p1 = (7 : Int32) then w_TRANSVERSED else (if p1 = (8 : Int32) then w_TURNED_CLOCKWISE else w_UPRIGHT))))))))))
theorem F1_l0 (p1 : Int32) (w_UPRIGHT : Addr) (w_MIRRORED : Addr) (w_UPSIDE_DOWN : Addr) (w_FLIPPED : Addr) (w_TRANSPOSED : Addr) (w_TURNED_ANTICLOCKWISE : Addr) (w_TRANSVERSED : Addr) (w_TURNED_CLOCKWISE : Addr) (h0 : p1 < (1 : Int32)) : F1 p1 w_UPRIGHT w_MIRRORED w_UPSIDE_DOWN w_FLIPPED w_TRANSPOSED w_TURNED_ANTICLOCKWISE w_TRANSVERSED w_TURNED_CLOCKWISE = w_UPRIGHT := by
  unfold F1; rw [if_pos h0]
theorem F1_l1 (p1 : Int32) (w_UPRIGHT : Addr) (w_MIRRORED : Addr) (w_UPSIDE_DOWN : Addr) (w_FLIPPED : Addr) (w_TRANSPOSED : Addr) (w_TURNED_ANTICLOCKWISE : Addr) (w_TRANSVERSED : Addr) (w_TURNED_CLOCKWISE : Addr) (h0 : ¬ (p1 < (1 : Int32))) (h1 : (8 : Int32) < p1) : F1 p1 w_UPRIGHT w_MIRRORED w_UPSIDE_DOWN w_FLIPPED w_TRANSPOSED w_TURNED_ANTICLOCKWISE w_TRANSVERSED w_TURNED_CLOCKWISE = w_UPRIGHT := by
  unfold F1; rw [if_neg h0, if_pos h1]
theorem F1_l2 (p1 : Int32) (w_UPRIGHT : Addr) (w_MIRRORED : Addr) (w_UPSIDE_DOWN : Addr) (w_FLIPPED : Addr) (w_TRANSPOSED : Addr) (w_TURNED_ANTICLOCKWISE : Addr) (w_TRANSVERSED : Addr) (w_TURNED_CLOCKWISE : Addr) (h0 : ¬ (p1 < (1 : Int32))) (h1 : ¬ ((8 : Int32) < p1)) (h2 : p1 = (1 : Int32)) : F1 p1 w_UPRIGHT w_MIRRORED w_UPSIDE_DOWN w_FLIPPED w_TRANSPOSED w_TURNED_ANTICLOCKWISE w_TRANSVERSED w_TURNED_CLOCKWISE = w_UPRIGHT := by
  unfold F1; rw [if_neg h0, if_neg h1, if_pos h2]
theorem F1_l3 (p1 : Int32) (w_UPRIGHT : Addr) (w_MIRRORED : Addr) (w_UPSIDE_DOWN : Addr) (w_FLIPPED : Addr) (w_TRANSPOSED : Addr) (w_TURNED_ANTICLOCKWISE : Addr) (w_TRANSVERSED : Addr) (w_TURNED_CLOCKWISE : Addr) (h0 : ¬ (p1 < (1 : Int32))) (h1 : ¬ ((8 : Int32) < p1)) (h2 : ¬ (p1 = (1 : Int32))) (h3 : p1 = (2 : Int32)) : F1 p1 w_UPRIGHT w_MIRRORED w_UPSIDE_DOWN w_FLIPPED w_TRANSPOSED w_TURNED_ANTICLOCKWISE w_TRANSVERSED w_TURNED_CLOCKWISE = w_MIRRORED := by
  unfold F1; rw [if_neg h0, if_neg h1, if_neg h2, if_pos h3]
theorem F1_l4 (p1 : Int32) (w_UPRIGHT : Addr) (w_MIRRORED : Addr) (w_UPSIDE_DOWN : Addr) (w_FLIPPED : Addr) (w_TRANSPOSED : Addr) (w_TURNED_ANTICLOCKWISE : Addr) (w_TRANSVERSED : Addr) (w_TURNED_CLOCKWISE : Addr) (h0 : ¬ (p1 < (1 : Int32))) (h1 : ¬ ((8 : Int32) < p1)) (h2 : ¬ (p1 = (1 : Int32))) (h3 : ¬ (p1 = (2 : Int32))) (h4 : p1 = (3 : Int32)) : F1 p1 w_UPRIGHT w_MIRRORED w_UPSIDE_DOWN w_FLIPPED w_TRANSPOSED w_TURNED_ANTICLOCKWISE w_TRANSVERSED w_TURNED_CLOCKWISE = w_UPSIDE_DOWN := by
  unfold F1; rw [if_neg h0, if_neg h1, if_neg h2, if_neg h3, if_pos h4]
theorem F1_l5 (p1 : Int32) (w_UPRIGHT : Addr) (w_MIRRORED : Addr) (w_UPSIDE_DOWN : Addr) (w_FLIPPED : Addr) (w_TRANSPOSED : Addr) (w_TURNED_ANTICLOCKWISE : Addr) (w_TRANSVERSED : Addr) (w_TURNED_CLOCKWISE : Addr) (h0 : ¬ (p1 < (1 : Int32))) (h1 : ¬ ((8 : Int32) < p1)) (h2 : ¬ (p1 = (1 : Int32))) (h3 : ¬ (p1 = (2 : Int32))) (h4 : ¬ (p1 = (3 : Int32))) (h5 : p1 = (4 : Int32)) : F1 p1 w_UPRIGHT w_MIRRORED w_UPSIDE_DOWN w_FLIPPED w_TRANSPOSED w_TURNED_ANTICLOCKWISE w_TRANSVERSED w_TURNED_CLOCKWISE = w_FLIPPED := by
  unfold F1; rw [if_neg h0, if_neg h1, if_neg h2, if_neg h3, if_neg h4, if_pos h5]
theorem F1_l6 (p1 : Int32) (w_UPRIGHT : Addr) (w_MIRRORED : Addr) (w_UPSIDE_DOWN : Addr) (w_FLIPPED : Addr) (w_TRANSPOSED : Addr) (w_TURNED_ANTICLOCKWISE : Addr) (w_TRANSVERSED : Addr) (w_TURNED_CLOCKWISE : Addr) (h0 : ¬ (p1 < (1 : Int32))) (h1 : ¬ ((8 : Int32) < p1)) (h2 : ¬ (p1 = (1 : Int32))) (h3 : ¬ (p1 = (2 : Int32))) (h4 : ¬ (p1 = (3 : Int32))) (h5 : ¬ (p1 = (4 : Int32))) (h6 : p1 = (5 : Int32)) : F1 p1 w_UPRIGHT w_MIRRORED w_UPSIDE_DOWN w_FLIPPED w_TRANSPOSED w_TURNED_ANTICLOCKWISE w_TRANSVERSED w_TURNED_CLOCKWISE = w_TRANSPOSED := by
  unfold F1; rw [if_neg h0, if_neg h1, if_neg h2, if_neg h3, if_neg h4, if_neg h5, if_pos h6]
theorem F1_l7 (p1 : Int32) (w_UPRIGHT : Addr) (w_MIRRORED : Addr) (w_UPSIDE_DOWN : Addr) (w_FLIPPED : Addr) (w_TRANSPOSED : Addr) (w_TURNED_ANTICLOCKWISE : Addr) (w_TRANSVERSED : Addr) (w_TURNED_CLOCKWISE : Addr) (h0 : ¬ (p1 < (1 : Int32))) (h1 : ¬ ((8 : Int32) < p1)) (h2 : ¬ (p1 = (1 : Int32))) (h3 : ¬ (p1 = (2 : Int32))) (h4 : ¬ (p1 = (3 : Int32))) (h5 : ¬ (p1 = (4 : Int32))) (h6 : ¬ (p1 = (5 : Int32))) (h7 : p1 = (6 : Int32)) : F1 p1 w_UPRIGHT w_MIRRORED w_UPSIDE_DOWN w_FLIPPED w_TRANSPOSED w_TURNED_ANTICLOCKWISE w_TRANSVERSED w_TURNED_CLOCKWISE = w_TURNED_ANTICLOCKWISE := by
  unfold F1; rw [if_neg h0, if_neg h1, if_neg h2, if_neg h3, if_neg h4, if_neg h5, if_neg h6, if_pos h7]
theorem F1_l8 (p1 : Int32) (w_UPRIGHT : Addr) (w_MIRRORED : Addr) (w_UPSIDE_DOWN : Addr) (w_FLIPPED : Addr) (w_TRANSPOSED : Addr) (w_TURNED_ANTICLOCKWISE : Addr) (w_TRANSVERSED : Addr) (w_TURNED_CLOCKWISE : Addr) (h0 : ¬ (p1 < (1 : Int32))) (h1 : ¬ ((8 : Int32) < p1)) (h2 : ¬ (p1 = (1 : Int32))) (h3 : ¬ (p1 = (2 : Int32))) (h4 : ¬ (p1 = (3 : Int32))) (h5 : ¬ (p1 = (4 : Int32))) (h6 : ¬ (p1 = (5 : Int32))) (h7 : ¬ (p1 = (6 : Int32))) (h8 : p1 = (7 : Int32)) : F1 p1 w_UPRIGHT w_MIRRORED w_UPSIDE_DOWN w_FLIPPED w_TRANSPOSED w_TURNED_ANTICLOCKWISE w_TRANSVERSED w_TURNED_CLOCKWISE = w_TRANSVERSED := by
  unfold F1; rw [if_neg h0, if_neg h1, if_neg h2, if_neg h3, if_neg h4, if_neg h5, if_neg h6, if_neg h7, if_pos h8]
theorem F1_l9 (p1 : Int32) (w_UPRIGHT : Addr) (w_MIRRORED : Addr) (w_UPSIDE_DOWN : Addr) (w_FLIPPED : Addr) (w_TRANSPOSED : Addr) (w_TURNED_ANTICLOCKWISE : Addr) (w_TRANSVERSED : Addr) (w_TURNED_CLOCKWISE : Addr) (h0 : ¬ (p1 < (1 : Int32))) (h1 : ¬ ((8 : Int32) < p1)) (h2 : ¬ (p1 = (1 : Int32))) (h3 : ¬ (p1 = (2 : Int32))) (h4 : ¬ (p1 = (3 : Int32))) (h5 : ¬ (p1 = (4 : Int32))) (h6 : ¬ (p1 = (5 : Int32))) (h7 : ¬ (p1 = (6 : Int32))) (h8 : ¬ (p1 = (7 : Int32))) (h9 : p1 = (8 : Int32)) : F1 p1 w_UPRIGHT w_MIRRORED w_UPSIDE_DOWN w_FLIPPED w_TRANSPOSED w_TURNED_ANTICLOCKWISE w_TRANSVERSED w_TURNED_CLOCKWISE = w_TURNED_CLOCKWISE := by
  unfold F1; rw [if_neg h0, if_neg h1, if_neg h2, if_neg h3, if_neg h4, if_neg h5, if_neg h6, if_neg h7, if_neg h8, if_pos h9]
theorem ef_1 (m : MethodId) (p1 : Int32) : entryFrame m #[(.int p1)] 1 = mkF m 0 #[.val (.int p1)] [] := by first | (simp [entryFrame, mkF, argsToLocals, Value.category]; done) | rfl
def Q_1 (Z : State) (p1 : Int32) (w_UPRIGHT : Addr) (w_VALUES : Addr) (w_MIRRORED : Addr) (w_UPSIDE_DOWN : Addr) (w_FLIPPED : Addr) (w_TRANSPOSED : Addr) (w_TURNED_ANTICLOCKWISE : Addr) (w_TRANSVERSED : Addr) (w_TURNED_CLOCKWISE : Addr) (k_VALUES : ClassId) (h0 : Heap) (n0 : Nat) (v : Option Value) (h : Heap) (L : List Loc) : Prop := (v = some (.ref (F1 p1 w_UPRIGHT w_MIRRORED w_UPSIDE_DOWN w_FLIPPED w_TRANSPOSED w_TURNED_ANTICLOCKWISE w_TRANSVERSED w_TURNED_CLOCKWISE))) ∧ (Fr n0 L) ∧ (Keep h0 h [])
set_option maxRecDepth 65536 in
set_option maxHeartbeats 40000000 in
theorem rm1 (l : Launch) (Z : State) (a0 : Array Value) (hw : ∀ d ∈ tables_1, d.before a0 Z = true) (ws : List Jvm.Cond) (p1 : Int32) (w_UPRIGHT : Addr) (w_VALUES : Addr) (w_MIRRORED : Addr) (w_UPSIDE_DOWN : Addr) (w_FLIPPED : Addr) (w_TRANSPOSED : Addr) (w_TURNED_ANTICLOCKWISE : Addr) (w_TRANSVERSED : Addr) (w_TURNED_CLOCKWISE : Addr) (k_VALUES : ClassId) (h0 : Heap) (n0 : Nat) (Z0 : n0 ≤ h0.size) (hF : FX Z h0 w_UPRIGHT w_VALUES w_MIRRORED w_UPSIDE_DOWN w_FLIPPED w_TRANSPOSED w_TURNED_ANTICLOCKWISE w_TRANSVERSED w_TURNED_CLOCKWISE k_VALUES) :
    MetFree l (⟨"com/example/pictor/pictor/Orientation", "ofTag", "(I)Lcom/example/pictor/pictor/Orientation;"⟩ : MethodName) (head1 (Jvm.Cond.code (⟨"com/example/pictor/pictor/Orientation", "ofTag", "(I)Lcom/example/pictor/pictor/Orientation;"⟩ : MethodName) prog_35_method_4_code 1 (some (.object "com/example/pictor/pictor/Orientation")) :: ws) ({ frames := 2, cells := 2, slots := 16, locals := 26 } : Room)) (fun a U => a = #[(.int p1)] ∧ Z.Warmed39 U.vm ∧ U.heap = h0) (fun _ _ _ _ _ => True) (fun _ U o U' => ∃ v L, o = .returned v ∧ Q_1 Z p1 w_UPRIGHT w_VALUES w_MIRRORED w_UPSIDE_DOWN w_FLIPPED w_TRANSPOSED w_TURNED_ANTICLOCKWISE w_TRANSVERSED w_TURNED_CLOCKWISE k_VALUES h0 n0 v U'.heap L ∧ FrameEnd U o U' L ({ frames := 2, cells := 2, slots := 16, locals := 26 } : Room).cells ({ frames := 2, cells := 2, slots := 16, locals := 26 } : Room).slots) := by
  refine met_of (Ls := #[.val (.int p1)]) (plainFor_of_name (by first | (simp [plainName, overriddenIn]; done) | decide +kernel)) (fun m => ef_1 m p1) ?_
  intro p e s m below meth c T0 C X0 e0
  obtain ⟨S_w_UPRIGHT, S_w_VALUES, S_w_MIRRORED, S_w_UPSIDE_DOWN, S_w_FLIPPED, S_w_TRANSPOSED, S_w_TURNED_ANTICLOCKWISE, S_w_TRANSVERSED, S_w_TURNED_CLOCKWISE, E_w_UPRIGHT, E_w_VALUES, E_w_MIRRORED, E_w_UPSIDE_DOWN, E_w_FLIPPED, E_w_TRANSPOSED, E_w_TURNED_ANTICLOCKWISE, E_w_TRANSVERSED, E_w_TURNED_CLOCKWISE, V_w_VALUES⟩ := id hF
  have N0 := Fr.nil n0
  have K0 : Keep h0 h0 [] := Keep.refl h0 _
  refine g_iloadN (pc' := 1) C X0 d1_0 rfl rfl ?_
  refine g_iconst (pc' := 2) (v := (1 : Int32)) C X0 d1_1 rfl rfl ?_
  by_cases c1 : p1 < (1 : Int32)
  · refine g_icmpY (pc' := 23) C X0 d1_2 (tlt c1).1 (by decide) (by decide) ?_
    refine g_getS (pc' := 26) C X0 d1_23 (host := "") (Or.inl (hw _ (List.mem_of_getElem? (i := 4) rfl))) Via.refl e0 S_w_UPRIGHT rfl (fun T2 X2 e2 => ?_)
    exact g_retA C X2 rfl rfl rfl d1_26 (by decide) (by decide) ⟨congrArg (fun z => some (Value.ref z)) (F1_l0 p1 w_UPRIGHT w_MIRRORED w_UPSIDE_DOWN w_FLIPPED w_TRANSPOSED w_TURNED_ANTICLOCKWISE w_TRANSVERSED w_TURNED_CLOCKWISE c1).symm, N0, (by rw [e2]; exact K0)⟩
  · refine g_icmpN (pc' := 5) C X0 d1_2 (flt c1).1 rfl ?_
    refine g_iloadN (pc' := 6) C X0 d1_5 rfl rfl ?_
    refine g_callS (y := (⟨"com/example/pictor/pictor/Orientation", "values", "()[Lcom/example/pictor/pictor/Orientation;"⟩ : MethodName)) (argsL := []) (st := [(.int p1)]) (pc' := 9) C X0 d1_6 (hw _ (List.mem_of_getElem? (i := 11) rfl)) (hw _ (List.mem_of_getElem? (i := 12) rfl)) (hw _ (List.mem_of_getElem? (i := 2) rfl)) (hw _ (List.mem_of_getElem? (i := 13) rfl)) (by decide) (rm3 l Z a0 hw [] w_UPRIGHT w_VALUES w_MIRRORED w_UPSIDE_DOWN w_FLIPPED w_TRANSPOSED w_TURNED_ANTICLOCKWISE w_TRANSVERSED w_TURNED_CLOCKWISE k_VALUES h0 n0 Z0 hF) (W := 1) (by decide) (by decide) (ce := 1) (sl := 8) rfl rfl (by decide) (by decide) rfl e0 rfl pd_0 rfl (Nat.le_refl _) rfl (fun v3 T3 L3 X3 Q3 => ?_)
    obtain ⟨r3, q3, Nq3, Kq3, sz3_r, gn_r3, P3_0⟩ := Q3
    have N3 := Fr.app N0 Nq3
    have ne3_4 : ¬ (w_UPRIGHT = r3) := Nat.ne_of_lt (Nat.lt_of_lt_of_le E_w_UPRIGHT.lt sz3_r)
    have ne3_5 : ¬ (w_VALUES = r3) := Nat.ne_of_lt (Nat.lt_of_lt_of_le E_w_VALUES.lt sz3_r)
    have ne3_6 : ¬ (w_MIRRORED = r3) := Nat.ne_of_lt (Nat.lt_of_lt_of_le E_w_MIRRORED.lt sz3_r)
    have ne3_7 : ¬ (w_UPSIDE_DOWN = r3) := Nat.ne_of_lt (Nat.lt_of_lt_of_le E_w_UPSIDE_DOWN.lt sz3_r)
    have ne3_8 : ¬ (w_FLIPPED = r3) := Nat.ne_of_lt (Nat.lt_of_lt_of_le E_w_FLIPPED.lt sz3_r)
    have ne3_9 : ¬ (w_TRANSPOSED = r3) := Nat.ne_of_lt (Nat.lt_of_lt_of_le E_w_TRANSPOSED.lt sz3_r)
    have ne3_10 : ¬ (w_TURNED_ANTICLOCKWISE = r3) := Nat.ne_of_lt (Nat.lt_of_lt_of_le E_w_TURNED_ANTICLOCKWISE.lt sz3_r)
    have ne3_11 : ¬ (w_TRANSVERSED = r3) := Nat.ne_of_lt (Nat.lt_of_lt_of_le E_w_TRANSVERSED.lt sz3_r)
    have ne3_12 : ¬ (w_TURNED_CLOCKWISE = r3) := Nat.ne_of_lt (Nat.lt_of_lt_of_le E_w_TURNED_CLOCKWISE.lt sz3_r)
    have S_w_UPRIGHT_3 := own_sta_keep S_w_UPRIGHT Kq3 (fun _ q => nomatch q)
    have S_w_VALUES_3 := own_sta_keep S_w_VALUES Kq3 (fun _ q => nomatch q)
    have S_w_MIRRORED_3 := own_sta_keep S_w_MIRRORED Kq3 (fun _ q => nomatch q)
    have S_w_UPSIDE_DOWN_3 := own_sta_keep S_w_UPSIDE_DOWN Kq3 (fun _ q => nomatch q)
    have S_w_FLIPPED_3 := own_sta_keep S_w_FLIPPED Kq3 (fun _ q => nomatch q)
    have S_w_TRANSPOSED_3 := own_sta_keep S_w_TRANSPOSED Kq3 (fun _ q => nomatch q)
    have S_w_TURNED_ANTICLOCKWISE_3 := own_sta_keep S_w_TURNED_ANTICLOCKWISE Kq3 (fun _ q => nomatch q)
    have S_w_TRANSVERSED_3 := own_sta_keep S_w_TRANSVERSED Kq3 (fun _ q => nomatch q)
    have S_w_TURNED_CLOCKWISE_3 := own_sta_keep S_w_TURNED_CLOCKWISE Kq3 (fun _ q => nomatch q)
    have E_w_UPRIGHT_3 := E_w_UPRIGHT.keep Kq3
    have E_w_VALUES_3 := E_w_VALUES.keep Kq3
    have E_w_MIRRORED_3 := E_w_MIRRORED.keep Kq3
    have E_w_UPSIDE_DOWN_3 := E_w_UPSIDE_DOWN.keep Kq3
    have E_w_FLIPPED_3 := E_w_FLIPPED.keep Kq3
    have E_w_TRANSPOSED_3 := E_w_TRANSPOSED.keep Kq3
    have E_w_TURNED_ANTICLOCKWISE_3 := E_w_TURNED_ANTICLOCKWISE.keep Kq3
    have E_w_TRANSVERSED_3 := E_w_TRANSVERSED.keep Kq3
    have E_w_TURNED_CLOCKWISE_3 := E_w_TURNED_CLOCKWISE.keep Kq3
    have V_w_VALUES_3 := V_w_VALUES.keep Kq3 nin0
    have Z3 := Nat.le_trans Z0 Kq3.1
    have sz_r3 := Nat.le_trans K0.1 sz3_r
    have K3 := K0.trans Kq3 all0
    subst q3
    show Go p.tables e below _ (T3.setTop (mkF m 9 #[.val (.int p1)] [(.ref r3), (.int p1)]))
    refine g_len (pc' := 10) C X3 d1_9 rfl P3_0 rfl ?_
    by_cases c13 : (8 : Int32) < p1
    · refine g_icmpY (pc' := 23) C X3 d1_10 (tlt c13).2.2.1 (by decide) (by decide) ?_
      refine g_getS (pc' := 26) C X3 d1_23 (host := "") (Or.inl (hw _ (List.mem_of_getElem? (i := 4) rfl))) Via.refl rfl S_w_UPRIGHT_3 rfl (fun T14 X14 e14 => ?_)
      exact g_retA C X14 rfl rfl rfl d1_26 (by decide) (by decide) ⟨congrArg (fun z => some (Value.ref z)) (F1_l1 p1 w_UPRIGHT w_MIRRORED w_UPSIDE_DOWN w_FLIPPED w_TRANSPOSED w_TURNED_ANTICLOCKWISE w_TRANSVERSED w_TURNED_CLOCKWISE c1 c13).symm, N3, (by rw [e14]; exact K3)⟩
    · refine g_icmpN (pc' := 13) C X3 d1_10 (flt c13).2.2.1 rfl ?_
      by_cases c15 : p1 = (1 : Int32)
      · refine own_cast (show T3.setTop (mkF m 13 #[.val (.int p1)] []) = T3.setTop (mkF m 13 #[.val (.int (1 : Int32))] []) from by rw [c15]) ?_
        refine g_callS (y := (⟨"com/example/pictor/pictor/Orientation", "values", "()[Lcom/example/pictor/pictor/Orientation;"⟩ : MethodName)) (argsL := []) (st := []) (pc' := 16) C X3 d1_13 (hw _ (List.mem_of_getElem? (i := 11) rfl)) (hw _ (List.mem_of_getElem? (i := 12) rfl)) (hw _ (List.mem_of_getElem? (i := 2) rfl)) (hw _ (List.mem_of_getElem? (i := 13) rfl)) (by decide) (rm3 l Z a0 hw [] w_UPRIGHT w_VALUES w_MIRRORED w_UPSIDE_DOWN w_FLIPPED w_TRANSPOSED w_TURNED_ANTICLOCKWISE w_TRANSVERSED w_TURNED_CLOCKWISE k_VALUES T3.heap n0 Z3 ⟨S_w_UPRIGHT_3, S_w_VALUES_3, S_w_MIRRORED_3, S_w_UPSIDE_DOWN_3, S_w_FLIPPED_3, S_w_TRANSPOSED_3, S_w_TURNED_ANTICLOCKWISE_3, S_w_TRANSVERSED_3, S_w_TURNED_CLOCKWISE_3, E_w_UPRIGHT_3, E_w_VALUES_3, E_w_MIRRORED_3, E_w_UPSIDE_DOWN_3, E_w_FLIPPED_3, E_w_TRANSPOSED_3, E_w_TURNED_ANTICLOCKWISE_3, E_w_TRANSVERSED_3, E_w_TURNED_CLOCKWISE_3, V_w_VALUES_3⟩) (W := 0) (by decide) (by decide) (ce := 2) (sl := 16) rfl rfl (by decide) (by decide) rfl rfl rfl pd_0 rfl (Nat.le_refl _) rfl (fun v16 T16 L16 X16 Q16 => ?_)
        obtain ⟨r16, q16, Nq16, Kq16, sz16_r, gn_r16, P16_0⟩ := Q16
        have N16 := Fr.app N3 Nq16
        have ne16_17 : ¬ (w_UPRIGHT = r16) := Nat.ne_of_lt (Nat.lt_of_lt_of_le E_w_UPRIGHT_3.lt sz16_r)
        have ne16_18 : ¬ (w_VALUES = r16) := Nat.ne_of_lt (Nat.lt_of_lt_of_le E_w_VALUES_3.lt sz16_r)
        have ne16_19 : ¬ (w_MIRRORED = r16) := Nat.ne_of_lt (Nat.lt_of_lt_of_le E_w_MIRRORED_3.lt sz16_r)
        have ne16_20 : ¬ (w_UPSIDE_DOWN = r16) := Nat.ne_of_lt (Nat.lt_of_lt_of_le E_w_UPSIDE_DOWN_3.lt sz16_r)
        have ne16_21 : ¬ (w_FLIPPED = r16) := Nat.ne_of_lt (Nat.lt_of_lt_of_le E_w_FLIPPED_3.lt sz16_r)
        have ne16_22 : ¬ (w_TRANSPOSED = r16) := Nat.ne_of_lt (Nat.lt_of_lt_of_le E_w_TRANSPOSED_3.lt sz16_r)
        have ne16_23 : ¬ (w_TURNED_ANTICLOCKWISE = r16) := Nat.ne_of_lt (Nat.lt_of_lt_of_le E_w_TURNED_ANTICLOCKWISE_3.lt sz16_r)
        have ne16_24 : ¬ (w_TRANSVERSED = r16) := Nat.ne_of_lt (Nat.lt_of_lt_of_le E_w_TRANSVERSED_3.lt sz16_r)
        have ne16_25 : ¬ (w_TURNED_CLOCKWISE = r16) := Nat.ne_of_lt (Nat.lt_of_lt_of_le E_w_TURNED_CLOCKWISE_3.lt sz16_r)
        have ne16_26 : ¬ (r3 = r16) := Nat.ne_of_lt (Nat.lt_of_lt_of_le P3_0.lt sz16_r)
        have S_w_UPRIGHT_16 := own_sta_keep S_w_UPRIGHT_3 Kq16 (fun _ q => nomatch q)
        have S_w_VALUES_16 := own_sta_keep S_w_VALUES_3 Kq16 (fun _ q => nomatch q)
        have S_w_MIRRORED_16 := own_sta_keep S_w_MIRRORED_3 Kq16 (fun _ q => nomatch q)
        have S_w_UPSIDE_DOWN_16 := own_sta_keep S_w_UPSIDE_DOWN_3 Kq16 (fun _ q => nomatch q)
        have S_w_FLIPPED_16 := own_sta_keep S_w_FLIPPED_3 Kq16 (fun _ q => nomatch q)
        have S_w_TRANSPOSED_16 := own_sta_keep S_w_TRANSPOSED_3 Kq16 (fun _ q => nomatch q)
        have S_w_TURNED_ANTICLOCKWISE_16 := own_sta_keep S_w_TURNED_ANTICLOCKWISE_3 Kq16 (fun _ q => nomatch q)
        have S_w_TRANSVERSED_16 := own_sta_keep S_w_TRANSVERSED_3 Kq16 (fun _ q => nomatch q)
        have S_w_TURNED_CLOCKWISE_16 := own_sta_keep S_w_TURNED_CLOCKWISE_3 Kq16 (fun _ q => nomatch q)
        have E_w_UPRIGHT_16 := E_w_UPRIGHT_3.keep Kq16
        have E_w_VALUES_16 := E_w_VALUES_3.keep Kq16
        have E_w_MIRRORED_16 := E_w_MIRRORED_3.keep Kq16
        have E_w_UPSIDE_DOWN_16 := E_w_UPSIDE_DOWN_3.keep Kq16
        have E_w_FLIPPED_16 := E_w_FLIPPED_3.keep Kq16
        have E_w_TRANSPOSED_16 := E_w_TRANSPOSED_3.keep Kq16
        have E_w_TURNED_ANTICLOCKWISE_16 := E_w_TURNED_ANTICLOCKWISE_3.keep Kq16
        have E_w_TRANSVERSED_16 := E_w_TRANSVERSED_3.keep Kq16
        have E_w_TURNED_CLOCKWISE_16 := E_w_TURNED_CLOCKWISE_3.keep Kq16
        have V_w_VALUES_16 := V_w_VALUES_3.keep Kq16 nin0
        have P3_0_16 := P3_0.keep Kq16 nin0
        have Z16 := Nat.le_trans Z3 Kq16.1
        have sz_r16 := Nat.le_trans K3.1 sz16_r
        have K16 := K3.trans Kq16 all0
        subst q16
        show Go p.tables e below _ (T16.setTop (mkF m 16 #[.val (.int (1 : Int32))] [(.ref r16)]))
        refine g_iloadN (pc' := 17) C X16 d1_16 rfl rfl ?_
        refine g_iconst (pc' := 18) (v := (1 : Int32)) C X16 d1_17 rfl rfl ?_
        refine g_isub (pc' := 19) C X16 d1_18 rfl ?_
        refine own_cast (congrArg (fun z => T16.setTop (mkF m 19 #[.val (.int (1 : Int32))] (.int z :: [(.ref r16)]))) (show ((1 : Int32) - (1 : Int32)) = (0 : Int32) from by decide)) ?_
        refine g_ldR (pc' := 20) (v := (.ref w_UPRIGHT)) C X16 d1_19 rfl P16_0 rfl ⟨by decide, by decide⟩ rfl rfl ?_
        refine g_goto (pc' := 26) C X16 d1_20 (by decide) (by decide) ?_
        exact g_retA C X16 rfl rfl rfl d1_26 (by decide) (by decide) ⟨congrArg (fun z => some (Value.ref z)) (F1_l2 p1 w_UPRIGHT w_MIRRORED w_UPSIDE_DOWN w_FLIPPED w_TRANSPOSED w_TURNED_ANTICLOCKWISE w_TRANSVERSED w_TURNED_CLOCKWISE c1 c13 c15).symm, N16, K16⟩
      · by_cases c27 : p1 = (2 : Int32)
        · refine own_cast (show T3.setTop (mkF m 13 #[.val (.int p1)] []) = T3.setTop (mkF m 13 #[.val (.int (2 : Int32))] []) from by rw [c27]) ?_
          refine g_callS (y := (⟨"com/example/pictor/pictor/Orientation", "values", "()[Lcom/example/pictor/pictor/Orientation;"⟩ : MethodName)) (argsL := []) (st := []) (pc' := 16) C X3 d1_13 (hw _ (List.mem_of_getElem? (i := 11) rfl)) (hw _ (List.mem_of_getElem? (i := 12) rfl)) (hw _ (List.mem_of_getElem? (i := 2) rfl)) (hw _ (List.mem_of_getElem? (i := 13) rfl)) (by decide) (rm3 l Z a0 hw [] w_UPRIGHT w_VALUES w_MIRRORED w_UPSIDE_DOWN w_FLIPPED w_TRANSPOSED w_TURNED_ANTICLOCKWISE w_TRANSVERSED w_TURNED_CLOCKWISE k_VALUES T3.heap n0 Z3 ⟨S_w_UPRIGHT_3, S_w_VALUES_3, S_w_MIRRORED_3, S_w_UPSIDE_DOWN_3, S_w_FLIPPED_3, S_w_TRANSPOSED_3, S_w_TURNED_ANTICLOCKWISE_3, S_w_TRANSVERSED_3, S_w_TURNED_CLOCKWISE_3, E_w_UPRIGHT_3, E_w_VALUES_3, E_w_MIRRORED_3, E_w_UPSIDE_DOWN_3, E_w_FLIPPED_3, E_w_TRANSPOSED_3, E_w_TURNED_ANTICLOCKWISE_3, E_w_TRANSVERSED_3, E_w_TURNED_CLOCKWISE_3, V_w_VALUES_3⟩) (W := 0) (by decide) (by decide) (ce := 2) (sl := 16) rfl rfl (by decide) (by decide) rfl rfl rfl pd_0 rfl (Nat.le_refl _) rfl (fun v28 T28 L28 X28 Q28 => ?_)
          obtain ⟨r28, q28, Nq28, Kq28, sz28_r, gn_r28, P28_0⟩ := Q28
          have N28 := Fr.app N3 Nq28
          have ne28_29 : ¬ (w_UPRIGHT = r28) := Nat.ne_of_lt (Nat.lt_of_lt_of_le E_w_UPRIGHT_3.lt sz28_r)
          have ne28_30 : ¬ (w_VALUES = r28) := Nat.ne_of_lt (Nat.lt_of_lt_of_le E_w_VALUES_3.lt sz28_r)
          have ne28_31 : ¬ (w_MIRRORED = r28) := Nat.ne_of_lt (Nat.lt_of_lt_of_le E_w_MIRRORED_3.lt sz28_r)
          have ne28_32 : ¬ (w_UPSIDE_DOWN = r28) := Nat.ne_of_lt (Nat.lt_of_lt_of_le E_w_UPSIDE_DOWN_3.lt sz28_r)
          have ne28_33 : ¬ (w_FLIPPED = r28) := Nat.ne_of_lt (Nat.lt_of_lt_of_le E_w_FLIPPED_3.lt sz28_r)
          have ne28_34 : ¬ (w_TRANSPOSED = r28) := Nat.ne_of_lt (Nat.lt_of_lt_of_le E_w_TRANSPOSED_3.lt sz28_r)
          have ne28_35 : ¬ (w_TURNED_ANTICLOCKWISE = r28) := Nat.ne_of_lt (Nat.lt_of_lt_of_le E_w_TURNED_ANTICLOCKWISE_3.lt sz28_r)
          have ne28_36 : ¬ (w_TRANSVERSED = r28) := Nat.ne_of_lt (Nat.lt_of_lt_of_le E_w_TRANSVERSED_3.lt sz28_r)
          have ne28_37 : ¬ (w_TURNED_CLOCKWISE = r28) := Nat.ne_of_lt (Nat.lt_of_lt_of_le E_w_TURNED_CLOCKWISE_3.lt sz28_r)
          have ne28_38 : ¬ (r3 = r28) := Nat.ne_of_lt (Nat.lt_of_lt_of_le P3_0.lt sz28_r)
          have S_w_UPRIGHT_28 := own_sta_keep S_w_UPRIGHT_3 Kq28 (fun _ q => nomatch q)
          have S_w_VALUES_28 := own_sta_keep S_w_VALUES_3 Kq28 (fun _ q => nomatch q)
          have S_w_MIRRORED_28 := own_sta_keep S_w_MIRRORED_3 Kq28 (fun _ q => nomatch q)
          have S_w_UPSIDE_DOWN_28 := own_sta_keep S_w_UPSIDE_DOWN_3 Kq28 (fun _ q => nomatch q)
          have S_w_FLIPPED_28 := own_sta_keep S_w_FLIPPED_3 Kq28 (fun _ q => nomatch q)
          have S_w_TRANSPOSED_28 := own_sta_keep S_w_TRANSPOSED_3 Kq28 (fun _ q => nomatch q)
          have S_w_TURNED_ANTICLOCKWISE_28 := own_sta_keep S_w_TURNED_ANTICLOCKWISE_3 Kq28 (fun _ q => nomatch q)
          have S_w_TRANSVERSED_28 := own_sta_keep S_w_TRANSVERSED_3 Kq28 (fun _ q => nomatch q)
          have S_w_TURNED_CLOCKWISE_28 := own_sta_keep S_w_TURNED_CLOCKWISE_3 Kq28 (fun _ q => nomatch q)
          have E_w_UPRIGHT_28 := E_w_UPRIGHT_3.keep Kq28
          have E_w_VALUES_28 := E_w_VALUES_3.keep Kq28
          have E_w_MIRRORED_28 := E_w_MIRRORED_3.keep Kq28
          have E_w_UPSIDE_DOWN_28 := E_w_UPSIDE_DOWN_3.keep Kq28
          have E_w_FLIPPED_28 := E_w_FLIPPED_3.keep Kq28
          have E_w_TRANSPOSED_28 := E_w_TRANSPOSED_3.keep Kq28
          have E_w_TURNED_ANTICLOCKWISE_28 := E_w_TURNED_ANTICLOCKWISE_3.keep Kq28
          have E_w_TRANSVERSED_28 := E_w_TRANSVERSED_3.keep Kq28
          have E_w_TURNED_CLOCKWISE_28 := E_w_TURNED_CLOCKWISE_3.keep Kq28
          have V_w_VALUES_28 := V_w_VALUES_3.keep Kq28 nin0
          have P3_0_28 := P3_0.keep Kq28 nin0
          have Z28 := Nat.le_trans Z3 Kq28.1
          have sz_r28 := Nat.le_trans K3.1 sz28_r
          have K28 := K3.trans Kq28 all0
          subst q28
          show Go p.tables e below _ (T28.setTop (mkF m 16 #[.val (.int (2 : Int32))] [(.ref r28)]))
          refine g_iloadN (pc' := 17) C X28 d1_16 rfl rfl ?_
          refine g_iconst (pc' := 18) (v := (1 : Int32)) C X28 d1_17 rfl rfl ?_
          refine g_isub (pc' := 19) C X28 d1_18 rfl ?_
          refine own_cast (congrArg (fun z => T28.setTop (mkF m 19 #[.val (.int (2 : Int32))] (.int z :: [(.ref r28)]))) (show ((2 : Int32) - (1 : Int32)) = (1 : Int32) from by decide)) ?_
          refine g_ldR (pc' := 20) (v := (.ref w_MIRRORED)) C X28 d1_19 rfl P28_0 rfl ⟨by decide, by decide⟩ rfl rfl ?_
          refine g_goto (pc' := 26) C X28 d1_20 (by decide) (by decide) ?_
          exact g_retA C X28 rfl rfl rfl d1_26 (by decide) (by decide) ⟨congrArg (fun z => some (Value.ref z)) (F1_l3 p1 w_UPRIGHT w_MIRRORED w_UPSIDE_DOWN w_FLIPPED w_TRANSPOSED w_TURNED_ANTICLOCKWISE w_TRANSVERSED w_TURNED_CLOCKWISE c1 c13 c15 c27).symm, N28, K28⟩
        · by_cases c39 : p1 = (3 : Int32)
          · refine own_cast (show T3.setTop (mkF m 13 #[.val (.int p1)] []) = T3.setTop (mkF m 13 #[.val (.int (3 : Int32))] []) from by rw [c39]) ?_
            refine g_callS (y := (⟨"com/example/pictor/pictor/Orientation", "values", "()[Lcom/example/pictor/pictor/Orientation;"⟩ : MethodName)) (argsL := []) (st := []) (pc' := 16) C X3 d1_13 (hw _ (List.mem_of_getElem? (i := 11) rfl)) (hw _ (List.mem_of_getElem? (i := 12) rfl)) (hw _ (List.mem_of_getElem? (i := 2) rfl)) (hw _ (List.mem_of_getElem? (i := 13) rfl)) (by decide) (rm3 l Z a0 hw [] w_UPRIGHT w_VALUES w_MIRRORED w_UPSIDE_DOWN w_FLIPPED w_TRANSPOSED w_TURNED_ANTICLOCKWISE w_TRANSVERSED w_TURNED_CLOCKWISE k_VALUES T3.heap n0 Z3 ⟨S_w_UPRIGHT_3, S_w_VALUES_3, S_w_MIRRORED_3, S_w_UPSIDE_DOWN_3, S_w_FLIPPED_3, S_w_TRANSPOSED_3, S_w_TURNED_ANTICLOCKWISE_3, S_w_TRANSVERSED_3, S_w_TURNED_CLOCKWISE_3, E_w_UPRIGHT_3, E_w_VALUES_3, E_w_MIRRORED_3, E_w_UPSIDE_DOWN_3, E_w_FLIPPED_3, E_w_TRANSPOSED_3, E_w_TURNED_ANTICLOCKWISE_3, E_w_TRANSVERSED_3, E_w_TURNED_CLOCKWISE_3, V_w_VALUES_3⟩) (W := 0) (by decide) (by decide) (ce := 2) (sl := 16) rfl rfl (by decide) (by decide) rfl rfl rfl pd_0 rfl (Nat.le_refl _) rfl (fun v40 T40 L40 X40 Q40 => ?_)
            obtain ⟨r40, q40, Nq40, Kq40, sz40_r, gn_r40, P40_0⟩ := Q40
            have N40 := Fr.app N3 Nq40
            have ne40_41 : ¬ (w_UPRIGHT = r40) := Nat.ne_of_lt (Nat.lt_of_lt_of_le E_w_UPRIGHT_3.lt sz40_r)
            have ne40_42 : ¬ (w_VALUES = r40) := Nat.ne_of_lt (Nat.lt_of_lt_of_le E_w_VALUES_3.lt sz40_r)
            have ne40_43 : ¬ (w_MIRRORED = r40) := Nat.ne_of_lt (Nat.lt_of_lt_of_le E_w_MIRRORED_3.lt sz40_r)
            have ne40_44 : ¬ (w_UPSIDE_DOWN = r40) := Nat.ne_of_lt (Nat.lt_of_lt_of_le E_w_UPSIDE_DOWN_3.lt sz40_r)
            have ne40_45 : ¬ (w_FLIPPED = r40) := Nat.ne_of_lt (Nat.lt_of_lt_of_le E_w_FLIPPED_3.lt sz40_r)
            have ne40_46 : ¬ (w_TRANSPOSED = r40) := Nat.ne_of_lt (Nat.lt_of_lt_of_le E_w_TRANSPOSED_3.lt sz40_r)
            have ne40_47 : ¬ (w_TURNED_ANTICLOCKWISE = r40) := Nat.ne_of_lt (Nat.lt_of_lt_of_le E_w_TURNED_ANTICLOCKWISE_3.lt sz40_r)
            have ne40_48 : ¬ (w_TRANSVERSED = r40) := Nat.ne_of_lt (Nat.lt_of_lt_of_le E_w_TRANSVERSED_3.lt sz40_r)
            have ne40_49 : ¬ (w_TURNED_CLOCKWISE = r40) := Nat.ne_of_lt (Nat.lt_of_lt_of_le E_w_TURNED_CLOCKWISE_3.lt sz40_r)
            have ne40_50 : ¬ (r3 = r40) := Nat.ne_of_lt (Nat.lt_of_lt_of_le P3_0.lt sz40_r)
            have S_w_UPRIGHT_40 := own_sta_keep S_w_UPRIGHT_3 Kq40 (fun _ q => nomatch q)
            have S_w_VALUES_40 := own_sta_keep S_w_VALUES_3 Kq40 (fun _ q => nomatch q)
            have S_w_MIRRORED_40 := own_sta_keep S_w_MIRRORED_3 Kq40 (fun _ q => nomatch q)
            have S_w_UPSIDE_DOWN_40 := own_sta_keep S_w_UPSIDE_DOWN_3 Kq40 (fun _ q => nomatch q)
            have S_w_FLIPPED_40 := own_sta_keep S_w_FLIPPED_3 Kq40 (fun _ q => nomatch q)
            have S_w_TRANSPOSED_40 := own_sta_keep S_w_TRANSPOSED_3 Kq40 (fun _ q => nomatch q)
            have S_w_TURNED_ANTICLOCKWISE_40 := own_sta_keep S_w_TURNED_ANTICLOCKWISE_3 Kq40 (fun _ q => nomatch q)
            have S_w_TRANSVERSED_40 := own_sta_keep S_w_TRANSVERSED_3 Kq40 (fun _ q => nomatch q)
            have S_w_TURNED_CLOCKWISE_40 := own_sta_keep S_w_TURNED_CLOCKWISE_3 Kq40 (fun _ q => nomatch q)
            have E_w_UPRIGHT_40 := E_w_UPRIGHT_3.keep Kq40
            have E_w_VALUES_40 := E_w_VALUES_3.keep Kq40
            have E_w_MIRRORED_40 := E_w_MIRRORED_3.keep Kq40
            have E_w_UPSIDE_DOWN_40 := E_w_UPSIDE_DOWN_3.keep Kq40
            have E_w_FLIPPED_40 := E_w_FLIPPED_3.keep Kq40
            have E_w_TRANSPOSED_40 := E_w_TRANSPOSED_3.keep Kq40
            have E_w_TURNED_ANTICLOCKWISE_40 := E_w_TURNED_ANTICLOCKWISE_3.keep Kq40
            have E_w_TRANSVERSED_40 := E_w_TRANSVERSED_3.keep Kq40
            have E_w_TURNED_CLOCKWISE_40 := E_w_TURNED_CLOCKWISE_3.keep Kq40
            have V_w_VALUES_40 := V_w_VALUES_3.keep Kq40 nin0
            have P3_0_40 := P3_0.keep Kq40 nin0
            have Z40 := Nat.le_trans Z3 Kq40.1
            have sz_r40 := Nat.le_trans K3.1 sz40_r
            have K40 := K3.trans Kq40 all0
            subst q40
            show Go p.tables e below _ (T40.setTop (mkF m 16 #[.val (.int (3 : Int32))] [(.ref r40)]))
            refine g_iloadN (pc' := 17) C X40 d1_16 rfl rfl ?_
            refine g_iconst (pc' := 18) (v := (1 : Int32)) C X40 d1_17 rfl rfl ?_
            refine g_isub (pc' := 19) C X40 d1_18 rfl ?_
            refine own_cast (congrArg (fun z => T40.setTop (mkF m 19 #[.val (.int (3 : Int32))] (.int z :: [(.ref r40)]))) (show ((3 : Int32) - (1 : Int32)) = (2 : Int32) from by decide)) ?_
            refine g_ldR (pc' := 20) (v := (.ref w_UPSIDE_DOWN)) C X40 d1_19 rfl P40_0 rfl ⟨by decide, by decide⟩ rfl rfl ?_
            refine g_goto (pc' := 26) C X40 d1_20 (by decide) (by decide) ?_
            exact g_retA C X40 rfl rfl rfl d1_26 (by decide) (by decide) ⟨congrArg (fun z => some (Value.ref z)) (F1_l4 p1 w_UPRIGHT w_MIRRORED w_UPSIDE_DOWN w_FLIPPED w_TRANSPOSED w_TURNED_ANTICLOCKWISE w_TRANSVERSED w_TURNED_CLOCKWISE c1 c13 c15 c27 c39).symm, N40, K40⟩
          · by_cases c51 : p1 = (4 : Int32)
            · refine own_cast (show T3.setTop (mkF m 13 #[.val (.int p1)] []) = T3.setTop (mkF m 13 #[.val (.int (4 : Int32))] []) from by rw [c51]) ?_
              refine g_callS (y := (⟨"com/example/pictor/pictor/Orientation", "values", "()[Lcom/example/pictor/pictor/Orientation;"⟩ : MethodName)) (argsL := []) (st := []) (pc' := 16) C X3 d1_13 (hw _ (List.mem_of_getElem? (i := 11) rfl)) (hw _ (List.mem_of_getElem? (i := 12) rfl)) (hw _ (List.mem_of_getElem? (i := 2) rfl)) (hw _ (List.mem_of_getElem? (i := 13) rfl)) (by decide) (rm3 l Z a0 hw [] w_UPRIGHT w_VALUES w_MIRRORED w_UPSIDE_DOWN w_FLIPPED w_TRANSPOSED w_TURNED_ANTICLOCKWISE w_TRANSVERSED w_TURNED_CLOCKWISE k_VALUES T3.heap n0 Z3 ⟨S_w_UPRIGHT_3, S_w_VALUES_3, S_w_MIRRORED_3, S_w_UPSIDE_DOWN_3, S_w_FLIPPED_3, S_w_TRANSPOSED_3, S_w_TURNED_ANTICLOCKWISE_3, S_w_TRANSVERSED_3, S_w_TURNED_CLOCKWISE_3, E_w_UPRIGHT_3, E_w_VALUES_3, E_w_MIRRORED_3, E_w_UPSIDE_DOWN_3, E_w_FLIPPED_3, E_w_TRANSPOSED_3, E_w_TURNED_ANTICLOCKWISE_3, E_w_TRANSVERSED_3, E_w_TURNED_CLOCKWISE_3, V_w_VALUES_3⟩) (W := 0) (by decide) (by decide) (ce := 2) (sl := 16) rfl rfl (by decide) (by decide) rfl rfl rfl pd_0 rfl (Nat.le_refl _) rfl (fun v52 T52 L52 X52 Q52 => ?_)
              obtain ⟨r52, q52, Nq52, Kq52, sz52_r, gn_r52, P52_0⟩ := Q52
              have N52 := Fr.app N3 Nq52
              have ne52_53 : ¬ (w_UPRIGHT = r52) := Nat.ne_of_lt (Nat.lt_of_lt_of_le E_w_UPRIGHT_3.lt sz52_r)
              have ne52_54 : ¬ (w_VALUES = r52) := Nat.ne_of_lt (Nat.lt_of_lt_of_le E_w_VALUES_3.lt sz52_r)
              have ne52_55 : ¬ (w_MIRRORED = r52) := Nat.ne_of_lt (Nat.lt_of_lt_of_le E_w_MIRRORED_3.lt sz52_r)
              have ne52_56 : ¬ (w_UPSIDE_DOWN = r52) := Nat.ne_of_lt (Nat.lt_of_lt_of_le E_w_UPSIDE_DOWN_3.lt sz52_r)
              have ne52_57 : ¬ (w_FLIPPED = r52) := Nat.ne_of_lt (Nat.lt_of_lt_of_le E_w_FLIPPED_3.lt sz52_r)
              have ne52_58 : ¬ (w_TRANSPOSED = r52) := Nat.ne_of_lt (Nat.lt_of_lt_of_le E_w_TRANSPOSED_3.lt sz52_r)
              have ne52_59 : ¬ (w_TURNED_ANTICLOCKWISE = r52) := Nat.ne_of_lt (Nat.lt_of_lt_of_le E_w_TURNED_ANTICLOCKWISE_3.lt sz52_r)
              have ne52_60 : ¬ (w_TRANSVERSED = r52) := Nat.ne_of_lt (Nat.lt_of_lt_of_le E_w_TRANSVERSED_3.lt sz52_r)
              have ne52_61 : ¬ (w_TURNED_CLOCKWISE = r52) := Nat.ne_of_lt (Nat.lt_of_lt_of_le E_w_TURNED_CLOCKWISE_3.lt sz52_r)
              have ne52_62 : ¬ (r3 = r52) := Nat.ne_of_lt (Nat.lt_of_lt_of_le P3_0.lt sz52_r)
              have S_w_UPRIGHT_52 := own_sta_keep S_w_UPRIGHT_3 Kq52 (fun _ q => nomatch q)
              have S_w_VALUES_52 := own_sta_keep S_w_VALUES_3 Kq52 (fun _ q => nomatch q)
              have S_w_MIRRORED_52 := own_sta_keep S_w_MIRRORED_3 Kq52 (fun _ q => nomatch q)
              have S_w_UPSIDE_DOWN_52 := own_sta_keep S_w_UPSIDE_DOWN_3 Kq52 (fun _ q => nomatch q)
              have S_w_FLIPPED_52 := own_sta_keep S_w_FLIPPED_3 Kq52 (fun _ q => nomatch q)
              have S_w_TRANSPOSED_52 := own_sta_keep S_w_TRANSPOSED_3 Kq52 (fun _ q => nomatch q)
              have S_w_TURNED_ANTICLOCKWISE_52 := own_sta_keep S_w_TURNED_ANTICLOCKWISE_3 Kq52 (fun _ q => nomatch q)
              have S_w_TRANSVERSED_52 := own_sta_keep S_w_TRANSVERSED_3 Kq52 (fun _ q => nomatch q)
              have S_w_TURNED_CLOCKWISE_52 := own_sta_keep S_w_TURNED_CLOCKWISE_3 Kq52 (fun _ q => nomatch q)
              have E_w_UPRIGHT_52 := E_w_UPRIGHT_3.keep Kq52
              have E_w_VALUES_52 := E_w_VALUES_3.keep Kq52
              have E_w_MIRRORED_52 := E_w_MIRRORED_3.keep Kq52
              have E_w_UPSIDE_DOWN_52 := E_w_UPSIDE_DOWN_3.keep Kq52
              have E_w_FLIPPED_52 := E_w_FLIPPED_3.keep Kq52
              have E_w_TRANSPOSED_52 := E_w_TRANSPOSED_3.keep Kq52
              have E_w_TURNED_ANTICLOCKWISE_52 := E_w_TURNED_ANTICLOCKWISE_3.keep Kq52
              have E_w_TRANSVERSED_52 := E_w_TRANSVERSED_3.keep Kq52
              have E_w_TURNED_CLOCKWISE_52 := E_w_TURNED_CLOCKWISE_3.keep Kq52
              have V_w_VALUES_52 := V_w_VALUES_3.keep Kq52 nin0
              have P3_0_52 := P3_0.keep Kq52 nin0
              have Z52 := Nat.le_trans Z3 Kq52.1
              have sz_r52 := Nat.le_trans K3.1 sz52_r
              have K52 := K3.trans Kq52 all0
              subst q52
              show Go p.tables e below _ (T52.setTop (mkF m 16 #[.val (.int (4 : Int32))] [(.ref r52)]))
              refine g_iloadN (pc' := 17) C X52 d1_16 rfl rfl ?_
              refine g_iconst (pc' := 18) (v := (1 : Int32)) C X52 d1_17 rfl rfl ?_
              refine g_isub (pc' := 19) C X52 d1_18 rfl ?_
              refine own_cast (congrArg (fun z => T52.setTop (mkF m 19 #[.val (.int (4 : Int32))] (.int z :: [(.ref r52)]))) (show ((4 : Int32) - (1 : Int32)) = (3 : Int32) from by decide)) ?_
              refine g_ldR (pc' := 20) (v := (.ref w_FLIPPED)) C X52 d1_19 rfl P52_0 rfl ⟨by decide, by decide⟩ rfl rfl ?_
              refine g_goto (pc' := 26) C X52 d1_20 (by decide) (by decide) ?_
              exact g_retA C X52 rfl rfl rfl d1_26 (by decide) (by decide) ⟨congrArg (fun z => some (Value.ref z)) (F1_l5 p1 w_UPRIGHT w_MIRRORED w_UPSIDE_DOWN w_FLIPPED w_TRANSPOSED w_TURNED_ANTICLOCKWISE w_TRANSVERSED w_TURNED_CLOCKWISE c1 c13 c15 c27 c39 c51).symm, N52, K52⟩
            · by_cases c63 : p1 = (5 : Int32)
              · refine own_cast (show T3.setTop (mkF m 13 #[.val (.int p1)] []) = T3.setTop (mkF m 13 #[.val (.int (5 : Int32))] []) from by rw [c63]) ?_
                refine g_callS (y := (⟨"com/example/pictor/pictor/Orientation", "values", "()[Lcom/example/pictor/pictor/Orientation;"⟩ : MethodName)) (argsL := []) (st := []) (pc' := 16) C X3 d1_13 (hw _ (List.mem_of_getElem? (i := 11) rfl)) (hw _ (List.mem_of_getElem? (i := 12) rfl)) (hw _ (List.mem_of_getElem? (i := 2) rfl)) (hw _ (List.mem_of_getElem? (i := 13) rfl)) (by decide) (rm3 l Z a0 hw [] w_UPRIGHT w_VALUES w_MIRRORED w_UPSIDE_DOWN w_FLIPPED w_TRANSPOSED w_TURNED_ANTICLOCKWISE w_TRANSVERSED w_TURNED_CLOCKWISE k_VALUES T3.heap n0 Z3 ⟨S_w_UPRIGHT_3, S_w_VALUES_3, S_w_MIRRORED_3, S_w_UPSIDE_DOWN_3, S_w_FLIPPED_3, S_w_TRANSPOSED_3, S_w_TURNED_ANTICLOCKWISE_3, S_w_TRANSVERSED_3, S_w_TURNED_CLOCKWISE_3, E_w_UPRIGHT_3, E_w_VALUES_3, E_w_MIRRORED_3, E_w_UPSIDE_DOWN_3, E_w_FLIPPED_3, E_w_TRANSPOSED_3, E_w_TURNED_ANTICLOCKWISE_3, E_w_TRANSVERSED_3, E_w_TURNED_CLOCKWISE_3, V_w_VALUES_3⟩) (W := 0) (by decide) (by decide) (ce := 2) (sl := 16) rfl rfl (by decide) (by decide) rfl rfl rfl pd_0 rfl (Nat.le_refl _) rfl (fun v64 T64 L64 X64 Q64 => ?_)
                obtain ⟨r64, q64, Nq64, Kq64, sz64_r, gn_r64, P64_0⟩ := Q64
                have N64 := Fr.app N3 Nq64
                have ne64_65 : ¬ (w_UPRIGHT = r64) := Nat.ne_of_lt (Nat.lt_of_lt_of_le E_w_UPRIGHT_3.lt sz64_r)
                have ne64_66 : ¬ (w_VALUES = r64) := Nat.ne_of_lt (Nat.lt_of_lt_of_le E_w_VALUES_3.lt sz64_r)
                have ne64_67 : ¬ (w_MIRRORED = r64) := Nat.ne_of_lt (Nat.lt_of_lt_of_le E_w_MIRRORED_3.lt sz64_r)
                have ne64_68 : ¬ (w_UPSIDE_DOWN = r64) := Nat.ne_of_lt (Nat.lt_of_lt_of_le E_w_UPSIDE_DOWN_3.lt sz64_r)
                have ne64_69 : ¬ (w_FLIPPED = r64) := Nat.ne_of_lt (Nat.lt_of_lt_of_le E_w_FLIPPED_3.lt sz64_r)
                have ne64_70 : ¬ (w_TRANSPOSED = r64) := Nat.ne_of_lt (Nat.lt_of_lt_of_le E_w_TRANSPOSED_3.lt sz64_r)
                have ne64_71 : ¬ (w_TURNED_ANTICLOCKWISE = r64) := Nat.ne_of_lt (Nat.lt_of_lt_of_le E_w_TURNED_ANTICLOCKWISE_3.lt sz64_r)
                have ne64_72 : ¬ (w_TRANSVERSED = r64) := Nat.ne_of_lt (Nat.lt_of_lt_of_le E_w_TRANSVERSED_3.lt sz64_r)
                have ne64_73 : ¬ (w_TURNED_CLOCKWISE = r64) := Nat.ne_of_lt (Nat.lt_of_lt_of_le E_w_TURNED_CLOCKWISE_3.lt sz64_r)
                have ne64_74 : ¬ (r3 = r64) := Nat.ne_of_lt (Nat.lt_of_lt_of_le P3_0.lt sz64_r)
                have S_w_UPRIGHT_64 := own_sta_keep S_w_UPRIGHT_3 Kq64 (fun _ q => nomatch q)
                have S_w_VALUES_64 := own_sta_keep S_w_VALUES_3 Kq64 (fun _ q => nomatch q)
                have S_w_MIRRORED_64 := own_sta_keep S_w_MIRRORED_3 Kq64 (fun _ q => nomatch q)
                have S_w_UPSIDE_DOWN_64 := own_sta_keep S_w_UPSIDE_DOWN_3 Kq64 (fun _ q => nomatch q)
                have S_w_FLIPPED_64 := own_sta_keep S_w_FLIPPED_3 Kq64 (fun _ q => nomatch q)
                have S_w_TRANSPOSED_64 := own_sta_keep S_w_TRANSPOSED_3 Kq64 (fun _ q => nomatch q)
                have S_w_TURNED_ANTICLOCKWISE_64 := own_sta_keep S_w_TURNED_ANTICLOCKWISE_3 Kq64 (fun _ q => nomatch q)
                have S_w_TRANSVERSED_64 := own_sta_keep S_w_TRANSVERSED_3 Kq64 (fun _ q => nomatch q)
                have S_w_TURNED_CLOCKWISE_64 := own_sta_keep S_w_TURNED_CLOCKWISE_3 Kq64 (fun _ q => nomatch q)
                have E_w_UPRIGHT_64 := E_w_UPRIGHT_3.keep Kq64
                have E_w_VALUES_64 := E_w_VALUES_3.keep Kq64
                have E_w_MIRRORED_64 := E_w_MIRRORED_3.keep Kq64
                have E_w_UPSIDE_DOWN_64 := E_w_UPSIDE_DOWN_3.keep Kq64
                have E_w_FLIPPED_64 := E_w_FLIPPED_3.keep Kq64
                have E_w_TRANSPOSED_64 := E_w_TRANSPOSED_3.keep Kq64
                have E_w_TURNED_ANTICLOCKWISE_64 := E_w_TURNED_ANTICLOCKWISE_3.keep Kq64
                have E_w_TRANSVERSED_64 := E_w_TRANSVERSED_3.keep Kq64
                have E_w_TURNED_CLOCKWISE_64 := E_w_TURNED_CLOCKWISE_3.keep Kq64
                have V_w_VALUES_64 := V_w_VALUES_3.keep Kq64 nin0
                have P3_0_64 := P3_0.keep Kq64 nin0
                have Z64 := Nat.le_trans Z3 Kq64.1
                have sz_r64 := Nat.le_trans K3.1 sz64_r
                have K64 := K3.trans Kq64 all0
                subst q64
                show Go p.tables e below _ (T64.setTop (mkF m 16 #[.val (.int (5 : Int32))] [(.ref r64)]))
                refine g_iloadN (pc' := 17) C X64 d1_16 rfl rfl ?_
                refine g_iconst (pc' := 18) (v := (1 : Int32)) C X64 d1_17 rfl rfl ?_
                refine g_isub (pc' := 19) C X64 d1_18 rfl ?_
                refine own_cast (congrArg (fun z => T64.setTop (mkF m 19 #[.val (.int (5 : Int32))] (.int z :: [(.ref r64)]))) (show ((5 : Int32) - (1 : Int32)) = (4 : Int32) from by decide)) ?_
                refine g_ldR (pc' := 20) (v := (.ref w_TRANSPOSED)) C X64 d1_19 rfl P64_0 rfl ⟨by decide, by decide⟩ rfl rfl ?_
                refine g_goto (pc' := 26) C X64 d1_20 (by decide) (by decide) ?_
                exact g_retA C X64 rfl rfl rfl d1_26 (by decide) (by decide) ⟨congrArg (fun z => some (Value.ref z)) (F1_l6 p1 w_UPRIGHT w_MIRRORED w_UPSIDE_DOWN w_FLIPPED w_TRANSPOSED w_TURNED_ANTICLOCKWISE w_TRANSVERSED w_TURNED_CLOCKWISE c1 c13 c15 c27 c39 c51 c63).symm, N64, K64⟩
              · by_cases c75 : p1 = (6 : Int32)
                · refine own_cast (show T3.setTop (mkF m 13 #[.val (.int p1)] []) = T3.setTop (mkF m 13 #[.val (.int (6 : Int32))] []) from by rw [c75]) ?_
                  refine g_callS (y := (⟨"com/example/pictor/pictor/Orientation", "values", "()[Lcom/example/pictor/pictor/Orientation;"⟩ : MethodName)) (argsL := []) (st := []) (pc' := 16) C X3 d1_13 (hw _ (List.mem_of_getElem? (i := 11) rfl)) (hw _ (List.mem_of_getElem? (i := 12) rfl)) (hw _ (List.mem_of_getElem? (i := 2) rfl)) (hw _ (List.mem_of_getElem? (i := 13) rfl)) (by decide) (rm3 l Z a0 hw [] w_UPRIGHT w_VALUES w_MIRRORED w_UPSIDE_DOWN w_FLIPPED w_TRANSPOSED w_TURNED_ANTICLOCKWISE w_TRANSVERSED w_TURNED_CLOCKWISE k_VALUES T3.heap n0 Z3 ⟨S_w_UPRIGHT_3, S_w_VALUES_3, S_w_MIRRORED_3, S_w_UPSIDE_DOWN_3, S_w_FLIPPED_3, S_w_TRANSPOSED_3, S_w_TURNED_ANTICLOCKWISE_3, S_w_TRANSVERSED_3, S_w_TURNED_CLOCKWISE_3, E_w_UPRIGHT_3, E_w_VALUES_3, E_w_MIRRORED_3, E_w_UPSIDE_DOWN_3, E_w_FLIPPED_3, E_w_TRANSPOSED_3, E_w_TURNED_ANTICLOCKWISE_3, E_w_TRANSVERSED_3, E_w_TURNED_CLOCKWISE_3, V_w_VALUES_3⟩) (W := 0) (by decide) (by decide) (ce := 2) (sl := 16) rfl rfl (by decide) (by decide) rfl rfl rfl pd_0 rfl (Nat.le_refl _) rfl (fun v76 T76 L76 X76 Q76 => ?_)
                  obtain ⟨r76, q76, Nq76, Kq76, sz76_r, gn_r76, P76_0⟩ := Q76
                  have N76 := Fr.app N3 Nq76
                  have ne76_77 : ¬ (w_UPRIGHT = r76) := Nat.ne_of_lt (Nat.lt_of_lt_of_le E_w_UPRIGHT_3.lt sz76_r)
                  have ne76_78 : ¬ (w_VALUES = r76) := Nat.ne_of_lt (Nat.lt_of_lt_of_le E_w_VALUES_3.lt sz76_r)
                  have ne76_79 : ¬ (w_MIRRORED = r76) := Nat.ne_of_lt (Nat.lt_of_lt_of_le E_w_MIRRORED_3.lt sz76_r)
                  have ne76_80 : ¬ (w_UPSIDE_DOWN = r76) := Nat.ne_of_lt (Nat.lt_of_lt_of_le E_w_UPSIDE_DOWN_3.lt sz76_r)
                  have ne76_81 : ¬ (w_FLIPPED = r76) := Nat.ne_of_lt (Nat.lt_of_lt_of_le E_w_FLIPPED_3.lt sz76_r)
                  have ne76_82 : ¬ (w_TRANSPOSED = r76) := Nat.ne_of_lt (Nat.lt_of_lt_of_le E_w_TRANSPOSED_3.lt sz76_r)
                  have ne76_83 : ¬ (w_TURNED_ANTICLOCKWISE = r76) := Nat.ne_of_lt (Nat.lt_of_lt_of_le E_w_TURNED_ANTICLOCKWISE_3.lt sz76_r)
                  have ne76_84 : ¬ (w_TRANSVERSED = r76) := Nat.ne_of_lt (Nat.lt_of_lt_of_le E_w_TRANSVERSED_3.lt sz76_r)
                  have ne76_85 : ¬ (w_TURNED_CLOCKWISE = r76) := Nat.ne_of_lt (Nat.lt_of_lt_of_le E_w_TURNED_CLOCKWISE_3.lt sz76_r)
                  have ne76_86 : ¬ (r3 = r76) := Nat.ne_of_lt (Nat.lt_of_lt_of_le P3_0.lt sz76_r)
                  have S_w_UPRIGHT_76 := own_sta_keep S_w_UPRIGHT_3 Kq76 (fun _ q => nomatch q)
                  have S_w_VALUES_76 := own_sta_keep S_w_VALUES_3 Kq76 (fun _ q => nomatch q)
                  have S_w_MIRRORED_76 := own_sta_keep S_w_MIRRORED_3 Kq76 (fun _ q => nomatch q)
                  have S_w_UPSIDE_DOWN_76 := own_sta_keep S_w_UPSIDE_DOWN_3 Kq76 (fun _ q => nomatch q)
                  have S_w_FLIPPED_76 := own_sta_keep S_w_FLIPPED_3 Kq76 (fun _ q => nomatch q)
                  have S_w_TRANSPOSED_76 := own_sta_keep S_w_TRANSPOSED_3 Kq76 (fun _ q => nomatch q)
                  have S_w_TURNED_ANTICLOCKWISE_76 := own_sta_keep S_w_TURNED_ANTICLOCKWISE_3 Kq76 (fun _ q => nomatch q)
                  have S_w_TRANSVERSED_76 := own_sta_keep S_w_TRANSVERSED_3 Kq76 (fun _ q => nomatch q)
                  have S_w_TURNED_CLOCKWISE_76 := own_sta_keep S_w_TURNED_CLOCKWISE_3 Kq76 (fun _ q => nomatch q)
                  have E_w_UPRIGHT_76 := E_w_UPRIGHT_3.keep Kq76
                  have E_w_VALUES_76 := E_w_VALUES_3.keep Kq76
                  have E_w_MIRRORED_76 := E_w_MIRRORED_3.keep Kq76
                  have E_w_UPSIDE_DOWN_76 := E_w_UPSIDE_DOWN_3.keep Kq76
                  have E_w_FLIPPED_76 := E_w_FLIPPED_3.keep Kq76
                  have E_w_TRANSPOSED_76 := E_w_TRANSPOSED_3.keep Kq76
                  have E_w_TURNED_ANTICLOCKWISE_76 := E_w_TURNED_ANTICLOCKWISE_3.keep Kq76
                  have E_w_TRANSVERSED_76 := E_w_TRANSVERSED_3.keep Kq76
                  have E_w_TURNED_CLOCKWISE_76 := E_w_TURNED_CLOCKWISE_3.keep Kq76
                  have V_w_VALUES_76 := V_w_VALUES_3.keep Kq76 nin0
                  have P3_0_76 := P3_0.keep Kq76 nin0
                  have Z76 := Nat.le_trans Z3 Kq76.1
                  have sz_r76 := Nat.le_trans K3.1 sz76_r
                  have K76 := K3.trans Kq76 all0
                  subst q76
                  show Go p.tables e below _ (T76.setTop (mkF m 16 #[.val (.int (6 : Int32))] [(.ref r76)]))
                  refine g_iloadN (pc' := 17) C X76 d1_16 rfl rfl ?_
                  refine g_iconst (pc' := 18) (v := (1 : Int32)) C X76 d1_17 rfl rfl ?_
                  refine g_isub (pc' := 19) C X76 d1_18 rfl ?_
                  refine own_cast (congrArg (fun z => T76.setTop (mkF m 19 #[.val (.int (6 : Int32))] (.int z :: [(.ref r76)]))) (show ((6 : Int32) - (1 : Int32)) = (5 : Int32) from by decide)) ?_
                  refine g_ldR (pc' := 20) (v := (.ref w_TURNED_ANTICLOCKWISE)) C X76 d1_19 rfl P76_0 rfl ⟨by decide, by decide⟩ rfl rfl ?_
                  refine g_goto (pc' := 26) C X76 d1_20 (by decide) (by decide) ?_
                  exact g_retA C X76 rfl rfl rfl d1_26 (by decide) (by decide) ⟨congrArg (fun z => some (Value.ref z)) (F1_l7 p1 w_UPRIGHT w_MIRRORED w_UPSIDE_DOWN w_FLIPPED w_TRANSPOSED w_TURNED_ANTICLOCKWISE w_TRANSVERSED w_TURNED_CLOCKWISE c1 c13 c15 c27 c39 c51 c63 c75).symm, N76, K76⟩
                · by_cases c87 : p1 = (7 : Int32)
                  · refine own_cast (show T3.setTop (mkF m 13 #[.val (.int p1)] []) = T3.setTop (mkF m 13 #[.val (.int (7 : Int32))] []) from by rw [c87]) ?_
                    refine g_callS (y := (⟨"com/example/pictor/pictor/Orientation", "values", "()[Lcom/example/pictor/pictor/Orientation;"⟩ : MethodName)) (argsL := []) (st := []) (pc' := 16) C X3 d1_13 (hw _ (List.mem_of_getElem? (i := 11) rfl)) (hw _ (List.mem_of_getElem? (i := 12) rfl)) (hw _ (List.mem_of_getElem? (i := 2) rfl)) (hw _ (List.mem_of_getElem? (i := 13) rfl)) (by decide) (rm3 l Z a0 hw [] w_UPRIGHT w_VALUES w_MIRRORED w_UPSIDE_DOWN w_FLIPPED w_TRANSPOSED w_TURNED_ANTICLOCKWISE w_TRANSVERSED w_TURNED_CLOCKWISE k_VALUES T3.heap n0 Z3 ⟨S_w_UPRIGHT_3, S_w_VALUES_3, S_w_MIRRORED_3, S_w_UPSIDE_DOWN_3, S_w_FLIPPED_3, S_w_TRANSPOSED_3, S_w_TURNED_ANTICLOCKWISE_3, S_w_TRANSVERSED_3, S_w_TURNED_CLOCKWISE_3, E_w_UPRIGHT_3, E_w_VALUES_3, E_w_MIRRORED_3, E_w_UPSIDE_DOWN_3, E_w_FLIPPED_3, E_w_TRANSPOSED_3, E_w_TURNED_ANTICLOCKWISE_3, E_w_TRANSVERSED_3, E_w_TURNED_CLOCKWISE_3, V_w_VALUES_3⟩) (W := 0) (by decide) (by decide) (ce := 2) (sl := 16) rfl rfl (by decide) (by decide) rfl rfl rfl pd_0 rfl (Nat.le_refl _) rfl (fun v88 T88 L88 X88 Q88 => ?_)
                    obtain ⟨r88, q88, Nq88, Kq88, sz88_r, gn_r88, P88_0⟩ := Q88
                    have N88 := Fr.app N3 Nq88
                    have ne88_89 : ¬ (w_UPRIGHT = r88) := Nat.ne_of_lt (Nat.lt_of_lt_of_le E_w_UPRIGHT_3.lt sz88_r)
                    have ne88_90 : ¬ (w_VALUES = r88) := Nat.ne_of_lt (Nat.lt_of_lt_of_le E_w_VALUES_3.lt sz88_r)
                    have ne88_91 : ¬ (w_MIRRORED = r88) := Nat.ne_of_lt (Nat.lt_of_lt_of_le E_w_MIRRORED_3.lt sz88_r)
                    have ne88_92 : ¬ (w_UPSIDE_DOWN = r88) := Nat.ne_of_lt (Nat.lt_of_lt_of_le E_w_UPSIDE_DOWN_3.lt sz88_r)
                    have ne88_93 : ¬ (w_FLIPPED = r88) := Nat.ne_of_lt (Nat.lt_of_lt_of_le E_w_FLIPPED_3.lt sz88_r)
                    have ne88_94 : ¬ (w_TRANSPOSED = r88) := Nat.ne_of_lt (Nat.lt_of_lt_of_le E_w_TRANSPOSED_3.lt sz88_r)
                    have ne88_95 : ¬ (w_TURNED_ANTICLOCKWISE = r88) := Nat.ne_of_lt (Nat.lt_of_lt_of_le E_w_TURNED_ANTICLOCKWISE_3.lt sz88_r)
                    have ne88_96 : ¬ (w_TRANSVERSED = r88) := Nat.ne_of_lt (Nat.lt_of_lt_of_le E_w_TRANSVERSED_3.lt sz88_r)
                    have ne88_97 : ¬ (w_TURNED_CLOCKWISE = r88) := Nat.ne_of_lt (Nat.lt_of_lt_of_le E_w_TURNED_CLOCKWISE_3.lt sz88_r)
                    have ne88_98 : ¬ (r3 = r88) := Nat.ne_of_lt (Nat.lt_of_lt_of_le P3_0.lt sz88_r)
                    have S_w_UPRIGHT_88 := own_sta_keep S_w_UPRIGHT_3 Kq88 (fun _ q => nomatch q)
                    have S_w_VALUES_88 := own_sta_keep S_w_VALUES_3 Kq88 (fun _ q => nomatch q)
                    have S_w_MIRRORED_88 := own_sta_keep S_w_MIRRORED_3 Kq88 (fun _ q => nomatch q)
                    have S_w_UPSIDE_DOWN_88 := own_sta_keep S_w_UPSIDE_DOWN_3 Kq88 (fun _ q => nomatch q)
                    have S_w_FLIPPED_88 := own_sta_keep S_w_FLIPPED_3 Kq88 (fun _ q => nomatch q)
                    have S_w_TRANSPOSED_88 := own_sta_keep S_w_TRANSPOSED_3 Kq88 (fun _ q => nomatch q)
                    have S_w_TURNED_ANTICLOCKWISE_88 := own_sta_keep S_w_TURNED_ANTICLOCKWISE_3 Kq88 (fun _ q => nomatch q)
                    have S_w_TRANSVERSED_88 := own_sta_keep S_w_TRANSVERSED_3 Kq88 (fun _ q => nomatch q)
                    have S_w_TURNED_CLOCKWISE_88 := own_sta_keep S_w_TURNED_CLOCKWISE_3 Kq88 (fun _ q => nomatch q)
                    have E_w_UPRIGHT_88 := E_w_UPRIGHT_3.keep Kq88
                    have E_w_VALUES_88 := E_w_VALUES_3.keep Kq88
                    have E_w_MIRRORED_88 := E_w_MIRRORED_3.keep Kq88
                    have E_w_UPSIDE_DOWN_88 := E_w_UPSIDE_DOWN_3.keep Kq88
                    have E_w_FLIPPED_88 := E_w_FLIPPED_3.keep Kq88
                    have E_w_TRANSPOSED_88 := E_w_TRANSPOSED_3.keep Kq88
                    have E_w_TURNED_ANTICLOCKWISE_88 := E_w_TURNED_ANTICLOCKWISE_3.keep Kq88
                    have E_w_TRANSVERSED_88 := E_w_TRANSVERSED_3.keep Kq88
                    have E_w_TURNED_CLOCKWISE_88 := E_w_TURNED_CLOCKWISE_3.keep Kq88
                    have V_w_VALUES_88 := V_w_VALUES_3.keep Kq88 nin0
                    have P3_0_88 := P3_0.keep Kq88 nin0
                    have Z88 := Nat.le_trans Z3 Kq88.1
                    have sz_r88 := Nat.le_trans K3.1 sz88_r
                    have K88 := K3.trans Kq88 all0
                    subst q88
                    show Go p.tables e below _ (T88.setTop (mkF m 16 #[.val (.int (7 : Int32))] [(.ref r88)]))
                    refine g_iloadN (pc' := 17) C X88 d1_16 rfl rfl ?_
                    refine g_iconst (pc' := 18) (v := (1 : Int32)) C X88 d1_17 rfl rfl ?_
                    refine g_isub (pc' := 19) C X88 d1_18 rfl ?_
                    refine own_cast (congrArg (fun z => T88.setTop (mkF m 19 #[.val (.int (7 : Int32))] (.int z :: [(.ref r88)]))) (show ((7 : Int32) - (1 : Int32)) = (6 : Int32) from by decide)) ?_
                    refine g_ldR (pc' := 20) (v := (.ref w_TRANSVERSED)) C X88 d1_19 rfl P88_0 rfl ⟨by decide, by decide⟩ rfl rfl ?_
                    refine g_goto (pc' := 26) C X88 d1_20 (by decide) (by decide) ?_
                    exact g_retA C X88 rfl rfl rfl d1_26 (by decide) (by decide) ⟨congrArg (fun z => some (Value.ref z)) (F1_l8 p1 w_UPRIGHT w_MIRRORED w_UPSIDE_DOWN w_FLIPPED w_TRANSPOSED w_TURNED_ANTICLOCKWISE w_TRANSVERSED w_TURNED_CLOCKWISE c1 c13 c15 c27 c39 c51 c63 c75 c87).symm, N88, K88⟩
                  · by_cases c99 : p1 = (8 : Int32)
                    · refine own_cast (show T3.setTop (mkF m 13 #[.val (.int p1)] []) = T3.setTop (mkF m 13 #[.val (.int (8 : Int32))] []) from by rw [c99]) ?_
                      refine g_callS (y := (⟨"com/example/pictor/pictor/Orientation", "values", "()[Lcom/example/pictor/pictor/Orientation;"⟩ : MethodName)) (argsL := []) (st := []) (pc' := 16) C X3 d1_13 (hw _ (List.mem_of_getElem? (i := 11) rfl)) (hw _ (List.mem_of_getElem? (i := 12) rfl)) (hw _ (List.mem_of_getElem? (i := 2) rfl)) (hw _ (List.mem_of_getElem? (i := 13) rfl)) (by decide) (rm3 l Z a0 hw [] w_UPRIGHT w_VALUES w_MIRRORED w_UPSIDE_DOWN w_FLIPPED w_TRANSPOSED w_TURNED_ANTICLOCKWISE w_TRANSVERSED w_TURNED_CLOCKWISE k_VALUES T3.heap n0 Z3 ⟨S_w_UPRIGHT_3, S_w_VALUES_3, S_w_MIRRORED_3, S_w_UPSIDE_DOWN_3, S_w_FLIPPED_3, S_w_TRANSPOSED_3, S_w_TURNED_ANTICLOCKWISE_3, S_w_TRANSVERSED_3, S_w_TURNED_CLOCKWISE_3, E_w_UPRIGHT_3, E_w_VALUES_3, E_w_MIRRORED_3, E_w_UPSIDE_DOWN_3, E_w_FLIPPED_3, E_w_TRANSPOSED_3, E_w_TURNED_ANTICLOCKWISE_3, E_w_TRANSVERSED_3, E_w_TURNED_CLOCKWISE_3, V_w_VALUES_3⟩) (W := 0) (by decide) (by decide) (ce := 2) (sl := 16) rfl rfl (by decide) (by decide) rfl rfl rfl pd_0 rfl (Nat.le_refl _) rfl (fun v100 T100 L100 X100 Q100 => ?_)
                      obtain ⟨r100, q100, Nq100, Kq100, sz100_r, gn_r100, P100_0⟩ := Q100
                      have N100 := Fr.app N3 Nq100
                      have ne100_101 : ¬ (w_UPRIGHT = r100) := Nat.ne_of_lt (Nat.lt_of_lt_of_le E_w_UPRIGHT_3.lt sz100_r)
                      have ne100_102 : ¬ (w_VALUES = r100) := Nat.ne_of_lt (Nat.lt_of_lt_of_le E_w_VALUES_3.lt sz100_r)
                      have ne100_103 : ¬ (w_MIRRORED = r100) := Nat.ne_of_lt (Nat.lt_of_lt_of_le E_w_MIRRORED_3.lt sz100_r)
                      have ne100_104 : ¬ (w_UPSIDE_DOWN = r100) := Nat.ne_of_lt (Nat.lt_of_lt_of_le E_w_UPSIDE_DOWN_3.lt sz100_r)
                      have ne100_105 : ¬ (w_FLIPPED = r100) := Nat.ne_of_lt (Nat.lt_of_lt_of_le E_w_FLIPPED_3.lt sz100_r)
                      have ne100_106 : ¬ (w_TRANSPOSED = r100) := Nat.ne_of_lt (Nat.lt_of_lt_of_le E_w_TRANSPOSED_3.lt sz100_r)
                      have ne100_107 : ¬ (w_TURNED_ANTICLOCKWISE = r100) := Nat.ne_of_lt (Nat.lt_of_lt_of_le E_w_TURNED_ANTICLOCKWISE_3.lt sz100_r)
                      have ne100_108 : ¬ (w_TRANSVERSED = r100) := Nat.ne_of_lt (Nat.lt_of_lt_of_le E_w_TRANSVERSED_3.lt sz100_r)
                      have ne100_109 : ¬ (w_TURNED_CLOCKWISE = r100) := Nat.ne_of_lt (Nat.lt_of_lt_of_le E_w_TURNED_CLOCKWISE_3.lt sz100_r)
                      have ne100_110 : ¬ (r3 = r100) := Nat.ne_of_lt (Nat.lt_of_lt_of_le P3_0.lt sz100_r)
                      have S_w_UPRIGHT_100 := own_sta_keep S_w_UPRIGHT_3 Kq100 (fun _ q => nomatch q)
                      have S_w_VALUES_100 := own_sta_keep S_w_VALUES_3 Kq100 (fun _ q => nomatch q)
                      have S_w_MIRRORED_100 := own_sta_keep S_w_MIRRORED_3 Kq100 (fun _ q => nomatch q)
                      have S_w_UPSIDE_DOWN_100 := own_sta_keep S_w_UPSIDE_DOWN_3 Kq100 (fun _ q => nomatch q)
                      have S_w_FLIPPED_100 := own_sta_keep S_w_FLIPPED_3 Kq100 (fun _ q => nomatch q)
                      have S_w_TRANSPOSED_100 := own_sta_keep S_w_TRANSPOSED_3 Kq100 (fun _ q => nomatch q)
                      have S_w_TURNED_ANTICLOCKWISE_100 := own_sta_keep S_w_TURNED_ANTICLOCKWISE_3 Kq100 (fun _ q => nomatch q)
                      have S_w_TRANSVERSED_100 := own_sta_keep S_w_TRANSVERSED_3 Kq100 (fun _ q => nomatch q)
                      have S_w_TURNED_CLOCKWISE_100 := own_sta_keep S_w_TURNED_CLOCKWISE_3 Kq100 (fun _ q => nomatch q)
                      have E_w_UPRIGHT_100 := E_w_UPRIGHT_3.keep Kq100
                      have E_w_VALUES_100 := E_w_VALUES_3.keep Kq100
                      have E_w_MIRRORED_100 := E_w_MIRRORED_3.keep Kq100
                      have E_w_UPSIDE_DOWN_100 := E_w_UPSIDE_DOWN_3.keep Kq100
                      have E_w_FLIPPED_100 := E_w_FLIPPED_3.keep Kq100
                      have E_w_TRANSPOSED_100 := E_w_TRANSPOSED_3.keep Kq100
                      have E_w_TURNED_ANTICLOCKWISE_100 := E_w_TURNED_ANTICLOCKWISE_3.keep Kq100
                      have E_w_TRANSVERSED_100 := E_w_TRANSVERSED_3.keep Kq100
                      have E_w_TURNED_CLOCKWISE_100 := E_w_TURNED_CLOCKWISE_3.keep Kq100
                      have V_w_VALUES_100 := V_w_VALUES_3.keep Kq100 nin0
                      have P3_0_100 := P3_0.keep Kq100 nin0
                      have Z100 := Nat.le_trans Z3 Kq100.1
                      have sz_r100 := Nat.le_trans K3.1 sz100_r
                      have K100 := K3.trans Kq100 all0
                      subst q100
                      show Go p.tables e below _ (T100.setTop (mkF m 16 #[.val (.int (8 : Int32))] [(.ref r100)]))
                      refine g_iloadN (pc' := 17) C X100 d1_16 rfl rfl ?_
                      refine g_iconst (pc' := 18) (v := (1 : Int32)) C X100 d1_17 rfl rfl ?_
                      refine g_isub (pc' := 19) C X100 d1_18 rfl ?_
                      refine own_cast (congrArg (fun z => T100.setTop (mkF m 19 #[.val (.int (8 : Int32))] (.int z :: [(.ref r100)]))) (show ((8 : Int32) - (1 : Int32)) = (7 : Int32) from by decide)) ?_
                      refine g_ldR (pc' := 20) (v := (.ref w_TURNED_CLOCKWISE)) C X100 d1_19 rfl P100_0 rfl ⟨by decide, by decide⟩ rfl rfl ?_
                      refine g_goto (pc' := 26) C X100 d1_20 (by decide) (by decide) ?_
                      exact g_retA C X100 rfl rfl rfl d1_26 (by decide) (by decide) ⟨congrArg (fun z => some (Value.ref z)) (F1_l9 p1 w_UPRIGHT w_MIRRORED w_UPSIDE_DOWN w_FLIPPED w_TRANSPOSED w_TURNED_ANTICLOCKWISE w_TRANSVERSED w_TURNED_CLOCKWISE c1 c13 c15 c27 c39 c51 c63 c75 c87 c99).symm, N100, K100⟩
                    · rcases own_18 p1 c1 c13 with q_ | q_ | q_ | q_ | q_ | q_ | q_ | q_ <;> contradiction
theorem d2_0 : decode method_2_code 0 = .ok (.iload_n 0, 1) := by decide +kernel
theorem d2_1 : decode method_2_code 1 = .ok (.iconst 1, 1) := by decide +kernel
theorem d2_2 : decode method_2_code 2 = .ok (.if_icmp .ne 7, 3) := by decide +kernel
theorem d2_5 : decode method_2_code 5 = .ok (.getstatic 7, 3) := by decide +kernel
theorem d2_8 : decode method_2_code 8 = .ok (.areturn, 1) := by decide +kernel
theorem d2_9 : decode method_2_code 9 = .ok (.iload_n 0, 1) := by decide +kernel
theorem d2_10 : decode method_2_code 10 = .ok (.iconst 2, 1) := by decide +kernel
theorem d2_11 : decode method_2_code 11 = .ok (.if_icmp .ne 7, 3) := by decide +kernel
theorem d2_14 : decode method_2_code 14 = .ok (.getstatic 13, 3) := by decide +kernel
theorem d2_17 : decode method_2_code 17 = .ok (.areturn, 1) := by decide +kernel
theorem d2_18 : decode method_2_code 18 = .ok (.iload_n 0, 1) := by decide +kernel
theorem d2_19 : decode method_2_code 19 = .ok (.iconst 3, 1) := by decide +kernel
theorem d2_20 : decode method_2_code 20 = .ok (.if_icmp .ne 7, 3) := by decide +kernel
theorem d2_23 : decode method_2_code 23 = .ok (.getstatic 16, 3) := by decide +kernel
theorem d2_26 : decode method_2_code 26 = .ok (.areturn, 1) := by decide +kernel
theorem d2_27 : decode method_2_code 27 = .ok (.iload_n 0, 1) := by decide +kernel
theorem d2_28 : decode method_2_code 28 = .ok (.iconst 4, 1) := by decide +kernel
theorem d2_29 : decode method_2_code 29 = .ok (.if_icmp .ne 7, 3) := by decide +kernel
theorem d2_32 : decode method_2_code 32 = .ok (.getstatic 19, 3) := by decide +kernel
theorem d2_35 : decode method_2_code 35 = .ok (.areturn, 1) := by decide +kernel
theorem d2_36 : decode method_2_code 36 = .ok (.iload_n 0, 1) := by decide +kernel
theorem d2_37 : decode method_2_code 37 = .ok (.iconst 5, 1) := by decide +kernel
theorem d2_38 : decode method_2_code 38 = .ok (.if_icmp .ne 7, 3) := by decide +kernel
theorem d2_41 : decode method_2_code 41 = .ok (.getstatic 22, 3) := by decide +kernel
theorem d2_44 : decode method_2_code 44 = .ok (.areturn, 1) := by decide +kernel
theorem d2_45 : decode method_2_code 45 = .ok (.iload_n 0, 1) := by decide +kernel
theorem d2_46 : decode method_2_code 46 = .ok (.bipush 6, 2) := by decide +kernel
theorem d2_48 : decode method_2_code 48 = .ok (.if_icmp .ne 7, 3) := by decide +kernel
theorem d2_51 : decode method_2_code 51 = .ok (.getstatic 25, 3) := by decide +kernel
theorem d2_54 : decode method_2_code 54 = .ok (.areturn, 1) := by decide +kernel
theorem d2_55 : decode method_2_code 55 = .ok (.iload_n 0, 1) := by decide +kernel
theorem d2_56 : decode method_2_code 56 = .ok (.bipush 7, 2) := by decide +kernel
theorem d2_58 : decode method_2_code 58 = .ok (.if_icmp .ne 7, 3) := by decide +kernel
theorem d2_61 : decode method_2_code 61 = .ok (.getstatic 28, 3) := by decide +kernel
theorem d2_64 : decode method_2_code 64 = .ok (.areturn, 1) := by decide +kernel
theorem d2_65 : decode method_2_code 65 = .ok (.iload_n 0, 1) := by decide +kernel
theorem d2_66 : decode method_2_code 66 = .ok (.bipush 8, 2) := by decide +kernel
theorem d2_68 : decode method_2_code 68 = .ok (.if_icmp .ne 7, 3) := by decide +kernel
theorem d2_71 : decode method_2_code 71 = .ok (.getstatic 31, 3) := by decide +kernel
theorem d2_74 : decode method_2_code 74 = .ok (.areturn, 1) := by decide +kernel
theorem d2_75 : decode method_2_code 75 = .ok (.getstatic 7, 3) := by decide +kernel
theorem d2_78 : decode method_2_code 78 = .ok (.areturn, 1) := by decide +kernel
def F2 (p1 : Int32) (w_UPRIGHT : Addr) (w_MIRRORED : Addr) (w_UPSIDE_DOWN : Addr) (w_FLIPPED : Addr) (w_TRANSPOSED : Addr) (w_TURNED_ANTICLOCKWISE : Addr) (w_TRANSVERSED : Addr) (w_TURNED_CLOCKWISE : Addr) : Addr := (if p1 = (1 : Int32) then w_UPRIGHT else (if p1 = (2 : Int32) then w_MIRRORED else (if p1 = (3 : Int32) then w_UPSIDE_DOWN else (if p1 = (4 : Int32) then w_FLIPPED else (if p1 = (5 : Int32) then w_TRANSPOSED else (if p1 = (6 : Int32) then w_TURNED_ANTICLOCKWISE else (if p1 = (7 : Int32) then w_TRANSVERSED else (if p1 = (8 : Int32) then w_TURNED_CLOCKWISE else w_UPRIGHT))))))))
theorem F2_l0 (p1 : Int32) (w_UPRIGHT : Addr) (w_MIRRORED : Addr) (w_UPSIDE_DOWN : Addr) (w_FLIPPED : Addr) (w_TRANSPOSED : Addr) (w_TURNED_ANTICLOCKWISE : Addr) (w_TRANSVERSED : Addr) (w_TURNED_CLOCKWISE : Addr) (h0 : p1 = (1 : Int32)) : F2 p1 w_UPRIGHT w_MIRRORED w_UPSIDE_DOWN w_FLIPPED w_TRANSPOSED w_TURNED_ANTICLOCKWISE w_TRANSVERSED w_TURNED_CLOCKWISE = w_UPRIGHT := by
  unfold F2; rw [if_pos h0]
theorem F2_l1 (p1 : Int32) (w_UPRIGHT : Addr) (w_MIRRORED : Addr) (w_UPSIDE_DOWN : Addr) (w_FLIPPED : Addr) (w_TRANSPOSED : Addr) (w_TURNED_ANTICLOCKWISE : Addr) (w_TRANSVERSED : Addr) (w_TURNED_CLOCKWISE : Addr) (h0 : ¬ (p1 = (1 : Int32))) (h1 : p1 = (2 : Int32)) : F2 p1 w_UPRIGHT w_MIRRORED w_UPSIDE_DOWN w_FLIPPED w_TRANSPOSED w_TURNED_ANTICLOCKWISE w_TRANSVERSED w_TURNED_CLOCKWISE = w_MIRRORED := by
  unfold F2; rw [if_neg h0, if_pos h1]
theorem F2_l2 (p1 : Int32) (w_UPRIGHT : Addr) (w_MIRRORED : Addr) (w_UPSIDE_DOWN : Addr) (w_FLIPPED : Addr) (w_TRANSPOSED : Addr) (w_TURNED_ANTICLOCKWISE : Addr) (w_TRANSVERSED : Addr) (w_TURNED_CLOCKWISE : Addr) (h0 : ¬ (p1 = (1 : Int32))) (h1 : ¬ (p1 = (2 : Int32))) (h2 : p1 = (3 : Int32)) : F2 p1 w_UPRIGHT w_MIRRORED w_UPSIDE_DOWN w_FLIPPED w_TRANSPOSED w_TURNED_ANTICLOCKWISE w_TRANSVERSED w_TURNED_CLOCKWISE = w_UPSIDE_DOWN := by
  unfold F2; rw [if_neg h0, if_neg h1, if_pos h2]
theorem F2_l3 (p1 : Int32) (w_UPRIGHT : Addr) (w_MIRRORED : Addr) (w_UPSIDE_DOWN : Addr) (w_FLIPPED : Addr) (w_TRANSPOSED : Addr) (w_TURNED_ANTICLOCKWISE : Addr) (w_TRANSVERSED : Addr) (w_TURNED_CLOCKWISE : Addr) (h0 : ¬ (p1 = (1 : Int32))) (h1 : ¬ (p1 = (2 : Int32))) (h2 : ¬ (p1 = (3 : Int32))) (h3 : p1 = (4 : Int32)) : F2 p1 w_UPRIGHT w_MIRRORED w_UPSIDE_DOWN w_FLIPPED w_TRANSPOSED w_TURNED_ANTICLOCKWISE w_TRANSVERSED w_TURNED_CLOCKWISE = w_FLIPPED := by
  unfold F2; rw [if_neg h0, if_neg h1, if_neg h2, if_pos h3]
theorem F2_l4 (p1 : Int32) (w_UPRIGHT : Addr) (w_MIRRORED : Addr) (w_UPSIDE_DOWN : Addr) (w_FLIPPED : Addr) (w_TRANSPOSED : Addr) (w_TURNED_ANTICLOCKWISE : Addr) (w_TRANSVERSED : Addr) (w_TURNED_CLOCKWISE : Addr) (h0 : ¬ (p1 = (1 : Int32))) (h1 : ¬ (p1 = (2 : Int32))) (h2 : ¬ (p1 = (3 : Int32))) (h3 : ¬ (p1 = (4 : Int32))) (h4 : p1 = (5 : Int32)) : F2 p1 w_UPRIGHT w_MIRRORED w_UPSIDE_DOWN w_FLIPPED w_TRANSPOSED w_TURNED_ANTICLOCKWISE w_TRANSVERSED w_TURNED_CLOCKWISE = w_TRANSPOSED := by
  unfold F2; rw [if_neg h0, if_neg h1, if_neg h2, if_neg h3, if_pos h4]
theorem F2_l5 (p1 : Int32) (w_UPRIGHT : Addr) (w_MIRRORED : Addr) (w_UPSIDE_DOWN : Addr) (w_FLIPPED : Addr) (w_TRANSPOSED : Addr) (w_TURNED_ANTICLOCKWISE : Addr) (w_TRANSVERSED : Addr) (w_TURNED_CLOCKWISE : Addr) (h0 : ¬ (p1 = (1 : Int32))) (h1 : ¬ (p1 = (2 : Int32))) (h2 : ¬ (p1 = (3 : Int32))) (h3 : ¬ (p1 = (4 : Int32))) (h4 : ¬ (p1 = (5 : Int32))) (h5 : p1 = (6 : Int32)) : F2 p1 w_UPRIGHT w_MIRRORED w_UPSIDE_DOWN w_FLIPPED w_TRANSPOSED w_TURNED_ANTICLOCKWISE w_TRANSVERSED w_TURNED_CLOCKWISE = w_TURNED_ANTICLOCKWISE := by
  unfold F2; rw [if_neg h0, if_neg h1, if_neg h2, if_neg h3, if_neg h4, if_pos h5]
theorem F2_l6 (p1 : Int32) (w_UPRIGHT : Addr) (w_MIRRORED : Addr) (w_UPSIDE_DOWN : Addr) (w_FLIPPED : Addr) (w_TRANSPOSED : Addr) (w_TURNED_ANTICLOCKWISE : Addr) (w_TRANSVERSED : Addr) (w_TURNED_CLOCKWISE : Addr) (h0 : ¬ (p1 = (1 : Int32))) (h1 : ¬ (p1 = (2 : Int32))) (h2 : ¬ (p1 = (3 : Int32))) (h3 : ¬ (p1 = (4 : Int32))) (h4 : ¬ (p1 = (5 : Int32))) (h5 : ¬ (p1 = (6 : Int32))) (h6 : p1 = (7 : Int32)) : F2 p1 w_UPRIGHT w_MIRRORED w_UPSIDE_DOWN w_FLIPPED w_TRANSPOSED w_TURNED_ANTICLOCKWISE w_TRANSVERSED w_TURNED_CLOCKWISE = w_TRANSVERSED := by
  unfold F2; rw [if_neg h0, if_neg h1, if_neg h2, if_neg h3, if_neg h4, if_neg h5, if_pos h6]
theorem F2_l7 (p1 : Int32) (w_UPRIGHT : Addr) (w_MIRRORED : Addr) (w_UPSIDE_DOWN : Addr) (w_FLIPPED : Addr) (w_TRANSPOSED : Addr) (w_TURNED_ANTICLOCKWISE : Addr) (w_TRANSVERSED : Addr) (w_TURNED_CLOCKWISE : Addr) (h0 : ¬ (p1 = (1 : Int32))) (h1 : ¬ (p1 = (2 : Int32))) (h2 : ¬ (p1 = (3 : Int32))) (h3 : ¬ (p1 = (4 : Int32))) (h4 : ¬ (p1 = (5 : Int32))) (h5 : ¬ (p1 = (6 : Int32))) (h6 : ¬ (p1 = (7 : Int32))) (h7 : p1 = (8 : Int32)) : F2 p1 w_UPRIGHT w_MIRRORED w_UPSIDE_DOWN w_FLIPPED w_TRANSPOSED w_TURNED_ANTICLOCKWISE w_TRANSVERSED w_TURNED_CLOCKWISE = w_TURNED_CLOCKWISE := by
  unfold F2; rw [if_neg h0, if_neg h1, if_neg h2, if_neg h3, if_neg h4, if_neg h5, if_neg h6, if_pos h7]
theorem F2_l8 (p1 : Int32) (w_UPRIGHT : Addr) (w_MIRRORED : Addr) (w_UPSIDE_DOWN : Addr) (w_FLIPPED : Addr) (w_TRANSPOSED : Addr) (w_TURNED_ANTICLOCKWISE : Addr) (w_TRANSVERSED : Addr) (w_TURNED_CLOCKWISE : Addr) (h0 : ¬ (p1 = (1 : Int32))) (h1 : ¬ (p1 = (2 : Int32))) (h2 : ¬ (p1 = (3 : Int32))) (h3 : ¬ (p1 = (4 : Int32))) (h4 : ¬ (p1 = (5 : Int32))) (h5 : ¬ (p1 = (6 : Int32))) (h6 : ¬ (p1 = (7 : Int32))) (h7 : ¬ (p1 = (8 : Int32))) : F2 p1 w_UPRIGHT w_MIRRORED w_UPSIDE_DOWN w_FLIPPED w_TRANSPOSED w_TURNED_ANTICLOCKWISE w_TRANSVERSED w_TURNED_CLOCKWISE = w_UPRIGHT := by
  unfold F2; rw [if_neg h0, if_neg h1, if_neg h2, if_neg h3, if_neg h4, if_neg h5, if_neg h6, if_neg h7]
theorem ef_2 (m : MethodId) (p1 : Int32) : entryFrame m #[(.int p1)] 1 = mkF m 0 #[.val (.int p1)] [] := by first | (simp [entryFrame, mkF, argsToLocals, Value.category]; done) | rfl
def Q_2 (Z : State) (p1 : Int32) (w_UPRIGHT : Addr) (w_VALUES : Addr) (w_MIRRORED : Addr) (w_UPSIDE_DOWN : Addr) (w_FLIPPED : Addr) (w_TRANSPOSED : Addr) (w_TURNED_ANTICLOCKWISE : Addr) (w_TRANSVERSED : Addr) (w_TURNED_CLOCKWISE : Addr) (k_VALUES : ClassId) (h0 : Heap) (n0 : Nat) (v : Option Value) (h : Heap) (L : List Loc) : Prop := v = some (.ref (F2 p1 w_UPRIGHT w_MIRRORED w_UPSIDE_DOWN w_FLIPPED w_TRANSPOSED w_TURNED_ANTICLOCKWISE w_TRANSVERSED w_TURNED_CLOCKWISE)) ∧ Fr n0 L ∧ h = h0
set_option maxRecDepth 65536 in
set_option maxHeartbeats 40000000 in
theorem rm2 (l : Launch) (Z : State) (a0 : Array Value) (hw : ∀ d ∈ tables_1, d.before a0 Z = true) (ws : List Jvm.Cond) (p1 : Int32) (w_UPRIGHT : Addr) (w_VALUES : Addr) (w_MIRRORED : Addr) (w_UPSIDE_DOWN : Addr) (w_FLIPPED : Addr) (w_TRANSPOSED : Addr) (w_TURNED_ANTICLOCKWISE : Addr) (w_TRANSVERSED : Addr) (w_TURNED_CLOCKWISE : Addr) (k_VALUES : ClassId) (h0 : Heap) (n0 : Nat) (hF : FX Z h0 w_UPRIGHT w_VALUES w_MIRRORED w_UPSIDE_DOWN w_FLIPPED w_TRANSPOSED w_TURNED_ANTICLOCKWISE w_TRANSVERSED w_TURNED_CLOCKWISE k_VALUES) :
    MetFree l (⟨"com/example/pictor/pictor/OrientationOfTagPinLaw", "expected", "(I)Lcom/example/pictor/pictor/Orientation;"⟩ : MethodName) (head1 (Jvm.Cond.code (⟨"com/example/pictor/pictor/OrientationOfTagPinLaw", "expected", "(I)Lcom/example/pictor/pictor/Orientation;"⟩ : MethodName) method_2_code 1 (some (.object "com/example/pictor/pictor/Orientation")) :: ws) ({ frames := 0, cells := 0, slots := 0, locals := 0 } : Room)) (fun a U => a = #[(.int p1)] ∧ Z.Warmed39 U.vm ∧ U.heap = h0) (fun _ _ _ _ _ => True) (fun _ U o U' => ∃ v L, o = .returned v ∧ Q_2 Z p1 w_UPRIGHT w_VALUES w_MIRRORED w_UPSIDE_DOWN w_FLIPPED w_TRANSPOSED w_TURNED_ANTICLOCKWISE w_TRANSVERSED w_TURNED_CLOCKWISE k_VALUES h0 n0 v U'.heap L ∧ FrameEnd U o U' L ({ frames := 0, cells := 0, slots := 0, locals := 0 } : Room).cells ({ frames := 0, cells := 0, slots := 0, locals := 0 } : Room).slots) := by
  refine met_of (Ls := #[.val (.int p1)]) (plainFor_of_name (by first | (simp [plainName, overriddenIn]; done) | decide +kernel)) (fun m => ef_2 m p1) ?_
  intro p e s m below meth c T0 C X0 e0
  obtain ⟨S_w_UPRIGHT, S_w_VALUES, S_w_MIRRORED, S_w_UPSIDE_DOWN, S_w_FLIPPED, S_w_TRANSPOSED, S_w_TURNED_ANTICLOCKWISE, S_w_TRANSVERSED, S_w_TURNED_CLOCKWISE, E_w_UPRIGHT, E_w_VALUES, E_w_MIRRORED, E_w_UPSIDE_DOWN, E_w_FLIPPED, E_w_TRANSPOSED, E_w_TURNED_ANTICLOCKWISE, E_w_TRANSVERSED, E_w_TURNED_CLOCKWISE, V_w_VALUES⟩ := id hF
  have N0 := Fr.nil n0
  refine g_iloadN (pc' := 1) C X0 d2_0 rfl rfl ?_
  refine g_iconst (pc' := 2) (v := (1 : Int32)) C X0 d2_1 rfl rfl ?_
  by_cases c1 : p1 = (1 : Int32)
  · refine g_icmpN (pc' := 5) C X0 d2_2 (teq c1).2 rfl ?_
    refine g_getS (pc' := 8) C X0 d2_5 (host := "") (Or.inl (hw _ (List.mem_of_getElem? (i := 10) rfl))) Via.refl e0 S_w_UPRIGHT rfl (fun T2 X2 e2 => ?_)
    exact g_retA C X2 rfl rfl rfl d2_8 (by decide) (by decide) ⟨congrArg (fun z => some (Value.ref z)) (F2_l0 p1 w_UPRIGHT w_MIRRORED w_UPSIDE_DOWN w_FLIPPED w_TRANSPOSED w_TURNED_ANTICLOCKWISE w_TRANSVERSED w_TURNED_CLOCKWISE c1).symm, N0, e2⟩
  · refine g_icmpY (pc' := 9) C X0 d2_2 (feq c1).2 (by decide) (by decide) ?_
    refine g_iloadN (pc' := 10) C X0 d2_9 rfl rfl ?_
    refine g_iconst (pc' := 11) (v := (2 : Int32)) C X0 d2_10 rfl rfl ?_
    by_cases c3 : p1 = (2 : Int32)
    · refine g_icmpN (pc' := 14) C X0 d2_11 (teq c3).2 rfl ?_
      refine g_getS (pc' := 17) C X0 d2_14 (host := "") (Or.inl (hw _ (List.mem_of_getElem? (i := 37) rfl))) Via.refl e0 S_w_MIRRORED rfl (fun T4 X4 e4 => ?_)
      exact g_retA C X4 rfl rfl rfl d2_17 (by decide) (by decide) ⟨congrArg (fun z => some (Value.ref z)) (F2_l1 p1 w_UPRIGHT w_MIRRORED w_UPSIDE_DOWN w_FLIPPED w_TRANSPOSED w_TURNED_ANTICLOCKWISE w_TRANSVERSED w_TURNED_CLOCKWISE c1 c3).symm, N0, e4⟩
    · refine g_icmpY (pc' := 18) C X0 d2_11 (feq c3).2 (by decide) (by decide) ?_
      refine g_iloadN (pc' := 19) C X0 d2_18 rfl rfl ?_
      refine g_iconst (pc' := 20) (v := (3 : Int32)) C X0 d2_19 rfl rfl ?_
      by_cases c5 : p1 = (3 : Int32)
      · refine g_icmpN (pc' := 23) C X0 d2_20 (teq c5).2 rfl ?_
        refine g_getS (pc' := 26) C X0 d2_23 (host := "") (Or.inl (hw _ (List.mem_of_getElem? (i := 35) rfl))) Via.refl e0 S_w_UPSIDE_DOWN rfl (fun T6 X6 e6 => ?_)
        exact g_retA C X6 rfl rfl rfl d2_26 (by decide) (by decide) ⟨congrArg (fun z => some (Value.ref z)) (F2_l2 p1 w_UPRIGHT w_MIRRORED w_UPSIDE_DOWN w_FLIPPED w_TRANSPOSED w_TURNED_ANTICLOCKWISE w_TRANSVERSED w_TURNED_CLOCKWISE c1 c3 c5).symm, N0, e6⟩
      · refine g_icmpY (pc' := 27) C X0 d2_20 (feq c5).2 (by decide) (by decide) ?_
        refine g_iloadN (pc' := 28) C X0 d2_27 rfl rfl ?_
        refine g_iconst (pc' := 29) (v := (4 : Int32)) C X0 d2_28 rfl rfl ?_
        by_cases c7 : p1 = (4 : Int32)
        · refine g_icmpN (pc' := 32) C X0 d2_29 (teq c7).2 rfl ?_
          refine g_getS (pc' := 35) C X0 d2_32 (host := "") (Or.inl (hw _ (List.mem_of_getElem? (i := 38) rfl))) Via.refl e0 S_w_FLIPPED rfl (fun T8 X8 e8 => ?_)
          exact g_retA C X8 rfl rfl rfl d2_35 (by decide) (by decide) ⟨congrArg (fun z => some (Value.ref z)) (F2_l3 p1 w_UPRIGHT w_MIRRORED w_UPSIDE_DOWN w_FLIPPED w_TRANSPOSED w_TURNED_ANTICLOCKWISE w_TRANSVERSED w_TURNED_CLOCKWISE c1 c3 c5 c7).symm, N0, e8⟩
        · refine g_icmpY (pc' := 36) C X0 d2_29 (feq c7).2 (by decide) (by decide) ?_
          refine g_iloadN (pc' := 37) C X0 d2_36 rfl rfl ?_
          refine g_iconst (pc' := 38) (v := (5 : Int32)) C X0 d2_37 rfl rfl ?_
          by_cases c9 : p1 = (5 : Int32)
          · refine g_icmpN (pc' := 41) C X0 d2_38 (teq c9).2 rfl ?_
            refine g_getS (pc' := 44) C X0 d2_41 (host := "") (Or.inl (hw _ (List.mem_of_getElem? (i := 36) rfl))) Via.refl e0 S_w_TRANSPOSED rfl (fun T10 X10 e10 => ?_)
            exact g_retA C X10 rfl rfl rfl d2_44 (by decide) (by decide) ⟨congrArg (fun z => some (Value.ref z)) (F2_l4 p1 w_UPRIGHT w_MIRRORED w_UPSIDE_DOWN w_FLIPPED w_TRANSPOSED w_TURNED_ANTICLOCKWISE w_TRANSVERSED w_TURNED_CLOCKWISE c1 c3 c5 c7 c9).symm, N0, e10⟩
          · refine g_icmpY (pc' := 45) C X0 d2_38 (feq c9).2 (by decide) (by decide) ?_
            refine g_iloadN (pc' := 46) C X0 d2_45 rfl rfl ?_
            refine g_bipush (pc' := 48) (v := (6 : Int32)) C X0 d2_46 rfl rfl ?_
            by_cases c11 : p1 = (6 : Int32)
            · refine g_icmpN (pc' := 51) C X0 d2_48 (teq c11).2 rfl ?_
              refine g_getS (pc' := 54) C X0 d2_51 (host := "") (Or.inl (hw _ (List.mem_of_getElem? (i := 33) rfl))) Via.refl e0 S_w_TURNED_ANTICLOCKWISE rfl (fun T12 X12 e12 => ?_)
              exact g_retA C X12 rfl rfl rfl d2_54 (by decide) (by decide) ⟨congrArg (fun z => some (Value.ref z)) (F2_l5 p1 w_UPRIGHT w_MIRRORED w_UPSIDE_DOWN w_FLIPPED w_TRANSPOSED w_TURNED_ANTICLOCKWISE w_TRANSVERSED w_TURNED_CLOCKWISE c1 c3 c5 c7 c9 c11).symm, N0, e12⟩
            · refine g_icmpY (pc' := 55) C X0 d2_48 (feq c11).2 (by decide) (by decide) ?_
              refine g_iloadN (pc' := 56) C X0 d2_55 rfl rfl ?_
              refine g_bipush (pc' := 58) (v := (7 : Int32)) C X0 d2_56 rfl rfl ?_
              by_cases c13 : p1 = (7 : Int32)
              · refine g_icmpN (pc' := 61) C X0 d2_58 (teq c13).2 rfl ?_
                refine g_getS (pc' := 64) C X0 d2_61 (host := "") (Or.inl (hw _ (List.mem_of_getElem? (i := 39) rfl))) Via.refl e0 S_w_TRANSVERSED rfl (fun T14 X14 e14 => ?_)
                exact g_retA C X14 rfl rfl rfl d2_64 (by decide) (by decide) ⟨congrArg (fun z => some (Value.ref z)) (F2_l6 p1 w_UPRIGHT w_MIRRORED w_UPSIDE_DOWN w_FLIPPED w_TRANSPOSED w_TURNED_ANTICLOCKWISE w_TRANSVERSED w_TURNED_CLOCKWISE c1 c3 c5 c7 c9 c11 c13).symm, N0, e14⟩
              · refine g_icmpY (pc' := 65) C X0 d2_58 (feq c13).2 (by decide) (by decide) ?_
                refine g_iloadN (pc' := 66) C X0 d2_65 rfl rfl ?_
                refine g_bipush (pc' := 68) (v := (8 : Int32)) C X0 d2_66 rfl rfl ?_
                by_cases c15 : p1 = (8 : Int32)
                · refine g_icmpN (pc' := 71) C X0 d2_68 (teq c15).2 rfl ?_
                  refine g_getS (pc' := 74) C X0 d2_71 (host := "") (Or.inl (hw _ (List.mem_of_getElem? (i := 34) rfl))) Via.refl e0 S_w_TURNED_CLOCKWISE rfl (fun T16 X16 e16 => ?_)
                  exact g_retA C X16 rfl rfl rfl d2_74 (by decide) (by decide) ⟨congrArg (fun z => some (Value.ref z)) (F2_l7 p1 w_UPRIGHT w_MIRRORED w_UPSIDE_DOWN w_FLIPPED w_TRANSPOSED w_TURNED_ANTICLOCKWISE w_TRANSVERSED w_TURNED_CLOCKWISE c1 c3 c5 c7 c9 c11 c13 c15).symm, N0, e16⟩
                · refine g_icmpY (pc' := 75) C X0 d2_68 (feq c15).2 (by decide) (by decide) ?_
                  refine g_getS (pc' := 78) C X0 d2_75 (host := "") (Or.inl (hw _ (List.mem_of_getElem? (i := 10) rfl))) Via.refl e0 S_w_UPRIGHT rfl (fun T17 X17 e17 => ?_)
                  exact g_retA C X17 rfl rfl rfl d2_78 (by decide) (by decide) ⟨congrArg (fun z => some (Value.ref z)) (F2_l8 p1 w_UPRIGHT w_MIRRORED w_UPSIDE_DOWN w_FLIPPED w_TRANSPOSED w_TURNED_ANTICLOCKWISE w_TRANSVERSED w_TURNED_CLOCKWISE c1 c3 c5 c7 c9 c11 c13 c15).symm, N0, e17⟩
theorem own_same (p : Int32) (w_UPRIGHT : Addr) (w_MIRRORED : Addr) (w_UPSIDE_DOWN : Addr) (w_FLIPPED : Addr) (w_TRANSPOSED : Addr) (w_TURNED_ANTICLOCKWISE : Addr) (w_TRANSVERSED : Addr) (w_TURNED_CLOCKWISE : Addr) : F1 p w_UPRIGHT w_MIRRORED w_UPSIDE_DOWN w_FLIPPED w_TRANSPOSED w_TURNED_ANTICLOCKWISE w_TRANSVERSED w_TURNED_CLOCKWISE = F2 p w_UPRIGHT w_MIRRORED w_UPSIDE_DOWN w_FLIPPED w_TRANSPOSED w_TURNED_ANTICLOCKWISE w_TRANSVERSED w_TURNED_CLOCKWISE := by
  unfold F1 F2
  by_cases a1 : p = (1 : Int32)
  · subst a1; simp
  by_cases a2 : p = (2 : Int32)
  · subst a2; simp
  by_cases a3 : p = (3 : Int32)
  · subst a3; simp
  by_cases a4 : p = (4 : Int32)
  · subst a4; simp
  by_cases a5 : p = (5 : Int32)
  · subst a5; simp
  by_cases a6 : p = (6 : Int32)
  · subst a6; simp
  by_cases a7 : p = (7 : Int32)
  · subst a7; simp
  by_cases a8 : p = (8 : Int32)
  · subst a8; simp
  simp only [a1, a2, a3, a4, a5, a6, a7, a8, if_false]
  simp
theorem pd_1 : parseMethodDescriptor "(I)Lcom/example/pictor/pictor/Orientation;" = some ⟨[.int], some (.object "com/example/pictor/pictor/Orientation")⟩ := by decide +kernel
theorem ef_0 (m : MethodId) (p1 : Int32) (p2 : Int32) : entryFrame m #[(.int p1), (.int p2)] maxLocals = mkF m 0 #[.val (.int p1), .val (.int p2), .unset, .unset, .unset] [] := by first | (simp [entryFrame, mkF, argsToLocals, Value.category, maxLocals]; done) | rfl
def Q_0 (Z : State) (p1 : Int32) (p2 : Int32) (w_UPRIGHT : Addr) (w_VALUES : Addr) (w_MIRRORED : Addr) (w_UPSIDE_DOWN : Addr) (w_FLIPPED : Addr) (w_TRANSPOSED : Addr) (w_TURNED_ANTICLOCKWISE : Addr) (w_TRANSVERSED : Addr) (w_TURNED_CLOCKWISE : Addr) (k_VALUES : ClassId) (h0 : Heap) (n0 : Nat) (v : Option Value) (h : Heap) (L : List Loc) : Prop := v = some (.int 1) ∧ Fr n0 L
set_option maxRecDepth 65536 in
set_option maxHeartbeats 40000000 in
theorem rm0 (l : Launch) (Z : State) (a0 : Array Value) (hw : ∀ d ∈ tables_1, d.before a0 Z = true) (ws : List Jvm.Cond) (p1 : Int32) (p2 : Int32) (w_UPRIGHT : Addr) (w_VALUES : Addr) (w_MIRRORED : Addr) (w_UPSIDE_DOWN : Addr) (w_FLIPPED : Addr) (w_TRANSPOSED : Addr) (w_TURNED_ANTICLOCKWISE : Addr) (w_TRANSVERSED : Addr) (w_TURNED_CLOCKWISE : Addr) (k_VALUES : ClassId) (h0 : Heap) (n0 : Nat) (Z0 : n0 ≤ h0.size) (hF : FX Z h0 w_UPRIGHT w_VALUES w_MIRRORED w_UPSIDE_DOWN w_FLIPPED w_TRANSPOSED w_TURNED_ANTICLOCKWISE w_TRANSVERSED w_TURNED_CLOCKWISE k_VALUES) :
    MetFree l x (head1 (Jvm.Cond.code x code maxLocals ret :: ws) room_1) (fun a U => a = #[(.int p1), (.int p2)] ∧ Z.Warmed39 U.vm ∧ U.heap = h0) (fun _ _ _ _ _ => True) (fun _ U o U' => ∃ v L, o = .returned v ∧ Q_0 Z p1 p2 w_UPRIGHT w_VALUES w_MIRRORED w_UPSIDE_DOWN w_FLIPPED w_TRANSPOSED w_TURNED_ANTICLOCKWISE w_TRANSVERSED w_TURNED_CLOCKWISE k_VALUES h0 n0 v U'.heap L ∧ FrameEnd U o U' L 4 32) := by
  refine met_of (Ls := #[.val (.int p1), .val (.int p2), .unset, .unset, .unset]) (plainFor_of_name (by first | (simp [plainName, overriddenIn]; done) | decide +kernel)) (fun m => ef_0 m p1 p2) ?_
  intro p e s m below meth c T0 C X0 e0
  obtain ⟨S_w_UPRIGHT, S_w_VALUES, S_w_MIRRORED, S_w_UPSIDE_DOWN, S_w_FLIPPED, S_w_TRANSPOSED, S_w_TURNED_ANTICLOCKWISE, S_w_TRANSVERSED, S_w_TURNED_CLOCKWISE, E_w_UPRIGHT, E_w_VALUES, E_w_MIRRORED, E_w_UPSIDE_DOWN, E_w_FLIPPED, E_w_TRANSPOSED, E_w_TURNED_ANTICLOCKWISE, E_w_TRANSVERSED, E_w_TURNED_CLOCKWISE, V_w_VALUES⟩ := id hF
  have N0 := Fr.nil n0
  refine g_iloadN (pc' := 1) C X0 at_0 rfl rfl ?_
  refine g_bipush (pc' := 3) (v := (15 : Int32)) C X0 at_1 rfl rfl ?_
  refine g_iand (pc' := 4) C X0 at_3 rfl ?_
  refine g_iconst (pc' := 5) (v := (4 : Int32)) C X0 at_4 rfl rfl ?_
  refine g_isub (pc' := 6) C X0 at_5 rfl ?_
  refine g_istoreN (pc' := 7) (Ls' := #[.val (.int p1), .val (.int p2), .val (.int ((p2 &&& (15 : Int32)) - (4 : Int32))), .unset, .unset]) C X0 at_6 rfl rfl ?_
  refine g_iloadN (pc' := 8) C X0 at_7 rfl rfl ?_
  refine g_callS (y := (⟨"com/example/pictor/pictor/Orientation", "ofTag", "(I)Lcom/example/pictor/pictor/Orientation;"⟩ : MethodName)) (argsL := [(.int p1)]) (st := []) (pc' := 11) C X0 at_8 (hw _ (List.mem_of_getElem? (i := 0) rfl)) (hw _ (List.mem_of_getElem? (i := 1) rfl)) (hw _ (List.mem_of_getElem? (i := 2) rfl)) (hw _ (List.mem_of_getElem? (i := 3) rfl)) (by decide) (rm1 l Z a0 hw [] p1 w_UPRIGHT w_VALUES w_MIRRORED w_UPSIDE_DOWN w_FLIPPED w_TRANSPOSED w_TURNED_ANTICLOCKWISE w_TRANSVERSED w_TURNED_CLOCKWISE k_VALUES h0 n0 Z0 hF) (W := 0) (by decide) (by decide) (ce := 2) (sl := 16) rfl rfl (by decide) (by decide) rfl e0 rfl pd_1 rfl (Nat.le_refl _) rfl (fun v1 T1 L1 X1 Q1 => ?_)
  obtain ⟨q1, Nq1, Kq1⟩ := Q1
  have N1 := Fr.app N0 Nq1
  have S_w_UPRIGHT_1 := own_sta_keep S_w_UPRIGHT Kq1 (fun _ q => nomatch q)
  have S_w_VALUES_1 := own_sta_keep S_w_VALUES Kq1 (fun _ q => nomatch q)
  have S_w_MIRRORED_1 := own_sta_keep S_w_MIRRORED Kq1 (fun _ q => nomatch q)
  have S_w_UPSIDE_DOWN_1 := own_sta_keep S_w_UPSIDE_DOWN Kq1 (fun _ q => nomatch q)
  have S_w_FLIPPED_1 := own_sta_keep S_w_FLIPPED Kq1 (fun _ q => nomatch q)
  have S_w_TRANSPOSED_1 := own_sta_keep S_w_TRANSPOSED Kq1 (fun _ q => nomatch q)
  have S_w_TURNED_ANTICLOCKWISE_1 := own_sta_keep S_w_TURNED_ANTICLOCKWISE Kq1 (fun _ q => nomatch q)
  have S_w_TRANSVERSED_1 := own_sta_keep S_w_TRANSVERSED Kq1 (fun _ q => nomatch q)
  have S_w_TURNED_CLOCKWISE_1 := own_sta_keep S_w_TURNED_CLOCKWISE Kq1 (fun _ q => nomatch q)
  have E_w_UPRIGHT_1 := E_w_UPRIGHT.keep Kq1
  have E_w_VALUES_1 := E_w_VALUES.keep Kq1
  have E_w_MIRRORED_1 := E_w_MIRRORED.keep Kq1
  have E_w_UPSIDE_DOWN_1 := E_w_UPSIDE_DOWN.keep Kq1
  have E_w_FLIPPED_1 := E_w_FLIPPED.keep Kq1
  have E_w_TRANSPOSED_1 := E_w_TRANSPOSED.keep Kq1
  have E_w_TURNED_ANTICLOCKWISE_1 := E_w_TURNED_ANTICLOCKWISE.keep Kq1
  have E_w_TRANSVERSED_1 := E_w_TRANSVERSED.keep Kq1
  have E_w_TURNED_CLOCKWISE_1 := E_w_TURNED_CLOCKWISE.keep Kq1
  have V_w_VALUES_1 := V_w_VALUES.keep Kq1 nin0
  have Z1 := Nat.le_trans Z0 Kq1.1
  subst q1
  show Go p.tables e below _ (T1.setTop (mkF m 11 #[.val (.int p1), .val (.int p2), .val (.int ((p2 &&& (15 : Int32)) - (4 : Int32))), .unset, .unset] [(.ref (F1 p1 w_UPRIGHT w_MIRRORED w_UPSIDE_DOWN w_FLIPPED w_TRANSPOSED w_TURNED_ANTICLOCKWISE w_TRANSVERSED w_TURNED_CLOCKWISE))]))
  refine g_astoreN (pc' := 12) (Ls' := #[.val (.int p1), .val (.int p2), .val (.int ((p2 &&& (15 : Int32)) - (4 : Int32))), .val (.ref (F1 p1 w_UPRIGHT w_MIRRORED w_UPSIDE_DOWN w_FLIPPED w_TRANSPOSED w_TURNED_ANTICLOCKWISE w_TRANSVERSED w_TURNED_CLOCKWISE)), .unset]) C X1 at_11 rfl rfl rfl ?_
  refine g_iloadN (pc' := 13) C X1 at_12 rfl rfl ?_
  refine g_callS (y := (⟨"com/example/pictor/pictor/Orientation", "ofTag", "(I)Lcom/example/pictor/pictor/Orientation;"⟩ : MethodName)) (argsL := [(.int ((p2 &&& (15 : Int32)) - (4 : Int32)))]) (st := []) (pc' := 16) C X1 at_13 (hw _ (List.mem_of_getElem? (i := 0) rfl)) (hw _ (List.mem_of_getElem? (i := 1) rfl)) (hw _ (List.mem_of_getElem? (i := 2) rfl)) (hw _ (List.mem_of_getElem? (i := 3) rfl)) (by decide) (rm1 l Z a0 hw [] ((p2 &&& (15 : Int32)) - (4 : Int32)) w_UPRIGHT w_VALUES w_MIRRORED w_UPSIDE_DOWN w_FLIPPED w_TRANSPOSED w_TURNED_ANTICLOCKWISE w_TRANSVERSED w_TURNED_CLOCKWISE k_VALUES T1.heap n0 Z1 ⟨S_w_UPRIGHT_1, S_w_VALUES_1, S_w_MIRRORED_1, S_w_UPSIDE_DOWN_1, S_w_FLIPPED_1, S_w_TRANSPOSED_1, S_w_TURNED_ANTICLOCKWISE_1, S_w_TRANSVERSED_1, S_w_TURNED_CLOCKWISE_1, E_w_UPRIGHT_1, E_w_VALUES_1, E_w_MIRRORED_1, E_w_UPSIDE_DOWN_1, E_w_FLIPPED_1, E_w_TRANSPOSED_1, E_w_TURNED_ANTICLOCKWISE_1, E_w_TRANSVERSED_1, E_w_TURNED_CLOCKWISE_1, V_w_VALUES_1⟩) (W := 0) (by decide) (by decide) (ce := 4) (sl := 32) rfl rfl (by decide) (by decide) rfl rfl rfl pd_1 rfl (Nat.le_refl _) rfl (fun v2 T2 L2 X2 Q2 => ?_)
  obtain ⟨q2, Nq2, Kq2⟩ := Q2
  have N2 := Fr.app N1 Nq2
  have S_w_UPRIGHT_2 := own_sta_keep S_w_UPRIGHT_1 Kq2 (fun _ q => nomatch q)
  have S_w_VALUES_2 := own_sta_keep S_w_VALUES_1 Kq2 (fun _ q => nomatch q)
  have S_w_MIRRORED_2 := own_sta_keep S_w_MIRRORED_1 Kq2 (fun _ q => nomatch q)
  have S_w_UPSIDE_DOWN_2 := own_sta_keep S_w_UPSIDE_DOWN_1 Kq2 (fun _ q => nomatch q)
  have S_w_FLIPPED_2 := own_sta_keep S_w_FLIPPED_1 Kq2 (fun _ q => nomatch q)
  have S_w_TRANSPOSED_2 := own_sta_keep S_w_TRANSPOSED_1 Kq2 (fun _ q => nomatch q)
  have S_w_TURNED_ANTICLOCKWISE_2 := own_sta_keep S_w_TURNED_ANTICLOCKWISE_1 Kq2 (fun _ q => nomatch q)
  have S_w_TRANSVERSED_2 := own_sta_keep S_w_TRANSVERSED_1 Kq2 (fun _ q => nomatch q)
  have S_w_TURNED_CLOCKWISE_2 := own_sta_keep S_w_TURNED_CLOCKWISE_1 Kq2 (fun _ q => nomatch q)
  have E_w_UPRIGHT_2 := E_w_UPRIGHT_1.keep Kq2
  have E_w_VALUES_2 := E_w_VALUES_1.keep Kq2
  have E_w_MIRRORED_2 := E_w_MIRRORED_1.keep Kq2
  have E_w_UPSIDE_DOWN_2 := E_w_UPSIDE_DOWN_1.keep Kq2
  have E_w_FLIPPED_2 := E_w_FLIPPED_1.keep Kq2
  have E_w_TRANSPOSED_2 := E_w_TRANSPOSED_1.keep Kq2
  have E_w_TURNED_ANTICLOCKWISE_2 := E_w_TURNED_ANTICLOCKWISE_1.keep Kq2
  have E_w_TRANSVERSED_2 := E_w_TRANSVERSED_1.keep Kq2
  have E_w_TURNED_CLOCKWISE_2 := E_w_TURNED_CLOCKWISE_1.keep Kq2
  have V_w_VALUES_2 := V_w_VALUES_1.keep Kq2 nin0
  have Z2 := Nat.le_trans Z1 Kq2.1
  subst q2
  show Go p.tables e below _ (T2.setTop (mkF m 16 #[.val (.int p1), .val (.int p2), .val (.int ((p2 &&& (15 : Int32)) - (4 : Int32))), .val (.ref (F1 p1 w_UPRIGHT w_MIRRORED w_UPSIDE_DOWN w_FLIPPED w_TRANSPOSED w_TURNED_ANTICLOCKWISE w_TRANSVERSED w_TURNED_CLOCKWISE)), .unset] [(.ref (F1 ((p2 &&& (15 : Int32)) - (4 : Int32)) w_UPRIGHT w_MIRRORED w_UPSIDE_DOWN w_FLIPPED w_TRANSPOSED w_TURNED_ANTICLOCKWISE w_TRANSVERSED w_TURNED_CLOCKWISE))]))
  refine g_astore (pc' := 18) (Ls' := #[.val (.int p1), .val (.int p2), .val (.int ((p2 &&& (15 : Int32)) - (4 : Int32))), .val (.ref (F1 p1 w_UPRIGHT w_MIRRORED w_UPSIDE_DOWN w_FLIPPED w_TRANSPOSED w_TURNED_ANTICLOCKWISE w_TRANSVERSED w_TURNED_CLOCKWISE)), .val (.ref (F1 ((p2 &&& (15 : Int32)) - (4 : Int32)) w_UPRIGHT w_MIRRORED w_UPSIDE_DOWN w_FLIPPED w_TRANSPOSED w_TURNED_ANTICLOCKWISE w_TRANSVERSED w_TURNED_CLOCKWISE))]) C X2 at_16 rfl rfl rfl ?_
  refine g_aloadN (pc' := 19) C X2 at_18 rfl rfl rfl ?_
  refine g_iloadN (pc' := 20) C X2 at_19 rfl rfl ?_
  refine g_callS (y := (⟨"com/example/pictor/pictor/OrientationOfTagPinLaw", "expected", "(I)Lcom/example/pictor/pictor/Orientation;"⟩ : MethodName)) (argsL := [(.int p1)]) (st := [(.ref (F1 p1 w_UPRIGHT w_MIRRORED w_UPSIDE_DOWN w_FLIPPED w_TRANSPOSED w_TURNED_ANTICLOCKWISE w_TRANSVERSED w_TURNED_CLOCKWISE))]) (pc' := 23) C X2 at_20 (hw _ (List.mem_of_getElem? (i := 6) rfl)) (hw _ (List.mem_of_getElem? (i := 7) rfl)) (hw _ (List.mem_of_getElem? (i := 8) rfl)) (hw _ (List.mem_of_getElem? (i := 9) rfl)) (by decide) (rm2 l Z a0 hw [] p1 w_UPRIGHT w_VALUES w_MIRRORED w_UPSIDE_DOWN w_FLIPPED w_TRANSPOSED w_TURNED_ANTICLOCKWISE w_TRANSVERSED w_TURNED_CLOCKWISE k_VALUES T2.heap n0 ⟨S_w_UPRIGHT_2, S_w_VALUES_2, S_w_MIRRORED_2, S_w_UPSIDE_DOWN_2, S_w_FLIPPED_2, S_w_TRANSPOSED_2, S_w_TURNED_ANTICLOCKWISE_2, S_w_TRANSVERSED_2, S_w_TURNED_CLOCKWISE_2, E_w_UPRIGHT_2, E_w_VALUES_2, E_w_MIRRORED_2, E_w_UPSIDE_DOWN_2, E_w_FLIPPED_2, E_w_TRANSPOSED_2, E_w_TURNED_ANTICLOCKWISE_2, E_w_TRANSVERSED_2, E_w_TURNED_CLOCKWISE_2, V_w_VALUES_2⟩) (W := 1) (by decide) (by decide) (ce := 4) (sl := 32) rfl rfl (by decide) (by decide) rfl rfl rfl pd_1 rfl (Nat.le_refl _) rfl (fun v3 T3 L3 X3 Q3 => ?_)
  obtain ⟨q3, Nq3, e3⟩ := Q3
  have N3 := Fr.app N2 Nq3
  subst q3
  show Go p.tables e below _ (T3.setTop (mkF m 23 #[.val (.int p1), .val (.int p2), .val (.int ((p2 &&& (15 : Int32)) - (4 : Int32))), .val (.ref (F1 p1 w_UPRIGHT w_MIRRORED w_UPSIDE_DOWN w_FLIPPED w_TRANSPOSED w_TURNED_ANTICLOCKWISE w_TRANSVERSED w_TURNED_CLOCKWISE)), .val (.ref (F1 ((p2 &&& (15 : Int32)) - (4 : Int32)) w_UPRIGHT w_MIRRORED w_UPSIDE_DOWN w_FLIPPED w_TRANSPOSED w_TURNED_ANTICLOCKWISE w_TRANSVERSED w_TURNED_CLOCKWISE))] [(.ref (F2 p1 w_UPRIGHT w_MIRRORED w_UPSIDE_DOWN w_FLIPPED w_TRANSPOSED w_TURNED_ANTICLOCKWISE w_TRANSVERSED w_TURNED_CLOCKWISE)), (.ref (F1 p1 w_UPRIGHT w_MIRRORED w_UPSIDE_DOWN w_FLIPPED w_TRANSPOSED w_TURNED_ANTICLOCKWISE w_TRANSVERSED w_TURNED_CLOCKWISE))]))
  refine g_acmp (pc' := 26) (same := true) C X3 at_23 rfl rfl (decide_eq_true (congrArg Value.ref (own_same p1 w_UPRIGHT w_MIRRORED w_UPSIDE_DOWN w_FLIPPED w_TRANSPOSED w_TURNED_ANTICLOCKWISE w_TRANSVERSED w_TURNED_CLOCKWISE))) (by decide) (by decide) ?_
  refine g_aload (pc' := 28) C X3 at_26 rfl rfl rfl ?_
  refine g_iloadN (pc' := 29) C X3 at_28 rfl rfl ?_
  refine g_callS (y := (⟨"com/example/pictor/pictor/OrientationOfTagPinLaw", "expected", "(I)Lcom/example/pictor/pictor/Orientation;"⟩ : MethodName)) (argsL := [(.int ((p2 &&& (15 : Int32)) - (4 : Int32)))]) (st := [(.ref (F1 ((p2 &&& (15 : Int32)) - (4 : Int32)) w_UPRIGHT w_MIRRORED w_UPSIDE_DOWN w_FLIPPED w_TRANSPOSED w_TURNED_ANTICLOCKWISE w_TRANSVERSED w_TURNED_CLOCKWISE))]) (pc' := 32) C X3 at_29 (hw _ (List.mem_of_getElem? (i := 6) rfl)) (hw _ (List.mem_of_getElem? (i := 7) rfl)) (hw _ (List.mem_of_getElem? (i := 8) rfl)) (hw _ (List.mem_of_getElem? (i := 9) rfl)) (by decide) (rm2 l Z a0 hw [] ((p2 &&& (15 : Int32)) - (4 : Int32)) w_UPRIGHT w_VALUES w_MIRRORED w_UPSIDE_DOWN w_FLIPPED w_TRANSPOSED w_TURNED_ANTICLOCKWISE w_TRANSVERSED w_TURNED_CLOCKWISE k_VALUES T2.heap n0 ⟨S_w_UPRIGHT_2, S_w_VALUES_2, S_w_MIRRORED_2, S_w_UPSIDE_DOWN_2, S_w_FLIPPED_2, S_w_TRANSPOSED_2, S_w_TURNED_ANTICLOCKWISE_2, S_w_TRANSVERSED_2, S_w_TURNED_CLOCKWISE_2, E_w_UPRIGHT_2, E_w_VALUES_2, E_w_MIRRORED_2, E_w_UPSIDE_DOWN_2, E_w_FLIPPED_2, E_w_TRANSPOSED_2, E_w_TURNED_ANTICLOCKWISE_2, E_w_TRANSVERSED_2, E_w_TURNED_CLOCKWISE_2, V_w_VALUES_2⟩) (W := 1) (by decide) (by decide) (ce := 4) (sl := 32) rfl rfl (by decide) (by decide) rfl e3 rfl pd_1 rfl (Nat.le_refl _) rfl (fun v4 T4 L4 X4 Q4 => ?_)
  obtain ⟨q4, Nq4, e4⟩ := Q4
  have N4 := Fr.app N3 Nq4
  subst q4
  show Go p.tables e below _ (T4.setTop (mkF m 32 #[.val (.int p1), .val (.int p2), .val (.int ((p2 &&& (15 : Int32)) - (4 : Int32))), .val (.ref (F1 p1 w_UPRIGHT w_MIRRORED w_UPSIDE_DOWN w_FLIPPED w_TRANSPOSED w_TURNED_ANTICLOCKWISE w_TRANSVERSED w_TURNED_CLOCKWISE)), .val (.ref (F1 ((p2 &&& (15 : Int32)) - (4 : Int32)) w_UPRIGHT w_MIRRORED w_UPSIDE_DOWN w_FLIPPED w_TRANSPOSED w_TURNED_ANTICLOCKWISE w_TRANSVERSED w_TURNED_CLOCKWISE))] [(.ref (F2 ((p2 &&& (15 : Int32)) - (4 : Int32)) w_UPRIGHT w_MIRRORED w_UPSIDE_DOWN w_FLIPPED w_TRANSPOSED w_TURNED_ANTICLOCKWISE w_TRANSVERSED w_TURNED_CLOCKWISE)), (.ref (F1 ((p2 &&& (15 : Int32)) - (4 : Int32)) w_UPRIGHT w_MIRRORED w_UPSIDE_DOWN w_FLIPPED w_TRANSPOSED w_TURNED_ANTICLOCKWISE w_TRANSVERSED w_TURNED_CLOCKWISE))]))
  refine g_acmp (pc' := 35) (same := true) C X4 at_32 rfl rfl (decide_eq_true (congrArg Value.ref (own_same ((p2 &&& (15 : Int32)) - (4 : Int32)) w_UPRIGHT w_MIRRORED w_UPSIDE_DOWN w_FLIPPED w_TRANSPOSED w_TURNED_ANTICLOCKWISE w_TRANSVERSED w_TURNED_CLOCKWISE))) (by decide) (by decide) ?_
  refine g_iconst (pc' := 36) (v := (1 : Int32)) C X4 at_35 rfl rfl ?_
  refine g_goto (pc' := 40) C X4 at_36 (by decide) (by decide) ?_
  exact g_retN C X4 (by simp) at_40 (by decide) (by decide) ⟨rfl, N4⟩
set_option maxRecDepth 65536 in
set_option maxHeartbeats 40000000 in
theorem comes_1 {Post : Tables → Env → Array Value → State → Outcome → State → Prop} (hpost : ∀ tb e args s v u, (limb_1_1.after args s (.returned v) u = true ∧ limb_1_2.after args s (.returned v) u = true ∧ True) → FrameEnd s (.returned v) u (Jvm.fieldLocs frame_1_writes args s ++ Jvm.arrayLocs frame_1_arrays args s ++ Jvm.staticLocs frame_1_statics s) 16 128 → Post tb e args s (.returned v) u) :
    ArmFor flags0 classFile x code maxLocals ret World_1 tables_1 room_1 Calls_1 rest_1 Pre_1 Post := by
  intro l hfl _ _ p e ha hc hk s m args below hf hA hF happ hP
  obtain ⟨hcalls, hrest, hpre⟩ := hP
  obtain ⟨-, -, -, hnamed, -, -, -, hat⟩ := (Spec.applies_iff hf).mp happ
  obtain ⟨hg, hnr⟩ := and_e (Cond.before_iff.mp (show (Jvm.Cond.and given_1 narrow_1).before args s = true from hpre))
  obtain ⟨gg1, gg2⟩ := and_e hg
  obtain ⟨gg3, gg4⟩ := and_e gg2
  obtain ⟨w0, w1, rfl⟩ : ∃ w0 w1 : Value, args = #[w0, w1] := by
    have hs : args.size = 2 := by simpa [Cond.value, given_1] using gg1
    obtain ⟨L⟩ := args
    match L, hs with
    | [w0, w1], _ => exact ⟨w0, w1, rfl⟩
  have hw := fun d (hd : d ∈ tables_1) => atoms_spec (ws := Jvm.Cond.code x code maxLocals ret :: tables_1) hat d (List.mem_cons_of_mem _ hd)
  have hfit : Fit s := fun {y c} hc i hi => by
    obtain ⟨ha, rfl⟩ := Array.getElem?_eq_some_iff.mp hc
    have q := List.all_eq_true.mp ((Array.all_eq_true_iff_forall_mem.mp hF) _ (Array.getElem_mem ha)) i (List.mem_range.mpr hi)
    simpa [Array.getElem?_eq_getElem hi] using q
  obtain ⟨i0, ei0⟩ := is_v gg3
  obtain rfl : w0 = (.int i0) := Option.some.inj ei0
  obtain ⟨i1, ei1⟩ := is_v gg4
  obtain rfl : w1 = (.int i1) := Option.some.inj ei1
  obtain ⟨hn0, hnr0⟩ := and_e hnr
  obtain ⟨hn1, hnr1⟩ := and_e hnr0
  obtain ⟨hn2, hnr2⟩ := and_e hnr1
  obtain ⟨hn3, hnr3⟩ := and_e hnr2
  obtain ⟨hn4, hnr4⟩ := and_e hnr3
  obtain ⟨hn5, hnr5⟩ := and_e hnr4
  obtain ⟨hn6, hnr6⟩ := and_e hnr5
  obtain ⟨hn7, hnr7⟩ := and_e hnr6
  obtain ⟨hn8, hnr8⟩ := and_e hnr7
  obtain ⟨hn9, hnr9⟩ := and_e hnr8
  obtain ⟨hn10, hnr10⟩ := and_e hnr9
  obtain ⟨hn11, hnr11⟩ := and_e hnr10
  obtain ⟨hn12, hnr12⟩ := and_e hnr11
  obtain ⟨hn13, hnr13⟩ := and_e hnr12
  obtain ⟨hn14, hnr14⟩ := and_e hnr13
  obtain ⟨hn15, hnr15⟩ := and_e hnr14
  obtain ⟨hn16, hnr16⟩ := and_e hnr15
  obtain ⟨hn17, hn18⟩ := and_e hnr16
  obtain ⟨w_UPRIGHT, ev_w_UPRIGHT⟩ := exa_v hn0
  have S_w_UPRIGHT := Sta.start ev_w_UPRIGHT (Or.inr ⟨(hw _ (List.mem_of_getElem? (i := 2) rfl)), (hw _ (List.mem_of_getElem? (i := 5) rfl))⟩)
  obtain ⟨w_VALUES, ev_w_VALUES⟩ := arr_v hn1
  have S_w_VALUES := Sta.start ev_w_VALUES (Or.inr ⟨(hw _ (List.mem_of_getElem? (i := 2) rfl)), (hw _ (List.mem_of_getElem? (i := 15) rfl))⟩)
  obtain ⟨w_MIRRORED, ev_w_MIRRORED⟩ := exa_v hn5
  have S_w_MIRRORED := Sta.start ev_w_MIRRORED (Or.inr ⟨(hw _ (List.mem_of_getElem? (i := 2) rfl)), (hw _ (List.mem_of_getElem? (i := 23) rfl))⟩)
  obtain ⟨w_UPSIDE_DOWN, ev_w_UPSIDE_DOWN⟩ := exa_v hn7
  have S_w_UPSIDE_DOWN := Sta.start ev_w_UPSIDE_DOWN (Or.inr ⟨(hw _ (List.mem_of_getElem? (i := 2) rfl)), (hw _ (List.mem_of_getElem? (i := 24) rfl))⟩)
  obtain ⟨w_FLIPPED, ev_w_FLIPPED⟩ := exa_v hn9
  have S_w_FLIPPED := Sta.start ev_w_FLIPPED (Or.inr ⟨(hw _ (List.mem_of_getElem? (i := 2) rfl)), (hw _ (List.mem_of_getElem? (i := 25) rfl))⟩)
  obtain ⟨w_TRANSPOSED, ev_w_TRANSPOSED⟩ := exa_v hn11
  have S_w_TRANSPOSED := Sta.start ev_w_TRANSPOSED (Or.inr ⟨(hw _ (List.mem_of_getElem? (i := 2) rfl)), (hw _ (List.mem_of_getElem? (i := 26) rfl))⟩)
  obtain ⟨w_TURNED_ANTICLOCKWISE, ev_w_TURNED_ANTICLOCKWISE⟩ := exa_v hn13
  have S_w_TURNED_ANTICLOCKWISE := Sta.start ev_w_TURNED_ANTICLOCKWISE (Or.inr ⟨(hw _ (List.mem_of_getElem? (i := 2) rfl)), (hw _ (List.mem_of_getElem? (i := 27) rfl))⟩)
  obtain ⟨w_TRANSVERSED, ev_w_TRANSVERSED⟩ := exa_v hn15
  have S_w_TRANSVERSED := Sta.start ev_w_TRANSVERSED (Or.inr ⟨(hw _ (List.mem_of_getElem? (i := 2) rfl)), (hw _ (List.mem_of_getElem? (i := 28) rfl))⟩)
  obtain ⟨w_TURNED_CLOCKWISE, ev_w_TURNED_CLOCKWISE⟩ := exa_v hn17
  have S_w_TURNED_CLOCKWISE := Sta.start ev_w_TURNED_CLOCKWISE (Or.inr ⟨(hw _ (List.mem_of_getElem? (i := 2) rfl)), (hw _ (List.mem_of_getElem? (i := 29) rfl))⟩)
  have E_w_UPRIGHT := Exa.start ev_w_UPRIGHT hn0
  obtain ⟨cl_w_VALUES, A_w_VALUES⟩ := Arr.start ev_w_VALUES hn1
  have E_w_VALUES := Exa.start ev_w_VALUES hn2
  have L_w_VALUES := own_len ev_w_VALUES A_w_VALUES (own_eqi hn3)
  have e0_w_VALUES := (elem_in (own_eqr hn4 ev_w_UPRIGHT) ev_w_VALUES (Term.int_eval 0) A_w_VALUES.1).2
  have E_w_MIRRORED := Exa.start ev_w_MIRRORED hn5
  have e1_w_VALUES := (elem_in (own_eqr hn6 ev_w_MIRRORED) ev_w_VALUES (Term.int_eval 1) A_w_VALUES.1).2
  have E_w_UPSIDE_DOWN := Exa.start ev_w_UPSIDE_DOWN hn7
  have e2_w_VALUES := (elem_in (own_eqr hn8 ev_w_UPSIDE_DOWN) ev_w_VALUES (Term.int_eval 2) A_w_VALUES.1).2
  have E_w_FLIPPED := Exa.start ev_w_FLIPPED hn9
  have e3_w_VALUES := (elem_in (own_eqr hn10 ev_w_FLIPPED) ev_w_VALUES (Term.int_eval 3) A_w_VALUES.1).2
  have E_w_TRANSPOSED := Exa.start ev_w_TRANSPOSED hn11
  have e4_w_VALUES := (elem_in (own_eqr hn12 ev_w_TRANSPOSED) ev_w_VALUES (Term.int_eval 4) A_w_VALUES.1).2
  have E_w_TURNED_ANTICLOCKWISE := Exa.start ev_w_TURNED_ANTICLOCKWISE hn13
  have e5_w_VALUES := (elem_in (own_eqr hn14 ev_w_TURNED_ANTICLOCKWISE) ev_w_VALUES (Term.int_eval 5) A_w_VALUES.1).2
  have E_w_TRANSVERSED := Exa.start ev_w_TRANSVERSED hn15
  have e6_w_VALUES := (elem_in (own_eqr hn16 ev_w_TRANSVERSED) ev_w_VALUES (Term.int_eval 6) A_w_VALUES.1).2
  have E_w_TURNED_CLOCKWISE := Exa.start ev_w_TURNED_CLOCKWISE hn17
  have e7_w_VALUES := (elem_in (own_eqr hn18 ev_w_TURNED_CLOCKWISE) ev_w_VALUES (Term.int_eval 7) A_w_VALUES.1).2
  obtain ⟨k_VALUES, V_w_VALUES⟩ : ∃ k, Arv s s.heap w_VALUES k (.object "com/example/pictor/pictor/Orientation") (8 : Int32) [(.ref w_UPRIGHT), (.ref w_MIRRORED), (.ref w_UPSIDE_DOWN), (.ref w_FLIPPED), (.ref w_TRANSPOSED), (.ref w_TURNED_ANTICLOCKWISE), (.ref w_TRANSVERSED), (.ref w_TURNED_CLOCKWISE)] .null := ⟨_, Arv.start hfit A_w_VALUES L_w_VALUES.1 L_w_VALUES.2 (by decide) rfl ⟨e0_w_VALUES, e1_w_VALUES, e2_w_VALUES, e3_w_VALUES, e4_w_VALUES, e5_w_VALUES, e6_w_VALUES, e7_w_VALUES, trivial⟩⟩
  have hFX : FX s s.heap w_UPRIGHT w_VALUES w_MIRRORED w_UPSIDE_DOWN w_FLIPPED w_TRANSPOSED w_TURNED_ANTICLOCKWISE w_TRANSVERSED w_TURNED_CLOCKWISE k_VALUES := ⟨S_w_UPRIGHT, S_w_VALUES, S_w_MIRRORED, S_w_UPSIDE_DOWN, S_w_FLIPPED, S_w_TRANSPOSED, S_w_TURNED_ANTICLOCKWISE, S_w_TRANSVERSED, S_w_TURNED_CLOCKWISE, E_w_UPRIGHT, E_w_VALUES, E_w_MIRRORED, E_w_UPSIDE_DOWN, E_w_FLIPPED, E_w_TRANSPOSED, E_w_TURNED_ANTICLOCKWISE, E_w_TRANSVERSED, E_w_TURNED_CLOCKWISE, V_w_VALUES⟩
  obtain ⟨n, o, h1, h2, h3, _, L, rfl, ⟨hv, N⟩, hq⟩ := rm0 l s _ hw tables_1 i0 i1 w_UPRIGHT w_VALUES w_MIRRORED w_UPSIDE_DOWN w_FLIPPED w_TRANSPOSED w_TURNED_ANTICLOCKWISE w_TRANSVERSED w_TURNED_CLOCKWISE k_VALUES s.heap s.heap.size (Nat.le_refl _) hFX p e ha hc hk s m _ below hf ((Spec.applies_iff_loose hf).mp happ).1 ⟨rfl, State.Warmed39.refl s, rfl⟩ trivial
  subst hv
  refine ⟨n, _, h1, h2, h3, hpost _ _ _ _ _ _ ⟨Cond.after_iff.mpr rfl, Cond.after_iff.mpr (eq_i res_at (Term.int_eval (1)) rfl), trivial⟩ ⟨hq.1, hq.2.1, (hq.2.2.sift fun y hy => Or.inr (N y hy)).mono (by decide) (by decide)⟩⟩
theorem main_1_1 : Claimed_1_1 := comes_1 fun _ _ _ _ _ _ h hF => ⟨h.1, hF⟩
theorem main_1_2 : Claimed_1_2 := comes_1 fun _ _ _ _ _ _ h hF => ⟨h.2.1, hF⟩
end Jvm.Pilot.@@N@@
namespace Jvm.Pilot.@@N@@
open Jvm Jvm.ClassFile Sem Op Lib Jvm.Free Jvm.Stand Jvm.Pilot.@@N@@.Jvm.D
/-! MADE BY PROGRAM (witnessworld.py) out of the Statement's table words and the real class files: 13 classes; the members and pool entries that the words name. The judged class is class 1, her method 2. -/
namespace start1
open Jvm.ClassFile
def u (s : String) : CpInfo := .utf8 (stringToUtf16 s)
/-- a pool by its gaps: so many unusable entries, then the entry; so many at the end -/
def gap : Nat → List CpInfo → List CpInfo
  | 0, r => r
  | n + 1, r => .unusable :: gap n r
def poolList (es : List (Nat × CpInfo)) (last : Nat) : List CpInfo := es.foldr (fun e r => gap e.1 (e.2 :: r)) (gap last [])
def pool (es : List (Nat × CpInfo)) (last : Nat) : Array CpInfo := ⟨poolList es last⟩
def fileOf (pool : Array CpInfo) (this : Nat) (attrs : Array Attribute := #[]) (ms : Array MethodInfo := #[]) (fl : Nat := 33) (sup : Nat := 0) (ifs : Array Nat := #[]) (fds : Array FieldInfo := #[]) : ClassFile where
  minorVersion := 0
  majorVersion := 65
  constantPool := pool
  accessFlags := fl
  thisClass := this
  superClass := sup
  interfaces := ifs
  fields := fds
  methods := ms
  attributes := attrs
def plain (name : String) (sup : Option ClassId) : Class where
  name := name
  kind := .ordinary
  loader := none
  accessFlags := 33
  super := sup
  interfaces := #[]
  cf := none
  fields := #[]
  methods := #[]
  instanceTypes := #[]
  staticTypes := #[]
  resolved := #[]
  callSites := []
  init := .initialized
  statics := none
  mirror := none

def pool0 : Array CpInfo := pool [(5, u "<init>"), (0, u "()V"), (1, .class_ 10), (1, u "java/lang/Object"), (85, u "clone"), (0, u "()Ljava/lang/Object;")] 26

def k0m0 : Method := { name := "<init>", desc := "()V", sig := { parameters := [], returnType := none }, accessFlags := 1, code := none }
def k0m1 : Method := { name := "clone", desc := "()Ljava/lang/Object;", sig := { parameters := [], returnType := some (.object "java/lang/Object") }, accessFlags := 260, code := none }
/-- java/lang/Object -/
def k0 : Class := { plain "java/lang/Object" none with
  accessFlags := 33
  interfaces := #[]
  cf := some (fileOf pool0 8 #[] #[{ accessFlags := 1, nameIndex := 5, descriptorIndex := 6, attributes := #[] }, { accessFlags := 260, nameIndex := 96, descriptorIndex := 97, attributes := #[] }] 33 0 #[] #[])
  fields := #[]
  methods := #[k0m0, k0m1]
  instanceTypes := #[]
  staticTypes := #[]
  resolved := Array.replicate 124 none
  statics := none }

def pool1 : Array CpInfo := pool [(2, .class_ 4), (1, u "java/lang/Object"), (0, u "<init>"), (0, u "()V"), (0, .fieldref 8 9), (0, .class_ 10), (0, .nameAndType 11 12), (0, u "com/example/pictor/pictor/Orientation"), (0, u "UPRIGHT"), (0, u "Lcom/example/pictor/pictor/Orientation;"), (0, .fieldref 8 14), (0, .nameAndType 15 12), (0, u "MIRRORED"), (0, .fieldref 8 17), (0, .nameAndType 18 12), (0, u "UPSIDE_DOWN"), (0, .fieldref 8 20), (0, .nameAndType 21 12), (0, u "FLIPPED"), (0, .fieldref 8 23), (0, .nameAndType 24 12), (0, u "TRANSPOSED"), (0, .fieldref 8 26), (0, .nameAndType 27 12), (0, u "TURNED_ANTICLOCKWISE"), (0, .fieldref 8 29), (0, .nameAndType 30 12), (0, u "TRANSVERSED"), (0, .fieldref 8 32), (0, .nameAndType 33 12), (0, u "TURNED_CLOCKWISE"), (0, .methodref 8 35), (0, .nameAndType 36 37), (0, u "ofTag"), (0, u "(I)Lcom/example/pictor/pictor/Orientation;"), (0, .methodref 39 40), (0, .class_ 41), (0, .nameAndType 42 37), (0, u "com/example/pictor/pictor/OrientationOfTagPinLaw"), (0, u "expected"), (3, u "law"), (0, u "(II)Z")] 2

def k1m0 : Method := { name := "<init>", desc := "()V", sig := { parameters := [], returnType := none }, accessFlags := 2, code := none }
def k1c1 : Code := { maxStack := 2, maxLocals := 1, code := method_2_code, exceptionTable := #[], attributes := #[] }
def k1m1 : Method := { name := "expected", desc := "(I)Lcom/example/pictor/pictor/Orientation;", sig := { parameters := [.int], returnType := some (.object "com/example/pictor/pictor/Orientation") }, accessFlags := 10, code := some k1c1 }
def k1c2 : Code := { maxStack := 2, maxLocals := 5, code := code, exceptionTable := #[], attributes := #[] }
def k1m2 : Method := { name := "law", desc := "(II)Z", sig := { parameters := [.int, .int], returnType := some .boolean }, accessFlags := 9, code := some k1c2 }
/-- com/example/pictor/pictor/OrientationOfTagPinLaw -/
def k1 : Class := { plain "com/example/pictor/pictor/OrientationOfTagPinLaw" (some 0) with
  accessFlags := 49
  interfaces := #[]
  cf := some (fileOf pool1 39 #[] #[{ accessFlags := 2, nameIndex := 5, descriptorIndex := 6, attributes := #[] }, { accessFlags := 10, nameIndex := 42, descriptorIndex := 37, attributes := #[] }, { accessFlags := 9, nameIndex := 46, descriptorIndex := 47, attributes := #[] }] 49 2 #[] #[])
  fields := #[]
  methods := #[k1m0, k1m1, k1m2]
  instanceTypes := #[]
  staticTypes := #[]
  resolved := Array.replicate 50 none
  statics := none }

def pool2 : Array CpInfo := pool [(1, .class_ 2), (0, u "java/lang/constant/Constable"), (0, .class_ 4), (0, u "java/lang/Object")] 6

/-- java/lang/constant/Constable -/
def k2 : Class := { plain "java/lang/constant/Constable" (some 0) with
  accessFlags := 1537
  interfaces := #[]
  cf := some (fileOf pool2 1 #[] #[] 1537 3 #[] #[])
  fields := #[]
  methods := #[]
  instanceTypes := #[]
  staticTypes := #[]
  resolved := Array.replicate 11 none
  statics := none }

def pool3 : Array CpInfo := pool [(1, .class_ 2), (0, u "java/lang/Comparable"), (0, .class_ 4), (0, u "java/lang/Object")] 7

/-- java/lang/Comparable -/
def k3 : Class := { plain "java/lang/Comparable" (some 0) with
  accessFlags := 1537
  interfaces := #[]
  cf := some (fileOf pool3 1 #[] #[] 1537 3 #[] #[])
  fields := #[]
  methods := #[]
  instanceTypes := #[]
  staticTypes := #[]
  resolved := Array.replicate 12 none
  statics := none }

def pool4 : Array CpInfo := pool [(1, .class_ 2), (0, u "java/io/Serializable"), (0, .class_ 4), (0, u "java/lang/Object")] 2

/-- java/io/Serializable -/
def k4 : Class := { plain "java/io/Serializable" (some 0) with
  accessFlags := 1537
  interfaces := #[]
  cf := some (fileOf pool4 1 #[] #[] 1537 3 #[] #[])
  fields := #[]
  methods := #[]
  instanceTypes := #[]
  staticTypes := #[]
  resolved := Array.replicate 7 none
  statics := none }

def pool5 : Array CpInfo := pool [(2, .class_ 4), (1, u "java/lang/Enum"), (0, u "name"), (0, u "Ljava/lang/String;"), (2, u "ordinal"), (0, u "I"), (1, .class_ 14), (1, u "java/lang/Object"), (4, u "hash"), (86, .class_ 108), (1, u "java/lang/Enum$EnumDesc"), (2, .class_ 112), (0, u "java/lang/constant/Constable"), (0, .class_ 114), (0, u "java/lang/Comparable"), (0, .class_ 116), (0, u "java/io/Serializable")] 87

/-- java/lang/Enum -/
def k5 : Class := { plain "java/lang/Enum" (some 0) with
  accessFlags := 1057
  interfaces := #[2, 3, 4]
  cf := some (fileOf pool5 2 #[.nestMembers #[106]] #[] 1057 12 #[111, 113, 115] #[{ accessFlags := 18, nameIndex := 5, descriptorIndex := 6, attributes := #[] }, { accessFlags := 18, nameIndex := 9, descriptorIndex := 10, attributes := #[] }, { accessFlags := 2, nameIndex := 19, descriptorIndex := 10, attributes := #[] }])
  fields := #[{ name := "name", type := (.object "java/lang/String"), accessFlags := 18, slot := 0, constantValue := 0 }, { name := "ordinal", type := .int, accessFlags := 18, slot := 1, constantValue := 0 }, { name := "hash", type := .int, accessFlags := 2, slot := 2, constantValue := 0 }]
  methods := #[]
  instanceTypes := #[(.object "java/lang/String"), .int, .int]
  staticTypes := #[]
  resolved := Array.replicate 204 none
  statics := none }

def pool6 : Array CpInfo := pool [(1, .class_ 2), (0, u "com/example/pictor/pictor/Orientation"), (0, .fieldref 1 4), (0, .nameAndType 5 6), (0, u "UPRIGHT"), (0, u "Lcom/example/pictor/pictor/Orientation;"), (2, u "MIRRORED"), (2, u "UPSIDE_DOWN"), (2, u "FLIPPED"), (2, u "TRANSPOSED"), (2, u "TURNED_ANTICLOCKWISE"), (2, u "TRANSVERSED"), (2, u "TURNED_CLOCKWISE"), (0, .fieldref 1 29), (0, .nameAndType 30 31), (0, u "$VALUES"), (0, u "[Lcom/example/pictor/pictor/Orientation;"), (0, .methodref 33 34), (0, .class_ 31), (0, .nameAndType 35 36), (0, u "clone"), (0, u "()Ljava/lang/Object;"), (1, .class_ 40), (1, u "java/lang/Enum"), (8, u "rowsBecomeColumns"), (0, u "Z"), (2, u "rowsRunBackwards"), (2, u "lastRowFirst"), (0, .methodref 1 58), (0, .nameAndType 59 60), (0, u "values"), (0, u "()[Lcom/example/pictor/pictor/Orientation;"), (80, u "ofTag"), (0, u "(I)Lcom/example/pictor/pictor/Orientation;")] 10

def k6c0 : Code := { maxStack := 1, maxLocals := 0, code := prog_35_method_1_code, exceptionTable := #[], attributes := #[] }
def k6m0 : Method := { name := "values", desc := "()[Lcom/example/pictor/pictor/Orientation;", sig := { parameters := [], returnType := some (.array (.object "com/example/pictor/pictor/Orientation")) }, accessFlags := 9, code := some k6c0 }
def k6c1 : Code := { maxStack := 3, maxLocals := 1, code := prog_35_method_4_code, exceptionTable := #[], attributes := #[] }
def k6m1 : Method := { name := "ofTag", desc := "(I)Lcom/example/pictor/pictor/Orientation;", sig := { parameters := [.int], returnType := some (.object "com/example/pictor/pictor/Orientation") }, accessFlags := 8, code := some k6c1 }
/-- com/example/pictor/pictor/Orientation -/
def k6 : Class := { plain "com/example/pictor/pictor/Orientation" (some 5) with
  accessFlags := 16432
  interfaces := #[]
  cf := some (fileOf pool6 1 #[] #[{ accessFlags := 9, nameIndex := 59, descriptorIndex := 60, attributes := #[] }, { accessFlags := 8, nameIndex := 141, descriptorIndex := 142, attributes := #[] }] 16432 38 #[] #[{ accessFlags := 16409, nameIndex := 5, descriptorIndex := 6, attributes := #[] }, { accessFlags := 16409, nameIndex := 9, descriptorIndex := 6, attributes := #[] }, { accessFlags := 16409, nameIndex := 12, descriptorIndex := 6, attributes := #[] }, { accessFlags := 16409, nameIndex := 15, descriptorIndex := 6, attributes := #[] }, { accessFlags := 16409, nameIndex := 18, descriptorIndex := 6, attributes := #[] }, { accessFlags := 16409, nameIndex := 21, descriptorIndex := 6, attributes := #[] }, { accessFlags := 16409, nameIndex := 24, descriptorIndex := 6, attributes := #[] }, { accessFlags := 16409, nameIndex := 27, descriptorIndex := 6, attributes := #[] }, { accessFlags := 18, nameIndex := 49, descriptorIndex := 50, attributes := #[] }, { accessFlags := 18, nameIndex := 53, descriptorIndex := 50, attributes := #[] }, { accessFlags := 18, nameIndex := 56, descriptorIndex := 50, attributes := #[] }, { accessFlags := 4122, nameIndex := 30, descriptorIndex := 31, attributes := #[] }])
  fields := #[{ name := "UPRIGHT", type := (.object "com/example/pictor/pictor/Orientation"), accessFlags := 16409, slot := 0, constantValue := 0 }, { name := "MIRRORED", type := (.object "com/example/pictor/pictor/Orientation"), accessFlags := 16409, slot := 1, constantValue := 0 }, { name := "UPSIDE_DOWN", type := (.object "com/example/pictor/pictor/Orientation"), accessFlags := 16409, slot := 2, constantValue := 0 }, { name := "FLIPPED", type := (.object "com/example/pictor/pictor/Orientation"), accessFlags := 16409, slot := 3, constantValue := 0 }, { name := "TRANSPOSED", type := (.object "com/example/pictor/pictor/Orientation"), accessFlags := 16409, slot := 4, constantValue := 0 }, { name := "TURNED_ANTICLOCKWISE", type := (.object "com/example/pictor/pictor/Orientation"), accessFlags := 16409, slot := 5, constantValue := 0 }, { name := "TRANSVERSED", type := (.object "com/example/pictor/pictor/Orientation"), accessFlags := 16409, slot := 6, constantValue := 0 }, { name := "TURNED_CLOCKWISE", type := (.object "com/example/pictor/pictor/Orientation"), accessFlags := 16409, slot := 7, constantValue := 0 }, { name := "rowsBecomeColumns", type := .boolean, accessFlags := 18, slot := 3, constantValue := 0 }, { name := "rowsRunBackwards", type := .boolean, accessFlags := 18, slot := 4, constantValue := 0 }, { name := "lastRowFirst", type := .boolean, accessFlags := 18, slot := 5, constantValue := 0 }, { name := "$VALUES", type := (.array (.object "com/example/pictor/pictor/Orientation")), accessFlags := 4122, slot := 8, constantValue := 0 }]
  methods := #[k6m0, k6m1]
  instanceTypes := #[(.object "java/lang/String"), .int, .int, .boolean, .boolean, .boolean]
  staticTypes := #[(.object "com/example/pictor/pictor/Orientation"), (.object "com/example/pictor/pictor/Orientation"), (.object "com/example/pictor/pictor/Orientation"), (.object "com/example/pictor/pictor/Orientation"), (.object "com/example/pictor/pictor/Orientation"), (.object "com/example/pictor/pictor/Orientation"), (.object "com/example/pictor/pictor/Orientation"), (.object "com/example/pictor/pictor/Orientation"), (.array (.object "com/example/pictor/pictor/Orientation"))]
  resolved := Array.replicate 153 none
  statics := some 0 }

def pool7 : Array CpInfo := pool [(1, .class_ 2), (0, u "java/lang/Cloneable"), (0, .class_ 4), (0, u "java/lang/Object")] 2

/-- java/lang/Cloneable -/
def k7 : Class := { plain "java/lang/Cloneable" (some 0) with
  accessFlags := 1537
  interfaces := #[]
  cf := some (fileOf pool7 1 #[] #[] 1537 3 #[] #[])
  fields := #[]
  methods := #[]
  instanceTypes := #[]
  staticTypes := #[]
  resolved := Array.replicate 7 none
  statics := none }

/-- the primitive byte -/
def k8 : Class := { plain "byte" none with kind := .primitive 'B', accessFlags := 0x411 }
/-- [B -/
def k9 : Class := { plain "[B" (some 0) with kind := .array 8 .byte, interfaces := #[7, 4], accessFlags := 1041 }

/-- the primitive int -/
def k10 : Class := { plain "int" none with kind := .primitive 'I', accessFlags := 0x411 }
/-- [I -/
def k11 : Class := { plain "[I" (some 0) with kind := .array 10 .int, interfaces := #[7, 4], accessFlags := 1041 }

/-- [Lcom/example/pictor/pictor/Orientation; -/
def k12 : Class := { plain "[Lcom/example/pictor/pictor/Orientation;" (some 0) with kind := .array 6 (.object "com/example/pictor/pictor/Orientation"), interfaces := #[7, 4], accessFlags := 1041 }

def heap : Heap := #[{ cls := 6, slots := #[.ref 2, .ref 3, .ref 4, .ref 5, .ref 6, .ref 7, .ref 8, .ref 9, .ref 1], vm := .statics 6 },
  { cls := 12, slots := #[.ref 2, .ref 3, .ref 4, .ref 5, .ref 6, .ref 7, .ref 8, .ref 9], vm := .none },
  { cls := 6, slots := #[.null, .int 0, .int 0, .int 0, .int 0, .int 0], vm := .none },
  { cls := 6, slots := #[.null, .int 0, .int 0, .int 0, .int 0, .int 0], vm := .none },
  { cls := 6, slots := #[.null, .int 0, .int 0, .int 0, .int 0, .int 0], vm := .none },
  { cls := 6, slots := #[.null, .int 0, .int 0, .int 0, .int 0, .int 0], vm := .none },
  { cls := 6, slots := #[.null, .int 0, .int 0, .int 0, .int 0, .int 0], vm := .none },
  { cls := 6, slots := #[.null, .int 0, .int 0, .int 0, .int 0, .int 0], vm := .none },
  { cls := 6, slots := #[.null, .int 0, .int 0, .int 0, .int 0, .int 0], vm := .none },
  { cls := 6, slots := #[.null, .int 0, .int 0, .int 0, .int 0, .int 0], vm := .none }]
def classes : Array Class := #[k0, k1, k2, k3, k4, k5, k6, k7, k8, k9, k10, k11, k12]
def interned : List (Array UInt16 × Addr) := []
def slotsUsed : Nat := 65
def theMethod : MethodId := ⟨1, 2⟩
def args0 : Array Value := #[.int 5, .int 5]
def aboutOver (below : List Frame) : State where
  vm := { classes := classes, interned := interned.toArray }
  heap := heap
  slotsUsed := slotsUsed
  threads := #[{ frames := .invoking theMethod args0 :: below }]
def below0 : List Frame := [.native { method := ⟨0, 0⟩, args := #[] }]
def about1 : State := aboutOver below0
def p0 : Program := .bare "" "" ""
def e0 : Env := launch0.env 0 0 0
theorem w_frames : about1.frames = Frame.invoking theMethod args0 :: below0 := rfl
set_option maxRecDepth 65536 in
theorem w_args : argsFit about1.vm theMethod args0 = true := by decide +kernel
set_option maxRecDepth 65536 in
theorem w_heap : heapFits about1 = true := by decide +kernel
set_option maxRecDepth 65536 in
theorem w_runnable : about1.curStatus? = some .runnable := by decide +kernel
set_option maxRecDepth 65536 in
theorem w_alone : about1.alone = true := by decide +kernel
set_option maxRecDepth 65536 in
theorem w_named : about1.methodNamed? x = some theMethod := by decide +kernel
set_option maxRecDepth 65536 in
theorem w_hears : about1.hears theMethod below0 = true := by decide +kernel
set_option maxRecDepth 65536 in
theorem w_ripe : about1.ripe theMethod args0 below0 = true := by decide +kernel
theorem w_running : about1.status = .running := rfl
set_option maxRecDepth 65536 in
theorem w_room : about1.hasRoom e0.platform room_1 = true :=
  launch0.hasRoom_least _ room_1 (by decide +kernel) (by decide +kernel) (by decide +kernel) (by decide +kernel) (by decide +kernel) (by decide +kernel)
theorem allAtoms_all (ts : List Jvm.Cond) (a : Array Jvm.Value) (st : Jvm.State) : (allAtoms ts).before a st = ts.all (fun c => c.before a st) := by
  induction ts with
  | nil => rfl
  | cons c t ih =>
    show (Jvm.Cond.and c (allAtoms t)).before a st = _
    rw [Jvm.Cond.before_and, ih, List.all_cons]
def words1 : List Jvm.Cond := Jvm.Cond.code x code maxLocals ret :: tables_1
/-- a 'code' word, met by the world's own term for the bytes: nothing is compared byte by byte -/
theorem code_word {y : MethodName} {bytes : ByteArray} {mx : Nat} {rt : Option FieldType} {a : Array Value} {s : State} {m : MethodId} {meth : Method} {c : Code} (h1 : s.methodNamed? y = some m) (h2 : s.vm.method? m = some meth) (h3 : meth.code = some c) (h4 : c.code = bytes)
    (h5 : (c.maxLocals == mx && c.exceptionTable.isEmpty && decide (c.maxStack ≤ mostOperands) && decide (meth.sig.returnType = rt) && !meth.locks && decide (parseMethodDescriptor y.desc = some meth.sig)) = true) : (Jvm.Cond.code y bytes mx rt).before a s = true := by
  simp only [Bool.and_eq_true, beq_iff_eq, Bool.not_eq_true', decide_eq_true_eq] at h5
  obtain ⟨⟨⟨⟨⟨g1, g2⟩, g3⟩, g4⟩, g5⟩, g6⟩ := h5
  simp [Cond.before, Cond.holds, Cond.value, h1, h2, h3, h4, g1, g2, g3, g4, g5, g6]
def isCode : Jvm.Cond → Bool
  | .code _ _ _ _ => true
  | _ => false
theorem all_split {L : List Jvm.Cond} {P : Jvm.Cond → Bool} (h1 : L.all (fun c => isCode c || P c) = true) (h2 : ∀ c ∈ L.filter isCode, P c = true) : L.all P = true := by
  refine List.all_eq_true.mpr fun c hc => ?_
  have h := List.all_eq_true.mp h1 c hc
  rcases Bool.eq_false_or_eq_true (isCode c) with hi | hi
  · exact h2 c (List.mem_filter.mpr ⟨hc, hi⟩)
  · simpa [hi] using h
set_option maxRecDepth 65536 in
theorem w_c0 : (Jvm.Cond.code x code maxLocals ret).before args0 about1 = true := code_word (m := ⟨1, 2⟩) (meth := k1m2) (c := k1c2) (by decide +kernel) rfl rfl rfl (by decide +kernel)
set_option maxRecDepth 65536 in
theorem w_c1 : (Jvm.Cond.code ({ cls := "com/example/pictor/pictor/Orientation", name := "ofTag", desc := "(I)Lcom/example/pictor/pictor/Orientation;" } : Jvm.MethodName) prog_35_method_4_code (1 : Nat) (Option.some (Jvm.ClassFile.FieldType.object "com/example/pictor/pictor/Orientation"))).before args0 about1 = true := code_word (m := ⟨6, 1⟩) (meth := k6m1) (c := k6c1) (by decide +kernel) rfl rfl rfl (by decide +kernel)
set_option maxRecDepth 65536 in
theorem w_c2 : (Jvm.Cond.code ({ cls := "com/example/pictor/pictor/OrientationOfTagPinLaw", name := "expected", desc := "(I)Lcom/example/pictor/pictor/Orientation;" } : Jvm.MethodName) method_2_code (1 : Nat) (Option.some (Jvm.ClassFile.FieldType.object "com/example/pictor/pictor/Orientation"))).before args0 about1 = true := code_word (m := ⟨1, 1⟩) (meth := k1m1) (c := k1c1) (by decide +kernel) rfl rfl rfl (by decide +kernel)
set_option maxRecDepth 65536 in
theorem w_c3 : (Jvm.Cond.code ({ cls := "com/example/pictor/pictor/Orientation", name := "values", desc := "()[Lcom/example/pictor/pictor/Orientation;" } : Jvm.MethodName) prog_35_method_1_code (0 : Nat) (Option.some (Jvm.ClassFile.FieldType.array (Jvm.ClassFile.FieldType.object "com/example/pictor/pictor/Orientation")))).before args0 about1 = true := code_word (m := ⟨6, 0⟩) (meth := k6m0) (c := k6c0) (by decide +kernel) rfl rfl rfl (by decide +kernel)
def codes1 : List Jvm.Cond := [Jvm.Cond.code x code maxLocals ret, Jvm.Cond.code ({ cls := "com/example/pictor/pictor/Orientation", name := "ofTag", desc := "(I)Lcom/example/pictor/pictor/Orientation;" } : Jvm.MethodName) prog_35_method_4_code (1 : Nat) (Option.some (Jvm.ClassFile.FieldType.object "com/example/pictor/pictor/Orientation")), Jvm.Cond.code ({ cls := "com/example/pictor/pictor/OrientationOfTagPinLaw", name := "expected", desc := "(I)Lcom/example/pictor/pictor/Orientation;" } : Jvm.MethodName) method_2_code (1 : Nat) (Option.some (Jvm.ClassFile.FieldType.object "com/example/pictor/pictor/Orientation")), Jvm.Cond.code ({ cls := "com/example/pictor/pictor/Orientation", name := "values", desc := "()[Lcom/example/pictor/pictor/Orientation;" } : Jvm.MethodName) prog_35_method_1_code (0 : Nat) (Option.some (Jvm.ClassFile.FieldType.array (Jvm.ClassFile.FieldType.object "com/example/pictor/pictor/Orientation")))]
set_option maxRecDepth 65536 in
theorem codes_eq : words1.filter isCode = codes1 := rfl
theorem w_codes : ∀ c ∈ words1.filter isCode, c.before args0 about1 = true := by
  rw [codes_eq]
  intro c hc
  simp only [codes1, List.mem_cons, List.not_mem_nil, or_false] at hc
  rcases hc with rfl | rfl | rfl | rfl
  · exact w_c0
  · exact w_c1
  · exact w_c2
  · exact w_c3
set_option maxRecDepth 65536 in
theorem w_t1 : (words1.take 24).all (fun c => isCode c || c.before args0 about1) = true := by decide +kernel
set_option maxRecDepth 65536 in
theorem w_t2 : (words1.drop 24).all (fun c => isCode c || c.before args0 about1) = true := by decide +kernel
theorem w_tables : (allAtoms (Jvm.Cond.code x code maxLocals ret :: tables_1)).before args0 about1 = true := by
  rw [allAtoms_all]
  show words1.all (fun c => c.before args0 about1) = true
  refine all_split ?_ w_codes
  rw [← List.take_append_drop 24 words1, List.all_append, w_t1, w_t2]
  rfl
set_option maxRecDepth 65536 in
theorem w_case : (Jvm.Cond.and given_1 narrow_1).before args0 about1 = true := by decide +kernel
theorem w_applies : (headSpec (Jvm.Cond.code x code maxLocals ret :: tables_1) room_1).applies x e0.platform about1 = true :=
  (Spec.applies_iff w_frames).mpr ⟨w_running, w_runnable, w_alone, w_named, w_hears, w_ripe, w_room, w_tables⟩
theorem atStart : AtStart classFile x code maxLocals ret World_1 tables_1 room_1 Calls_1 rest_1 Pre_1 launch0 p0 e0 about1 theMethod args0 below0 :=
  ⟨lists_1, trivial, launch0.admits_env _ _ _, launch0.least_env, fairChoices_fair.cas, fairChoices_fair.clock, w_frames, w_args, w_heap, w_applies, trivial, trivial, w_case⟩
end start1
theorem witness_1 : WitnessClaimed_1 := ⟨start1.p0, start1.e0, start1.about1, start1.theMethod, start1.args0, start1.below0, start1.atStart⟩
end Jvm.Pilot.@@N@@
