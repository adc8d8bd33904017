import JvmDerived
import JvmDerived.Pilot.@@N@@Statement
import JvmDerived.Pilot.@@N@@Code
set_option linter.unusedVariables false
set_option linter.unusedSimpArgs false
namespace Jvm.Pilot.@@N@@
open Jvm Jvm.ClassFile Sem Op Lib Jvm.Free Jvm.Stand Jvm.LawKit Jvm.RoadKit Bundle Jvm.Pilot.@@N@@.Jvm.D
section OwnKit
variable {p : Program} {l : Launch} {e : Env} {R : Room} {s : State} {m : MethodId} {args : Array Value} {below : List Frame} {meth : Method} {c : Code} {T : State} {locs : List Loc} {cells slots : Nat} {Z : State} {a0 : Array Value} {h : Heap} {bs : ByteArray} {own mnm : String} {mx : Nat} {rt : Option FieldType} {G : Outcome → State → Prop} {pc pc' : Nat} {Ls Ls' : Array Slot} {st : List Value}
/-- from T the run comes to an end of which G holds -/
def Go (tb : Tables) (e : Env) (below : List Frame) (G : Outcome → State → Prop) (T : State) : Prop := ∃ s₂ o, Steps tb e below T s₂ ∧ s₂.status = .running ∧ Ended s₂ below o ∧ G o s₂
theorem Go.step {tb : Tables} {T T' : State} (g : Go tb e below G T') (h : ∀ t, Steps tb e below T' t → Steps tb e below T t) : Go tb e below G T := by
  obtain ⟨s₂, o, h1, h2⟩ := g
  exact ⟨s₂, o, h _ h1, h2⟩
/-- what a walk knows of its own body -/
def Cx (p : Program) (s : State) (m : MethodId) (meth : Method) (c : Code) (bs : ByteArray) (mx : Nat) (own mnm : String) (rt : Option FieldType) (Z : State) : Prop :=
  p.tables.exec = Jvm.exec ∧ c.code = bs ∧ c.maxLocals = mx ∧ s.vm.findClass own = some m.cls ∧ meth.name = mnm ∧ meth.sig.returnType = rt ∧ meth.locks = false ∧ Z.Warmed39 s.vm
theorem Cx.hown (C : Cx p s m meth c bs mx own mnm rt Z) : s.vm.findClass own = some m.cls := C.2.2.2.1
theorem Cx.nm (C : Cx p s m meth c bs mx own mnm rt Z) : meth.name = mnm := C.2.2.2.2.1
theorem Cx.ret (C : Cx p s m meth c bs mx own mnm rt Z) : meth.sig.returnType = rt := C.2.2.2.2.2.1
theorem Cx.locks (C : Cx p s m meth c bs mx own mnm rt Z) : meth.locks = false := C.2.2.2.2.2.2.1
theorem Cx.hZ (C : Cx p s m meth c bs mx own mnm rt Z) : Z.Warmed39 s.vm := C.2.2.2.2.2.2.2
/-- the end: returned, Q of the value, the heap and the places written; the frame -/
def End (s : State) (Q : Option Value → Heap → List Loc → Prop) (ce sl : Nat) (o : Outcome) (U' : State) : Prop := ∃ v L, o = .returned v ∧ Q v U'.heap L ∧ FrameEnd s o U' L ce sl
theorem met_of {y : MethodName} {ws : List Jvm.Cond} {rm : Room} {as' : Array Value} {Q : Option Value → Heap → List Loc → Prop} {ce sl : Nat} (hpn : plainFor y = true) (hef : ∀ m, entryFrame m as' mx = mkF m 0 Ls [])
    (hbody : ∀ (p : Program) (e : Env) (s : State) (m : MethodId) (below : List Frame) (meth : Method) (c : Code) (T : State), Cx p s m meth c bs mx y.cls y.name rt Z → Stand p l e rm s m as' below meth c T [] 0 0 → T.heap = h → Go p.tables e below (End s Q ce sl) (T.setTop (mkF m 0 Ls []))) :
    MetFree l y (head1 (Jvm.Cond.code y bs mx rt :: ws) rm) (fun a U => a = as' ∧ Z.Warmed39 U.vm ∧ U.heap = h) (fun _ _ _ _ _ => True) (fun _ U o U' => ∃ v L, o = .returned v ∧ Q v U'.heap L ∧ FrameEnd U o U' L ce sl) := by
  refine MetFree.of_bodySF hpn hisR ?_
  intro p e s m args below meth c s₁ Bd hml0 hP hK
  obtain ⟨rfl, hZ, hh⟩ := hP
  have X0 : Stand p l e rm s m _ below meth c s₁ [] 0 0 := Stand.of_body Bd
  have e0 : s₁.heap = h := by rw [← hh, Bd.state]; rfl
  obtain ⟨s₂, o, h1, h2, h3, h4⟩ := hbody p e s m below meth c s₁ ⟨Bd.exec, Bd.bytes, hml0, findClass_of_methodNamed Bd.named, (name_of_methodNamed Bd.named Bd.method).1, Bd.returns, Bd.notSynchronized, hZ⟩ X0 e0
  exact ⟨s₂, o, castTop (hef m) h1, h2, h3, h4⟩

theorem g_iloadN (C : Cx p s m meth c bs mx own mnm rt Z) (X : Stand p l e R s m args below meth c T locs cells slots) {k : Fin 4} {v : Int32} (hd : decode bs pc = .ok (.iload_n k, 1)) (hl : Ls[k.val]? = some (.val (.int v))) (hn : pc + 1 = pc')
    (hr : Go p.tables e below G (T.setTop (mkF m pc' Ls (.int v :: st)))) : Go p.tables e below G (T.setTop (mkF m pc Ls st)) := by
  subst hn; exact hr.step fun t k => XS.iloadN X.here C.1 rfl (hb C.2.1 hd) hl k
theorem g_iload (C : Cx p s m meth c bs mx own mnm rt Z) (X : Stand p l e R s m args below meth c T locs cells slots) {k : Nat} {v : Int32} (hd : decode bs pc = .ok (.iload k, 2)) (hl : Ls[k]? = some (.val (.int v))) (hn : pc + 2 = pc')
    (hr : Go p.tables e below G (T.setTop (mkF m pc' Ls (.int v :: st)))) : Go p.tables e below G (T.setTop (mkF m pc Ls st)) := by
  subst hn; exact hr.step fun t k => XS.iload X.here C.1 rfl (hb C.2.1 hd) hl k
theorem g_istoreN (C : Cx p s m meth c bs mx own mnm rt Z) (X : Stand p l e R s m args below meth c T locs cells slots) {k : Fin 4} {v : Int32} (hd : decode bs pc = .ok (.istore_n k, 1)) (hl : storeLocals Ls k.val (.int v) = some Ls') (hn : pc + 1 = pc')
    (hr : Go p.tables e below G (T.setTop (mkF m pc' Ls' st))) : Go p.tables e below G (T.setTop (mkF m pc Ls (.int v :: st))) := by
  subst hn; exact hr.step fun t k => XS.istoreN X.here C.1 rfl (hb C.2.1 hd) rfl hl k
theorem g_istore (C : Cx p s m meth c bs mx own mnm rt Z) (X : Stand p l e R s m args below meth c T locs cells slots) {k : Nat} {v : Int32} (hd : decode bs pc = .ok (.istore k, 2)) (hl : storeLocals Ls k (.int v) = some Ls') (hn : pc + 2 = pc')
    (hr : Go p.tables e below G (T.setTop (mkF m pc' Ls' st))) : Go p.tables e below G (T.setTop (mkF m pc Ls (.int v :: st))) := by
  subst hn; exact hr.step fun t k => XS.istore X.here C.1 rfl (hb C.2.1 hd) rfl hl k
theorem g_iconst (C : Cx p s m meth c bs mx own mnm rt Z) (X : Stand p l e R s m args below meth c T locs cells slots) {i : Int} {v : Int32} (hd : decode bs pc = .ok (.iconst i, 1)) (hv : Int32.ofInt i = v) (hn : pc + 1 = pc')
    (hr : Go p.tables e below G (T.setTop (mkF m pc' Ls (.int v :: st)))) : Go p.tables e below G (T.setTop (mkF m pc Ls st)) := by
  subst hn; exact hr.step fun t k => XS.iconst X.here C.1 rfl (hb C.2.1 hd) (by rw [hv]; exact k)
theorem g_bipush (C : Cx p s m meth c bs mx own mnm rt Z) (X : Stand p l e R s m args below meth c T locs cells slots) {i : Int} {v : Int32} (hd : decode bs pc = .ok (.bipush i, 2)) (hv : (Int8.ofInt i).toInt32 = v) (hn : pc + 2 = pc')
    (hr : Go p.tables e below G (T.setTop (mkF m pc' Ls (.int v :: st)))) : Go p.tables e below G (T.setTop (mkF m pc Ls st)) := by
  subst hn; exact hr.step fun t k => XS.bipush X.here C.1 rfl (hb C.2.1 hd) (by rw [hv]; exact k)
theorem g_isub (C : Cx p s m meth c bs mx own mnm rt Z) (X : Stand p l e R s m args below meth c T locs cells slots) {x y : Int32} (hd : decode bs pc = .ok (.isub, 1)) (hn : pc + 1 = pc')
    (hr : Go p.tables e below G (T.setTop (mkF m pc' Ls (.int (x - y) :: st)))) : Go p.tables e below G (T.setTop (mkF m pc Ls (.int y :: .int x :: st))) := by
  subst hn; exact hr.step fun t k => XS.isub X.here C.1 rfl (hb C.2.1 hd) rfl k
theorem g_imul (C : Cx p s m meth c bs mx own mnm rt Z) (X : Stand p l e R s m args below meth c T locs cells slots) {x y : Int32} (hd : decode bs pc = .ok (.imul, 1)) (hn : pc + 1 = pc')
    (hr : Go p.tables e below G (T.setTop (mkF m pc' Ls (.int (x * y) :: st)))) : Go p.tables e below G (T.setTop (mkF m pc Ls (.int y :: .int x :: st))) := by
  subst hn; exact hr.step fun t k => XS.imul X.here C.1 rfl (hb C.2.1 hd) rfl k
theorem g_ixor (C : Cx p s m meth c bs mx own mnm rt Z) (X : Stand p l e R s m args below meth c T locs cells slots) {x y : Int32} (hd : decode bs pc = .ok (.ixor, 1)) (hn : pc + 1 = pc')
    (hr : Go p.tables e below G (T.setTop (mkF m pc' Ls (.int (x ^^^ y) :: st)))) : Go p.tables e below G (T.setTop (mkF m pc Ls (.int y :: .int x :: st))) := by
  subst hn; exact hr.step fun t k => XS.ixor X.here C.1 rfl (hb C.2.1 hd) rfl k
theorem g_iushr (C : Cx p s m meth c bs mx own mnm rt Z) (X : Stand p l e R s m args below meth c T locs cells slots) {x y : Int32} (hd : decode bs pc = .ok (.iushr, 1)) (hn : pc + 1 = pc')
    (hr : Go p.tables e below G (T.setTop (mkF m pc' Ls (.int ((x.toUInt32 >>> (y &&& 31).toUInt32).toInt32) :: st)))) : Go p.tables e below G (T.setTop (mkF m pc Ls (.int y :: .int x :: st))) := by
  subst hn; exact hr.step fun t k => XS.iushr X.here C.1 rfl (hb C.2.1 hd) rfl k
theorem g_goto (C : Cx p s m meth c bs mx own mnm rt Z) (X : Stand p l e R s m args below meth c T locs cells slots) {o : Int} (hd : decode bs pc = .ok (.goto o, 3)) (ho : 0 ≤ (pc : Int) + o) (hp : ((pc : Int) + o).toNat = pc')
    (hr : Go p.tables e below G (T.setTop (mkF m pc' Ls st))) : Go p.tables e below G (T.setTop (mkF m pc Ls st)) :=
  hr.step fun t k => XS.goto X.here C.1 rfl rfl (hb C.2.1 hd) ho hp k
theorem g_icmpY (C : Cx p s m meth c bs mx own mnm rt Z) (X : Stand p l e R s m args below meth c T locs cells slots) {cd : ClassFile.Cond} {x y : Int32} {o : Int} (hd : decode bs pc = .ok (.if_icmp cd o, 3)) (hc : if_icmp.holds cd x y = true) (ho : 0 ≤ (pc : Int) + o) (hp : ((pc : Int) + o).toNat = pc')
    (hr : Go p.tables e below G (T.setTop (mkF m pc' Ls st))) : Go p.tables e below G (T.setTop (mkF m pc Ls (.int y :: .int x :: st))) :=
  hr.step fun t k => XS.icmpYes X.here C.1 rfl rfl (hb C.2.1 hd) rfl hc ho hp k
theorem g_icmpN (C : Cx p s m meth c bs mx own mnm rt Z) (X : Stand p l e R s m args below meth c T locs cells slots) {cd : ClassFile.Cond} {x y : Int32} {o : Int} (hd : decode bs pc = .ok (.if_icmp cd o, 3)) (hc : if_icmp.holds cd x y = false) (hn : pc + 3 = pc')
    (hr : Go p.tables e below G (T.setTop (mkF m pc' Ls st))) : Go p.tables e below G (T.setTop (mkF m pc Ls (.int y :: .int x :: st))) := by
  subst hn; exact hr.step fun t k => XS.icmpNo X.here C.1 rfl (hb C.2.1 hd) rfl hc k
theorem g_ldc (C : Cx p s m meth c bs mx own mnm rt Z) (X : Stand p l e R s m args below meth c T locs cells slots) {i : Nat} {v : Int32} (hd : decode bs pc = .ok (.ldc i, 2)) (w : (Jvm.Cond.constant own i v).before a0 Z = true) (hn : pc + 2 = pc')
    (hr : Go p.tables e below G (T.setTop (mkF m pc' Ls (.int v :: st)))) : Go p.tables e below G (T.setTop (mkF m pc Ls st)) := by
  subst hn; exact hr.step fun t k => X.ldcInt C.1 C.hown (mvT C.hZ w) (g := mkF m pc Ls st) rfl (hb C.2.1 hd) _ k
theorem g_callS (C : Cx p s m meth c bs mx own mnm rt Z) (X : Stand p l e R s m args below meth c T locs cells slots) {rm : Room} {as' : Array Value} {Q : Option Value → Heap → List Loc → Prop} {ml : Nat} {yb : ByteArray} {yr : Option FieldType} {ce sl W : Nat} {argsL : List Value} {ps : List FieldType} {pr : Option FieldType} {y : MethodName} {i : Nat} (hd : decode bs pc = .ok (.invokestatic i, 3)) (w1 : (Jvm.Cond.methodLink own i y).before a0 Z = true) (w2 : (Jvm.Cond.static y).before a0 Z = true) (w3 : (Jvm.Cond.initialized y.cls).before a0 Z = true) (w4 : (Jvm.Cond.code y yb ml yr).before a0 Z = true) (hy : y.cls ≠ "java/lang/invoke/MethodHandle" ∧ y.cls ≠ "java/lang/invoke/VarHandle")
    (hM : MetFree l y (head1 [Jvm.Cond.code y yb ml yr] rm) (fun a U => a = as' ∧ Z.Warmed39 U.vm ∧ U.heap = h) (fun _ _ _ _ _ => True) (fun _ U o U' => ∃ v L, o = .returned v ∧ Q v U'.heap L ∧ FrameEnd U o U' L rm.cells rm.slots)) (hf : rm.frames + 1 ≤ R.frames) (hlo : W + (ml + 11) + rm.locals ≤ R.locals) (hce : cells + rm.cells = ce) (hsl : slots + rm.slots = sl) (hce' : ce ≤ R.cells) (hsl' : sl ≤ R.slots) (has : argsL.toArray = as') (eT : T.heap = h) (hsz : Ls.size = mx) (hpd : parseMethodDescriptor y.desc = some ⟨ps, pr⟩) (hln : argsL.length = ps.length) (hW : (st.map fun v => v.category).sum ≤ W) (hn : pc + 3 = pc')
    (hr : ∀ v T' L, Stand p l e R s m args below meth c T' (locs ++ L) ce sl → Q v T'.heap L → Go p.tables e below G (T'.setTop (mkF m pc' Ls (v.toList ++ st)))) : Go p.tables e below G (T.setTop (mkF m pc Ls (argsL.reverse ++ st))) := by
  subst hn hce hsl has
  obtain ⟨v, vm1, ⟨T', L', k', n'⟩, -, X', ⟨Lc, hQ, l', y', z'⟩, st'⟩ := Jvm.LawKit.callS X C.1 (y := y) C.hown (mvT C.hZ w1) (mvT C.hZ w2) (mvT C.hZ w3) (mvT C.hZ w4) hy (backOf (W := W) hM C.hZ w4 w3 hf hlo) (g := mkF m pc Ls (argsL.reverse ++ st)) rfl (hsz.trans C.2.2.1.symm) (argsL := argsL) (rest := st) (lenOf hpd hln) rfl (by show 2 * 0 + _ ≤ _; omega) (hb C.2.1 hd) (fun _ _ => ⟨rfl, eT, hce', hsl'⟩)
  dsimp only [Pt.U, Pt.locs, Pt.cells, Pt.slots] at X' l' y' z' st' hQ
  subst l' y' z'
  exact (hr v T' Lc X' hQ).step st'
theorem g_retI (C : Cx p s m meth c bs mx own mnm (some .int) Z) (X : Stand p l e R s m args below meth c T locs cells slots) {Q : Option Value → Heap → List Loc → Prop} {ce sl : Nat} {z : Int32} (hd : decode bs pc = .ok (.ireturn, 1)) (hc : cells ≤ ce) (hs : slots ≤ sl) (hQ : Q (some (.int z)) T.heap locs) : Go p.tables e below (End s Q ce sl) (T.setTop (mkF m pc Ls (.int z :: st))) := by
  obtain ⟨fs, hr, hrun, hended, hW, hsame⟩ := X.leave (v := (some (.int z))) (fun h => by rw [C.ret] at h; cases h) C.locks
  exact ⟨_, _, retOut X C.1 C.ret rfl (Or.inl ⟨rfl, Or.inl rfl, _, rfl⟩) (hb C.2.1 hd) hr, hrun, hended, _, _, rfl, hQ, ⟨_, rfl⟩, hW, hsame.mono hc hs⟩
theorem g_retN {t : FieldType} (C : Cx p s m meth c bs mx own mnm (some t) Z) (X : Stand p l e R s m args below meth c T locs cells slots) {Q : Option Value → Heap → List Loc → Prop} {ce sl : Nat} {z : Int32} (ht : t = .boolean ∨ t = .byte ∨ t = .char ∨ t = .short) (hd : decode bs pc = .ok (.ireturn, 1)) (hc : cells ≤ ce) (hs : slots ≤ sl) (hQ : Q (some (.int (nar t z))) T.heap locs) : Go p.tables e below (End s Q ce sl) (T.setTop (mkF m pc Ls (.int z :: st))) := by
  obtain ⟨fs, hr, hrun, hended, hW, hsame⟩ := X.leave (v := (some (.int (nar t z)))) (fun h => by rw [C.ret] at h; cases h) C.locks
  exact ⟨_, _, retN X C.1 C.ret ht (hb C.2.1 hd) hr, hrun, hended, _, _, rfl, hQ, ⟨_, rfl⟩, hW, hsame.mono hc hs⟩
end OwnKit
theorem d1_0 : decode method_2_code 0 = .ok (.iload_n 0, 1) := by decide +kernel
theorem d1_1 : decode method_2_code 1 = .ok (.istore_n 1, 1) := by decide +kernel
theorem d1_2 : decode method_2_code 2 = .ok (.iload_n 1, 1) := by decide +kernel
theorem d1_3 : decode method_2_code 3 = .ok (.iconst 2, 1) := by decide +kernel
theorem d1_4 : decode method_2_code 4 = .ok (.iload_n 0, 1) := by decide +kernel
theorem d1_5 : decode method_2_code 5 = .ok (.iload_n 1, 1) := by decide +kernel
theorem d1_6 : decode method_2_code 6 = .ok (.imul, 1) := by decide +kernel
theorem d1_7 : decode method_2_code 7 = .ok (.isub, 1) := by decide +kernel
theorem d1_8 : decode method_2_code 8 = .ok (.imul, 1) := by decide +kernel
theorem d1_9 : decode method_2_code 9 = .ok (.istore_n 1, 1) := by decide +kernel
theorem d1_10 : decode method_2_code 10 = .ok (.iload_n 1, 1) := by decide +kernel
theorem d1_11 : decode method_2_code 11 = .ok (.iconst 2, 1) := by decide +kernel
theorem d1_12 : decode method_2_code 12 = .ok (.iload_n 0, 1) := by decide +kernel
theorem d1_13 : decode method_2_code 13 = .ok (.iload_n 1, 1) := by decide +kernel
theorem d1_14 : decode method_2_code 14 = .ok (.imul, 1) := by decide +kernel
theorem d1_15 : decode method_2_code 15 = .ok (.isub, 1) := by decide +kernel
theorem d1_16 : decode method_2_code 16 = .ok (.imul, 1) := by decide +kernel
theorem d1_17 : decode method_2_code 17 = .ok (.istore_n 1, 1) := by decide +kernel
theorem d1_18 : decode method_2_code 18 = .ok (.iload_n 1, 1) := by decide +kernel
theorem d1_19 : decode method_2_code 19 = .ok (.iconst 2, 1) := by decide +kernel
theorem d1_20 : decode method_2_code 20 = .ok (.iload_n 0, 1) := by decide +kernel
theorem d1_21 : decode method_2_code 21 = .ok (.iload_n 1, 1) := by decide +kernel
theorem d1_22 : decode method_2_code 22 = .ok (.imul, 1) := by decide +kernel
theorem d1_23 : decode method_2_code 23 = .ok (.isub, 1) := by decide +kernel
theorem d1_24 : decode method_2_code 24 = .ok (.imul, 1) := by decide +kernel
theorem d1_25 : decode method_2_code 25 = .ok (.istore_n 1, 1) := by decide +kernel
theorem d1_26 : decode method_2_code 26 = .ok (.iload_n 1, 1) := by decide +kernel
theorem d1_27 : decode method_2_code 27 = .ok (.iconst 2, 1) := by decide +kernel
theorem d1_28 : decode method_2_code 28 = .ok (.iload_n 0, 1) := by decide +kernel
theorem d1_29 : decode method_2_code 29 = .ok (.iload_n 1, 1) := by decide +kernel
theorem d1_30 : decode method_2_code 30 = .ok (.imul, 1) := by decide +kernel
theorem d1_31 : decode method_2_code 31 = .ok (.isub, 1) := by decide +kernel
theorem d1_32 : decode method_2_code 32 = .ok (.imul, 1) := by decide +kernel
theorem d1_33 : decode method_2_code 33 = .ok (.istore_n 1, 1) := by decide +kernel
theorem d1_34 : decode method_2_code 34 = .ok (.iload_n 1, 1) := by decide +kernel
theorem d1_35 : decode method_2_code 35 = .ok (.ireturn, 1) := by decide +kernel
def F1 (p1 : Int32) : Int32 := ((((p1 * ((2 : Int32) - (p1 * p1))) * ((2 : Int32) - (p1 * (p1 * ((2 : Int32) - (p1 * p1)))))) * ((2 : Int32) - (p1 * ((p1 * ((2 : Int32) - (p1 * p1))) * ((2 : Int32) - (p1 * (p1 * ((2 : Int32) - (p1 * p1))))))))) * ((2 : Int32) - (p1 * (((p1 * ((2 : Int32) - (p1 * p1))) * ((2 : Int32) - (p1 * (p1 * ((2 : Int32) - (p1 * p1)))))) * ((2 : Int32) - (p1 * ((p1 * ((2 : Int32) - (p1 * p1))) * ((2 : Int32) - (p1 * (p1 * ((2 : Int32) - (p1 * p1))))))))))))
theorem F1_l0 (p1 : Int32)  : F1 p1 = ((((p1 * ((2 : Int32) - (p1 * p1))) * ((2 : Int32) - (p1 * (p1 * ((2 : Int32) - (p1 * p1)))))) * ((2 : Int32) - (p1 * ((p1 * ((2 : Int32) - (p1 * p1))) * ((2 : Int32) - (p1 * (p1 * ((2 : Int32) - (p1 * p1))))))))) * ((2 : Int32) - (p1 * (((p1 * ((2 : Int32) - (p1 * p1))) * ((2 : Int32) - (p1 * (p1 * ((2 : Int32) - (p1 * p1)))))) * ((2 : Int32) - (p1 * ((p1 * ((2 : Int32) - (p1 * p1))) * ((2 : Int32) - (p1 * (p1 * ((2 : Int32) - (p1 * p1)))))))))))) := rfl
theorem ef_1 (m : MethodId) (p1 : Int32) : entryFrame m #[(.int p1)] 2 = mkF m 0 #[.val (.int p1), .unset] [] := by first | (simp [entryFrame, mkF, argsToLocals, Value.category]; done) | rfl
def Q_1 (Z : State) (p1 : Int32) (h0 : Heap) (n0 : Nat) (v : Option Value) (h : Heap) (L : List Loc) : Prop := v = some (.int (F1 p1)) ∧ Fr n0 L ∧ h = h0
set_option maxRecDepth 65536 in
set_option maxHeartbeats 40000000 in
theorem rm1 (l : Launch) (Z : State) (a0 : Array Value) (hw : ∀ d ∈ tables_1, d.before a0 Z = true) (ws : List Jvm.Cond) (p1 : Int32) (h0 : Heap) (n0 : Nat) :
    MetFree l (⟨"com/example/wenshai/wenshai/service/KeywordTrieSpreadPinLaw", "inverse", "(I)I"⟩ : MethodName) (head1 (Jvm.Cond.code (⟨"com/example/wenshai/wenshai/service/KeywordTrieSpreadPinLaw", "inverse", "(I)I"⟩ : MethodName) method_2_code 2 (some .int) :: ws) ({ frames := 0, cells := 0, slots := 0, locals := 0 } : Room)) (fun a U => a = #[(.int p1)] ∧ Z.Warmed39 U.vm ∧ U.heap = h0) (fun _ _ _ _ _ => True) (fun _ U o U' => ∃ v L, o = .returned v ∧ Q_1 Z p1 h0 n0 v U'.heap L ∧ FrameEnd U o U' L ({ frames := 0, cells := 0, slots := 0, locals := 0 } : Room).cells ({ frames := 0, cells := 0, slots := 0, locals := 0 } : Room).slots) := by
  refine met_of (Ls := #[.val (.int p1), .unset]) (plainFor_of_name (by first | (simp [plainName, overriddenIn]; done) | decide +kernel)) (fun m => ef_1 m p1) ?_
  intro p e s m below meth c T0 C X0 e0
  have N0 := Fr.nil n0
  refine g_iloadN (pc' := 1) C X0 d1_0 rfl rfl ?_
  refine g_istoreN (pc' := 2) (Ls' := #[.val (.int p1), .val (.int p1)]) C X0 d1_1 rfl rfl ?_
  refine g_iloadN (pc' := 3) C X0 d1_2 rfl rfl ?_
  refine g_iconst (pc' := 4) (v := (2 : Int32)) C X0 d1_3 rfl rfl ?_
  refine g_iloadN (pc' := 5) C X0 d1_4 rfl rfl ?_
  refine g_iloadN (pc' := 6) C X0 d1_5 rfl rfl ?_
  refine g_imul (pc' := 7) C X0 d1_6 rfl ?_
  refine g_isub (pc' := 8) C X0 d1_7 rfl ?_
  refine g_imul (pc' := 9) C X0 d1_8 rfl ?_
  refine g_istoreN (pc' := 10) (Ls' := #[.val (.int p1), .val (.int (p1 * ((2 : Int32) - (p1 * p1))))]) C X0 d1_9 rfl rfl ?_
  refine g_iloadN (pc' := 11) C X0 d1_10 rfl rfl ?_
  refine g_iconst (pc' := 12) (v := (2 : Int32)) C X0 d1_11 rfl rfl ?_
  refine g_iloadN (pc' := 13) C X0 d1_12 rfl rfl ?_
  refine g_iloadN (pc' := 14) C X0 d1_13 rfl rfl ?_
  refine g_imul (pc' := 15) C X0 d1_14 rfl ?_
  refine g_isub (pc' := 16) C X0 d1_15 rfl ?_
  refine g_imul (pc' := 17) C X0 d1_16 rfl ?_
  refine g_istoreN (pc' := 18) (Ls' := #[.val (.int p1), .val (.int ((p1 * ((2 : Int32) - (p1 * p1))) * ((2 : Int32) - (p1 * (p1 * ((2 : Int32) - (p1 * p1)))))))]) C X0 d1_17 rfl rfl ?_
  refine g_iloadN (pc' := 19) C X0 d1_18 rfl rfl ?_
  refine g_iconst (pc' := 20) (v := (2 : Int32)) C X0 d1_19 rfl rfl ?_
  refine g_iloadN (pc' := 21) C X0 d1_20 rfl rfl ?_
  refine g_iloadN (pc' := 22) C X0 d1_21 rfl rfl ?_
  refine g_imul (pc' := 23) C X0 d1_22 rfl ?_
  refine g_isub (pc' := 24) C X0 d1_23 rfl ?_
  refine g_imul (pc' := 25) C X0 d1_24 rfl ?_
  refine g_istoreN (pc' := 26) (Ls' := #[.val (.int p1), .val (.int (((p1 * ((2 : Int32) - (p1 * p1))) * ((2 : Int32) - (p1 * (p1 * ((2 : Int32) - (p1 * p1)))))) * ((2 : Int32) - (p1 * ((p1 * ((2 : Int32) - (p1 * p1))) * ((2 : Int32) - (p1 * (p1 * ((2 : Int32) - (p1 * p1))))))))))]) C X0 d1_25 rfl rfl ?_
  refine g_iloadN (pc' := 27) C X0 d1_26 rfl rfl ?_
  refine g_iconst (pc' := 28) (v := (2 : Int32)) C X0 d1_27 rfl rfl ?_
  refine g_iloadN (pc' := 29) C X0 d1_28 rfl rfl ?_
  refine g_iloadN (pc' := 30) C X0 d1_29 rfl rfl ?_
  refine g_imul (pc' := 31) C X0 d1_30 rfl ?_
  refine g_isub (pc' := 32) C X0 d1_31 rfl ?_
  refine g_imul (pc' := 33) C X0 d1_32 rfl ?_
  refine g_istoreN (pc' := 34) (Ls' := #[.val (.int p1), .val (.int ((((p1 * ((2 : Int32) - (p1 * p1))) * ((2 : Int32) - (p1 * (p1 * ((2 : Int32) - (p1 * p1)))))) * ((2 : Int32) - (p1 * ((p1 * ((2 : Int32) - (p1 * p1))) * ((2 : Int32) - (p1 * (p1 * ((2 : Int32) - (p1 * p1))))))))) * ((2 : Int32) - (p1 * (((p1 * ((2 : Int32) - (p1 * p1))) * ((2 : Int32) - (p1 * (p1 * ((2 : Int32) - (p1 * p1)))))) * ((2 : Int32) - (p1 * ((p1 * ((2 : Int32) - (p1 * p1))) * ((2 : Int32) - (p1 * (p1 * ((2 : Int32) - (p1 * p1)))))))))))))]) C X0 d1_33 rfl rfl ?_
  refine g_iloadN (pc' := 35) C X0 d1_34 rfl rfl ?_
  exact g_retI C X0 d1_35 (by decide) (by decide) ⟨congrArg (fun z => some (Value.int z)) (F1_l0 p1 ).symm, N0, e0⟩
theorem d2_0 : decode prog_35_method_3_code 0 = .ok (.iload_n 0, 1) := by decide +kernel
theorem d2_1 : decode prog_35_method_3_code 1 = .ok (.ldc 149, 2) := by decide +kernel
theorem d2_3 : decode prog_35_method_3_code 3 = .ok (.imul, 1) := by decide +kernel
theorem d2_4 : decode prog_35_method_3_code 4 = .ok (.istore_n 1, 1) := by decide +kernel
theorem d2_5 : decode prog_35_method_3_code 5 = .ok (.iload_n 1, 1) := by decide +kernel
theorem d2_6 : decode prog_35_method_3_code 6 = .ok (.iload_n 1, 1) := by decide +kernel
theorem d2_7 : decode prog_35_method_3_code 7 = .ok (.bipush 16, 2) := by decide +kernel
theorem d2_9 : decode prog_35_method_3_code 9 = .ok (.iushr, 1) := by decide +kernel
theorem d2_10 : decode prog_35_method_3_code 10 = .ok (.ixor, 1) := by decide +kernel
theorem d2_11 : decode prog_35_method_3_code 11 = .ok (.ireturn, 1) := by decide +kernel
def F2 (p1 : Int32) : Int32 := ((p1 * (-1640531535 : Int32)) ^^^ (((p1 * (-1640531535 : Int32)).toUInt32 >>> ((16 : Int32) &&& 31).toUInt32).toInt32))
theorem F2_l0 (p1 : Int32)  : F2 p1 = ((p1 * (-1640531535 : Int32)) ^^^ (((p1 * (-1640531535 : Int32)).toUInt32 >>> ((16 : Int32) &&& 31).toUInt32).toInt32)) := rfl
theorem ef_2 (m : MethodId) (p1 : Int32) : entryFrame m #[(.int p1)] 2 = mkF m 0 #[.val (.int p1), .unset] [] := by first | (simp [entryFrame, mkF, argsToLocals, Value.category]; done) | rfl
def Q_2 (Z : State) (p1 : Int32) (h0 : Heap) (n0 : Nat) (v : Option Value) (h : Heap) (L : List Loc) : Prop := v = some (.int (F2 p1)) ∧ Fr n0 L ∧ h = h0
set_option maxRecDepth 65536 in
set_option maxHeartbeats 40000000 in
theorem rm2 (l : Launch) (Z : State) (a0 : Array Value) (hw : ∀ d ∈ tables_1, d.before a0 Z = true) (ws : List Jvm.Cond) (p1 : Int32) (h0 : Heap) (n0 : Nat) :
    MetFree l (⟨"com/example/wenshai/wenshai/service/KeywordTrie", "spread", "(I)I"⟩ : MethodName) (head1 (Jvm.Cond.code (⟨"com/example/wenshai/wenshai/service/KeywordTrie", "spread", "(I)I"⟩ : MethodName) prog_35_method_3_code 2 (some .int) :: ws) ({ frames := 0, cells := 0, slots := 0, locals := 0 } : Room)) (fun a U => a = #[(.int p1)] ∧ Z.Warmed39 U.vm ∧ U.heap = h0) (fun _ _ _ _ _ => True) (fun _ U o U' => ∃ v L, o = .returned v ∧ Q_2 Z p1 h0 n0 v U'.heap L ∧ FrameEnd U o U' L ({ frames := 0, cells := 0, slots := 0, locals := 0 } : Room).cells ({ frames := 0, cells := 0, slots := 0, locals := 0 } : Room).slots) := by
  refine met_of (Ls := #[.val (.int p1), .unset]) (plainFor_of_name (by first | (simp [plainName, overriddenIn]; done) | decide +kernel)) (fun m => ef_2 m p1) ?_
  intro p e s m below meth c T0 C X0 e0
  have N0 := Fr.nil n0
  refine g_iloadN (pc' := 1) C X0 d2_0 rfl rfl ?_
  refine g_ldc (pc' := 3) (v := (-1640531535 : Int32)) C X0 d2_1 (hw _ (List.mem_of_getElem? (i := 9) rfl)) rfl ?_
  refine g_imul (pc' := 4) C X0 d2_3 rfl ?_
  refine g_istoreN (pc' := 5) (Ls' := #[.val (.int p1), .val (.int (p1 * (-1640531535 : Int32)))]) C X0 d2_4 rfl rfl ?_
  refine g_iloadN (pc' := 6) C X0 d2_5 rfl rfl ?_
  refine g_iloadN (pc' := 7) C X0 d2_6 rfl rfl ?_
  refine g_bipush (pc' := 9) (v := (16 : Int32)) C X0 d2_7 rfl rfl ?_
  refine g_iushr (pc' := 10) C X0 d2_9 rfl ?_
  refine g_ixor (pc' := 11) C X0 d2_10 rfl ?_
  exact g_retI C X0 d2_11 (by decide) (by decide) ⟨congrArg (fun z => some (Value.int z)) (F2_l0 p1 ).symm, N0, e0⟩
theorem pd_0 : parseMethodDescriptor "(I)I" = some ⟨[.int], some .int⟩ := by decide +kernel
def F0 (p1 : Int32) : Int32 := (if ((-1640531535 : Int32) * (F1 (-1640531535 : Int32))) = (1 : Int32) then (if (((F2 p1) ^^^ (((F2 p1).toUInt32 >>> ((16 : Int32) &&& 31).toUInt32).toInt32)) * (F1 (-1640531535 : Int32))) = p1 then (1 : Int32) else (0 : Int32)) else (0 : Int32))
theorem F0_l0 (p1 : Int32) (h0 : ((-1640531535 : Int32) * (F1 (-1640531535 : Int32))) = (1 : Int32)) (h1 : (((F2 p1) ^^^ (((F2 p1).toUInt32 >>> ((16 : Int32) &&& 31).toUInt32).toInt32)) * (F1 (-1640531535 : Int32))) = p1) : F0 p1 = (1 : Int32) := by
  unfold F0; rw [if_pos h0, if_pos h1]
theorem F0_l1 (p1 : Int32) (h0 : ((-1640531535 : Int32) * (F1 (-1640531535 : Int32))) = (1 : Int32)) (h1 : ¬ ((((F2 p1) ^^^ (((F2 p1).toUInt32 >>> ((16 : Int32) &&& 31).toUInt32).toInt32)) * (F1 (-1640531535 : Int32))) = p1)) : F0 p1 = (0 : Int32) := by
  unfold F0; rw [if_pos h0, if_neg h1]
theorem F0_l2 (p1 : Int32) (h0 : ¬ (((-1640531535 : Int32) * (F1 (-1640531535 : Int32))) = (1 : Int32))) : F0 p1 = (0 : Int32) := by
  unfold F0; rw [if_neg h0]
theorem ef_0 (m : MethodId) (p1 : Int32) : entryFrame m #[(.int p1)] maxLocals = mkF m 0 #[.val (.int p1), .unset, .unset, .unset, .unset] [] := by first | (simp [entryFrame, mkF, argsToLocals, Value.category, maxLocals]; done) | rfl
def Q_0 (Z : State) (p1 : Int32) (h0 : Heap) (n0 : Nat) (v : Option Value) (h : Heap) (L : List Loc) : Prop := v = some (.int (F0 p1)) ∧ Fr n0 L
set_option maxRecDepth 65536 in
set_option maxHeartbeats 40000000 in
theorem rm0 (l : Launch) (Z : State) (a0 : Array Value) (hw : ∀ d ∈ tables_1, d.before a0 Z = true) (ws : List Jvm.Cond) (p1 : Int32) (h0 : Heap) (n0 : Nat) :
    MetFree l x (head1 (Jvm.Cond.code x code maxLocals ret :: ws) room_1) (fun a U => a = #[(.int p1)] ∧ Z.Warmed39 U.vm ∧ U.heap = h0) (fun _ _ _ _ _ => True) (fun _ U o U' => ∃ v L, o = .returned v ∧ Q_0 Z p1 h0 n0 v U'.heap L ∧ FrameEnd U o U' L 0 0) := by
  refine met_of (Ls := #[.val (.int p1), .unset, .unset, .unset, .unset]) (plainFor_of_name (by first | (simp [plainName, overriddenIn]; done) | decide +kernel)) (fun m => ef_0 m p1) ?_
  intro p e s m below meth c T0 C X0 e0
  have N0 := Fr.nil n0
  refine g_ldc (pc' := 2) (v := (-1640531535 : Int32)) C X0 at_0 (hw _ (List.mem_of_getElem? (i := 0) rfl)) rfl ?_
  refine g_istoreN (pc' := 3) (Ls' := #[.val (.int p1), .val (.int (-1640531535 : Int32)), .unset, .unset, .unset]) C X0 at_2 rfl rfl ?_
  refine g_iloadN (pc' := 4) C X0 at_3 rfl rfl ?_
  refine g_callS (y := (⟨"com/example/wenshai/wenshai/service/KeywordTrieSpreadPinLaw", "inverse", "(I)I"⟩ : MethodName)) (argsL := [(.int (-1640531535 : Int32))]) (st := []) (pc' := 7) C X0 at_4 (hw _ (List.mem_of_getElem? (i := 1) rfl)) (hw _ (List.mem_of_getElem? (i := 2) rfl)) (hw _ (List.mem_of_getElem? (i := 3) rfl)) (hw _ (List.mem_of_getElem? (i := 4) rfl)) (by decide) (rm1 l Z a0 hw [] (-1640531535 : Int32) h0 n0) (W := 0) (by decide) (by decide) (ce := 0) (sl := 0) rfl rfl (by decide) (by decide) rfl e0 rfl pd_0 rfl (Nat.le_refl _) rfl (fun v1 T1 L1 X1 Q1 => ?_)
  obtain ⟨q1, Nq1, e1⟩ := Q1
  have N1 := Fr.app N0 Nq1
  subst q1
  show Go p.tables e below _ (T1.setTop (mkF m 7 #[.val (.int p1), .val (.int (-1640531535 : Int32)), .unset, .unset, .unset] [(.int (F1 (-1640531535 : Int32)))]))
  refine g_istoreN (pc' := 8) (Ls' := #[.val (.int p1), .val (.int (-1640531535 : Int32)), .val (.int (F1 (-1640531535 : Int32))), .unset, .unset]) C X1 at_7 rfl rfl ?_
  refine g_iloadN (pc' := 9) C X1 at_8 rfl rfl ?_
  refine g_callS (y := (⟨"com/example/wenshai/wenshai/service/KeywordTrie", "spread", "(I)I"⟩ : MethodName)) (argsL := [(.int p1)]) (st := []) (pc' := 12) C X1 at_9 (hw _ (List.mem_of_getElem? (i := 5) rfl)) (hw _ (List.mem_of_getElem? (i := 6) rfl)) (hw _ (List.mem_of_getElem? (i := 7) rfl)) (hw _ (List.mem_of_getElem? (i := 8) rfl)) (by decide) (rm2 l Z a0 hw [] p1 h0 n0) (W := 0) (by decide) (by decide) (ce := 0) (sl := 0) rfl rfl (by decide) (by decide) rfl e1 rfl pd_0 rfl (Nat.le_refl _) rfl (fun v2 T2 L2 X2 Q2 => ?_)
  obtain ⟨q2, Nq2, e2⟩ := Q2
  have N2 := Fr.app N1 Nq2
  subst q2
  show Go p.tables e below _ (T2.setTop (mkF m 12 #[.val (.int p1), .val (.int (-1640531535 : Int32)), .val (.int (F1 (-1640531535 : Int32))), .unset, .unset] [(.int (F2 p1))]))
  refine g_istoreN (pc' := 13) (Ls' := #[.val (.int p1), .val (.int (-1640531535 : Int32)), .val (.int (F1 (-1640531535 : Int32))), .val (.int (F2 p1)), .unset]) C X2 at_12 rfl rfl ?_
  refine g_iloadN (pc' := 14) C X2 at_13 rfl rfl ?_
  refine g_iloadN (pc' := 15) C X2 at_14 rfl rfl ?_
  refine g_bipush (pc' := 17) (v := (16 : Int32)) C X2 at_15 rfl rfl ?_
  refine g_iushr (pc' := 18) C X2 at_17 rfl ?_
  refine g_ixor (pc' := 19) C X2 at_18 rfl ?_
  refine g_istore (pc' := 21) (Ls' := #[.val (.int p1), .val (.int (-1640531535 : Int32)), .val (.int (F1 (-1640531535 : Int32))), .val (.int (F2 p1)), .val (.int ((F2 p1) ^^^ (((F2 p1).toUInt32 >>> ((16 : Int32) &&& 31).toUInt32).toInt32)))]) C X2 at_19 rfl rfl ?_
  refine g_iloadN (pc' := 22) C X2 at_21 rfl rfl ?_
  refine g_iloadN (pc' := 23) C X2 at_22 rfl rfl ?_
  refine g_imul (pc' := 24) C X2 at_23 rfl ?_
  refine g_iconst (pc' := 25) (v := (1 : Int32)) C X2 at_24 rfl rfl ?_
  by_cases c3 : ((-1640531535 : Int32) * (F1 (-1640531535 : Int32))) = (1 : Int32)
  · refine g_icmpN (pc' := 28) C X2 at_25 (teq c3).2 rfl ?_
    refine g_iload (pc' := 30) C X2 at_28 rfl rfl ?_
    refine g_iloadN (pc' := 31) C X2 at_30 rfl rfl ?_
    refine g_imul (pc' := 32) C X2 at_31 rfl ?_
    refine g_iloadN (pc' := 33) C X2 at_32 rfl rfl ?_
    by_cases c4 : (((F2 p1) ^^^ (((F2 p1).toUInt32 >>> ((16 : Int32) &&& 31).toUInt32).toInt32)) * (F1 (-1640531535 : Int32))) = p1
    · refine g_icmpN (pc' := 36) C X2 at_33 (teq c4).2 rfl ?_
      refine g_iconst (pc' := 37) (v := (1 : Int32)) C X2 at_36 rfl rfl ?_
      refine g_goto (pc' := 41) C X2 at_37 (by decide) (by decide) ?_
      exact g_retN C X2 (by simp) at_41 (by decide) (by decide) ⟨congrArg (fun z => some (Value.int z)) (F0_l0 p1 c3 c4).symm, N2⟩
    · refine g_icmpY (pc' := 40) C X2 at_33 (feq c4).2 (by decide) (by decide) ?_
      refine g_iconst (pc' := 41) (v := (0 : Int32)) C X2 at_40 rfl rfl ?_
      exact g_retN C X2 (by simp) at_41 (by decide) (by decide) ⟨congrArg (fun z => some (Value.int z)) (F0_l1 p1 c3 c4).symm, N2⟩
  · refine g_icmpY (pc' := 40) C X2 at_25 (feq c3).2 (by decide) (by decide) ?_
    refine g_iconst (pc' := 41) (v := (0 : Int32)) C X2 at_40 rfl rfl ?_
    exact g_retN C X2 (by simp) at_41 (by decide) (by decide) ⟨congrArg (fun z => some (Value.int z)) (F0_l2 p1 c3).symm, N2⟩
def own_S (t : Int32) : Int32 := t ^^^ ((t.toUInt32 >>> ((16 : Int32) &&& 31).toUInt32).toInt32)
theorem own_bv (t : Int32) : (own_S t).toBitVec = t.toBitVec ^^^ (t.toBitVec >>> 16) := rfl
theorem own_SS (t : Int32) : own_S (own_S t) = t := by
  apply Int32.toBitVec_inj.mp
  rw [own_bv, own_bv]
  apply BitVec.eq_of_getLsbD_eq
  intro i hi
  have z : t.toBitVec.getLsbD (16 + (16 + i)) = false := BitVec.getLsbD_of_ge _ _ (by omega)
  simp only [BitVec.getLsbD_xor, BitVec.getLsbD_ushiftRight, z]
  cases t.toBitVec.getLsbD i <;> cases t.toBitVec.getLsbD (16 + i) <;> rfl
theorem own_inv : (-1640531535 : Int32) * (F1 (-1640531535 : Int32)) = (1 : Int32) := by decide +kernel
theorem own_law (p1 : Int32) : F0 p1 = 1 := by
  unfold F0
  rw [if_pos own_inv]
  have e : ((F2 p1) ^^^ (((F2 p1).toUInt32 >>> ((16 : Int32) &&& 31).toUInt32).toInt32)) = p1 * (-1640531535 : Int32) := own_SS _
  rw [e, Int32.mul_assoc, own_inv, Int32.mul_one, if_pos rfl]
set_option maxRecDepth 65536 in
set_option maxHeartbeats 40000000 in
theorem comes_1 {Post : Tables → Env → Array Value → State → Outcome → State → Prop} (hpost : ∀ tb e args s v u, (limb_1_1.after args s (.returned v) u = true ∧ limb_1_2.after args s (.returned v) u = true ∧ True) → FrameEnd s (.returned v) u (Jvm.fieldLocs frame_1_writes args s ++ Jvm.arrayLocs frame_1_arrays args s ++ Jvm.staticLocs frame_1_statics s) 0 0 → Post tb e args s (.returned v) u) :
    ArmFor flags0 classFile x code maxLocals ret World_1 tables_1 room_1 Calls_1 rest_1 Pre_1 Post := by
  intro l hfl _ _ p e ha hc hk s m args below hf hA hF happ hP
  obtain ⟨hcalls, hrest, hpre⟩ := hP
  obtain ⟨-, -, -, hnamed, -, -, -, hat⟩ := (Spec.applies_iff hf).mp happ
  obtain ⟨hg, hnr⟩ := and_e (Cond.before_iff.mp (show (Jvm.Cond.and given_1 narrow_1).before args s = true from hpre))
  obtain ⟨gg1, gg2⟩ := and_e hg
  obtain ⟨w0, rfl⟩ : ∃ w0 : Value, args = #[w0] := by
    have hs : args.size = 1 := by simpa [Cond.value, given_1] using gg1
    obtain ⟨L⟩ := args
    match L, hs with
    | [w0], _ => exact ⟨w0, rfl⟩
  have hw := fun d (hd : d ∈ tables_1) => atoms_spec (ws := Jvm.Cond.code x code maxLocals ret :: tables_1) hat d (List.mem_cons_of_mem _ hd)
  have hfit : Fit s := fun {y c} hc i hi => by
    obtain ⟨ha, rfl⟩ := Array.getElem?_eq_some_iff.mp hc
    have q := List.all_eq_true.mp ((Array.all_eq_true_iff_forall_mem.mp hF) _ (Array.getElem_mem ha)) i (List.mem_range.mpr hi)
    simpa [Array.getElem?_eq_getElem hi] using q
  obtain ⟨i0, ei0⟩ := is_v gg2
  obtain rfl : w0 = (.int i0) := Option.some.inj ei0
  obtain ⟨n, o, h1, h2, h3, _, L, rfl, ⟨hv, N⟩, hq⟩ := rm0 l s _ hw tables_1 i0 s.heap s.heap.size p e ha hc hk s m _ below hf ((Spec.applies_iff_loose hf).mp happ).1 ⟨rfl, State.Warmed39.refl s, rfl⟩ trivial
  rw [own_law i0] at hv
  subst hv
  refine ⟨n, _, h1, h2, h3, hpost _ _ _ _ _ _ ⟨Cond.after_iff.mpr rfl, Cond.after_iff.mpr (eq_i res_at (Term.int_eval (1)) rfl), trivial⟩ ⟨hq.1, hq.2.1, (hq.2.2.sift fun y hy => Or.inr (N y hy)).mono (by decide) (by decide)⟩⟩
theorem main_1_1 : Claimed_1_1 := comes_1 fun _ _ _ _ _ _ h hF => ⟨h.1, hF⟩
theorem main_1_2 : Claimed_1_2 := comes_1 fun _ _ _ _ _ _ h hF => ⟨h.2.1, hF⟩
end Jvm.Pilot.@@N@@
namespace Jvm.Pilot.@@N@@
open Jvm Jvm.ClassFile Sem Op Lib Jvm.Free Jvm.Stand Jvm.Pilot.@@N@@.Jvm.D
/-! MADE BY PROGRAM (witnessworld.py) out of the Statement's table words and the real class files: 9 classes; the members and pool entries that the words name. The judged class is class 1, her method 2. -/
namespace start1
open Jvm.ClassFile
def u (s : String) : CpInfo := .utf8 (stringToUtf16 s)
/-- a pool by its gaps: so many unusable entries, then the entry; so many at the end -/
def gap : Nat → List CpInfo → List CpInfo
  | 0, r => r
  | n + 1, r => .unusable :: gap n r
def poolList (es : List (Nat × CpInfo)) (last : Nat) : List CpInfo := es.foldr (fun e r => gap e.1 (e.2 :: r)) (gap last [])
def pool (es : List (Nat × CpInfo)) (last : Nat) : Array CpInfo := ⟨poolList es last⟩
def fileOf (pool : Array CpInfo) (this : Nat) (attrs : Array Attribute := #[]) (ms : Array MethodInfo := #[]) (fl : Nat := 33) (sup : Nat := 0) (ifs : Array Nat := #[]) (fds : Array FieldInfo := #[]) : ClassFile where
  minorVersion := 0
  majorVersion := 65
  constantPool := pool
  accessFlags := fl
  thisClass := this
  superClass := sup
  interfaces := ifs
  fields := fds
  methods := ms
  attributes := attrs
def plain (name : String) (sup : Option ClassId) : Class where
  name := name
  kind := .ordinary
  loader := none
  accessFlags := 33
  super := sup
  interfaces := #[]
  cf := none
  fields := #[]
  methods := #[]
  instanceTypes := #[]
  staticTypes := #[]
  resolved := #[]
  callSites := []
  init := .initialized
  statics := none
  mirror := none

def pool0 : Array CpInfo := pool [(5, u "<init>"), (0, u "()V"), (1, .class_ 10), (1, u "java/lang/Object")] 113

def k0m0 : Method := { name := "<init>", desc := "()V", sig := { parameters := [], returnType := none }, accessFlags := 1, code := none }
/-- java/lang/Object -/
def k0 : Class := { plain "java/lang/Object" none with
  accessFlags := 33
  interfaces := #[]
  cf := some (fileOf pool0 8 #[] #[{ accessFlags := 1, nameIndex := 5, descriptorIndex := 6, attributes := #[] }] 33 0 #[] #[])
  fields := #[]
  methods := #[k0m0]
  instanceTypes := #[]
  staticTypes := #[]
  resolved := Array.replicate 124 none
  statics := none }

def pool1 : Array CpInfo := pool [(2, .class_ 4), (1, u "java/lang/Object"), (0, u "<init>"), (0, u "()V"), (0, .integer 2654435761), (0, .methodref 9 10), (0, .class_ 11), (0, .nameAndType 12 13), (0, u "com/example/wenshai/wenshai/service/KeywordTrieSpreadPinLaw"), (0, u "inverse"), (0, u "(I)I"), (0, .methodref 15 16), (0, .class_ 17), (0, .nameAndType 18 13), (0, u "com/example/wenshai/wenshai/service/KeywordTrie"), (0, u "spread"), (2, u "law"), (0, u "(I)Z")] 3

def k1m0 : Method := { name := "<init>", desc := "()V", sig := { parameters := [], returnType := none }, accessFlags := 2, code := none }
def k1c1 : Code := { maxStack := 4, maxLocals := 2, code := method_2_code, exceptionTable := #[], attributes := #[] }
def k1m1 : Method := { name := "inverse", desc := "(I)I", sig := { parameters := [.int], returnType := some .int }, accessFlags := 10, code := some k1c1 }
def k1c2 : Code := { maxStack := 3, maxLocals := 5, code := code, exceptionTable := #[], attributes := #[] }
def k1m2 : Method := { name := "law", desc := "(I)Z", sig := { parameters := [.int], returnType := some .boolean }, accessFlags := 9, code := some k1c2 }
/-- com/example/wenshai/wenshai/service/KeywordTrieSpreadPinLaw -/
def k1 : Class := { plain "com/example/wenshai/wenshai/service/KeywordTrieSpreadPinLaw" (some 0) with
  accessFlags := 49
  interfaces := #[]
  cf := some (fileOf pool1 9 #[] #[{ accessFlags := 2, nameIndex := 5, descriptorIndex := 6, attributes := #[] }, { accessFlags := 10, nameIndex := 12, descriptorIndex := 13, attributes := #[] }, { accessFlags := 9, nameIndex := 21, descriptorIndex := 22, attributes := #[] }] 49 2 #[] #[])
  fields := #[]
  methods := #[k1m0, k1m1, k1m2]
  instanceTypes := #[]
  staticTypes := #[]
  resolved := Array.replicate 26 none
  statics := none }

def pool2 : Array CpInfo := pool [(1, .class_ 2), (0, u "com/example/wenshai/wenshai/service/KeywordTrie"), (1, .class_ 6), (1, u "java/lang/Object"), (2, .class_ 10), (0, u "com/example/wenshai/wenshai/service/KeywordTrie$Nodes"), (6, u "[I"), (49, u "singles"), (0, u "Z"), (35, u "[J"), (2, u "records"), (2, u "places"), (3, u "NO_STEPS"), (7, u "(I)I"), (2, u "groups"), (22, u "spread"), (0, .integer 2654435761), (60, u "NONE"), (0, u "I"), (2, u "SINGLE"), (1, u "ENDS"), (0, u "ROW"), (1, u "LAST"), (0, u "HEADER"), (0, u "SCANNED"), (1, u "SPREAD"), (0, u "NODE_BITS"), (1, u "DISTANCE_BITS"), (1, u "KEY_SHIFT")] 46

def k2c0 : Code := { maxStack := 3, maxLocals := 2, code := prog_35_method_3_code, exceptionTable := #[], attributes := #[] }
def k2m0 : Method := { name := "spread", desc := "(I)I", sig := { parameters := [.int], returnType := some .int }, accessFlags := 8, code := some k2c0 }
/-- com/example/wenshai/wenshai/service/KeywordTrie -/
def k2 : Class := { plain "com/example/wenshai/wenshai/service/KeywordTrie" (some 0) with
  accessFlags := 48
  interfaces := #[]
  cf := some (fileOf pool2 1 #[.nestMembers #[9]] #[{ accessFlags := 8, nameIndex := 148, descriptorIndex := 122, attributes := #[] }] 48 4 #[] #[{ accessFlags := 24, nameIndex := 210, descriptorIndex := 211, attributes := #[] }, { accessFlags := 24, nameIndex := 214, descriptorIndex := 211, attributes := #[] }, { accessFlags := 24, nameIndex := 216, descriptorIndex := 211, attributes := #[] }, { accessFlags := 24, nameIndex := 217, descriptorIndex := 211, attributes := #[] }, { accessFlags := 24, nameIndex := 219, descriptorIndex := 211, attributes := #[] }, { accessFlags := 26, nameIndex := 220, descriptorIndex := 211, attributes := #[] }, { accessFlags := 26, nameIndex := 221, descriptorIndex := 211, attributes := #[] }, { accessFlags := 26, nameIndex := 223, descriptorIndex := 211, attributes := #[] }, { accessFlags := 26, nameIndex := 224, descriptorIndex := 211, attributes := #[] }, { accessFlags := 26, nameIndex := 226, descriptorIndex := 211, attributes := #[] }, { accessFlags := 26, nameIndex := 228, descriptorIndex := 211, attributes := #[] }, { accessFlags := 26, nameIndex := 114, descriptorIndex := 104, attributes := #[] }, { accessFlags := 18, nameIndex := 107, descriptorIndex := 17, attributes := #[] }, { accessFlags := 18, nameIndex := 110, descriptorIndex := 17, attributes := #[] }, { accessFlags := 18, nameIndex := 125, descriptorIndex := 17, attributes := #[] }, { accessFlags := 18, nameIndex := 67, descriptorIndex := 68, attributes := #[] }])
  fields := #[{ name := "NONE", type := .int, accessFlags := 24, slot := 0, constantValue := 0 }, { name := "SINGLE", type := .int, accessFlags := 24, slot := 1, constantValue := 0 }, { name := "ENDS", type := .int, accessFlags := 24, slot := 2, constantValue := 0 }, { name := "ROW", type := .int, accessFlags := 24, slot := 3, constantValue := 0 }, { name := "LAST", type := .int, accessFlags := 24, slot := 4, constantValue := 0 }, { name := "HEADER", type := .int, accessFlags := 26, slot := 5, constantValue := 0 }, { name := "SCANNED", type := .int, accessFlags := 26, slot := 6, constantValue := 0 }, { name := "SPREAD", type := .int, accessFlags := 26, slot := 7, constantValue := 0 }, { name := "NODE_BITS", type := .int, accessFlags := 26, slot := 8, constantValue := 0 }, { name := "DISTANCE_BITS", type := .int, accessFlags := 26, slot := 9, constantValue := 0 }, { name := "KEY_SHIFT", type := .int, accessFlags := 26, slot := 10, constantValue := 0 }, { name := "NO_STEPS", type := (.array .long), accessFlags := 26, slot := 11, constantValue := 0 }, { name := "records", type := (.array .int), accessFlags := 18, slot := 0, constantValue := 0 }, { name := "places", type := (.array .int), accessFlags := 18, slot := 1, constantValue := 0 }, { name := "groups", type := (.array .int), accessFlags := 18, slot := 2, constantValue := 0 }, { name := "singles", type := .boolean, accessFlags := 18, slot := 3, constantValue := 0 }]
  methods := #[k2m0]
  instanceTypes := #[(.array .int), (.array .int), (.array .int), .boolean]
  staticTypes := #[.int, .int, .int, .int, .int, .int, .int, .int, .int, .int, .int, (.array .long)]
  resolved := Array.replicate 275 none
  statics := none }

def pool3 : Array CpInfo := pool [(1, u "java/lang/Cloneable"), (0, .class_ 1), (0, u "java/lang/Object"), (0, .class_ 3)] 3

/-- java/lang/Cloneable -/
def k3 : Class := { plain "java/lang/Cloneable" (some 0) with
  accessFlags := 1537
  interfaces := #[]
  cf := some (fileOf pool3 2 #[] #[] 1537 4 #[] #[])
  fields := #[]
  methods := #[]
  instanceTypes := #[]
  staticTypes := #[]
  resolved := Array.replicate 8 none
  statics := none }

def pool4 : Array CpInfo := pool [(1, u "java/io/Serializable"), (0, .class_ 1), (0, u "java/lang/Object"), (0, .class_ 3)] 3

/-- java/io/Serializable -/
def k4 : Class := { plain "java/io/Serializable" (some 0) with
  accessFlags := 1537
  interfaces := #[]
  cf := some (fileOf pool4 2 #[] #[] 1537 4 #[] #[])
  fields := #[]
  methods := #[]
  instanceTypes := #[]
  staticTypes := #[]
  resolved := Array.replicate 8 none
  statics := none }

/-- the primitive byte -/
def k5 : Class := { plain "byte" none with kind := .primitive 'B', accessFlags := 0x411 }
/-- [B -/
def k6 : Class := { plain "[B" (some 0) with kind := .array 5 .byte, interfaces := #[3, 4], accessFlags := 1041 }

/-- the primitive int -/
def k7 : Class := { plain "int" none with kind := .primitive 'I', accessFlags := 0x411 }
/-- [I -/
def k8 : Class := { plain "[I" (some 0) with kind := .array 7 .int, interfaces := #[3, 4], accessFlags := 1041 }

def heap : Heap := #[]
def classes : Array Class := #[k0, k1, k2, k3, k4, k5, k6, k7, k8]
def interned : List (Array UInt16 × Addr) := []
def slotsUsed : Nat := 0
def theMethod : MethodId := ⟨1, 2⟩
def args0 : Array Value := #[.int 5]
def aboutOver (below : List Frame) : State where
  vm := { classes := classes, interned := interned.toArray }
  heap := heap
  slotsUsed := slotsUsed
  threads := #[{ frames := .invoking theMethod args0 :: below }]
def below0 : List Frame := [.native { method := ⟨0, 0⟩, args := #[] }]
def about1 : State := aboutOver below0
def p0 : Program := .bare "" "" ""
def e0 : Env := launch0.env 0 0 0
theorem w_frames : about1.frames = Frame.invoking theMethod args0 :: below0 := rfl
set_option maxRecDepth 65536 in
theorem w_args : argsFit about1.vm theMethod args0 = true := by decide +kernel
set_option maxRecDepth 65536 in
theorem w_heap : heapFits about1 = true := by decide +kernel
set_option maxRecDepth 65536 in
theorem w_runnable : about1.curStatus? = some .runnable := by decide +kernel
set_option maxRecDepth 65536 in
theorem w_alone : about1.alone = true := by decide +kernel
set_option maxRecDepth 65536 in
theorem w_named : about1.methodNamed? x = some theMethod := by decide +kernel
set_option maxRecDepth 65536 in
theorem w_hears : about1.hears theMethod below0 = true := by decide +kernel
set_option maxRecDepth 65536 in
theorem w_ripe : about1.ripe theMethod args0 below0 = true := by decide +kernel
theorem w_running : about1.status = .running := rfl
set_option maxRecDepth 65536 in
theorem w_room : about1.hasRoom e0.platform room_1 = true :=
  launch0.hasRoom_least _ room_1 (by decide +kernel) (by decide +kernel) (by decide +kernel) (by decide +kernel) (by decide +kernel) (by decide +kernel)
theorem allAtoms_all (ts : List Jvm.Cond) (a : Array Jvm.Value) (st : Jvm.State) : (allAtoms ts).before a st = ts.all (fun c => c.before a st) := by
  induction ts with
  | nil => rfl
  | cons c t ih =>
    show (Jvm.Cond.and c (allAtoms t)).before a st = _
    rw [Jvm.Cond.before_and, ih, List.all_cons]
def words1 : List Jvm.Cond := Jvm.Cond.code x code maxLocals ret :: tables_1
/-- a 'code' word, met by the world's own term for the bytes: nothing is compared byte by byte -/
theorem code_word {y : MethodName} {bytes : ByteArray} {mx : Nat} {rt : Option FieldType} {a : Array Value} {s : State} {m : MethodId} {meth : Method} {c : Code} (h1 : s.methodNamed? y = some m) (h2 : s.vm.method? m = some meth) (h3 : meth.code = some c) (h4 : c.code = bytes)
    (h5 : (c.maxLocals == mx && c.exceptionTable.isEmpty && decide (c.maxStack ≤ mostOperands) && decide (meth.sig.returnType = rt) && !meth.locks && decide (parseMethodDescriptor y.desc = some meth.sig)) = true) : (Jvm.Cond.code y bytes mx rt).before a s = true := by
  simp only [Bool.and_eq_true, beq_iff_eq, Bool.not_eq_true', decide_eq_true_eq] at h5
  obtain ⟨⟨⟨⟨⟨g1, g2⟩, g3⟩, g4⟩, g5⟩, g6⟩ := h5
  simp [Cond.before, Cond.holds, Cond.value, h1, h2, h3, h4, g1, g2, g3, g4, g5, g6]
def isCode : Jvm.Cond → Bool
  | .code _ _ _ _ => true
  | _ => false
theorem all_split {L : List Jvm.Cond} {P : Jvm.Cond → Bool} (h1 : L.all (fun c => isCode c || P c) = true) (h2 : ∀ c ∈ L.filter isCode, P c = true) : L.all P = true := by
  refine List.all_eq_true.mpr fun c hc => ?_
  have h := List.all_eq_true.mp h1 c hc
  rcases Bool.eq_false_or_eq_true (isCode c) with hi | hi
  · exact h2 c (List.mem_filter.mpr ⟨hc, hi⟩)
  · simpa [hi] using h
set_option maxRecDepth 65536 in
theorem w_c0 : (Jvm.Cond.code x code maxLocals ret).before args0 about1 = true := code_word (m := ⟨1, 2⟩) (meth := k1m2) (c := k1c2) (by decide +kernel) rfl rfl rfl (by decide +kernel)
set_option maxRecDepth 65536 in
theorem w_c1 : (Jvm.Cond.code ({ cls := "com/example/wenshai/wenshai/service/KeywordTrieSpreadPinLaw", name := "inverse", desc := "(I)I" } : Jvm.MethodName) method_2_code (2 : Nat) (Option.some Jvm.ClassFile.FieldType.int)).before args0 about1 = true := code_word (m := ⟨1, 1⟩) (meth := k1m1) (c := k1c1) (by decide +kernel) rfl rfl rfl (by decide +kernel)
set_option maxRecDepth 65536 in
theorem w_c2 : (Jvm.Cond.code ({ cls := "com/example/wenshai/wenshai/service/KeywordTrie", name := "spread", desc := "(I)I" } : Jvm.MethodName) prog_35_method_3_code (2 : Nat) (Option.some Jvm.ClassFile.FieldType.int)).before args0 about1 = true := code_word (m := ⟨2, 0⟩) (meth := k2m0) (c := k2c0) (by decide +kernel) rfl rfl rfl (by decide +kernel)
def codes1 : List Jvm.Cond := [Jvm.Cond.code x code maxLocals ret, Jvm.Cond.code ({ cls := "com/example/wenshai/wenshai/service/KeywordTrieSpreadPinLaw", name := "inverse", desc := "(I)I" } : Jvm.MethodName) method_2_code (2 : Nat) (Option.some Jvm.ClassFile.FieldType.int), Jvm.Cond.code ({ cls := "com/example/wenshai/wenshai/service/KeywordTrie", name := "spread", desc := "(I)I" } : Jvm.MethodName) prog_35_method_3_code (2 : Nat) (Option.some Jvm.ClassFile.FieldType.int)]
set_option maxRecDepth 65536 in
theorem codes_eq : words1.filter isCode = codes1 := rfl
theorem w_codes : ∀ c ∈ words1.filter isCode, c.before args0 about1 = true := by
  rw [codes_eq]
  intro c hc
  simp only [codes1, List.mem_cons, List.not_mem_nil, or_false] at hc
  rcases hc with rfl | rfl | rfl
  · exact w_c0
  · exact w_c1
  · exact w_c2
set_option maxRecDepth 65536 in
theorem w_t1 : words1.all (fun c => isCode c || c.before args0 about1) = true := by decide +kernel
theorem w_tables : (allAtoms (Jvm.Cond.code x code maxLocals ret :: tables_1)).before args0 about1 = true := by
  rw [allAtoms_all]
  show words1.all (fun c => c.before args0 about1) = true
  refine all_split ?_ w_codes
  rw [w_t1]
set_option maxRecDepth 65536 in
theorem w_case : (Jvm.Cond.and given_1 narrow_1).before args0 about1 = true := by decide +kernel
theorem w_applies : (headSpec (Jvm.Cond.code x code maxLocals ret :: tables_1) room_1).applies x e0.platform about1 = true :=
  (Spec.applies_iff w_frames).mpr ⟨w_running, w_runnable, w_alone, w_named, w_hears, w_ripe, w_room, w_tables⟩
theorem atStart : AtStart classFile x code maxLocals ret World_1 tables_1 room_1 Calls_1 rest_1 Pre_1 launch0 p0 e0 about1 theMethod args0 below0 :=
  ⟨lists_1, trivial, launch0.admits_env _ _ _, launch0.least_env, fairChoices_fair.cas, fairChoices_fair.clock, w_frames, w_args, w_heap, w_applies, trivial, trivial, w_case⟩
end start1
theorem witness_1 : WitnessClaimed_1 := ⟨start1.p0, start1.e0, start1.about1, start1.theMethod, start1.args0, start1.below0, start1.atStart⟩
end Jvm.Pilot.@@N@@
