import JvmDerived
import JvmDerived.Pilot.@@N@@Statement
import JvmDerived.Pilot.@@N@@Code
set_option linter.unusedVariables false
set_option linter.unusedSimpArgs false
namespace Jvm.Pilot.@@N@@
open Jvm Jvm.ClassFile Sem Op Lib Jvm.Free Jvm.Stand Jvm.LawKit Jvm.RoadKit Bundle Jvm.Pilot.@@N@@.Jvm.D
section OwnKit
variable {p : Program} {l : Launch} {e : Env} {R : Room} {s : State} {m : MethodId} {args : Array Value} {below : List Frame} {meth : Method} {c : Code} {T : State} {locs : List Loc} {cells slots : Nat} {Z : State} {a0 : Array Value} {h : Heap} {bs : ByteArray} {own mnm : String} {mx : Nat} {rt : Option FieldType} {G : Outcome → State → Prop} {pc pc' : Nat} {Ls Ls' : Array Slot} {st : List Value}
/-- from T the run comes to an end of which G holds -/
def Go (tb : Tables) (e : Env) (below : List Frame) (G : Outcome → State → Prop) (T : State) : Prop := ∃ s₂ o, Steps tb e below T s₂ ∧ s₂.status = .running ∧ Ended s₂ below o ∧ G o s₂
theorem Go.step {tb : Tables} {T T' : State} (g : Go tb e below G T') (h : ∀ t, Steps tb e below T' t → Steps tb e below T t) : Go tb e below G T := by
  obtain ⟨s₂, o, h1, h2⟩ := g
  exact ⟨s₂, o, h _ h1, h2⟩
/-- what a walk knows of its own body -/
def Cx (p : Program) (s : State) (m : MethodId) (meth : Method) (c : Code) (bs : ByteArray) (mx : Nat) (own mnm : String) (rt : Option FieldType) (Z : State) : Prop :=
  p.tables.exec = Jvm.exec ∧ c.code = bs ∧ c.maxLocals = mx ∧ s.vm.findClass own = some m.cls ∧ meth.name = mnm ∧ meth.sig.returnType = rt ∧ meth.locks = false ∧ Z.Warmed39 s.vm
theorem Cx.hown (C : Cx p s m meth c bs mx own mnm rt Z) : s.vm.findClass own = some m.cls := C.2.2.2.1
theorem Cx.nm (C : Cx p s m meth c bs mx own mnm rt Z) : meth.name = mnm := C.2.2.2.2.1
theorem Cx.ret (C : Cx p s m meth c bs mx own mnm rt Z) : meth.sig.returnType = rt := C.2.2.2.2.2.1
theorem Cx.locks (C : Cx p s m meth c bs mx own mnm rt Z) : meth.locks = false := C.2.2.2.2.2.2.1
theorem Cx.hZ (C : Cx p s m meth c bs mx own mnm rt Z) : Z.Warmed39 s.vm := C.2.2.2.2.2.2.2
/-- the end: returned, Q of the value, the heap and the places written; the frame -/
def End (s : State) (Q : Option Value → Heap → List Loc → Prop) (ce sl : Nat) (o : Outcome) (U' : State) : Prop := ∃ v L, o = .returned v ∧ Q v U'.heap L ∧ FrameEnd s o U' L ce sl
theorem met_of {y : MethodName} {ws : List Jvm.Cond} {rm : Room} {as' : Array Value} {Q : Option Value → Heap → List Loc → Prop} {ce sl : Nat} (hpn : plainFor y = true) (hef : ∀ m, entryFrame m as' mx = mkF m 0 Ls [])
    (hbody : ∀ (p : Program) (e : Env) (s : State) (m : MethodId) (below : List Frame) (meth : Method) (c : Code) (T : State), Cx p s m meth c bs mx y.cls y.name rt Z → Stand p l e rm s m as' below meth c T [] 0 0 → T.heap = h → Go p.tables e below (End s Q ce sl) (T.setTop (mkF m 0 Ls []))) :
    MetFree l y (head1 (Jvm.Cond.code y bs mx rt :: ws) rm) (fun a U => a = as' ∧ Z.Warmed39 U.vm ∧ U.heap = h) (fun _ _ _ _ _ => True) (fun _ U o U' => ∃ v L, o = .returned v ∧ Q v U'.heap L ∧ FrameEnd U o U' L ce sl) := by
  refine MetFree.of_bodySF hpn hisR ?_
  intro p e s m args below meth c s₁ Bd hml0 hP hK
  obtain ⟨rfl, hZ, hh⟩ := hP
  have X0 : Stand p l e rm s m _ below meth c s₁ [] 0 0 := Stand.of_body Bd
  have e0 : s₁.heap = h := by rw [← hh, Bd.state]; rfl
  obtain ⟨s₂, o, h1, h2, h3, h4⟩ := hbody p e s m below meth c s₁ ⟨Bd.exec, Bd.bytes, hml0, findClass_of_methodNamed Bd.named, (name_of_methodNamed Bd.named Bd.method).1, Bd.returns, Bd.notSynchronized, hZ⟩ X0 e0
  exact ⟨s₂, o, castTop (hef m) h1, h2, h3, h4⟩

theorem g_iloadN (C : Cx p s m meth c bs mx own mnm rt Z) (X : Stand p l e R s m args below meth c T locs cells slots) {k : Fin 4} {v : Int32} (hd : decode bs pc = .ok (.iload_n k, 1)) (hl : Ls[k.val]? = some (.val (.int v))) (hn : pc + 1 = pc')
    (hr : Go p.tables e below G (T.setTop (mkF m pc' Ls (.int v :: st)))) : Go p.tables e below G (T.setTop (mkF m pc Ls st)) := by
  subst hn; exact hr.step fun t k => XS.iloadN X.here C.1 rfl (hb C.2.1 hd) hl k
theorem g_iload (C : Cx p s m meth c bs mx own mnm rt Z) (X : Stand p l e R s m args below meth c T locs cells slots) {k : Nat} {v : Int32} (hd : decode bs pc = .ok (.iload k, 2)) (hl : Ls[k]? = some (.val (.int v))) (hn : pc + 2 = pc')
    (hr : Go p.tables e below G (T.setTop (mkF m pc' Ls (.int v :: st)))) : Go p.tables e below G (T.setTop (mkF m pc Ls st)) := by
  subst hn; exact hr.step fun t k => XS.iload X.here C.1 rfl (hb C.2.1 hd) hl k
theorem g_istoreN (C : Cx p s m meth c bs mx own mnm rt Z) (X : Stand p l e R s m args below meth c T locs cells slots) {k : Fin 4} {v : Int32} (hd : decode bs pc = .ok (.istore_n k, 1)) (hl : storeLocals Ls k.val (.int v) = some Ls') (hn : pc + 1 = pc')
    (hr : Go p.tables e below G (T.setTop (mkF m pc' Ls' st))) : Go p.tables e below G (T.setTop (mkF m pc Ls (.int v :: st))) := by
  subst hn; exact hr.step fun t k => XS.istoreN X.here C.1 rfl (hb C.2.1 hd) rfl hl k
theorem g_istore (C : Cx p s m meth c bs mx own mnm rt Z) (X : Stand p l e R s m args below meth c T locs cells slots) {k : Nat} {v : Int32} (hd : decode bs pc = .ok (.istore k, 2)) (hl : storeLocals Ls k (.int v) = some Ls') (hn : pc + 2 = pc')
    (hr : Go p.tables e below G (T.setTop (mkF m pc' Ls' st))) : Go p.tables e below G (T.setTop (mkF m pc Ls (.int v :: st))) := by
  subst hn; exact hr.step fun t k => XS.istore X.here C.1 rfl (hb C.2.1 hd) rfl hl k
theorem g_lloadN (C : Cx p s m meth c bs mx own mnm rt Z) (X : Stand p l e R s m args below meth c T locs cells slots) {k : Fin 4} {v : Int64} (hd : decode bs pc = .ok (.lload_n k, 1)) (hl : Ls[k.val]? = some (.val (.long v))) (hn : pc + 1 = pc')
    (hr : Go p.tables e below G (T.setTop (mkF m pc' Ls (.long v :: st)))) : Go p.tables e below G (T.setTop (mkF m pc Ls st)) := by
  subst hn; exact hr.step fun t k => XS.lloadN X.here C.1 rfl (hb C.2.1 hd) hl k
theorem g_lstoreN (C : Cx p s m meth c bs mx own mnm rt Z) (X : Stand p l e R s m args below meth c T locs cells slots) {k : Fin 4} {v : Int64} (hd : decode bs pc = .ok (.lstore_n k, 1)) (hl : storeLocals Ls k.val (.long v) = some Ls') (hn : pc + 1 = pc')
    (hr : Go p.tables e below G (T.setTop (mkF m pc' Ls' st))) : Go p.tables e below G (T.setTop (mkF m pc Ls (.long v :: st))) := by
  subst hn; exact hr.step fun t k => XS.lstoreN X.here C.1 rfl (hb C.2.1 hd) rfl hl k
theorem g_iconst (C : Cx p s m meth c bs mx own mnm rt Z) (X : Stand p l e R s m args below meth c T locs cells slots) {i : Int} {v : Int32} (hd : decode bs pc = .ok (.iconst i, 1)) (hv : Int32.ofInt i = v) (hn : pc + 1 = pc')
    (hr : Go p.tables e below G (T.setTop (mkF m pc' Ls (.int v :: st)))) : Go p.tables e below G (T.setTop (mkF m pc Ls st)) := by
  subst hn; exact hr.step fun t k => XS.iconst X.here C.1 rfl (hb C.2.1 hd) (by rw [hv]; exact k)
theorem g_bipush (C : Cx p s m meth c bs mx own mnm rt Z) (X : Stand p l e R s m args below meth c T locs cells slots) {i : Int} {v : Int32} (hd : decode bs pc = .ok (.bipush i, 2)) (hv : (Int8.ofInt i).toInt32 = v) (hn : pc + 2 = pc')
    (hr : Go p.tables e below G (T.setTop (mkF m pc' Ls (.int v :: st)))) : Go p.tables e below G (T.setTop (mkF m pc Ls st)) := by
  subst hn; exact hr.step fun t k => XS.bipush X.here C.1 rfl (hb C.2.1 hd) (by rw [hv]; exact k)
theorem g_lconst (C : Cx p s m meth c bs mx own mnm rt Z) (X : Stand p l e R s m args below meth c T locs cells slots) {i : Fin 2} {v : Int64} (hd : decode bs pc = .ok (.lconst i, 1)) (hv : Int64.ofNat i = v) (hn : pc + 1 = pc')
    (hr : Go p.tables e below G (T.setTop (mkF m pc' Ls (.long v :: st)))) : Go p.tables e below G (T.setTop (mkF m pc Ls st)) := by
  subst hn; exact hr.step fun t k => XS.lconst X.here C.1 rfl (hb C.2.1 hd) (by rw [hv]; exact k)
theorem g_iand (C : Cx p s m meth c bs mx own mnm rt Z) (X : Stand p l e R s m args below meth c T locs cells slots) {x y : Int32} (hd : decode bs pc = .ok (.iand, 1)) (hn : pc + 1 = pc')
    (hr : Go p.tables e below G (T.setTop (mkF m pc' Ls (.int (x &&& y) :: st)))) : Go p.tables e below G (T.setTop (mkF m pc Ls (.int y :: .int x :: st))) := by
  subst hn; exact hr.step fun t k => XS.iand X.here C.1 rfl (hb C.2.1 hd) rfl k
theorem g_ior (C : Cx p s m meth c bs mx own mnm rt Z) (X : Stand p l e R s m args below meth c T locs cells slots) {x y : Int32} (hd : decode bs pc = .ok (.ior, 1)) (hn : pc + 1 = pc')
    (hr : Go p.tables e below G (T.setTop (mkF m pc' Ls (.int (x ||| y) :: st)))) : Go p.tables e below G (T.setTop (mkF m pc Ls (.int y :: .int x :: st))) := by
  subst hn; exact hr.step fun t k => XS.ior X.here C.1 rfl (hb C.2.1 hd) rfl k
theorem g_ixor (C : Cx p s m meth c bs mx own mnm rt Z) (X : Stand p l e R s m args below meth c T locs cells slots) {x y : Int32} (hd : decode bs pc = .ok (.ixor, 1)) (hn : pc + 1 = pc')
    (hr : Go p.tables e below G (T.setTop (mkF m pc' Ls (.int (x ^^^ y) :: st)))) : Go p.tables e below G (T.setTop (mkF m pc Ls (.int y :: .int x :: st))) := by
  subst hn; exact hr.step fun t k => XS.ixor X.here C.1 rfl (hb C.2.1 hd) rfl k
theorem g_lsub (C : Cx p s m meth c bs mx own mnm rt Z) (X : Stand p l e R s m args below meth c T locs cells slots) {x y : Int64} (hd : decode bs pc = .ok (.lsub, 1)) (hn : pc + 1 = pc')
    (hr : Go p.tables e below G (T.setTop (mkF m pc' Ls (.long (x - y) :: st)))) : Go p.tables e below G (T.setTop (mkF m pc Ls (.long y :: .long x :: st))) := by
  subst hn; exact hr.step fun t k => XS.lsub X.here C.1 rfl (hb C.2.1 hd) rfl k
theorem g_i2l (C : Cx p s m meth c bs mx own mnm rt Z) (X : Stand p l e R s m args below meth c T locs cells slots) {x : Int32} (hd : decode bs pc = .ok (.i2l, 1)) (hn : pc + 1 = pc')
    (hr : Go p.tables e below G (T.setTop (mkF m pc' Ls (.long x.toInt64 :: st)))) : Go p.tables e below G (T.setTop (mkF m pc Ls (.int x :: st))) := by
  subst hn; exact hr.step fun t k => XS.i2l X.here C.1 rfl (hb C.2.1 hd) rfl k
theorem g_lcmp (C : Cx p s m meth c bs mx own mnm rt Z) (X : Stand p l e R s m args below meth c T locs cells slots) {x y : Int64} (hd : decode bs pc = .ok (.lcmp, 1)) (hn : pc + 1 = pc')
    (hr : Go p.tables e below G (T.setTop (mkF m pc' Ls (.int (lcmpW x y) :: st)))) : Go p.tables e below G (T.setTop (mkF m pc Ls (.long y :: .long x :: st))) := by
  subst hn; exact hr.step fun t k => XS.lcmp X.here C.1 rfl (hb C.2.1 hd) rfl k
theorem g_goto (C : Cx p s m meth c bs mx own mnm rt Z) (X : Stand p l e R s m args below meth c T locs cells slots) {o : Int} (hd : decode bs pc = .ok (.goto o, 3)) (ho : 0 ≤ (pc : Int) + o) (hp : ((pc : Int) + o).toNat = pc')
    (hr : Go p.tables e below G (T.setTop (mkF m pc' Ls st))) : Go p.tables e below G (T.setTop (mkF m pc Ls st)) :=
  hr.step fun t k => XS.goto X.here C.1 rfl rfl (hb C.2.1 hd) ho hp k
theorem g_icmpY (C : Cx p s m meth c bs mx own mnm rt Z) (X : Stand p l e R s m args below meth c T locs cells slots) {cd : ClassFile.Cond} {x y : Int32} {o : Int} (hd : decode bs pc = .ok (.if_icmp cd o, 3)) (hc : if_icmp.holds cd x y = true) (ho : 0 ≤ (pc : Int) + o) (hp : ((pc : Int) + o).toNat = pc')
    (hr : Go p.tables e below G (T.setTop (mkF m pc' Ls st))) : Go p.tables e below G (T.setTop (mkF m pc Ls (.int y :: .int x :: st))) :=
  hr.step fun t k => XS.icmpYes X.here C.1 rfl rfl (hb C.2.1 hd) rfl hc ho hp k
theorem g_icmpN (C : Cx p s m meth c bs mx own mnm rt Z) (X : Stand p l e R s m args below meth c T locs cells slots) {cd : ClassFile.Cond} {x y : Int32} {o : Int} (hd : decode bs pc = .ok (.if_icmp cd o, 3)) (hc : if_icmp.holds cd x y = false) (hn : pc + 3 = pc')
    (hr : Go p.tables e below G (T.setTop (mkF m pc' Ls st))) : Go p.tables e below G (T.setTop (mkF m pc Ls (.int y :: .int x :: st))) := by
  subst hn; exact hr.step fun t k => XS.icmpNo X.here C.1 rfl (hb C.2.1 hd) rfl hc k
theorem g_ifY (C : Cx p s m meth c bs mx own mnm rt Z) (X : Stand p l e R s m args below meth c T locs cells slots) {cd : ClassFile.Cond} {x : Int32} {o : Int} (hd : decode bs pc = .ok (.ifCond cd o, 3)) (hc : if_icmp.holds cd x 0 = true) (ho : 0 ≤ (pc : Int) + o) (hp : ((pc : Int) + o).toNat = pc')
    (hr : Go p.tables e below G (T.setTop (mkF m pc' Ls st))) : Go p.tables e below G (T.setTop (mkF m pc Ls (.int x :: st))) :=
  hr.step fun t k => XS.ifYes X.here C.1 rfl rfl (hb C.2.1 hd) rfl ((if0 _ _).trans hc) ho hp k
theorem g_ifN (C : Cx p s m meth c bs mx own mnm rt Z) (X : Stand p l e R s m args below meth c T locs cells slots) {cd : ClassFile.Cond} {x : Int32} {o : Int} (hd : decode bs pc = .ok (.ifCond cd o, 3)) (hc : if_icmp.holds cd x 0 = false) (hn : pc + 3 = pc')
    (hr : Go p.tables e below G (T.setTop (mkF m pc' Ls st))) : Go p.tables e below G (T.setTop (mkF m pc Ls (.int x :: st))) := by
  subst hn; exact hr.step fun t k => XS.ifNo X.here C.1 rfl (hb C.2.1 hd) rfl ((if0 _ _).trans hc) k
theorem g_ldc2 (C : Cx p s m meth c bs mx own mnm rt Z) (X : Stand p l e R s m args below meth c T locs cells slots) {i : Nat} {v : Int64} (hd : decode bs pc = .ok (.ldc2_w i, 3)) (w : (Jvm.Cond.constantLong own i v).before a0 Z = true) (hn : pc + 3 = pc')
    (hr : Go p.tables e below G (T.setTop (mkF m pc' Ls (.long v :: st)))) : Go p.tables e below G (T.setTop (mkF m pc Ls st)) := by
  subst hn; exact hr.step fun t k => X.ldc2Long C.1 C.hown (mvT C.hZ w) (g := mkF m pc Ls st) rfl (hb C.2.1 hd) _ k
theorem g_callS (C : Cx p s m meth c bs mx own mnm rt Z) (X : Stand p l e R s m args below meth c T locs cells slots) {rm : Room} {as' : Array Value} {Q : Option Value → Heap → List Loc → Prop} {ml : Nat} {yb : ByteArray} {yr : Option FieldType} {ce sl W : Nat} {argsL : List Value} {ps : List FieldType} {pr : Option FieldType} {y : MethodName} {i : Nat} (hd : decode bs pc = .ok (.invokestatic i, 3)) (w1 : (Jvm.Cond.methodLink own i y).before a0 Z = true) (w2 : (Jvm.Cond.static y).before a0 Z = true) (w3 : (Jvm.Cond.initialized y.cls).before a0 Z = true) (w4 : (Jvm.Cond.code y yb ml yr).before a0 Z = true) (hy : y.cls ≠ "java/lang/invoke/MethodHandle" ∧ y.cls ≠ "java/lang/invoke/VarHandle")
    (hM : MetFree l y (head1 [Jvm.Cond.code y yb ml yr] rm) (fun a U => a = as' ∧ Z.Warmed39 U.vm ∧ U.heap = h) (fun _ _ _ _ _ => True) (fun _ U o U' => ∃ v L, o = .returned v ∧ Q v U'.heap L ∧ FrameEnd U o U' L rm.cells rm.slots)) (hf : rm.frames + 1 ≤ R.frames) (hlo : W + (ml + 11) + rm.locals ≤ R.locals) (hce : cells + rm.cells = ce) (hsl : slots + rm.slots = sl) (hce' : ce ≤ R.cells) (hsl' : sl ≤ R.slots) (has : argsL.toArray = as') (eT : T.heap = h) (hsz : Ls.size = mx) (hpd : parseMethodDescriptor y.desc = some ⟨ps, pr⟩) (hln : argsL.length = ps.length) (hW : (st.map fun v => v.category).sum ≤ W) (hn : pc + 3 = pc')
    (hr : ∀ v T' L, Stand p l e R s m args below meth c T' (locs ++ L) ce sl → Q v T'.heap L → Go p.tables e below G (T'.setTop (mkF m pc' Ls (v.toList ++ st)))) : Go p.tables e below G (T.setTop (mkF m pc Ls (argsL.reverse ++ st))) := by
  subst hn hce hsl has
  obtain ⟨v, vm1, ⟨T', L', k', n'⟩, -, X', ⟨Lc, hQ, l', y', z'⟩, st'⟩ := Jvm.LawKit.callS X C.1 (y := y) C.hown (mvT C.hZ w1) (mvT C.hZ w2) (mvT C.hZ w3) (mvT C.hZ w4) hy (backOf (W := W) hM C.hZ w4 w3 hf hlo) (g := mkF m pc Ls (argsL.reverse ++ st)) rfl (hsz.trans C.2.2.1.symm) (argsL := argsL) (rest := st) (lenOf hpd hln) rfl (by show 2 * 0 + _ ≤ _; omega) (hb C.2.1 hd) (fun _ _ => ⟨rfl, eT, hce', hsl'⟩)
  dsimp only [Pt.U, Pt.locs, Pt.cells, Pt.slots] at X' l' y' z' st' hQ
  subst l' y' z'
  exact (hr v T' Lc X' hQ).step st'
theorem g_retN {t : FieldType} (C : Cx p s m meth c bs mx own mnm (some t) Z) (X : Stand p l e R s m args below meth c T locs cells slots) {Q : Option Value → Heap → List Loc → Prop} {ce sl : Nat} {z : Int32} (ht : t = .boolean ∨ t = .byte ∨ t = .char ∨ t = .short) (hd : decode bs pc = .ok (.ireturn, 1)) (hc : cells ≤ ce) (hs : slots ≤ sl) (hQ : Q (some (.int (nar t z))) T.heap locs) : Go p.tables e below (End s Q ce sl) (T.setTop (mkF m pc Ls (.int z :: st))) := by
  obtain ⟨fs, hr, hrun, hended, hW, hsame⟩ := X.leave (v := (some (.int (nar t z)))) (fun h => by rw [C.ret] at h; cases h) C.locks
  exact ⟨_, _, retN X C.1 C.ret ht (hb C.2.1 hd) hr, hrun, hended, _, _, rfl, hQ, ⟨_, rfl⟩, hW, hsame.mono hc hs⟩
theorem own_fin (n : Nat) (x : Int32) (h0 : 0 ≤ x.toInt) (h1 : x.toInt < n) : ∃ i : Fin n, x = Int32.ofNat i.val :=
  ⟨⟨x.toNatClampNeg, by show x.toInt.toNat < n; omega⟩, (back32 (by rw [Int32.lt_iff_toInt_lt]; show ¬ x.toInt < 0; omega)).1.symm⟩
end OwnKit
theorem d1_0 : decode prog_85_method_2_code 0 = .ok (.iload_n 0, 1) := by decide +kernel
theorem d1_1 : decode prog_85_method_2_code 1 = .ok (.bipush 97, 2) := by decide +kernel
theorem d1_3 : decode prog_85_method_2_code 3 = .ok (.if_icmp .lt 9, 3) := by decide +kernel
theorem d1_12 : decode prog_85_method_2_code 12 = .ok (.iload_n 0, 1) := by decide +kernel
theorem d1_13 : decode prog_85_method_2_code 13 = .ok (.bipush 65, 2) := by decide +kernel
theorem d1_15 : decode prog_85_method_2_code 15 = .ok (.if_icmp .lt 13, 3) := by decide +kernel
theorem d1_28 : decode prog_85_method_2_code 28 = .ok (.iconst 0, 1) := by decide +kernel
theorem d1_29 : decode prog_85_method_2_code 29 = .ok (.ireturn, 1) := by decide +kernel
theorem d1_18 : decode prog_85_method_2_code 18 = .ok (.iload_n 0, 1) := by decide +kernel
theorem d1_19 : decode prog_85_method_2_code 19 = .ok (.bipush 90, 2) := by decide +kernel
theorem d1_21 : decode prog_85_method_2_code 21 = .ok (.if_icmp .gt 7, 3) := by decide +kernel
theorem d1_24 : decode prog_85_method_2_code 24 = .ok (.iconst 1, 1) := by decide +kernel
theorem d1_25 : decode prog_85_method_2_code 25 = .ok (.goto 4, 3) := by decide +kernel
theorem d1_6 : decode prog_85_method_2_code 6 = .ok (.iload_n 0, 1) := by decide +kernel
theorem d1_7 : decode prog_85_method_2_code 7 = .ok (.bipush 122, 2) := by decide +kernel
theorem d1_9 : decode prog_85_method_2_code 9 = .ok (.if_icmp .le 15, 3) := by decide +kernel
def F1 (p1 : Int32) : Int32 := (if p1 < (97 : Int32) then (if p1 < (65 : Int32) then (0 : Int32) else (if (90 : Int32) < p1 then (0 : Int32) else (1 : Int32))) else (if (122 : Int32) < p1 then (if p1 < (65 : Int32) then (0 : Int32) else (if (90 : Int32) < p1 then (0 : Int32) else (1 : Int32))) else (1 : Int32)))
theorem F1_l0 (p1 : Int32) (h0 : p1 < (97 : Int32)) (h1 : p1 < (65 : Int32)) : F1 p1 = (0 : Int32) := by
  unfold F1; rw [if_pos h0, if_pos h1]
theorem F1_l1 (p1 : Int32) (h0 : p1 < (97 : Int32)) (h1 : ¬ (p1 < (65 : Int32))) (h2 : (90 : Int32) < p1) : F1 p1 = (0 : Int32) := by
  unfold F1; rw [if_pos h0, if_neg h1, if_pos h2]
theorem F1_l2 (p1 : Int32) (h0 : p1 < (97 : Int32)) (h1 : ¬ (p1 < (65 : Int32))) (h2 : ¬ ((90 : Int32) < p1)) : F1 p1 = (1 : Int32) := by
  unfold F1; rw [if_pos h0, if_neg h1, if_neg h2]
theorem F1_l3 (p1 : Int32) (h0 : ¬ (p1 < (97 : Int32))) (h1 : (122 : Int32) < p1) (h2 : p1 < (65 : Int32)) : F1 p1 = (0 : Int32) := by
  unfold F1; rw [if_neg h0, if_pos h1, if_pos h2]
theorem F1_l4 (p1 : Int32) (h0 : ¬ (p1 < (97 : Int32))) (h1 : (122 : Int32) < p1) (h2 : ¬ (p1 < (65 : Int32))) (h3 : (90 : Int32) < p1) : F1 p1 = (0 : Int32) := by
  unfold F1; rw [if_neg h0, if_pos h1, if_neg h2, if_pos h3]
theorem F1_l5 (p1 : Int32) (h0 : ¬ (p1 < (97 : Int32))) (h1 : (122 : Int32) < p1) (h2 : ¬ (p1 < (65 : Int32))) (h3 : ¬ ((90 : Int32) < p1)) : F1 p1 = (1 : Int32) := by
  unfold F1; rw [if_neg h0, if_pos h1, if_neg h2, if_neg h3]
theorem F1_l6 (p1 : Int32) (h0 : ¬ (p1 < (97 : Int32))) (h1 : ¬ ((122 : Int32) < p1)) : F1 p1 = (1 : Int32) := by
  unfold F1; rw [if_neg h0, if_neg h1]
theorem ef_1 (m : MethodId) (p1 : Int32) : entryFrame m #[(.int p1)] 1 = mkF m 0 #[.val (.int p1)] [] := by first | (simp [entryFrame, mkF, argsToLocals, Value.category]; done) | rfl
def Q_1 (Z : State) (p1 : Int32) (h0 : Heap) (n0 : Nat) (v : Option Value) (h : Heap) (L : List Loc) : Prop := v = some (.int (F1 p1)) ∧ Fr n0 L ∧ h = h0
set_option maxRecDepth 65536 in
set_option maxHeartbeats 40000000 in
theorem rm1 (l : Launch) (Z : State) (a0 : Array Value) (hw : ∀ d ∈ tables_1, d.before a0 Z = true) (ws : List Jvm.Cond) (p1 : Int32) (h0 : Heap) (n0 : Nat) :
    MetFree l (⟨"com/example/declarant/declarant/reader/Lexer", "isLetter", "(I)Z"⟩ : MethodName) (head1 (Jvm.Cond.code (⟨"com/example/declarant/declarant/reader/Lexer", "isLetter", "(I)Z"⟩ : MethodName) prog_85_method_2_code 1 (some .boolean) :: ws) ({ frames := 0, cells := 0, slots := 0, locals := 0 } : Room)) (fun a U => a = #[(.int p1)] ∧ Z.Warmed39 U.vm ∧ U.heap = h0) (fun _ _ _ _ _ => True) (fun _ U o U' => ∃ v L, o = .returned v ∧ Q_1 Z p1 h0 n0 v U'.heap L ∧ FrameEnd U o U' L ({ frames := 0, cells := 0, slots := 0, locals := 0 } : Room).cells ({ frames := 0, cells := 0, slots := 0, locals := 0 } : Room).slots) := by
  refine met_of (Ls := #[.val (.int p1)]) (plainFor_of_name (by first | (simp [plainName, overriddenIn]; done) | decide +kernel)) (fun m => ef_1 m p1) ?_
  intro p e s m below meth c T0 C X0 e0
  have N0 := Fr.nil n0
  refine g_iloadN (pc' := 1) C X0 d1_0 rfl rfl ?_
  refine g_bipush (pc' := 3) (v := (97 : Int32)) C X0 d1_1 rfl rfl ?_
  by_cases c1 : p1 < (97 : Int32)
  · refine g_icmpY (pc' := 12) C X0 d1_3 (tlt c1).1 (by decide) (by decide) ?_
    refine g_iloadN (pc' := 13) C X0 d1_12 rfl rfl ?_
    refine g_bipush (pc' := 15) (v := (65 : Int32)) C X0 d1_13 rfl rfl ?_
    by_cases c2 : p1 < (65 : Int32)
    · refine g_icmpY (pc' := 28) C X0 d1_15 (tlt c2).1 (by decide) (by decide) ?_
      refine g_iconst (pc' := 29) (v := (0 : Int32)) C X0 d1_28 rfl rfl ?_
      exact g_retN C X0 (by simp) d1_29 (by decide) (by decide) ⟨congrArg (fun z => some (Value.int z)) (F1_l0 p1 c1 c2).symm, N0, e0⟩
    · refine g_icmpN (pc' := 18) C X0 d1_15 (flt c2).1 rfl ?_
      refine g_iloadN (pc' := 19) C X0 d1_18 rfl rfl ?_
      refine g_bipush (pc' := 21) (v := (90 : Int32)) C X0 d1_19 rfl rfl ?_
      by_cases c3 : (90 : Int32) < p1
      · refine g_icmpY (pc' := 28) C X0 d1_21 (tlt c3).2.2.1 (by decide) (by decide) ?_
        refine g_iconst (pc' := 29) (v := (0 : Int32)) C X0 d1_28 rfl rfl ?_
        exact g_retN C X0 (by simp) d1_29 (by decide) (by decide) ⟨congrArg (fun z => some (Value.int z)) (F1_l1 p1 c1 c2 c3).symm, N0, e0⟩
      · refine g_icmpN (pc' := 24) C X0 d1_21 (flt c3).2.2.1 rfl ?_
        refine g_iconst (pc' := 25) (v := (1 : Int32)) C X0 d1_24 rfl rfl ?_
        refine g_goto (pc' := 29) C X0 d1_25 (by decide) (by decide) ?_
        exact g_retN C X0 (by simp) d1_29 (by decide) (by decide) ⟨congrArg (fun z => some (Value.int z)) (F1_l2 p1 c1 c2 c3).symm, N0, e0⟩
  · refine g_icmpN (pc' := 6) C X0 d1_3 (flt c1).1 rfl ?_
    refine g_iloadN (pc' := 7) C X0 d1_6 rfl rfl ?_
    refine g_bipush (pc' := 9) (v := (122 : Int32)) C X0 d1_7 rfl rfl ?_
    by_cases c4 : (122 : Int32) < p1
    · refine g_icmpN (pc' := 12) C X0 d1_9 (tlt c4).2.2.2 rfl ?_
      refine g_iloadN (pc' := 13) C X0 d1_12 rfl rfl ?_
      refine g_bipush (pc' := 15) (v := (65 : Int32)) C X0 d1_13 rfl rfl ?_
      by_cases c5 : p1 < (65 : Int32)
      · refine g_icmpY (pc' := 28) C X0 d1_15 (tlt c5).1 (by decide) (by decide) ?_
        refine g_iconst (pc' := 29) (v := (0 : Int32)) C X0 d1_28 rfl rfl ?_
        exact g_retN C X0 (by simp) d1_29 (by decide) (by decide) ⟨congrArg (fun z => some (Value.int z)) (F1_l3 p1 c1 c4 c5).symm, N0, e0⟩
      · refine g_icmpN (pc' := 18) C X0 d1_15 (flt c5).1 rfl ?_
        refine g_iloadN (pc' := 19) C X0 d1_18 rfl rfl ?_
        refine g_bipush (pc' := 21) (v := (90 : Int32)) C X0 d1_19 rfl rfl ?_
        by_cases c6 : (90 : Int32) < p1
        · refine g_icmpY (pc' := 28) C X0 d1_21 (tlt c6).2.2.1 (by decide) (by decide) ?_
          refine g_iconst (pc' := 29) (v := (0 : Int32)) C X0 d1_28 rfl rfl ?_
          exact g_retN C X0 (by simp) d1_29 (by decide) (by decide) ⟨congrArg (fun z => some (Value.int z)) (F1_l4 p1 c1 c4 c5 c6).symm, N0, e0⟩
        · refine g_icmpN (pc' := 24) C X0 d1_21 (flt c6).2.2.1 rfl ?_
          refine g_iconst (pc' := 25) (v := (1 : Int32)) C X0 d1_24 rfl rfl ?_
          refine g_goto (pc' := 29) C X0 d1_25 (by decide) (by decide) ?_
          exact g_retN C X0 (by simp) d1_29 (by decide) (by decide) ⟨congrArg (fun z => some (Value.int z)) (F1_l5 p1 c1 c4 c5 c6).symm, N0, e0⟩
    · refine g_icmpY (pc' := 24) C X0 d1_9 (flt c4).2.2.2 (by decide) (by decide) ?_
      refine g_iconst (pc' := 25) (v := (1 : Int32)) C X0 d1_24 rfl rfl ?_
      refine g_goto (pc' := 29) C X0 d1_25 (by decide) (by decide) ?_
      exact g_retN C X0 (by simp) d1_29 (by decide) (by decide) ⟨congrArg (fun z => some (Value.int z)) (F1_l6 p1 c1 c4).symm, N0, e0⟩
theorem pd_0 : parseMethodDescriptor "(I)Z" = some ⟨[.int], some .boolean⟩ := by decide +kernel
def F0 (p1 : Int32) (p2 : Int32) : Int32 := (if (p2 &&& (1 : Int32)) = (0 : Int32) then (if (lcmpW (((p1 &&& (127 : Int32)) ||| (32 : Int32)).toInt64 - (97 : Int64)) (0 : Int64)) < (0 : Int32) then (if (F1 (p1 &&& (127 : Int32))) = (0 : Int32) then (if (F1 ((p1 &&& (127 : Int32)) ^^^ (32 : Int32))) = (0 : Int32) then (1 : Int32) else (0 : Int32)) else (0 : Int32)) else (if (lcmpW (((p1 &&& (127 : Int32)) ||| (32 : Int32)).toInt64 - (97 : Int64)) (26 : Int64)) < (0 : Int32) then (if (F1 (p1 &&& (127 : Int32))) = (1 : Int32) then (if (F1 ((p1 &&& (127 : Int32)) ^^^ (32 : Int32))) = (1 : Int32) then (1 : Int32) else (0 : Int32)) else (0 : Int32)) else (if (F1 (p1 &&& (127 : Int32))) = (0 : Int32) then (if (F1 ((p1 &&& (127 : Int32)) ^^^ (32 : Int32))) = (0 : Int32) then (1 : Int32) else (0 : Int32)) else (0 : Int32)))) else (if (lcmpW ((p1 ||| (32 : Int32)).toInt64 - (97 : Int64)) (0 : Int64)) < (0 : Int32) then (if (F1 p1) = (0 : Int32) then (if (F1 (p1 ^^^ (32 : Int32))) = (0 : Int32) then (1 : Int32) else (0 : Int32)) else (0 : Int32)) else (if (lcmpW ((p1 ||| (32 : Int32)).toInt64 - (97 : Int64)) (26 : Int64)) < (0 : Int32) then (if (F1 p1) = (1 : Int32) then (if (F1 (p1 ^^^ (32 : Int32))) = (1 : Int32) then (1 : Int32) else (0 : Int32)) else (0 : Int32)) else (if (F1 p1) = (0 : Int32) then (if (F1 (p1 ^^^ (32 : Int32))) = (0 : Int32) then (1 : Int32) else (0 : Int32)) else (0 : Int32)))))
theorem F0_l0 (p1 : Int32) (p2 : Int32) (h0 : (p2 &&& (1 : Int32)) = (0 : Int32)) (h1 : (lcmpW (((p1 &&& (127 : Int32)) ||| (32 : Int32)).toInt64 - (97 : Int64)) (0 : Int64)) < (0 : Int32)) (h2 : (F1 (p1 &&& (127 : Int32))) = (0 : Int32)) (h3 : (F1 ((p1 &&& (127 : Int32)) ^^^ (32 : Int32))) = (0 : Int32)) : F0 p1 p2 = (1 : Int32) := by
  unfold F0; rw [if_pos h0, if_pos h1, if_pos h2, if_pos h3]
theorem F0_l1 (p1 : Int32) (p2 : Int32) (h0 : (p2 &&& (1 : Int32)) = (0 : Int32)) (h1 : (lcmpW (((p1 &&& (127 : Int32)) ||| (32 : Int32)).toInt64 - (97 : Int64)) (0 : Int64)) < (0 : Int32)) (h2 : (F1 (p1 &&& (127 : Int32))) = (0 : Int32)) (h3 : ¬ ((F1 ((p1 &&& (127 : Int32)) ^^^ (32 : Int32))) = (0 : Int32))) : F0 p1 p2 = (0 : Int32) := by
  unfold F0; rw [if_pos h0, if_pos h1, if_pos h2, if_neg h3]
theorem F0_l2 (p1 : Int32) (p2 : Int32) (h0 : (p2 &&& (1 : Int32)) = (0 : Int32)) (h1 : (lcmpW (((p1 &&& (127 : Int32)) ||| (32 : Int32)).toInt64 - (97 : Int64)) (0 : Int64)) < (0 : Int32)) (h2 : ¬ ((F1 (p1 &&& (127 : Int32))) = (0 : Int32))) : F0 p1 p2 = (0 : Int32) := by
  unfold F0; rw [if_pos h0, if_pos h1, if_neg h2]
theorem F0_l3 (p1 : Int32) (p2 : Int32) (h0 : (p2 &&& (1 : Int32)) = (0 : Int32)) (h1 : ¬ ((lcmpW (((p1 &&& (127 : Int32)) ||| (32 : Int32)).toInt64 - (97 : Int64)) (0 : Int64)) < (0 : Int32))) (h2 : (lcmpW (((p1 &&& (127 : Int32)) ||| (32 : Int32)).toInt64 - (97 : Int64)) (26 : Int64)) < (0 : Int32)) (h3 : (F1 (p1 &&& (127 : Int32))) = (1 : Int32)) (h4 : (F1 ((p1 &&& (127 : Int32)) ^^^ (32 : Int32))) = (1 : Int32)) : F0 p1 p2 = (1 : Int32) := by
  unfold F0; rw [if_pos h0, if_neg h1, if_pos h2, if_pos h3, if_pos h4]
theorem F0_l4 (p1 : Int32) (p2 : Int32) (h0 : (p2 &&& (1 : Int32)) = (0 : Int32)) (h1 : ¬ ((lcmpW (((p1 &&& (127 : Int32)) ||| (32 : Int32)).toInt64 - (97 : Int64)) (0 : Int64)) < (0 : Int32))) (h2 : (lcmpW (((p1 &&& (127 : Int32)) ||| (32 : Int32)).toInt64 - (97 : Int64)) (26 : Int64)) < (0 : Int32)) (h3 : (F1 (p1 &&& (127 : Int32))) = (1 : Int32)) (h4 : ¬ ((F1 ((p1 &&& (127 : Int32)) ^^^ (32 : Int32))) = (1 : Int32))) : F0 p1 p2 = (0 : Int32) := by
  unfold F0; rw [if_pos h0, if_neg h1, if_pos h2, if_pos h3, if_neg h4]
theorem F0_l5 (p1 : Int32) (p2 : Int32) (h0 : (p2 &&& (1 : Int32)) = (0 : Int32)) (h1 : ¬ ((lcmpW (((p1 &&& (127 : Int32)) ||| (32 : Int32)).toInt64 - (97 : Int64)) (0 : Int64)) < (0 : Int32))) (h2 : (lcmpW (((p1 &&& (127 : Int32)) ||| (32 : Int32)).toInt64 - (97 : Int64)) (26 : Int64)) < (0 : Int32)) (h3 : ¬ ((F1 (p1 &&& (127 : Int32))) = (1 : Int32))) : F0 p1 p2 = (0 : Int32) := by
  unfold F0; rw [if_pos h0, if_neg h1, if_pos h2, if_neg h3]
theorem F0_l6 (p1 : Int32) (p2 : Int32) (h0 : (p2 &&& (1 : Int32)) = (0 : Int32)) (h1 : ¬ ((lcmpW (((p1 &&& (127 : Int32)) ||| (32 : Int32)).toInt64 - (97 : Int64)) (0 : Int64)) < (0 : Int32))) (h2 : ¬ ((lcmpW (((p1 &&& (127 : Int32)) ||| (32 : Int32)).toInt64 - (97 : Int64)) (26 : Int64)) < (0 : Int32))) (h3 : (F1 (p1 &&& (127 : Int32))) = (0 : Int32)) (h4 : (F1 ((p1 &&& (127 : Int32)) ^^^ (32 : Int32))) = (0 : Int32)) : F0 p1 p2 = (1 : Int32) := by
  unfold F0; rw [if_pos h0, if_neg h1, if_neg h2, if_pos h3, if_pos h4]
theorem F0_l7 (p1 : Int32) (p2 : Int32) (h0 : (p2 &&& (1 : Int32)) = (0 : Int32)) (h1 : ¬ ((lcmpW (((p1 &&& (127 : Int32)) ||| (32 : Int32)).toInt64 - (97 : Int64)) (0 : Int64)) < (0 : Int32))) (h2 : ¬ ((lcmpW (((p1 &&& (127 : Int32)) ||| (32 : Int32)).toInt64 - (97 : Int64)) (26 : Int64)) < (0 : Int32))) (h3 : (F1 (p1 &&& (127 : Int32))) = (0 : Int32)) (h4 : ¬ ((F1 ((p1 &&& (127 : Int32)) ^^^ (32 : Int32))) = (0 : Int32))) : F0 p1 p2 = (0 : Int32) := by
  unfold F0; rw [if_pos h0, if_neg h1, if_neg h2, if_pos h3, if_neg h4]
theorem F0_l8 (p1 : Int32) (p2 : Int32) (h0 : (p2 &&& (1 : Int32)) = (0 : Int32)) (h1 : ¬ ((lcmpW (((p1 &&& (127 : Int32)) ||| (32 : Int32)).toInt64 - (97 : Int64)) (0 : Int64)) < (0 : Int32))) (h2 : ¬ ((lcmpW (((p1 &&& (127 : Int32)) ||| (32 : Int32)).toInt64 - (97 : Int64)) (26 : Int64)) < (0 : Int32))) (h3 : ¬ ((F1 (p1 &&& (127 : Int32))) = (0 : Int32))) : F0 p1 p2 = (0 : Int32) := by
  unfold F0; rw [if_pos h0, if_neg h1, if_neg h2, if_neg h3]
theorem F0_l9 (p1 : Int32) (p2 : Int32) (h0 : ¬ ((p2 &&& (1 : Int32)) = (0 : Int32))) (h1 : (lcmpW ((p1 ||| (32 : Int32)).toInt64 - (97 : Int64)) (0 : Int64)) < (0 : Int32)) (h2 : (F1 p1) = (0 : Int32)) (h3 : (F1 (p1 ^^^ (32 : Int32))) = (0 : Int32)) : F0 p1 p2 = (1 : Int32) := by
  unfold F0; rw [if_neg h0, if_pos h1, if_pos h2, if_pos h3]
theorem F0_l10 (p1 : Int32) (p2 : Int32) (h0 : ¬ ((p2 &&& (1 : Int32)) = (0 : Int32))) (h1 : (lcmpW ((p1 ||| (32 : Int32)).toInt64 - (97 : Int64)) (0 : Int64)) < (0 : Int32)) (h2 : (F1 p1) = (0 : Int32)) (h3 : ¬ ((F1 (p1 ^^^ (32 : Int32))) = (0 : Int32))) : F0 p1 p2 = (0 : Int32) := by
  unfold F0; rw [if_neg h0, if_pos h1, if_pos h2, if_neg h3]
theorem F0_l11 (p1 : Int32) (p2 : Int32) (h0 : ¬ ((p2 &&& (1 : Int32)) = (0 : Int32))) (h1 : (lcmpW ((p1 ||| (32 : Int32)).toInt64 - (97 : Int64)) (0 : Int64)) < (0 : Int32)) (h2 : ¬ ((F1 p1) = (0 : Int32))) : F0 p1 p2 = (0 : Int32) := by
  unfold F0; rw [if_neg h0, if_pos h1, if_neg h2]
theorem F0_l12 (p1 : Int32) (p2 : Int32) (h0 : ¬ ((p2 &&& (1 : Int32)) = (0 : Int32))) (h1 : ¬ ((lcmpW ((p1 ||| (32 : Int32)).toInt64 - (97 : Int64)) (0 : Int64)) < (0 : Int32))) (h2 : (lcmpW ((p1 ||| (32 : Int32)).toInt64 - (97 : Int64)) (26 : Int64)) < (0 : Int32)) (h3 : (F1 p1) = (1 : Int32)) (h4 : (F1 (p1 ^^^ (32 : Int32))) = (1 : Int32)) : F0 p1 p2 = (1 : Int32) := by
  unfold F0; rw [if_neg h0, if_neg h1, if_pos h2, if_pos h3, if_pos h4]
theorem F0_l13 (p1 : Int32) (p2 : Int32) (h0 : ¬ ((p2 &&& (1 : Int32)) = (0 : Int32))) (h1 : ¬ ((lcmpW ((p1 ||| (32 : Int32)).toInt64 - (97 : Int64)) (0 : Int64)) < (0 : Int32))) (h2 : (lcmpW ((p1 ||| (32 : Int32)).toInt64 - (97 : Int64)) (26 : Int64)) < (0 : Int32)) (h3 : (F1 p1) = (1 : Int32)) (h4 : ¬ ((F1 (p1 ^^^ (32 : Int32))) = (1 : Int32))) : F0 p1 p2 = (0 : Int32) := by
  unfold F0; rw [if_neg h0, if_neg h1, if_pos h2, if_pos h3, if_neg h4]
theorem F0_l14 (p1 : Int32) (p2 : Int32) (h0 : ¬ ((p2 &&& (1 : Int32)) = (0 : Int32))) (h1 : ¬ ((lcmpW ((p1 ||| (32 : Int32)).toInt64 - (97 : Int64)) (0 : Int64)) < (0 : Int32))) (h2 : (lcmpW ((p1 ||| (32 : Int32)).toInt64 - (97 : Int64)) (26 : Int64)) < (0 : Int32)) (h3 : ¬ ((F1 p1) = (1 : Int32))) : F0 p1 p2 = (0 : Int32) := by
  unfold F0; rw [if_neg h0, if_neg h1, if_pos h2, if_neg h3]
theorem F0_l15 (p1 : Int32) (p2 : Int32) (h0 : ¬ ((p2 &&& (1 : Int32)) = (0 : Int32))) (h1 : ¬ ((lcmpW ((p1 ||| (32 : Int32)).toInt64 - (97 : Int64)) (0 : Int64)) < (0 : Int32))) (h2 : ¬ ((lcmpW ((p1 ||| (32 : Int32)).toInt64 - (97 : Int64)) (26 : Int64)) < (0 : Int32))) (h3 : (F1 p1) = (0 : Int32)) (h4 : (F1 (p1 ^^^ (32 : Int32))) = (0 : Int32)) : F0 p1 p2 = (1 : Int32) := by
  unfold F0; rw [if_neg h0, if_neg h1, if_neg h2, if_pos h3, if_pos h4]
theorem F0_l16 (p1 : Int32) (p2 : Int32) (h0 : ¬ ((p2 &&& (1 : Int32)) = (0 : Int32))) (h1 : ¬ ((lcmpW ((p1 ||| (32 : Int32)).toInt64 - (97 : Int64)) (0 : Int64)) < (0 : Int32))) (h2 : ¬ ((lcmpW ((p1 ||| (32 : Int32)).toInt64 - (97 : Int64)) (26 : Int64)) < (0 : Int32))) (h3 : (F1 p1) = (0 : Int32)) (h4 : ¬ ((F1 (p1 ^^^ (32 : Int32))) = (0 : Int32))) : F0 p1 p2 = (0 : Int32) := by
  unfold F0; rw [if_neg h0, if_neg h1, if_neg h2, if_pos h3, if_neg h4]
theorem F0_l17 (p1 : Int32) (p2 : Int32) (h0 : ¬ ((p2 &&& (1 : Int32)) = (0 : Int32))) (h1 : ¬ ((lcmpW ((p1 ||| (32 : Int32)).toInt64 - (97 : Int64)) (0 : Int64)) < (0 : Int32))) (h2 : ¬ ((lcmpW ((p1 ||| (32 : Int32)).toInt64 - (97 : Int64)) (26 : Int64)) < (0 : Int32))) (h3 : ¬ ((F1 p1) = (0 : Int32))) : F0 p1 p2 = (0 : Int32) := by
  unfold F0; rw [if_neg h0, if_neg h1, if_neg h2, if_neg h3]
theorem ef_0 (m : MethodId) (p1 : Int32) (p2 : Int32) : entryFrame m #[(.int p1), (.int p2)] maxLocals = mkF m 0 #[.val (.int p1), .val (.int p2), .unset, .unset, .unset, .unset, .unset, .unset] [] := by first | (simp [entryFrame, mkF, argsToLocals, Value.category, maxLocals]; done) | rfl
def Q_0 (Z : State) (p1 : Int32) (p2 : Int32) (h0 : Heap) (n0 : Nat) (v : Option Value) (h : Heap) (L : List Loc) : Prop := v = some (.int (F0 p1 p2)) ∧ Fr n0 L
set_option maxRecDepth 65536 in
set_option maxHeartbeats 40000000 in
theorem rm0 (l : Launch) (Z : State) (a0 : Array Value) (hw : ∀ d ∈ tables_1, d.before a0 Z = true) (ws : List Jvm.Cond) (p1 : Int32) (p2 : Int32) (h0 : Heap) (n0 : Nat) :
    MetFree l x (head1 (Jvm.Cond.code x code maxLocals ret :: ws) room_1) (fun a U => a = #[(.int p1), (.int p2)] ∧ Z.Warmed39 U.vm ∧ U.heap = h0) (fun _ _ _ _ _ => True) (fun _ U o U' => ∃ v L, o = .returned v ∧ Q_0 Z p1 p2 h0 n0 v U'.heap L ∧ FrameEnd U o U' L 0 0) := by
  refine met_of (Ls := #[.val (.int p1), .val (.int p2), .unset, .unset, .unset, .unset, .unset, .unset]) (plainFor_of_name (by first | (simp [plainName, overriddenIn]; done) | decide +kernel)) (fun m => ef_0 m p1 p2) ?_
  intro p e s m below meth c T0 C X0 e0
  have N0 := Fr.nil n0
  refine g_iloadN (pc' := 1) C X0 at_0 rfl rfl ?_
  refine g_iconst (pc' := 2) (v := (1 : Int32)) C X0 at_1 rfl rfl ?_
  refine g_iand (pc' := 3) C X0 at_2 rfl ?_
  by_cases c1 : (p2 &&& (1 : Int32)) = (0 : Int32)
  · refine g_ifY (pc' := 10) C X0 at_3 (teq c1).1 (by decide) (by decide) ?_
    refine g_iloadN (pc' := 11) C X0 at_10 rfl rfl ?_
    refine g_bipush (pc' := 13) (v := (127 : Int32)) C X0 at_11 rfl rfl ?_
    refine g_iand (pc' := 14) C X0 at_13 rfl ?_
    refine g_istoreN (pc' := 15) (Ls' := #[.val (.int p1), .val (.int p2), .val (.int (p1 &&& (127 : Int32))), .unset, .unset, .unset, .unset, .unset]) C X0 at_14 rfl rfl ?_
    refine g_iloadN (pc' := 16) C X0 at_15 rfl rfl ?_
    refine g_bipush (pc' := 18) (v := (32 : Int32)) C X0 at_16 rfl rfl ?_
    refine g_ior (pc' := 19) C X0 at_18 rfl ?_
    refine g_i2l (pc' := 20) C X0 at_19 rfl ?_
    refine g_ldc2 (pc' := 23) (v := (97 : Int64)) C X0 at_20 (hw _ (List.mem_of_getElem? (i := 0) rfl)) rfl ?_
    refine g_lsub (pc' := 24) C X0 at_23 rfl ?_
    refine g_lstoreN (pc' := 25) (Ls' := #[.val (.int p1), .val (.int p2), .val (.int (p1 &&& (127 : Int32))), .val (.long (((p1 &&& (127 : Int32)) ||| (32 : Int32)).toInt64 - (97 : Int64))), .second, .unset, .unset, .unset]) C X0 at_24 rfl rfl ?_
    refine g_lloadN (pc' := 26) C X0 at_25 rfl rfl ?_
    refine g_lconst (pc' := 27) (v := (0 : Int64)) C X0 at_26 rfl rfl ?_
    refine g_lcmp (pc' := 28) C X0 at_27 rfl ?_
    by_cases c2 : (lcmpW (((p1 &&& (127 : Int32)) ||| (32 : Int32)).toInt64 - (97 : Int64)) (0 : Int64)) < (0 : Int32)
    · refine g_ifY (pc' := 43) C X0 at_28 (tlt c2).1 (by decide) (by decide) ?_
      refine g_iconst (pc' := 44) (v := (0 : Int32)) C X0 at_43 rfl rfl ?_
      refine g_istore (pc' := 46) (Ls' := #[.val (.int p1), .val (.int p2), .val (.int (p1 &&& (127 : Int32))), .val (.long (((p1 &&& (127 : Int32)) ||| (32 : Int32)).toInt64 - (97 : Int64))), .second, .val (.int (0 : Int32)), .unset, .unset]) C X0 at_44 rfl rfl ?_
      refine g_iloadN (pc' := 47) C X0 at_46 rfl rfl ?_
      refine g_callS (y := (⟨"com/example/declarant/declarant/reader/Lexer", "isLetter", "(I)Z"⟩ : MethodName)) (argsL := [(.int (p1 &&& (127 : Int32)))]) (st := []) (pc' := 50) C X0 at_47 (hw _ (List.mem_of_getElem? (i := 1) rfl)) (hw _ (List.mem_of_getElem? (i := 2) rfl)) (hw _ (List.mem_of_getElem? (i := 3) rfl)) (hw _ (List.mem_of_getElem? (i := 4) rfl)) (by decide) (rm1 l Z a0 hw [] (p1 &&& (127 : Int32)) h0 n0) (W := 0) (by decide) (by decide) (ce := 0) (sl := 0) rfl rfl (by decide) (by decide) rfl e0 rfl pd_0 rfl (Nat.le_refl _) rfl (fun v3 T3 L3 X3 Q3 => ?_)
      obtain ⟨q3, Nq3, e3⟩ := Q3
      have N3 := Fr.app N0 Nq3
      subst q3
      show Go p.tables e below _ (T3.setTop (mkF m 50 #[.val (.int p1), .val (.int p2), .val (.int (p1 &&& (127 : Int32))), .val (.long (((p1 &&& (127 : Int32)) ||| (32 : Int32)).toInt64 - (97 : Int64))), .second, .val (.int (0 : Int32)), .unset, .unset] [(.int (F1 (p1 &&& (127 : Int32))))]))
      refine g_istore (pc' := 52) (Ls' := #[.val (.int p1), .val (.int p2), .val (.int (p1 &&& (127 : Int32))), .val (.long (((p1 &&& (127 : Int32)) ||| (32 : Int32)).toInt64 - (97 : Int64))), .second, .val (.int (0 : Int32)), .val (.int (F1 (p1 &&& (127 : Int32)))), .unset]) C X3 at_50 rfl rfl ?_
      refine g_iloadN (pc' := 53) C X3 at_52 rfl rfl ?_
      refine g_bipush (pc' := 55) (v := (32 : Int32)) C X3 at_53 rfl rfl ?_
      refine g_ixor (pc' := 56) C X3 at_55 rfl ?_
      refine g_callS (y := (⟨"com/example/declarant/declarant/reader/Lexer", "isLetter", "(I)Z"⟩ : MethodName)) (argsL := [(.int ((p1 &&& (127 : Int32)) ^^^ (32 : Int32)))]) (st := []) (pc' := 59) C X3 at_56 (hw _ (List.mem_of_getElem? (i := 1) rfl)) (hw _ (List.mem_of_getElem? (i := 2) rfl)) (hw _ (List.mem_of_getElem? (i := 3) rfl)) (hw _ (List.mem_of_getElem? (i := 4) rfl)) (by decide) (rm1 l Z a0 hw [] ((p1 &&& (127 : Int32)) ^^^ (32 : Int32)) h0 n0) (W := 0) (by decide) (by decide) (ce := 0) (sl := 0) rfl rfl (by decide) (by decide) rfl e3 rfl pd_0 rfl (Nat.le_refl _) rfl (fun v4 T4 L4 X4 Q4 => ?_)
      obtain ⟨q4, Nq4, e4⟩ := Q4
      have N4 := Fr.app N3 Nq4
      subst q4
      show Go p.tables e below _ (T4.setTop (mkF m 59 #[.val (.int p1), .val (.int p2), .val (.int (p1 &&& (127 : Int32))), .val (.long (((p1 &&& (127 : Int32)) ||| (32 : Int32)).toInt64 - (97 : Int64))), .second, .val (.int (0 : Int32)), .val (.int (F1 (p1 &&& (127 : Int32)))), .unset] [(.int (F1 ((p1 &&& (127 : Int32)) ^^^ (32 : Int32))))]))
      refine g_istore (pc' := 61) (Ls' := #[.val (.int p1), .val (.int p2), .val (.int (p1 &&& (127 : Int32))), .val (.long (((p1 &&& (127 : Int32)) ||| (32 : Int32)).toInt64 - (97 : Int64))), .second, .val (.int (0 : Int32)), .val (.int (F1 (p1 &&& (127 : Int32)))), .val (.int (F1 ((p1 &&& (127 : Int32)) ^^^ (32 : Int32))))]) C X4 at_59 rfl rfl ?_
      refine g_iload (pc' := 63) C X4 at_61 rfl rfl ?_
      refine g_iload (pc' := 65) C X4 at_63 rfl rfl ?_
      by_cases c5 : (F1 (p1 &&& (127 : Int32))) = (0 : Int32)
      · refine g_icmpN (pc' := 68) C X4 at_65 (teq c5).2 rfl ?_
        refine g_iload (pc' := 70) C X4 at_68 rfl rfl ?_
        refine g_iload (pc' := 72) C X4 at_70 rfl rfl ?_
        by_cases c6 : (F1 ((p1 &&& (127 : Int32)) ^^^ (32 : Int32))) = (0 : Int32)
        · refine g_icmpN (pc' := 75) C X4 at_72 (teq c6).2 rfl ?_
          refine g_iconst (pc' := 76) (v := (1 : Int32)) C X4 at_75 rfl rfl ?_
          refine g_goto (pc' := 80) C X4 at_76 (by decide) (by decide) ?_
          exact g_retN C X4 (by simp) at_80 (by decide) (by decide) ⟨congrArg (fun z => some (Value.int z)) (F0_l0 p1 p2 c1 c2 c5 c6).symm, N4⟩
        · refine g_icmpY (pc' := 79) C X4 at_72 (feq c6).2 (by decide) (by decide) ?_
          refine g_iconst (pc' := 80) (v := (0 : Int32)) C X4 at_79 rfl rfl ?_
          exact g_retN C X4 (by simp) at_80 (by decide) (by decide) ⟨congrArg (fun z => some (Value.int z)) (F0_l1 p1 p2 c1 c2 c5 c6).symm, N4⟩
      · refine g_icmpY (pc' := 79) C X4 at_65 (feq c5).2 (by decide) (by decide) ?_
        refine g_iconst (pc' := 80) (v := (0 : Int32)) C X4 at_79 rfl rfl ?_
        exact g_retN C X4 (by simp) at_80 (by decide) (by decide) ⟨congrArg (fun z => some (Value.int z)) (F0_l2 p1 p2 c1 c2 c5).symm, N4⟩
    · refine g_ifN (pc' := 31) C X0 at_28 (flt c2).1 rfl ?_
      refine g_lloadN (pc' := 32) C X0 at_31 rfl rfl ?_
      refine g_ldc2 (pc' := 35) (v := (26 : Int64)) C X0 at_32 (hw _ (List.mem_of_getElem? (i := 5) rfl)) rfl ?_
      refine g_lcmp (pc' := 36) C X0 at_35 rfl ?_
      by_cases c7 : (lcmpW (((p1 &&& (127 : Int32)) ||| (32 : Int32)).toInt64 - (97 : Int64)) (26 : Int64)) < (0 : Int32)
      · refine g_ifN (pc' := 39) C X0 at_36 (tlt c7).2.1 rfl ?_
        refine g_iconst (pc' := 40) (v := (1 : Int32)) C X0 at_39 rfl rfl ?_
        refine g_goto (pc' := 44) C X0 at_40 (by decide) (by decide) ?_
        refine g_istore (pc' := 46) (Ls' := #[.val (.int p1), .val (.int p2), .val (.int (p1 &&& (127 : Int32))), .val (.long (((p1 &&& (127 : Int32)) ||| (32 : Int32)).toInt64 - (97 : Int64))), .second, .val (.int (1 : Int32)), .unset, .unset]) C X0 at_44 rfl rfl ?_
        refine g_iloadN (pc' := 47) C X0 at_46 rfl rfl ?_
        refine g_callS (y := (⟨"com/example/declarant/declarant/reader/Lexer", "isLetter", "(I)Z"⟩ : MethodName)) (argsL := [(.int (p1 &&& (127 : Int32)))]) (st := []) (pc' := 50) C X0 at_47 (hw _ (List.mem_of_getElem? (i := 1) rfl)) (hw _ (List.mem_of_getElem? (i := 2) rfl)) (hw _ (List.mem_of_getElem? (i := 3) rfl)) (hw _ (List.mem_of_getElem? (i := 4) rfl)) (by decide) (rm1 l Z a0 hw [] (p1 &&& (127 : Int32)) h0 n0) (W := 0) (by decide) (by decide) (ce := 0) (sl := 0) rfl rfl (by decide) (by decide) rfl e0 rfl pd_0 rfl (Nat.le_refl _) rfl (fun v8 T8 L8 X8 Q8 => ?_)
        obtain ⟨q8, Nq8, e8⟩ := Q8
        have N8 := Fr.app N0 Nq8
        subst q8
        show Go p.tables e below _ (T8.setTop (mkF m 50 #[.val (.int p1), .val (.int p2), .val (.int (p1 &&& (127 : Int32))), .val (.long (((p1 &&& (127 : Int32)) ||| (32 : Int32)).toInt64 - (97 : Int64))), .second, .val (.int (1 : Int32)), .unset, .unset] [(.int (F1 (p1 &&& (127 : Int32))))]))
        refine g_istore (pc' := 52) (Ls' := #[.val (.int p1), .val (.int p2), .val (.int (p1 &&& (127 : Int32))), .val (.long (((p1 &&& (127 : Int32)) ||| (32 : Int32)).toInt64 - (97 : Int64))), .second, .val (.int (1 : Int32)), .val (.int (F1 (p1 &&& (127 : Int32)))), .unset]) C X8 at_50 rfl rfl ?_
        refine g_iloadN (pc' := 53) C X8 at_52 rfl rfl ?_
        refine g_bipush (pc' := 55) (v := (32 : Int32)) C X8 at_53 rfl rfl ?_
        refine g_ixor (pc' := 56) C X8 at_55 rfl ?_
        refine g_callS (y := (⟨"com/example/declarant/declarant/reader/Lexer", "isLetter", "(I)Z"⟩ : MethodName)) (argsL := [(.int ((p1 &&& (127 : Int32)) ^^^ (32 : Int32)))]) (st := []) (pc' := 59) C X8 at_56 (hw _ (List.mem_of_getElem? (i := 1) rfl)) (hw _ (List.mem_of_getElem? (i := 2) rfl)) (hw _ (List.mem_of_getElem? (i := 3) rfl)) (hw _ (List.mem_of_getElem? (i := 4) rfl)) (by decide) (rm1 l Z a0 hw [] ((p1 &&& (127 : Int32)) ^^^ (32 : Int32)) h0 n0) (W := 0) (by decide) (by decide) (ce := 0) (sl := 0) rfl rfl (by decide) (by decide) rfl e8 rfl pd_0 rfl (Nat.le_refl _) rfl (fun v9 T9 L9 X9 Q9 => ?_)
        obtain ⟨q9, Nq9, e9⟩ := Q9
        have N9 := Fr.app N8 Nq9
        subst q9
        show Go p.tables e below _ (T9.setTop (mkF m 59 #[.val (.int p1), .val (.int p2), .val (.int (p1 &&& (127 : Int32))), .val (.long (((p1 &&& (127 : Int32)) ||| (32 : Int32)).toInt64 - (97 : Int64))), .second, .val (.int (1 : Int32)), .val (.int (F1 (p1 &&& (127 : Int32)))), .unset] [(.int (F1 ((p1 &&& (127 : Int32)) ^^^ (32 : Int32))))]))
        refine g_istore (pc' := 61) (Ls' := #[.val (.int p1), .val (.int p2), .val (.int (p1 &&& (127 : Int32))), .val (.long (((p1 &&& (127 : Int32)) ||| (32 : Int32)).toInt64 - (97 : Int64))), .second, .val (.int (1 : Int32)), .val (.int (F1 (p1 &&& (127 : Int32)))), .val (.int (F1 ((p1 &&& (127 : Int32)) ^^^ (32 : Int32))))]) C X9 at_59 rfl rfl ?_
        refine g_iload (pc' := 63) C X9 at_61 rfl rfl ?_
        refine g_iload (pc' := 65) C X9 at_63 rfl rfl ?_
        by_cases c10 : (F1 (p1 &&& (127 : Int32))) = (1 : Int32)
        · refine g_icmpN (pc' := 68) C X9 at_65 (teq c10).2 rfl ?_
          refine g_iload (pc' := 70) C X9 at_68 rfl rfl ?_
          refine g_iload (pc' := 72) C X9 at_70 rfl rfl ?_
          by_cases c11 : (F1 ((p1 &&& (127 : Int32)) ^^^ (32 : Int32))) = (1 : Int32)
          · refine g_icmpN (pc' := 75) C X9 at_72 (teq c11).2 rfl ?_
            refine g_iconst (pc' := 76) (v := (1 : Int32)) C X9 at_75 rfl rfl ?_
            refine g_goto (pc' := 80) C X9 at_76 (by decide) (by decide) ?_
            exact g_retN C X9 (by simp) at_80 (by decide) (by decide) ⟨congrArg (fun z => some (Value.int z)) (F0_l3 p1 p2 c1 c2 c7 c10 c11).symm, N9⟩
          · refine g_icmpY (pc' := 79) C X9 at_72 (feq c11).2 (by decide) (by decide) ?_
            refine g_iconst (pc' := 80) (v := (0 : Int32)) C X9 at_79 rfl rfl ?_
            exact g_retN C X9 (by simp) at_80 (by decide) (by decide) ⟨congrArg (fun z => some (Value.int z)) (F0_l4 p1 p2 c1 c2 c7 c10 c11).symm, N9⟩
        · refine g_icmpY (pc' := 79) C X9 at_65 (feq c10).2 (by decide) (by decide) ?_
          refine g_iconst (pc' := 80) (v := (0 : Int32)) C X9 at_79 rfl rfl ?_
          exact g_retN C X9 (by simp) at_80 (by decide) (by decide) ⟨congrArg (fun z => some (Value.int z)) (F0_l5 p1 p2 c1 c2 c7 c10).symm, N9⟩
      · refine g_ifY (pc' := 43) C X0 at_36 (flt c7).2.1 (by decide) (by decide) ?_
        refine g_iconst (pc' := 44) (v := (0 : Int32)) C X0 at_43 rfl rfl ?_
        refine g_istore (pc' := 46) (Ls' := #[.val (.int p1), .val (.int p2), .val (.int (p1 &&& (127 : Int32))), .val (.long (((p1 &&& (127 : Int32)) ||| (32 : Int32)).toInt64 - (97 : Int64))), .second, .val (.int (0 : Int32)), .unset, .unset]) C X0 at_44 rfl rfl ?_
        refine g_iloadN (pc' := 47) C X0 at_46 rfl rfl ?_
        refine g_callS (y := (⟨"com/example/declarant/declarant/reader/Lexer", "isLetter", "(I)Z"⟩ : MethodName)) (argsL := [(.int (p1 &&& (127 : Int32)))]) (st := []) (pc' := 50) C X0 at_47 (hw _ (List.mem_of_getElem? (i := 1) rfl)) (hw _ (List.mem_of_getElem? (i := 2) rfl)) (hw _ (List.mem_of_getElem? (i := 3) rfl)) (hw _ (List.mem_of_getElem? (i := 4) rfl)) (by decide) (rm1 l Z a0 hw [] (p1 &&& (127 : Int32)) h0 n0) (W := 0) (by decide) (by decide) (ce := 0) (sl := 0) rfl rfl (by decide) (by decide) rfl e0 rfl pd_0 rfl (Nat.le_refl _) rfl (fun v12 T12 L12 X12 Q12 => ?_)
        obtain ⟨q12, Nq12, e12⟩ := Q12
        have N12 := Fr.app N0 Nq12
        subst q12
        show Go p.tables e below _ (T12.setTop (mkF m 50 #[.val (.int p1), .val (.int p2), .val (.int (p1 &&& (127 : Int32))), .val (.long (((p1 &&& (127 : Int32)) ||| (32 : Int32)).toInt64 - (97 : Int64))), .second, .val (.int (0 : Int32)), .unset, .unset] [(.int (F1 (p1 &&& (127 : Int32))))]))
        refine g_istore (pc' := 52) (Ls' := #[.val (.int p1), .val (.int p2), .val (.int (p1 &&& (127 : Int32))), .val (.long (((p1 &&& (127 : Int32)) ||| (32 : Int32)).toInt64 - (97 : Int64))), .second, .val (.int (0 : Int32)), .val (.int (F1 (p1 &&& (127 : Int32)))), .unset]) C X12 at_50 rfl rfl ?_
        refine g_iloadN (pc' := 53) C X12 at_52 rfl rfl ?_
        refine g_bipush (pc' := 55) (v := (32 : Int32)) C X12 at_53 rfl rfl ?_
        refine g_ixor (pc' := 56) C X12 at_55 rfl ?_
        refine g_callS (y := (⟨"com/example/declarant/declarant/reader/Lexer", "isLetter", "(I)Z"⟩ : MethodName)) (argsL := [(.int ((p1 &&& (127 : Int32)) ^^^ (32 : Int32)))]) (st := []) (pc' := 59) C X12 at_56 (hw _ (List.mem_of_getElem? (i := 1) rfl)) (hw _ (List.mem_of_getElem? (i := 2) rfl)) (hw _ (List.mem_of_getElem? (i := 3) rfl)) (hw _ (List.mem_of_getElem? (i := 4) rfl)) (by decide) (rm1 l Z a0 hw [] ((p1 &&& (127 : Int32)) ^^^ (32 : Int32)) h0 n0) (W := 0) (by decide) (by decide) (ce := 0) (sl := 0) rfl rfl (by decide) (by decide) rfl e12 rfl pd_0 rfl (Nat.le_refl _) rfl (fun v13 T13 L13 X13 Q13 => ?_)
        obtain ⟨q13, Nq13, e13⟩ := Q13
        have N13 := Fr.app N12 Nq13
        subst q13
        show Go p.tables e below _ (T13.setTop (mkF m 59 #[.val (.int p1), .val (.int p2), .val (.int (p1 &&& (127 : Int32))), .val (.long (((p1 &&& (127 : Int32)) ||| (32 : Int32)).toInt64 - (97 : Int64))), .second, .val (.int (0 : Int32)), .val (.int (F1 (p1 &&& (127 : Int32)))), .unset] [(.int (F1 ((p1 &&& (127 : Int32)) ^^^ (32 : Int32))))]))
        refine g_istore (pc' := 61) (Ls' := #[.val (.int p1), .val (.int p2), .val (.int (p1 &&& (127 : Int32))), .val (.long (((p1 &&& (127 : Int32)) ||| (32 : Int32)).toInt64 - (97 : Int64))), .second, .val (.int (0 : Int32)), .val (.int (F1 (p1 &&& (127 : Int32)))), .val (.int (F1 ((p1 &&& (127 : Int32)) ^^^ (32 : Int32))))]) C X13 at_59 rfl rfl ?_
        refine g_iload (pc' := 63) C X13 at_61 rfl rfl ?_
        refine g_iload (pc' := 65) C X13 at_63 rfl rfl ?_
        by_cases c14 : (F1 (p1 &&& (127 : Int32))) = (0 : Int32)
        · refine g_icmpN (pc' := 68) C X13 at_65 (teq c14).2 rfl ?_
          refine g_iload (pc' := 70) C X13 at_68 rfl rfl ?_
          refine g_iload (pc' := 72) C X13 at_70 rfl rfl ?_
          by_cases c15 : (F1 ((p1 &&& (127 : Int32)) ^^^ (32 : Int32))) = (0 : Int32)
          · refine g_icmpN (pc' := 75) C X13 at_72 (teq c15).2 rfl ?_
            refine g_iconst (pc' := 76) (v := (1 : Int32)) C X13 at_75 rfl rfl ?_
            refine g_goto (pc' := 80) C X13 at_76 (by decide) (by decide) ?_
            exact g_retN C X13 (by simp) at_80 (by decide) (by decide) ⟨congrArg (fun z => some (Value.int z)) (F0_l6 p1 p2 c1 c2 c7 c14 c15).symm, N13⟩
          · refine g_icmpY (pc' := 79) C X13 at_72 (feq c15).2 (by decide) (by decide) ?_
            refine g_iconst (pc' := 80) (v := (0 : Int32)) C X13 at_79 rfl rfl ?_
            exact g_retN C X13 (by simp) at_80 (by decide) (by decide) ⟨congrArg (fun z => some (Value.int z)) (F0_l7 p1 p2 c1 c2 c7 c14 c15).symm, N13⟩
        · refine g_icmpY (pc' := 79) C X13 at_65 (feq c14).2 (by decide) (by decide) ?_
          refine g_iconst (pc' := 80) (v := (0 : Int32)) C X13 at_79 rfl rfl ?_
          exact g_retN C X13 (by simp) at_80 (by decide) (by decide) ⟨congrArg (fun z => some (Value.int z)) (F0_l8 p1 p2 c1 c2 c7 c14).symm, N13⟩
  · refine g_ifN (pc' := 6) C X0 at_3 (feq c1).1 rfl ?_
    refine g_iloadN (pc' := 7) C X0 at_6 rfl rfl ?_
    refine g_goto (pc' := 14) C X0 at_7 (by decide) (by decide) ?_
    refine g_istoreN (pc' := 15) (Ls' := #[.val (.int p1), .val (.int p2), .val (.int p1), .unset, .unset, .unset, .unset, .unset]) C X0 at_14 rfl rfl ?_
    refine g_iloadN (pc' := 16) C X0 at_15 rfl rfl ?_
    refine g_bipush (pc' := 18) (v := (32 : Int32)) C X0 at_16 rfl rfl ?_
    refine g_ior (pc' := 19) C X0 at_18 rfl ?_
    refine g_i2l (pc' := 20) C X0 at_19 rfl ?_
    refine g_ldc2 (pc' := 23) (v := (97 : Int64)) C X0 at_20 (hw _ (List.mem_of_getElem? (i := 0) rfl)) rfl ?_
    refine g_lsub (pc' := 24) C X0 at_23 rfl ?_
    refine g_lstoreN (pc' := 25) (Ls' := #[.val (.int p1), .val (.int p2), .val (.int p1), .val (.long ((p1 ||| (32 : Int32)).toInt64 - (97 : Int64))), .second, .unset, .unset, .unset]) C X0 at_24 rfl rfl ?_
    refine g_lloadN (pc' := 26) C X0 at_25 rfl rfl ?_
    refine g_lconst (pc' := 27) (v := (0 : Int64)) C X0 at_26 rfl rfl ?_
    refine g_lcmp (pc' := 28) C X0 at_27 rfl ?_
    by_cases c16 : (lcmpW ((p1 ||| (32 : Int32)).toInt64 - (97 : Int64)) (0 : Int64)) < (0 : Int32)
    · refine g_ifY (pc' := 43) C X0 at_28 (tlt c16).1 (by decide) (by decide) ?_
      refine g_iconst (pc' := 44) (v := (0 : Int32)) C X0 at_43 rfl rfl ?_
      refine g_istore (pc' := 46) (Ls' := #[.val (.int p1), .val (.int p2), .val (.int p1), .val (.long ((p1 ||| (32 : Int32)).toInt64 - (97 : Int64))), .second, .val (.int (0 : Int32)), .unset, .unset]) C X0 at_44 rfl rfl ?_
      refine g_iloadN (pc' := 47) C X0 at_46 rfl rfl ?_
      refine g_callS (y := (⟨"com/example/declarant/declarant/reader/Lexer", "isLetter", "(I)Z"⟩ : MethodName)) (argsL := [(.int p1)]) (st := []) (pc' := 50) C X0 at_47 (hw _ (List.mem_of_getElem? (i := 1) rfl)) (hw _ (List.mem_of_getElem? (i := 2) rfl)) (hw _ (List.mem_of_getElem? (i := 3) rfl)) (hw _ (List.mem_of_getElem? (i := 4) rfl)) (by decide) (rm1 l Z a0 hw [] p1 h0 n0) (W := 0) (by decide) (by decide) (ce := 0) (sl := 0) rfl rfl (by decide) (by decide) rfl e0 rfl pd_0 rfl (Nat.le_refl _) rfl (fun v17 T17 L17 X17 Q17 => ?_)
      obtain ⟨q17, Nq17, e17⟩ := Q17
      have N17 := Fr.app N0 Nq17
      subst q17
      show Go p.tables e below _ (T17.setTop (mkF m 50 #[.val (.int p1), .val (.int p2), .val (.int p1), .val (.long ((p1 ||| (32 : Int32)).toInt64 - (97 : Int64))), .second, .val (.int (0 : Int32)), .unset, .unset] [(.int (F1 p1))]))
      refine g_istore (pc' := 52) (Ls' := #[.val (.int p1), .val (.int p2), .val (.int p1), .val (.long ((p1 ||| (32 : Int32)).toInt64 - (97 : Int64))), .second, .val (.int (0 : Int32)), .val (.int (F1 p1)), .unset]) C X17 at_50 rfl rfl ?_
      refine g_iloadN (pc' := 53) C X17 at_52 rfl rfl ?_
      refine g_bipush (pc' := 55) (v := (32 : Int32)) C X17 at_53 rfl rfl ?_
      refine g_ixor (pc' := 56) C X17 at_55 rfl ?_
      refine g_callS (y := (⟨"com/example/declarant/declarant/reader/Lexer", "isLetter", "(I)Z"⟩ : MethodName)) (argsL := [(.int (p1 ^^^ (32 : Int32)))]) (st := []) (pc' := 59) C X17 at_56 (hw _ (List.mem_of_getElem? (i := 1) rfl)) (hw _ (List.mem_of_getElem? (i := 2) rfl)) (hw _ (List.mem_of_getElem? (i := 3) rfl)) (hw _ (List.mem_of_getElem? (i := 4) rfl)) (by decide) (rm1 l Z a0 hw [] (p1 ^^^ (32 : Int32)) h0 n0) (W := 0) (by decide) (by decide) (ce := 0) (sl := 0) rfl rfl (by decide) (by decide) rfl e17 rfl pd_0 rfl (Nat.le_refl _) rfl (fun v18 T18 L18 X18 Q18 => ?_)
      obtain ⟨q18, Nq18, e18⟩ := Q18
      have N18 := Fr.app N17 Nq18
      subst q18
      show Go p.tables e below _ (T18.setTop (mkF m 59 #[.val (.int p1), .val (.int p2), .val (.int p1), .val (.long ((p1 ||| (32 : Int32)).toInt64 - (97 : Int64))), .second, .val (.int (0 : Int32)), .val (.int (F1 p1)), .unset] [(.int (F1 (p1 ^^^ (32 : Int32))))]))
      refine g_istore (pc' := 61) (Ls' := #[.val (.int p1), .val (.int p2), .val (.int p1), .val (.long ((p1 ||| (32 : Int32)).toInt64 - (97 : Int64))), .second, .val (.int (0 : Int32)), .val (.int (F1 p1)), .val (.int (F1 (p1 ^^^ (32 : Int32))))]) C X18 at_59 rfl rfl ?_
      refine g_iload (pc' := 63) C X18 at_61 rfl rfl ?_
      refine g_iload (pc' := 65) C X18 at_63 rfl rfl ?_
      by_cases c19 : (F1 p1) = (0 : Int32)
      · refine g_icmpN (pc' := 68) C X18 at_65 (teq c19).2 rfl ?_
        refine g_iload (pc' := 70) C X18 at_68 rfl rfl ?_
        refine g_iload (pc' := 72) C X18 at_70 rfl rfl ?_
        by_cases c20 : (F1 (p1 ^^^ (32 : Int32))) = (0 : Int32)
        · refine g_icmpN (pc' := 75) C X18 at_72 (teq c20).2 rfl ?_
          refine g_iconst (pc' := 76) (v := (1 : Int32)) C X18 at_75 rfl rfl ?_
          refine g_goto (pc' := 80) C X18 at_76 (by decide) (by decide) ?_
          exact g_retN C X18 (by simp) at_80 (by decide) (by decide) ⟨congrArg (fun z => some (Value.int z)) (F0_l9 p1 p2 c1 c16 c19 c20).symm, N18⟩
        · refine g_icmpY (pc' := 79) C X18 at_72 (feq c20).2 (by decide) (by decide) ?_
          refine g_iconst (pc' := 80) (v := (0 : Int32)) C X18 at_79 rfl rfl ?_
          exact g_retN C X18 (by simp) at_80 (by decide) (by decide) ⟨congrArg (fun z => some (Value.int z)) (F0_l10 p1 p2 c1 c16 c19 c20).symm, N18⟩
      · refine g_icmpY (pc' := 79) C X18 at_65 (feq c19).2 (by decide) (by decide) ?_
        refine g_iconst (pc' := 80) (v := (0 : Int32)) C X18 at_79 rfl rfl ?_
        exact g_retN C X18 (by simp) at_80 (by decide) (by decide) ⟨congrArg (fun z => some (Value.int z)) (F0_l11 p1 p2 c1 c16 c19).symm, N18⟩
    · refine g_ifN (pc' := 31) C X0 at_28 (flt c16).1 rfl ?_
      refine g_lloadN (pc' := 32) C X0 at_31 rfl rfl ?_
      refine g_ldc2 (pc' := 35) (v := (26 : Int64)) C X0 at_32 (hw _ (List.mem_of_getElem? (i := 5) rfl)) rfl ?_
      refine g_lcmp (pc' := 36) C X0 at_35 rfl ?_
      by_cases c21 : (lcmpW ((p1 ||| (32 : Int32)).toInt64 - (97 : Int64)) (26 : Int64)) < (0 : Int32)
      · refine g_ifN (pc' := 39) C X0 at_36 (tlt c21).2.1 rfl ?_
        refine g_iconst (pc' := 40) (v := (1 : Int32)) C X0 at_39 rfl rfl ?_
        refine g_goto (pc' := 44) C X0 at_40 (by decide) (by decide) ?_
        refine g_istore (pc' := 46) (Ls' := #[.val (.int p1), .val (.int p2), .val (.int p1), .val (.long ((p1 ||| (32 : Int32)).toInt64 - (97 : Int64))), .second, .val (.int (1 : Int32)), .unset, .unset]) C X0 at_44 rfl rfl ?_
        refine g_iloadN (pc' := 47) C X0 at_46 rfl rfl ?_
        refine g_callS (y := (⟨"com/example/declarant/declarant/reader/Lexer", "isLetter", "(I)Z"⟩ : MethodName)) (argsL := [(.int p1)]) (st := []) (pc' := 50) C X0 at_47 (hw _ (List.mem_of_getElem? (i := 1) rfl)) (hw _ (List.mem_of_getElem? (i := 2) rfl)) (hw _ (List.mem_of_getElem? (i := 3) rfl)) (hw _ (List.mem_of_getElem? (i := 4) rfl)) (by decide) (rm1 l Z a0 hw [] p1 h0 n0) (W := 0) (by decide) (by decide) (ce := 0) (sl := 0) rfl rfl (by decide) (by decide) rfl e0 rfl pd_0 rfl (Nat.le_refl _) rfl (fun v22 T22 L22 X22 Q22 => ?_)
        obtain ⟨q22, Nq22, e22⟩ := Q22
        have N22 := Fr.app N0 Nq22
        subst q22
        show Go p.tables e below _ (T22.setTop (mkF m 50 #[.val (.int p1), .val (.int p2), .val (.int p1), .val (.long ((p1 ||| (32 : Int32)).toInt64 - (97 : Int64))), .second, .val (.int (1 : Int32)), .unset, .unset] [(.int (F1 p1))]))
        refine g_istore (pc' := 52) (Ls' := #[.val (.int p1), .val (.int p2), .val (.int p1), .val (.long ((p1 ||| (32 : Int32)).toInt64 - (97 : Int64))), .second, .val (.int (1 : Int32)), .val (.int (F1 p1)), .unset]) C X22 at_50 rfl rfl ?_
        refine g_iloadN (pc' := 53) C X22 at_52 rfl rfl ?_
        refine g_bipush (pc' := 55) (v := (32 : Int32)) C X22 at_53 rfl rfl ?_
        refine g_ixor (pc' := 56) C X22 at_55 rfl ?_
        refine g_callS (y := (⟨"com/example/declarant/declarant/reader/Lexer", "isLetter", "(I)Z"⟩ : MethodName)) (argsL := [(.int (p1 ^^^ (32 : Int32)))]) (st := []) (pc' := 59) C X22 at_56 (hw _ (List.mem_of_getElem? (i := 1) rfl)) (hw _ (List.mem_of_getElem? (i := 2) rfl)) (hw _ (List.mem_of_getElem? (i := 3) rfl)) (hw _ (List.mem_of_getElem? (i := 4) rfl)) (by decide) (rm1 l Z a0 hw [] (p1 ^^^ (32 : Int32)) h0 n0) (W := 0) (by decide) (by decide) (ce := 0) (sl := 0) rfl rfl (by decide) (by decide) rfl e22 rfl pd_0 rfl (Nat.le_refl _) rfl (fun v23 T23 L23 X23 Q23 => ?_)
        obtain ⟨q23, Nq23, e23⟩ := Q23
        have N23 := Fr.app N22 Nq23
        subst q23
        show Go p.tables e below _ (T23.setTop (mkF m 59 #[.val (.int p1), .val (.int p2), .val (.int p1), .val (.long ((p1 ||| (32 : Int32)).toInt64 - (97 : Int64))), .second, .val (.int (1 : Int32)), .val (.int (F1 p1)), .unset] [(.int (F1 (p1 ^^^ (32 : Int32))))]))
        refine g_istore (pc' := 61) (Ls' := #[.val (.int p1), .val (.int p2), .val (.int p1), .val (.long ((p1 ||| (32 : Int32)).toInt64 - (97 : Int64))), .second, .val (.int (1 : Int32)), .val (.int (F1 p1)), .val (.int (F1 (p1 ^^^ (32 : Int32))))]) C X23 at_59 rfl rfl ?_
        refine g_iload (pc' := 63) C X23 at_61 rfl rfl ?_
        refine g_iload (pc' := 65) C X23 at_63 rfl rfl ?_
        by_cases c24 : (F1 p1) = (1 : Int32)
        · refine g_icmpN (pc' := 68) C X23 at_65 (teq c24).2 rfl ?_
          refine g_iload (pc' := 70) C X23 at_68 rfl rfl ?_
          refine g_iload (pc' := 72) C X23 at_70 rfl rfl ?_
          by_cases c25 : (F1 (p1 ^^^ (32 : Int32))) = (1 : Int32)
          · refine g_icmpN (pc' := 75) C X23 at_72 (teq c25).2 rfl ?_
            refine g_iconst (pc' := 76) (v := (1 : Int32)) C X23 at_75 rfl rfl ?_
            refine g_goto (pc' := 80) C X23 at_76 (by decide) (by decide) ?_
            exact g_retN C X23 (by simp) at_80 (by decide) (by decide) ⟨congrArg (fun z => some (Value.int z)) (F0_l12 p1 p2 c1 c16 c21 c24 c25).symm, N23⟩
          · refine g_icmpY (pc' := 79) C X23 at_72 (feq c25).2 (by decide) (by decide) ?_
            refine g_iconst (pc' := 80) (v := (0 : Int32)) C X23 at_79 rfl rfl ?_
            exact g_retN C X23 (by simp) at_80 (by decide) (by decide) ⟨congrArg (fun z => some (Value.int z)) (F0_l13 p1 p2 c1 c16 c21 c24 c25).symm, N23⟩
        · refine g_icmpY (pc' := 79) C X23 at_65 (feq c24).2 (by decide) (by decide) ?_
          refine g_iconst (pc' := 80) (v := (0 : Int32)) C X23 at_79 rfl rfl ?_
          exact g_retN C X23 (by simp) at_80 (by decide) (by decide) ⟨congrArg (fun z => some (Value.int z)) (F0_l14 p1 p2 c1 c16 c21 c24).symm, N23⟩
      · refine g_ifY (pc' := 43) C X0 at_36 (flt c21).2.1 (by decide) (by decide) ?_
        refine g_iconst (pc' := 44) (v := (0 : Int32)) C X0 at_43 rfl rfl ?_
        refine g_istore (pc' := 46) (Ls' := #[.val (.int p1), .val (.int p2), .val (.int p1), .val (.long ((p1 ||| (32 : Int32)).toInt64 - (97 : Int64))), .second, .val (.int (0 : Int32)), .unset, .unset]) C X0 at_44 rfl rfl ?_
        refine g_iloadN (pc' := 47) C X0 at_46 rfl rfl ?_
        refine g_callS (y := (⟨"com/example/declarant/declarant/reader/Lexer", "isLetter", "(I)Z"⟩ : MethodName)) (argsL := [(.int p1)]) (st := []) (pc' := 50) C X0 at_47 (hw _ (List.mem_of_getElem? (i := 1) rfl)) (hw _ (List.mem_of_getElem? (i := 2) rfl)) (hw _ (List.mem_of_getElem? (i := 3) rfl)) (hw _ (List.mem_of_getElem? (i := 4) rfl)) (by decide) (rm1 l Z a0 hw [] p1 h0 n0) (W := 0) (by decide) (by decide) (ce := 0) (sl := 0) rfl rfl (by decide) (by decide) rfl e0 rfl pd_0 rfl (Nat.le_refl _) rfl (fun v26 T26 L26 X26 Q26 => ?_)
        obtain ⟨q26, Nq26, e26⟩ := Q26
        have N26 := Fr.app N0 Nq26
        subst q26
        show Go p.tables e below _ (T26.setTop (mkF m 50 #[.val (.int p1), .val (.int p2), .val (.int p1), .val (.long ((p1 ||| (32 : Int32)).toInt64 - (97 : Int64))), .second, .val (.int (0 : Int32)), .unset, .unset] [(.int (F1 p1))]))
        refine g_istore (pc' := 52) (Ls' := #[.val (.int p1), .val (.int p2), .val (.int p1), .val (.long ((p1 ||| (32 : Int32)).toInt64 - (97 : Int64))), .second, .val (.int (0 : Int32)), .val (.int (F1 p1)), .unset]) C X26 at_50 rfl rfl ?_
        refine g_iloadN (pc' := 53) C X26 at_52 rfl rfl ?_
        refine g_bipush (pc' := 55) (v := (32 : Int32)) C X26 at_53 rfl rfl ?_
        refine g_ixor (pc' := 56) C X26 at_55 rfl ?_
        refine g_callS (y := (⟨"com/example/declarant/declarant/reader/Lexer", "isLetter", "(I)Z"⟩ : MethodName)) (argsL := [(.int (p1 ^^^ (32 : Int32)))]) (st := []) (pc' := 59) C X26 at_56 (hw _ (List.mem_of_getElem? (i := 1) rfl)) (hw _ (List.mem_of_getElem? (i := 2) rfl)) (hw _ (List.mem_of_getElem? (i := 3) rfl)) (hw _ (List.mem_of_getElem? (i := 4) rfl)) (by decide) (rm1 l Z a0 hw [] (p1 ^^^ (32 : Int32)) h0 n0) (W := 0) (by decide) (by decide) (ce := 0) (sl := 0) rfl rfl (by decide) (by decide) rfl e26 rfl pd_0 rfl (Nat.le_refl _) rfl (fun v27 T27 L27 X27 Q27 => ?_)
        obtain ⟨q27, Nq27, e27⟩ := Q27
        have N27 := Fr.app N26 Nq27
        subst q27
        show Go p.tables e below _ (T27.setTop (mkF m 59 #[.val (.int p1), .val (.int p2), .val (.int p1), .val (.long ((p1 ||| (32 : Int32)).toInt64 - (97 : Int64))), .second, .val (.int (0 : Int32)), .val (.int (F1 p1)), .unset] [(.int (F1 (p1 ^^^ (32 : Int32))))]))
        refine g_istore (pc' := 61) (Ls' := #[.val (.int p1), .val (.int p2), .val (.int p1), .val (.long ((p1 ||| (32 : Int32)).toInt64 - (97 : Int64))), .second, .val (.int (0 : Int32)), .val (.int (F1 p1)), .val (.int (F1 (p1 ^^^ (32 : Int32))))]) C X27 at_59 rfl rfl ?_
        refine g_iload (pc' := 63) C X27 at_61 rfl rfl ?_
        refine g_iload (pc' := 65) C X27 at_63 rfl rfl ?_
        by_cases c28 : (F1 p1) = (0 : Int32)
        · refine g_icmpN (pc' := 68) C X27 at_65 (teq c28).2 rfl ?_
          refine g_iload (pc' := 70) C X27 at_68 rfl rfl ?_
          refine g_iload (pc' := 72) C X27 at_70 rfl rfl ?_
          by_cases c29 : (F1 (p1 ^^^ (32 : Int32))) = (0 : Int32)
          · refine g_icmpN (pc' := 75) C X27 at_72 (teq c29).2 rfl ?_
            refine g_iconst (pc' := 76) (v := (1 : Int32)) C X27 at_75 rfl rfl ?_
            refine g_goto (pc' := 80) C X27 at_76 (by decide) (by decide) ?_
            exact g_retN C X27 (by simp) at_80 (by decide) (by decide) ⟨congrArg (fun z => some (Value.int z)) (F0_l15 p1 p2 c1 c16 c21 c28 c29).symm, N27⟩
          · refine g_icmpY (pc' := 79) C X27 at_72 (feq c29).2 (by decide) (by decide) ?_
            refine g_iconst (pc' := 80) (v := (0 : Int32)) C X27 at_79 rfl rfl ?_
            exact g_retN C X27 (by simp) at_80 (by decide) (by decide) ⟨congrArg (fun z => some (Value.int z)) (F0_l16 p1 p2 c1 c16 c21 c28 c29).symm, N27⟩
        · refine g_icmpY (pc' := 79) C X27 at_65 (feq c28).2 (by decide) (by decide) ?_
          refine g_iconst (pc' := 80) (v := (0 : Int32)) C X27 at_79 rfl rfl ?_
          exact g_retN C X27 (by simp) at_80 (by decide) (by decide) ⟨congrArg (fun z => some (Value.int z)) (F0_l17 p1 p2 c1 c16 c21 c28).symm, N27⟩
def own_H (c : Int32) : Int32 := (if (lcmpW ((c ||| (32 : Int32)).toInt64 - (97 : Int64)) (0 : Int64)) < (0 : Int32) then (if (F1 c) = (0 : Int32) then (if (F1 (c ^^^ (32 : Int32))) = (0 : Int32) then (1 : Int32) else (0 : Int32)) else (0 : Int32)) else (if (lcmpW ((c ||| (32 : Int32)).toInt64 - (97 : Int64)) (26 : Int64)) < (0 : Int32) then (if (F1 c) = (1 : Int32) then (if (F1 (c ^^^ (32 : Int32))) = (1 : Int32) then (1 : Int32) else (0 : Int32)) else (0 : Int32)) else (if (F1 c) = (0 : Int32) then (if (F1 (c ^^^ (32 : Int32))) = (0 : Int32) then (1 : Int32) else (0 : Int32)) else (0 : Int32))))
theorem own_small : ∀ i : Fin 128, own_H (Int32.ofNat i.val) = 1 := by decide +kernel
theorem own_xs : ∀ i : Fin 128, 0 ≤ (Int32.ofNat i.val ^^^ (32 : Int32)).toInt ∧ (Int32.ofNat i.val ^^^ (32 : Int32)).toInt < 128 := by decide +kernel
theorem own_far (c : Int32) (h : c.toInt < 0 ∨ 128 ≤ c.toInt) : F1 c = 0 := by
  have e1 : (97 : Int32).toInt = 97 := by decide
  have e2 : (65 : Int32).toInt = 65 := by decide
  have e3 : (90 : Int32).toInt = 90 := by decide
  have e4 : (122 : Int32).toInt = 122 := by decide
  unfold F1
  simp only [Int32.lt_iff_toInt_lt, e1, e2, e3, e4]
  rcases h with h | h
  · rw [if_pos (by omega), if_pos (by omega)]
  · rw [if_neg (by omega), if_pos (by omega), if_neg (by omega), if_pos (by omega)]
theorem own_xfar (c : Int32) (h : c.toInt < 0 ∨ 128 ≤ c.toInt) : (c ^^^ (32 : Int32)).toInt < 0 ∨ 128 ≤ (c ^^^ (32 : Int32)).toInt := by
  by_cases q : 0 ≤ (c ^^^ (32 : Int32)).toInt ∧ (c ^^^ (32 : Int32)).toInt < 128
  · obtain ⟨i, hi⟩ := own_fin 128 _ q.1 q.2
    have e : c = Int32.ofNat i.val ^^^ (32 : Int32) := by rw [← hi, Int32.xor_assoc, Int32.xor_self, Int32.xor_zero]
    have := own_xs i
    rw [← e] at this
    omega
  · omega
theorem own_one (c : Int32) : own_H c = 1 := by
  by_cases q : 0 ≤ c.toInt ∧ c.toInt < 128
  · obtain ⟨i, hi⟩ := own_fin 128 c q.1 q.2
    rw [hi]; exact own_small i
  · have hf : c.toInt < 0 ∨ 128 ≤ c.toInt := by omega
    have f1 := own_far c hf
    have f2 := own_far _ (own_xfar c hf)
    have e0 : (c ||| (32 : Int32)).toInt64.toInt = (c ||| (32 : Int32)).toInt := c_i2l _
    have e1 := c_lsub (c ||| (32 : Int32)).toInt64 (97 : Int64)
    have e2 := rng64 ((c ||| (32 : Int32)).toInt64 - (97 : Int64))
    have e3 := rng32 (c ||| (32 : Int32))
    have e97 : (97 : Int64).toInt = 97 := by decide
    have e26 : (26 : Int64).toInt = 26 := by decide
    have ez : (0 : Int64).toInt = 0 := by decide
    have e32 : (32 : Int32).toInt = 32 := by decide
    unfold own_H
    simp only [lw_lt, Int64.lt_iff_toInt_lt, f1, f2, e26, ez]
    rcases hf with h | h
    · have s1 := (c_orS c (32 : Int32)).2.1 h
      rw [if_pos (by omega)]; simp
    · have s1 := (c_or0 c (32 : Int32) (by omega) (by omega)).1
      rw [if_neg (by omega), if_neg (by omega)]; simp
theorem own_law (p1 p2 : Int32) : F0 p1 p2 = 1 := by
  show (if (p2 &&& (1 : Int32)) = (0 : Int32) then own_H (p1 &&& (127 : Int32)) else own_H p1) = 1
  rw [own_one, own_one]; simp
set_option maxRecDepth 65536 in
set_option maxHeartbeats 40000000 in
theorem comes_1 {Post : Tables → Env → Array Value → State → Outcome → State → Prop} (hpost : ∀ tb e args s v u, (limb_1_1.after args s (.returned v) u = true ∧ limb_1_2.after args s (.returned v) u = true ∧ True) → FrameEnd s (.returned v) u (Jvm.fieldLocs frame_1_writes args s ++ Jvm.arrayLocs frame_1_arrays args s ++ Jvm.staticLocs frame_1_statics s) 0 0 → Post tb e args s (.returned v) u) :
    ArmFor flags0 classFile x code maxLocals ret World_1 tables_1 room_1 Calls_1 rest_1 Pre_1 Post := by
  intro l hfl _ _ p e ha hc hk s m args below hf hA hF happ hP
  obtain ⟨hcalls, hrest, hpre⟩ := hP
  obtain ⟨-, -, -, hnamed, -, -, -, hat⟩ := (Spec.applies_iff hf).mp happ
  obtain ⟨hg, hnr⟩ := and_e (Cond.before_iff.mp (show (Jvm.Cond.and given_1 narrow_1).before args s = true from hpre))
  obtain ⟨gg1, gg2⟩ := and_e hg
  obtain ⟨gg3, gg4⟩ := and_e gg2
  obtain ⟨w0, w1, rfl⟩ : ∃ w0 w1 : Value, args = #[w0, w1] := by
    have hs : args.size = 2 := by simpa [Cond.value, given_1] using gg1
    obtain ⟨L⟩ := args
    match L, hs with
    | [w0, w1], _ => exact ⟨w0, w1, rfl⟩
  have hw := fun d (hd : d ∈ tables_1) => atoms_spec (ws := Jvm.Cond.code x code maxLocals ret :: tables_1) hat d (List.mem_cons_of_mem _ hd)
  have hfit : Fit s := fun {y c} hc i hi => by
    obtain ⟨ha, rfl⟩ := Array.getElem?_eq_some_iff.mp hc
    have q := List.all_eq_true.mp ((Array.all_eq_true_iff_forall_mem.mp hF) _ (Array.getElem_mem ha)) i (List.mem_range.mpr hi)
    simpa [Array.getElem?_eq_getElem hi] using q
  obtain ⟨i0, ei0⟩ := is_v gg3
  obtain rfl : w0 = (.int i0) := Option.some.inj ei0
  obtain ⟨i1, ei1⟩ := is_v gg4
  obtain rfl : w1 = (.int i1) := Option.some.inj ei1
  obtain ⟨n, o, h1, h2, h3, _, L, rfl, ⟨hv, N⟩, hq⟩ := rm0 l s _ hw tables_1 i0 i1 s.heap s.heap.size p e ha hc hk s m _ below hf ((Spec.applies_iff_loose hf).mp happ).1 ⟨rfl, State.Warmed39.refl s, rfl⟩ trivial
  rw [own_law i0 i1] at hv
  subst hv
  refine ⟨n, _, h1, h2, h3, hpost _ _ _ _ _ _ ⟨Cond.after_iff.mpr rfl, Cond.after_iff.mpr (eq_i res_at (Term.int_eval (1)) rfl), trivial⟩ ⟨hq.1, hq.2.1, (hq.2.2.sift fun y hy => Or.inr (N y hy)).mono (by decide) (by decide)⟩⟩
theorem main_1_1 : Claimed_1_1 := comes_1 fun _ _ _ _ _ _ h hF => ⟨h.1, hF⟩
theorem main_1_2 : Claimed_1_2 := comes_1 fun _ _ _ _ _ _ h hF => ⟨h.2.1, hF⟩
end Jvm.Pilot.@@N@@
namespace Jvm.Pilot.@@N@@
open Jvm Jvm.ClassFile Sem Op Lib Jvm.Free Jvm.Stand Jvm.Pilot.@@N@@.Jvm.D
/-! MADE BY PROGRAM (witnessworld.py) out of the Statement's table words and the real class files: 9 classes; the members and pool entries that the words name. The judged class is class 1, her method 1. -/
namespace start1
open Jvm.ClassFile
def u (s : String) : CpInfo := .utf8 (stringToUtf16 s)
/-- a pool by its gaps: so many unusable entries, then the entry; so many at the end -/
def gap : Nat → List CpInfo → List CpInfo
  | 0, r => r
  | n + 1, r => .unusable :: gap n r
def poolList (es : List (Nat × CpInfo)) (last : Nat) : List CpInfo := es.foldr (fun e r => gap e.1 (e.2 :: r)) (gap last [])
def pool (es : List (Nat × CpInfo)) (last : Nat) : Array CpInfo := ⟨poolList es last⟩
def fileOf (pool : Array CpInfo) (this : Nat) (attrs : Array Attribute := #[]) (ms : Array MethodInfo := #[]) (fl : Nat := 33) (sup : Nat := 0) (ifs : Array Nat := #[]) (fds : Array FieldInfo := #[]) : ClassFile where
  minorVersion := 0
  majorVersion := 65
  constantPool := pool
  accessFlags := fl
  thisClass := this
  superClass := sup
  interfaces := ifs
  fields := fds
  methods := ms
  attributes := attrs
def plain (name : String) (sup : Option ClassId) : Class where
  name := name
  kind := .ordinary
  loader := none
  accessFlags := 33
  super := sup
  interfaces := #[]
  cf := none
  fields := #[]
  methods := #[]
  instanceTypes := #[]
  staticTypes := #[]
  resolved := #[]
  callSites := []
  init := .initialized
  statics := none
  mirror := none

def pool0 : Array CpInfo := pool [(5, u "<init>"), (0, u "()V"), (1, .class_ 10), (1, u "java/lang/Object")] 113

def k0m0 : Method := { name := "<init>", desc := "()V", sig := { parameters := [], returnType := none }, accessFlags := 1, code := none }
/-- java/lang/Object -/
def k0 : Class := { plain "java/lang/Object" none with
  accessFlags := 33
  interfaces := #[]
  cf := some (fileOf pool0 8 #[] #[{ accessFlags := 1, nameIndex := 5, descriptorIndex := 6, attributes := #[] }] 33 0 #[] #[])
  fields := #[]
  methods := #[k0m0]
  instanceTypes := #[]
  staticTypes := #[]
  resolved := Array.replicate 124 none
  statics := none }

def pool1 : Array CpInfo := pool [(2, .class_ 4), (1, u "java/lang/Object"), (0, u "<init>"), (0, u "()V"), (0, .long 97), (1, .long 26), (1, .interfaceMethodref 12 13), (0, .class_ 14), (0, .nameAndType 15 16), (0, u "com/example/declarant/declarant/reader/Lexer"), (0, u "isLetter"), (0, u "(I)Z"), (0, .class_ 18), (0, u "com/example/declarant/declarant/reader/LexerIsLetterPinLaw"), (2, u "law"), (0, u "(II)Z")] 3

def k1m0 : Method := { name := "<init>", desc := "()V", sig := { parameters := [], returnType := none }, accessFlags := 2, code := none }
def k1c1 : Code := { maxStack := 4, maxLocals := 8, code := code, exceptionTable := #[], attributes := #[] }
def k1m1 : Method := { name := "law", desc := "(II)Z", sig := { parameters := [.int, .int], returnType := some .boolean }, accessFlags := 9, code := some k1c1 }
/-- com/example/declarant/declarant/reader/LexerIsLetterPinLaw -/
def k1 : Class := { plain "com/example/declarant/declarant/reader/LexerIsLetterPinLaw" (some 0) with
  accessFlags := 49
  interfaces := #[]
  cf := some (fileOf pool1 17 #[] #[{ accessFlags := 2, nameIndex := 5, descriptorIndex := 6, attributes := #[] }, { accessFlags := 9, nameIndex := 21, descriptorIndex := 22, attributes := #[] }] 49 2 #[] #[])
  fields := #[]
  methods := #[k1m0, k1m1]
  instanceTypes := #[]
  staticTypes := #[]
  resolved := Array.replicate 26 none
  statics := none }

def pool2 : Array CpInfo := pool [(2, .class_ 4), (1, u "com/example/declarant/declarant/reader/Lexer"), (1, u "(I)Z"), (0, .class_ 8), (0, u "java/lang/Object"), (2, u "isLetter")] 6

def k2c0 : Code := { maxStack := 2, maxLocals := 1, code := prog_85_method_2_code, exceptionTable := #[], attributes := #[] }
def k2m0 : Method := { name := "isLetter", desc := "(I)Z", sig := { parameters := [.int], returnType := some .boolean }, accessFlags := 9, code := some k2c0 }
/-- com/example/declarant/declarant/reader/Lexer -/
def k2 : Class := { plain "com/example/declarant/declarant/reader/Lexer" (some 0) with
  accessFlags := 1536
  interfaces := #[]
  cf := some (fileOf pool2 2 #[] #[{ accessFlags := 9, nameIndex := 11, descriptorIndex := 6, attributes := #[] }] 1536 7 #[] #[])
  fields := #[]
  methods := #[k2m0]
  instanceTypes := #[]
  staticTypes := #[]
  resolved := Array.replicate 18 none
  statics := none }

def pool3 : Array CpInfo := pool [(1, u "java/lang/Cloneable"), (0, .class_ 1), (0, u "java/lang/Object"), (0, .class_ 3)] 3

/-- java/lang/Cloneable -/
def k3 : Class := { plain "java/lang/Cloneable" (some 0) with
  accessFlags := 1537
  interfaces := #[]
  cf := some (fileOf pool3 2 #[] #[] 1537 4 #[] #[])
  fields := #[]
  methods := #[]
  instanceTypes := #[]
  staticTypes := #[]
  resolved := Array.replicate 8 none
  statics := none }

def pool4 : Array CpInfo := pool [(1, u "java/io/Serializable"), (0, .class_ 1), (0, u "java/lang/Object"), (0, .class_ 3)] 3

/-- java/io/Serializable -/
def k4 : Class := { plain "java/io/Serializable" (some 0) with
  accessFlags := 1537
  interfaces := #[]
  cf := some (fileOf pool4 2 #[] #[] 1537 4 #[] #[])
  fields := #[]
  methods := #[]
  instanceTypes := #[]
  staticTypes := #[]
  resolved := Array.replicate 8 none
  statics := none }

/-- the primitive byte -/
def k5 : Class := { plain "byte" none with kind := .primitive 'B', accessFlags := 0x411 }
/-- [B -/
def k6 : Class := { plain "[B" (some 0) with kind := .array 5 .byte, interfaces := #[3, 4], accessFlags := 1041 }

/-- the primitive int -/
def k7 : Class := { plain "int" none with kind := .primitive 'I', accessFlags := 0x411 }
/-- [I -/
def k8 : Class := { plain "[I" (some 0) with kind := .array 7 .int, interfaces := #[3, 4], accessFlags := 1041 }

def heap : Heap := #[]
def classes : Array Class := #[k0, k1, k2, k3, k4, k5, k6, k7, k8]
def interned : List (Array UInt16 × Addr) := []
def slotsUsed : Nat := 0
def theMethod : MethodId := ⟨1, 1⟩
def args0 : Array Value := #[.int 5, .int 5]
def aboutOver (below : List Frame) : State where
  vm := { classes := classes, interned := interned.toArray }
  heap := heap
  slotsUsed := slotsUsed
  threads := #[{ frames := .invoking theMethod args0 :: below }]
def below0 : List Frame := [.native { method := ⟨0, 0⟩, args := #[] }]
def about1 : State := aboutOver below0
def p0 : Program := .bare "" "" ""
def e0 : Env := launch0.env 0 0 0
theorem w_frames : about1.frames = Frame.invoking theMethod args0 :: below0 := rfl
set_option maxRecDepth 65536 in
theorem w_args : argsFit about1.vm theMethod args0 = true := by decide +kernel
set_option maxRecDepth 65536 in
theorem w_heap : heapFits about1 = true := by decide +kernel
set_option maxRecDepth 65536 in
theorem w_runnable : about1.curStatus? = some .runnable := by decide +kernel
set_option maxRecDepth 65536 in
theorem w_alone : about1.alone = true := by decide +kernel
set_option maxRecDepth 65536 in
theorem w_named : about1.methodNamed? x = some theMethod := by decide +kernel
set_option maxRecDepth 65536 in
theorem w_hears : about1.hears theMethod below0 = true := by decide +kernel
set_option maxRecDepth 65536 in
theorem w_ripe : about1.ripe theMethod args0 below0 = true := by decide +kernel
theorem w_running : about1.status = .running := rfl
set_option maxRecDepth 65536 in
theorem w_room : about1.hasRoom e0.platform room_1 = true :=
  launch0.hasRoom_least _ room_1 (by decide +kernel) (by decide +kernel) (by decide +kernel) (by decide +kernel) (by decide +kernel) (by decide +kernel)
theorem allAtoms_all (ts : List Jvm.Cond) (a : Array Jvm.Value) (st : Jvm.State) : (allAtoms ts).before a st = ts.all (fun c => c.before a st) := by
  induction ts with
  | nil => rfl
  | cons c t ih =>
    show (Jvm.Cond.and c (allAtoms t)).before a st = _
    rw [Jvm.Cond.before_and, ih, List.all_cons]
def words1 : List Jvm.Cond := Jvm.Cond.code x code maxLocals ret :: tables_1
/-- a 'code' word, met by the world's own term for the bytes: nothing is compared byte by byte -/
theorem code_word {y : MethodName} {bytes : ByteArray} {mx : Nat} {rt : Option FieldType} {a : Array Value} {s : State} {m : MethodId} {meth : Method} {c : Code} (h1 : s.methodNamed? y = some m) (h2 : s.vm.method? m = some meth) (h3 : meth.code = some c) (h4 : c.code = bytes)
    (h5 : (c.maxLocals == mx && c.exceptionTable.isEmpty && decide (c.maxStack ≤ mostOperands) && decide (meth.sig.returnType = rt) && !meth.locks && decide (parseMethodDescriptor y.desc = some meth.sig)) = true) : (Jvm.Cond.code y bytes mx rt).before a s = true := by
  simp only [Bool.and_eq_true, beq_iff_eq, Bool.not_eq_true', decide_eq_true_eq] at h5
  obtain ⟨⟨⟨⟨⟨g1, g2⟩, g3⟩, g4⟩, g5⟩, g6⟩ := h5
  simp [Cond.before, Cond.holds, Cond.value, h1, h2, h3, h4, g1, g2, g3, g4, g5, g6]
def isCode : Jvm.Cond → Bool
  | .code _ _ _ _ => true
  | _ => false
theorem all_split {L : List Jvm.Cond} {P : Jvm.Cond → Bool} (h1 : L.all (fun c => isCode c || P c) = true) (h2 : ∀ c ∈ L.filter isCode, P c = true) : L.all P = true := by
  refine List.all_eq_true.mpr fun c hc => ?_
  have h := List.all_eq_true.mp h1 c hc
  rcases Bool.eq_false_or_eq_true (isCode c) with hi | hi
  · exact h2 c (List.mem_filter.mpr ⟨hc, hi⟩)
  · simpa [hi] using h
set_option maxRecDepth 65536 in
theorem w_c0 : (Jvm.Cond.code x code maxLocals ret).before args0 about1 = true := code_word (m := ⟨1, 1⟩) (meth := k1m1) (c := k1c1) (by decide +kernel) rfl rfl rfl (by decide +kernel)
set_option maxRecDepth 65536 in
theorem w_c1 : (Jvm.Cond.code ({ cls := "com/example/declarant/declarant/reader/Lexer", name := "isLetter", desc := "(I)Z" } : Jvm.MethodName) prog_85_method_2_code (1 : Nat) (Option.some Jvm.ClassFile.FieldType.boolean)).before args0 about1 = true := code_word (m := ⟨2, 0⟩) (meth := k2m0) (c := k2c0) (by decide +kernel) rfl rfl rfl (by decide +kernel)
def codes1 : List Jvm.Cond := [Jvm.Cond.code x code maxLocals ret, Jvm.Cond.code ({ cls := "com/example/declarant/declarant/reader/Lexer", name := "isLetter", desc := "(I)Z" } : Jvm.MethodName) prog_85_method_2_code (1 : Nat) (Option.some Jvm.ClassFile.FieldType.boolean)]
set_option maxRecDepth 65536 in
theorem codes_eq : words1.filter isCode = codes1 := rfl
theorem w_codes : ∀ c ∈ words1.filter isCode, c.before args0 about1 = true := by
  rw [codes_eq]
  intro c hc
  simp only [codes1, List.mem_cons, List.not_mem_nil, or_false] at hc
  rcases hc with rfl | rfl
  · exact w_c0
  · exact w_c1
set_option maxRecDepth 65536 in
theorem w_t1 : words1.all (fun c => isCode c || c.before args0 about1) = true := by decide +kernel
theorem w_tables : (allAtoms (Jvm.Cond.code x code maxLocals ret :: tables_1)).before args0 about1 = true := by
  rw [allAtoms_all]
  show words1.all (fun c => c.before args0 about1) = true
  refine all_split ?_ w_codes
  rw [w_t1]
set_option maxRecDepth 65536 in
theorem w_case : (Jvm.Cond.and given_1 narrow_1).before args0 about1 = true := by decide +kernel
theorem w_applies : (headSpec (Jvm.Cond.code x code maxLocals ret :: tables_1) room_1).applies x e0.platform about1 = true :=
  (Spec.applies_iff w_frames).mpr ⟨w_running, w_runnable, w_alone, w_named, w_hears, w_ripe, w_room, w_tables⟩
theorem atStart : AtStart classFile x code maxLocals ret World_1 tables_1 room_1 Calls_1 rest_1 Pre_1 launch0 p0 e0 about1 theMethod args0 below0 :=
  ⟨lists_1, trivial, launch0.admits_env _ _ _, launch0.least_env, fairChoices_fair.cas, fairChoices_fair.clock, w_frames, w_args, w_heap, w_applies, trivial, trivial, w_case⟩
end start1
theorem witness_1 : WitnessClaimed_1 := ⟨start1.p0, start1.e0, start1.about1, start1.theMethod, start1.args0, start1.below0, start1.atStart⟩
end Jvm.Pilot.@@N@@
