import JvmDerived
import JvmDerived.Pilot.@@N@@Statement
import JvmDerived.Pilot.@@N@@Code
set_option linter.unusedVariables false
set_option linter.unusedSimpArgs false
namespace Jvm.RoadKit
open Sem ClassFile Op Lib Jvm.Stand Jvm.Free Jvm.LawKit
section New
variable {p : Program} {l : Launch} {e : Env} {R : Room} {s : State} {m : MethodId} {args : Array Value} {below : List Frame} {meth : Method} {c : Code} {T : State} {locs : List Loc} {cells slots : Nat}
theorem retI (X : Stand p l e R s m args below meth c T locs cells slots) (hx : p.tables.exec = Jvm.exec) {pc : Nat} {Ls : Array Slot} {z : Int32} {rest : List Value} (hret : meth.sig.returnType = some .int) (hd : decode c.code pc = .ok (.ireturn, 1)) {fs : List Frame}
    (hl : ∀ (f : JFrame) (acts : List Action), f.method = m → f.locked = none → f.entered = [] → (doReturn e (T.setTop f) acts (some (.int z))).1 = T.setFrames fs) : Steps p.tables e below (T.setTop (mkF m pc Ls (.int z :: rest))) (T.setFrames fs) := by
  have hm' : T.vm.method? m = some meth := X.method'
  have hn : narrow .int (.int z) = .int z := rfl
  show Steps p.tables e below (T.setTop { method := m, pc := pc, locals := Ls, stack := _ :: rest, locked := none }) _
  jvm_step X.here [X.here.top, hx, hd, hm', hret, hn]
  first | (intro acts; rw [hl _ acts rfl rfl rfl]) | rw [hl _ _ rfl rfl rfl]
  exact Steps.refl _
end New
end Jvm.RoadKit
namespace Jvm.Pilot.@@N@@
open Jvm Jvm.ClassFile Sem Op Lib Jvm.Free Jvm.Stand Jvm.LawKit Jvm.RoadKit Bundle Jvm.Pilot.@@N@@.Jvm.D
/-! own_..: a walk as a goal: from here some run ends as the contract says; steps are taken off its front -/
section Own
variable {p : Program} {l : Launch} {e : Env} {R : Room} {s : State} {m : MethodId} {args : Array Value} {below : List Frame} {meth : Method} {c : Code} {T : State} {locs : List Loc} {cells slots : Nat} {Z : State} {a0 : Array Value} {h : Heap}
def Run (tb : Tables) (e : Env) (below : List Frame) (A : State) (G : State → Outcome → Prop) : Prop := ∃ t o, Steps tb e below A t ∧ G t o
theorem own_go {tb : Tables} {A B : State} {G : State → Outcome → Prop} (st : ∀ t, Steps tb e below B t → Steps tb e below A t) (k : Run tb e below B G) : Run tb e below A G := by
  obtain ⟨t, o, h1, h2⟩ := k
  exact ⟨t, o, st t h1, h2⟩
def OwnFin (s : State) (below : List Frame) (Q : Option Value → Heap → List Loc → Prop) (ck sk : Nat) : State → Outcome → Prop :=
  fun t o => t.status = .running ∧ Ended t below o ∧ ∃ v L, o = .returned v ∧ Q v t.heap L ∧ FrameEnd s o t L ck sk
def OwnCtr (l : Launch) (y : MethodName) (bytes : ByteArray) (maxL : Nat) (ret : Option FieldType) (ws : List Jvm.Cond) (rm : Room) (Z : State) (as' : Array Value) (h : Heap) (Q : Option Value → Heap → List Loc → Prop) : Prop :=
  MetFree l y (head1 (Jvm.Cond.code y bytes maxL ret :: ws) rm) (fun a U => a = as' ∧ Z.Warmed39 U.vm ∧ U.heap = h) (fun _ _ _ _ _ => True) (fun _ U o U' => ∃ v L, o = .returned v ∧ Q v U'.heap L ∧ FrameEnd U o U' L rm.cells rm.slots)
theorem own_body {y : MethodName} {bytes : ByteArray} {maxL : Nat} {ret : Option FieldType} {ws : List Jvm.Cond} {rm : Room} {as' : Array Value} {Q : Option Value → Heap → List Loc → Prop} (pn : plainName y.cls = true)
    (H : ∀ (p : Program) (e : Env) (s : State) (m : MethodId) (below : List Frame) (meth : Method) (c : Code) (s₁ : State), Stand p l e rm s m as' below meth c s₁ [] 0 0 → p.tables.exec = Jvm.exec → c.code = bytes → c.maxLocals = maxL →
      s.vm.findClass y.cls = some m.cls → meth.name = y.name → meth.sig.returnType = ret → meth.locks = false → Z.Warmed39 s.vm → s₁.heap = h → Run p.tables e below (s₁.setTop (entryFrame m as' maxL)) (OwnFin s below Q rm.cells rm.slots)) :
    OwnCtr l y bytes maxL ret ws rm Z as' h Q := by
  refine MetFree.of_bodySF (plainFor_of_name pn) hisR ?_
  intro p e s m args below meth c s₁ Bd hml0 hP hK
  obtain ⟨rfl, hZ, hh⟩ := hP
  exact H p e s m below meth c s₁ (Stand.of_body Bd) Bd.exec Bd.bytes hml0 (findClass_of_methodNamed Bd.named) (name_of_methodNamed Bd.named Bd.method).1 Bd.returns (BodyLoose.notSynchronized Bd) hZ (by rw [← hh, Bd.state]; rfl)
theorem own_out (X : Stand p l e R s m args below meth c T locs cells slots) {v : Option Value} (hv : meth.sig.returnType = none → v = none) (hlk : meth.locks = false) {g : JFrame} {Q : Option Value → Heap → List Loc → Prop} {ck sk : Nat}
    (hst : ∀ fs, (∀ (f : JFrame) (acts : List Action), f.method = m → f.locked = none → f.entered = [] → (doReturn e (T.setTop f) acts v).1 = T.setFrames fs) → Steps p.tables e below (T.setTop g) (T.setFrames fs))
    (hQ : Q v T.heap locs) (hc : cells ≤ ck) (hs : slots ≤ sk) : Run p.tables e below (T.setTop g) (OwnFin s below Q ck sk) := by
  obtain ⟨fs, hr, hrun, hended, hW, hsame⟩ := X.leave (v := v) hv hlk
  exact ⟨_, _, hst fs hr, hrun, hended, v, locs, rfl, hQ, ⟨_, rfl⟩, hW, hsame.mono hc hs⟩
theorem own_callV (X : Stand p l e R s m args below meth c T locs cells slots) (hx : p.tables.exec = Jvm.exec) (hZ : Z.Warmed39 s.vm) {own C : String} {index : Nat} {y : MethodName} {bytes : ByteArray} {maxL : Nat} {ret : Option FieldType}
    (hown : s.vm.findClass own = some m.cls) (w1 : (Jvm.Cond.methodLink own index y).before a0 Z = true) (w2 : (Jvm.Cond.instanceMethod y).before a0 Z = true) (w3 : (Jvm.Cond.selects C y y).before a0 Z = true)
    (w4 : (Jvm.Cond.code y bytes maxL ret).before a0 Z = true) (w5 : (Jvm.Cond.initialized y.cls).before a0 Z = true) (hy : y.cls ≠ "java/lang/invoke/MethodHandle" ∧ y.cls ≠ "java/lang/invoke/VarHandle")
    (eT : T.heap = h) {rm : Room} {as' : Array Value} {Q : Option Value → Heap → List Loc → Prop} (hM : OwnCtr l y bytes maxL ret [] rm Z as' h Q)
    {b : Addr} (E : Exa Z h b C) {g : JFrame} (hg : g.method = m) (hsize : g.locals.size = c.maxLocals) {argsL rest : List Value} {ps : List FieldType} {rt : Option FieldType} (hpd : parseMethodDescriptor y.desc = some ⟨ps, rt⟩) (hlen : argsL.length = ps.length)
    (hs : g.stack = argsL.reverse ++ .ref b :: rest) (has : as' = (Value.ref b :: argsL).toArray) {W : Nat} (hW : 2 * g.monitorRoom + (rest.map fun v => v.category).sum ≤ W) (hd : decode c.code g.pc = .ok (.invokevirtual index, 3))
    (hf : rm.frames + 1 ≤ R.frames) (hl : W + (maxL + 11) + rm.locals ≤ R.locals) (hc : cells + rm.cells ≤ R.cells) (hsl : slots + rm.slots ≤ R.slots) :
    ∃ (v : Option Value) (T' : State) (L : List Loc), Stand p l e R s m args below meth c T' (locs ++ L) (cells + rm.cells) (slots + rm.slots) ∧ Q v T'.heap L ∧
      ∀ target, Steps p.tables e below (T'.setTop { g with pc := g.pc + 3, stack := v.toList ++ rest }) target → Steps p.tables e below (T.setTop g) target := by
  obtain ⟨cell, k, h1, h2, h3, h4, -⟩ := E
  obtain ⟨v, vm₁, ⟨T', L', k', n'⟩, -, X', ⟨L, hQ, l1, l2, l3⟩, st⟩ := Jvm.LawKit.callV X hx hown (mvT hZ w1) (mvT hZ w2) (mvT hZ w3) (mvT hZ w4) hy (backOf (W := W) hM hZ w4 w5 hf hl) (b := b) (cellB := cell) (by rw [eT]; exact h1) h4 (by rw [hZ.alike.findClass]; exact h2) hg hsize (lenOf hpd hlen) hs hW hd (fun _ _ => ⟨has.symm, eT, hc, hsl⟩)
  dsimp only [Pt.U, Pt.locs, Pt.cells, Pt.slots] at X' l1 l2 l3 st hQ
  subst l1 l2 l3
  exact ⟨v, T', L, X', hQ, st⟩
theorem own_callVU (X : Stand p l e R s m args below meth c T locs cells slots) (hx : p.tables.exec = Jvm.exec) (hZ : Z.Warmed39 s.vm) {own C owner : String} {index : Nat} {x y : MethodName} {bytes : ByteArray} {maxL : Nat} {ret : Option FieldType}
    (hown : s.vm.findClass own = some m.cls) (w1 : (Jvm.Cond.methodLink own index x).before a0 Z = true) (w1' : (Jvm.Cond.sameMethod x.cls owner x.name x.desc).before a0 Z = true) (w1'' : (Jvm.Cond.declares ⟨owner, x.name, x.desc⟩).before a0 Z = true) (w2 : (Jvm.Cond.instanceMethod y).before a0 Z = true) (w3 : (Jvm.Cond.selects C x y).before a0 Z = true)
    (w4 : (Jvm.Cond.code y bytes maxL ret).before a0 Z = true) (w5 : (Jvm.Cond.initialized y.cls).before a0 Z = true) (hy : owner ≠ "java/lang/invoke/MethodHandle" ∧ owner ≠ "java/lang/invoke/VarHandle")
    (eT : T.heap = h) {rm : Room} {as' : Array Value} {Q : Option Value → Heap → List Loc → Prop} (hM : OwnCtr l y bytes maxL ret [] rm Z as' h Q)
    {b : Addr} (E : Exa Z h b C) {g : JFrame} (hg : g.method = m) (hsize : g.locals.size = c.maxLocals) {argsL rest : List Value} {ps : List FieldType} {rt : Option FieldType} (hpd : parseMethodDescriptor x.desc = some ⟨ps, rt⟩) (hlen : argsL.length = ps.length)
    (hs : g.stack = argsL.reverse ++ .ref b :: rest) (has : as' = (Value.ref b :: argsL).toArray) {W : Nat} (hW : 2 * g.monitorRoom + (rest.map fun v => v.category).sum ≤ W) (hd : decode c.code g.pc = .ok (.invokevirtual index, 3))
    (hf : rm.frames + 1 ≤ R.frames) (hl : W + (maxL + 11) + rm.locals ≤ R.locals) (hc : cells + rm.cells ≤ R.cells) (hsl : slots + rm.slots ≤ R.slots) :
    ∃ (v : Option Value) (T' : State) (L : List Loc), Stand p l e R s m args below meth c T' (locs ++ L) (cells + rm.cells) (slots + rm.slots) ∧ Q v T'.heap L ∧
      ∀ target, Steps p.tables e below (T'.setTop { g with pc := g.pc + 3, stack := v.toList ++ rest }) target → Steps p.tables e below (T.setTop g) target := by
  obtain ⟨cB, kB, q1, q2, q3⟩ := isOf hZ eT E
  obtain ⟨v, vm₁, ⟨T', L', k', n'⟩, -, X', ⟨L, hQ, l1, l2, l3⟩, st⟩ := X.virtualBackUp hx hown (mvT hZ w1) (mvT hZ w1') (mvT hZ w1'') hy (mvT hZ w3) (mvT hZ w2) (backOf (W := W) hM hZ w4 w5 hf hl) q1 q3 hg hsize (Steps.refl _) (lenOf hpd hlen) hs hW hd (fun _ _ => ⟨has.symm, eT, hc, hsl⟩)
  dsimp only [Pt.U, Pt.locs, Pt.cells, Pt.slots] at X' l1 l2 l3 st hQ
  subst l1 l2 l3
  exact ⟨v, T', L, X', hQ, fun _ k => st.trans k⟩
theorem own_callS (X : Stand p l e R s m args below meth c T locs cells slots) (hx : p.tables.exec = Jvm.exec) (hZ : Z.Warmed39 s.vm) {own : String} {index : Nat} {y : MethodName} {bytes : ByteArray} {maxL : Nat} {ret : Option FieldType}
    (hown : s.vm.findClass own = some m.cls) (w1 : (Jvm.Cond.methodLink own index y).before a0 Z = true) (w2 : (Jvm.Cond.static y).before a0 Z = true)
    (w4 : (Jvm.Cond.code y bytes maxL ret).before a0 Z = true) (w5 : (Jvm.Cond.initialized y.cls).before a0 Z = true) (hy : y.cls ≠ "java/lang/invoke/MethodHandle" ∧ y.cls ≠ "java/lang/invoke/VarHandle")
    (eT : T.heap = h) {rm : Room} {as' : Array Value} {Q : Option Value → Heap → List Loc → Prop} (hM : OwnCtr l y bytes maxL ret [] rm Z as' h Q)
    {g : JFrame} (hg : g.method = m) (hsize : g.locals.size = c.maxLocals) {argsL rest : List Value} {ps : List FieldType} {rt : Option FieldType} (hpd : parseMethodDescriptor y.desc = some ⟨ps, rt⟩) (hlen : argsL.length = ps.length)
    (hs : g.stack = argsL.reverse ++ rest) (has : as' = argsL.toArray) {W : Nat} (hW : 2 * g.monitorRoom + (rest.map fun v => v.category).sum ≤ W) (hd : decode c.code g.pc = .ok (.invokestatic index, 3))
    (hf : rm.frames + 1 ≤ R.frames) (hl : W + (maxL + 11) + rm.locals ≤ R.locals) (hc : cells + rm.cells ≤ R.cells) (hsl : slots + rm.slots ≤ R.slots) :
    ∃ (v : Option Value) (T' : State) (L : List Loc), Stand p l e R s m args below meth c T' (locs ++ L) (cells + rm.cells) (slots + rm.slots) ∧ Q v T'.heap L ∧
      ∀ target, Steps p.tables e below (T'.setTop { g with pc := g.pc + 3, stack := v.toList ++ rest }) target → Steps p.tables e below (T.setTop g) target := by
  obtain ⟨v, vm₁, ⟨T', L', k', n'⟩, -, X', ⟨L, hQ, l1, l2, l3⟩, st⟩ := Jvm.LawKit.callS X hx hown (mvT hZ w1) (mvT hZ w2) (mvT hZ w5) (mvT hZ w4) hy (backOf (W := W) hM hZ w4 w5 hf hl) hg hsize (lenOf hpd hlen) hs hW hd (fun _ _ => ⟨has.symm, eT, hc, hsl⟩)
  dsimp only [Pt.U, Pt.locs, Pt.cells, Pt.slots] at X' l1 l2 l3 st hQ
  subst l1 l2 l3
  exact ⟨v, T', L, X', hQ, st⟩
theorem own_callI (X : Stand p l e R s m args below meth c T locs cells slots) (hx : p.tables.exec = Jvm.exec) (hZ : Z.Warmed39 s.vm) {own : String} {index : Nat} {y : MethodName} {bytes : ByteArray} {maxL : Nat}
    (hown : s.vm.findClass own = some m.cls) (hy1 : y.name = "<init>") (w1 : (Jvm.Cond.methodLink own index y).before a0 Z = true) (w2 : (Jvm.Cond.instanceMethod y).before a0 Z = true)
    (w4 : (Jvm.Cond.code y bytes maxL none).before a0 Z = true) (w5 : (Jvm.Cond.initialized y.cls).before a0 Z = true) (hy : y.cls ≠ "java/lang/invoke/MethodHandle" ∧ y.cls ≠ "java/lang/invoke/VarHandle")
    (eT : T.heap = h) {rm : Room} {as' : Array Value} {Q : Option Value → Heap → List Loc → Prop} (hM : OwnCtr l y bytes maxL none [] rm Z as' h Q)
    {b : Addr} {g : JFrame} (hg : g.method = m) (hsize : g.locals.size = c.maxLocals) {argsL rest : List Value} {ps : List FieldType} {rt : Option FieldType} (hpd : parseMethodDescriptor y.desc = some ⟨ps, rt⟩) (hlen : argsL.length = ps.length)
    (hs : g.stack = argsL.reverse ++ .ref b :: rest) (has : as' = (Value.ref b :: argsL).toArray) {W : Nat} (hW : 2 * g.monitorRoom + (rest.map fun v => v.category).sum ≤ W) (hd : decode c.code g.pc = .ok (.invokespecial index, 3))
    (hf : rm.frames + 1 ≤ R.frames) (hl : W + (maxL + 11) + rm.locals ≤ R.locals) (hc : cells + rm.cells ≤ R.cells) (hsl : slots + rm.slots ≤ R.slots) :
    ∃ (v : Option Value) (T' : State) (L : List Loc), Stand p l e R s m args below meth c T' (locs ++ L) (cells + rm.cells) (slots + rm.slots) ∧ Q v T'.heap L ∧
      ∀ target, Steps p.tables e below (T'.setTop { g with pc := g.pc + 3, stack := v.toList ++ rest }) target → Steps p.tables e below (T.setTop g) target := by
  obtain ⟨v, vm₁, ⟨T', L', k', n'⟩, -, X', ⟨L, hQ, l1, l2, l3⟩, st⟩ := Jvm.LawKit.callI X hx hown hy1 (mvT hZ w1) (mvT hZ w2) (mvT hZ w4) hy (backOf (W := W) hM hZ w4 w5 hf hl) hg hsize (a := b) (lenOf hpd hlen) hs hW hd (fun _ _ => ⟨has.symm, eT, hc, hsl⟩)
  dsimp only [Pt.U, Pt.locs, Pt.cells, Pt.slots] at X' l1 l2 l3 st hQ
  subst l1 l2 l3
  exact ⟨v, T', L, X', hQ, st⟩
theorem own_fld {t : Term} {u : Addr} {C n d : String} {k : Int32} (ev : t.eval args s none [] s = some (.ref u)) (w : (Jvm.Cond.eq (.field t C n d) (.int k)).value args s none s [] = some true) : Fld s s.heap u C n d (.int k) :=
  Fld.start (by rw [← fld_at (args := args) (first := s) (o := none) (idx := []) ev]; exact Cond.eq_int (beq_iff_eq.mpr w) (Term.int_eval k))
theorem own_rne {a b : Addr} (q : a ≠ b) : ¬ Value.ref a = .ref b := fun w => q (Value.ref.inj w)
end Own

theorem d1_0 : decode prog_74_method_7_code 0 = .ok (.aload_n 0, 1) := by decide +kernel
theorem d1_1 : decode prog_74_method_7_code 1 = .ok (.getstatic 13, 3) := by decide +kernel
theorem d1_4 : decode prog_74_method_7_code 4 = .ok (.if_acmp .eq 10, 3) := by decide +kernel
theorem d1_7 : decode prog_74_method_7_code 7 = .ok (.aload_n 0, 1) := by decide +kernel
theorem d1_8 : decode prog_74_method_7_code 8 = .ok (.getstatic 16, 3) := by decide +kernel
theorem d1_11 : decode prog_74_method_7_code 11 = .ok (.if_acmp .ne 7, 3) := by decide +kernel
theorem d1_14 : decode prog_74_method_7_code 14 = .ok (.iconst 1, 1) := by decide +kernel
theorem d1_15 : decode prog_74_method_7_code 15 = .ok (.goto 4, 3) := by decide +kernel
theorem d1_18 : decode prog_74_method_7_code 18 = .ok (.iconst 0, 1) := by decide +kernel
theorem d1_19 : decode prog_74_method_7_code 19 = .ok (.ireturn, 1) := by decide +kernel
theorem own_pn1 : plainName "com/example/lockpoint/lockpoint/core/Policy" = true := by first | (simp [plainName, overriddenIn]; done) | decide +kernel
theorem own_pn0 : plainName "com/example/lockpoint/lockpoint/core/PolicyDeclaresLocksPinLaw" = true := by first | (simp [plainName, overriddenIn]; done) | decide +kernel
theorem own_pd1 : parseMethodDescriptor "()Z" = some ⟨[], some .boolean⟩ := by decide +kernel
theorem ef_0 (m : MethodId) (x0 : Int32) : entryFrame m #[(.int x0)] maxLocals = mkF m 0 #[.val (.int x0), .unset, .unset, .unset] [] := by first | (simp [entryFrame, mkF, argsToLocals, Value.category, maxLocals]; done) | rfl
theorem ef_1 (m : MethodId) (x0 : Addr) : entryFrame m #[(.ref x0)] 1 = mkF m 0 #[.val (.ref x0)] [] := by first | (simp [entryFrame, mkF, argsToLocals, Value.category]; done) | rfl
def own_hit (x1 x2 a : Addr) : Int32 := if a = x1 then 1 else if a = x2 then 1 else 0
abbrev own_R1 : Room := { frames := 0, cells := 0, slots := 0, locals := 0 }
set_option maxRecDepth 65536 in
set_option maxHeartbeats 40000000 in
theorem rm1 (l : Launch) (Z : State) (a0 : Array Value) (hw : ∀ d ∈ tables_1, d.before a0 Z = true) (ws : List Jvm.Cond) (x1 x2 a : Addr) (h0 : Heap) (S_CONSERVATIVE : Sta Z h0 "com/example/lockpoint/lockpoint/core/Policy" "CONSERVATIVE" "Lcom/example/lockpoint/lockpoint/core/Policy;" (.ref x1)) (S_CONSERVATIVE_BASIC : Sta Z h0 "com/example/lockpoint/lockpoint/core/Policy" "CONSERVATIVE_BASIC" "Lcom/example/lockpoint/lockpoint/core/Policy;" (.ref x2)) :
    OwnCtr l (⟨"com/example/lockpoint/lockpoint/core/Policy", "declaresLocks", "()Z"⟩ : MethodName) prog_74_method_7_code 1 (some .boolean) ws own_R1 Z #[(.ref a)] h0 (fun v h L => v = some (.int (own_hit x1 x2 a)) ∧ h = h0 ∧ L = []) := by
  refine own_body own_pn1 ?_
  intro p e s m below meth c s₁ X0 hx hby hml hown hnm hret hlk hZ e0
  refine own_go (fun _ k => castTop (ef_1 m a) k) ?_
  show Run p.tables e below (s₁.setTop (mkF m 0 #[.val (.ref a)] [])) _
  refine own_go (fun _ => XS.aloadN X0.here hx rfl (hb hby d1_0) rfl rfl) ?_
  show Run p.tables e below (s₁.setTop (mkF m 1 #[.val (.ref a)] [(.ref a)])) _
  obtain ⟨Tk1, Xk1, ek1, stk1⟩ := getS X0 hx hZ hown (host := "") (hw _ (List.mem_of_getElem? (i := 9) rfl)) Via.refl e0 S_CONSERVATIVE (g := (mkF m 1 #[.val (.ref a)] [(.ref a)])) rfl (hb hby d1_1)
  refine own_go stk1 ?_
  show Run p.tables e below (Tk1.setTop (mkF m 4 #[.val (.ref a)] [(.ref x1), (.ref a)])) _
  by_cases q1 : a = x1
  · show Run p.tables e below (Tk1.setTop (mkF m 4 #[.val (.ref a)] [(.ref x1), (.ref a)])) _
    refine own_go (fun _ => XT.acmpYes Xk1.here hx rfl (pc0 := 4) (pc' := 14) rfl (hb hby d1_4) rfl rfl rfl (XT.aa_eq_t (by rw [q1])) (by decide) (by decide)) ?_
    show Run p.tables e below (Tk1.setTop (mkF m 14 #[.val (.ref a)] [])) _
    refine own_go (fun _ => XS.iconst Xk1.here hx rfl (hb hby d1_14)) ?_
    show Run p.tables e below (Tk1.setTop (mkF m 15 #[.val (.ref a)] [(.int (1 : Int32))])) _
    refine own_go (fun _ => XS.goto Xk1.here hx rfl (pc0 := 15) (pc' := 19) rfl (hb hby d1_15) (by decide) (by decide)) ?_
    show Run p.tables e below (Tk1.setTop (mkF m 19 #[.val (.ref a)] [(.int (1 : Int32))])) _
    exact own_out Xk1 (v := some (.int (1 : Int32))) (fun q => by rw [hret] at q; cases q) hlk (fun fs hr => retN Xk1 hx (t := .boolean) hret (by simp) (hb hby d1_19) hr) ⟨(by rw [own_hit, if_pos q1]), ek1, rfl⟩ (by decide) (by decide)
  · show Run p.tables e below (Tk1.setTop (mkF m 4 #[.val (.ref a)] [(.ref x1), (.ref a)])) _
    refine own_go (fun _ => XT.acmpNo Xk1.here hx rfl (hb hby d1_4) rfl rfl rfl (XT.aa_eq_f (own_rne q1))) ?_
    show Run p.tables e below (Tk1.setTop (mkF m 7 #[.val (.ref a)] [])) _
    refine own_go (fun _ => XS.aloadN Xk1.here hx rfl (hb hby d1_7) rfl rfl) ?_
    show Run p.tables e below (Tk1.setTop (mkF m 8 #[.val (.ref a)] [(.ref a)])) _
    obtain ⟨Tk2, Xk2, ek2, stk2⟩ := getS Xk1 hx hZ hown (host := "") (hw _ (List.mem_of_getElem? (i := 11) rfl)) Via.refl ek1 S_CONSERVATIVE_BASIC (g := (mkF m 8 #[.val (.ref a)] [(.ref a)])) rfl (hb hby d1_8)
    refine own_go stk2 ?_
    show Run p.tables e below (Tk2.setTop (mkF m 11 #[.val (.ref a)] [(.ref x2), (.ref a)])) _
    by_cases q2 : a = x2
    · show Run p.tables e below (Tk2.setTop (mkF m 11 #[.val (.ref a)] [(.ref x2), (.ref a)])) _
      refine own_go (fun _ => XT.acmpNo Xk2.here hx rfl (hb hby d1_11) rfl rfl rfl (XT.aa_ne_f (by rw [q2]))) ?_
      show Run p.tables e below (Tk2.setTop (mkF m 14 #[.val (.ref a)] [])) _
      refine own_go (fun _ => XS.iconst Xk2.here hx rfl (hb hby d1_14)) ?_
      show Run p.tables e below (Tk2.setTop (mkF m 15 #[.val (.ref a)] [(.int (1 : Int32))])) _
      refine own_go (fun _ => XS.goto Xk2.here hx rfl (pc0 := 15) (pc' := 19) rfl (hb hby d1_15) (by decide) (by decide)) ?_
      show Run p.tables e below (Tk2.setTop (mkF m 19 #[.val (.ref a)] [(.int (1 : Int32))])) _
      exact own_out Xk2 (v := some (.int (1 : Int32))) (fun q => by rw [hret] at q; cases q) hlk (fun fs hr => retN Xk2 hx (t := .boolean) hret (by simp) (hb hby d1_19) hr) ⟨(by rw [own_hit, if_neg q1, if_pos q2]), ek2, rfl⟩ (by decide) (by decide)
    · show Run p.tables e below (Tk2.setTop (mkF m 11 #[.val (.ref a)] [(.ref x2), (.ref a)])) _
      refine own_go (fun _ => XT.acmpYes Xk2.here hx rfl (pc0 := 11) (pc' := 18) rfl (hb hby d1_11) rfl rfl rfl (XT.aa_ne_t (own_rne q2)) (by decide) (by decide)) ?_
      show Run p.tables e below (Tk2.setTop (mkF m 18 #[.val (.ref a)] [])) _
      refine own_go (fun _ => XS.iconst Xk2.here hx rfl (hb hby d1_18)) ?_
      show Run p.tables e below (Tk2.setTop (mkF m 19 #[.val (.ref a)] [(.int (0 : Int32))])) _
      exact own_out Xk2 (v := some (.int (0 : Int32))) (fun q => by rw [hret] at q; cases q) hlk (fun fs hr => retN Xk2 hx (t := .boolean) hret (by simp) (hb hby d1_19) hr) ⟨(by rw [own_hit, if_neg q1, if_neg q2]), ek2, rfl⟩ (by decide) (by decide)
def own_Q0 (n0 : Nat) (v : Option Value) (h : Heap) (L : List Loc) : Prop := v = some (.int 1) ∧ Fr n0 L
set_option maxRecDepth 65536 in
set_option maxHeartbeats 40000000 in
theorem rm0 (l : Launch) (Z : State) (a0 : Array Value) (hw : ∀ d ∈ tables_1, d.before a0 Z = true) (ws : List Jvm.Cond) (p1 : Int32) (a_RIGOROUS a_STRICT a_BASIC a_CONSERVATIVE a_CONSERVATIVE_BASIC a_PARTIALLY_STRICT : Addr) (h0 : Heap) (n0 : Nat) (S_RIGOROUS : Sta Z h0 "com/example/lockpoint/lockpoint/core/Policy" "RIGOROUS" "Lcom/example/lockpoint/lockpoint/core/Policy;" (.ref a_RIGOROUS)) (S_STRICT : Sta Z h0 "com/example/lockpoint/lockpoint/core/Policy" "STRICT" "Lcom/example/lockpoint/lockpoint/core/Policy;" (.ref a_STRICT)) (S_BASIC : Sta Z h0 "com/example/lockpoint/lockpoint/core/Policy" "BASIC" "Lcom/example/lockpoint/lockpoint/core/Policy;" (.ref a_BASIC)) (S_CONSERVATIVE : Sta Z h0 "com/example/lockpoint/lockpoint/core/Policy" "CONSERVATIVE" "Lcom/example/lockpoint/lockpoint/core/Policy;" (.ref a_CONSERVATIVE)) (S_CONSERVATIVE_BASIC : Sta Z h0 "com/example/lockpoint/lockpoint/core/Policy" "CONSERVATIVE_BASIC" "Lcom/example/lockpoint/lockpoint/core/Policy;" (.ref a_CONSERVATIVE_BASIC)) (S_PARTIALLY_STRICT : Sta Z h0 "com/example/lockpoint/lockpoint/core/Policy" "PARTIALLY_STRICT" "Lcom/example/lockpoint/lockpoint/core/Policy;" (.ref a_PARTIALLY_STRICT)) (E_RIGOROUS : Exa Z h0 a_RIGOROUS "com/example/lockpoint/lockpoint/core/Policy") (E_STRICT : Exa Z h0 a_STRICT "com/example/lockpoint/lockpoint/core/Policy") (E_BASIC : Exa Z h0 a_BASIC "com/example/lockpoint/lockpoint/core/Policy") (E_CONSERVATIVE : Exa Z h0 a_CONSERVATIVE "com/example/lockpoint/lockpoint/core/Policy") (E_CONSERVATIVE_BASIC : Exa Z h0 a_CONSERVATIVE_BASIC "com/example/lockpoint/lockpoint/core/Policy") (E_PARTIALLY_STRICT : Exa Z h0 a_PARTIALLY_STRICT "com/example/lockpoint/lockpoint/core/Policy") (ne_RIGOROUS_CONSERVATIVE : a_RIGOROUS ≠ a_CONSERVATIVE) (ne_RIGOROUS_CONSERVATIVE_BASIC : a_RIGOROUS ≠ a_CONSERVATIVE_BASIC) (ne_STRICT_CONSERVATIVE : a_STRICT ≠ a_CONSERVATIVE) (ne_STRICT_CONSERVATIVE_BASIC : a_STRICT ≠ a_CONSERVATIVE_BASIC) (ne_BASIC_CONSERVATIVE : a_BASIC ≠ a_CONSERVATIVE) (ne_BASIC_CONSERVATIVE_BASIC : a_BASIC ≠ a_CONSERVATIVE_BASIC) (ne_CONSERVATIVE_BASIC_CONSERVATIVE : a_CONSERVATIVE_BASIC ≠ a_CONSERVATIVE) (ne_PARTIALLY_STRICT_CONSERVATIVE : a_PARTIALLY_STRICT ≠ a_CONSERVATIVE) (ne_PARTIALLY_STRICT_CONSERVATIVE_BASIC : a_PARTIALLY_STRICT ≠ a_CONSERVATIVE_BASIC) :
    OwnCtr l x code maxLocals ret ws room_1 Z #[(.int p1)] h0 (own_Q0 n0) := by
  refine own_body own_pn0 ?_
  intro p e s m below meth c s₁ X0 hx hby hml hown hnm hret hlk hZ e0
  have J : ∀ (k z : Int32) (T : State) (X : Stand p l e room_1 s m #[(.int p1)] below meth c T [] 0 0) (eT : T.heap = h0) (a : Addr) (Ea : Exa Z h0 a "com/example/lockpoint/lockpoint/core/Policy") (qa : own_hit a_CONSERVATIVE a_CONSERVATIVE_BASIC a = z),
      Run p.tables e below (T.setTop (mkF m 83 #[.val (.int p1), .val (.int k), .val (.ref a), .val (.int z)] [])) (OwnFin s below (own_Q0 n0) room_1.cells room_1.slots) := by
    intro k z T X eT a Ea qa
    show Run p.tables e below (T.setTop (mkF m 83 #[.val (.int p1), .val (.int k), .val (.ref a), .val (.int z)] [])) _
    refine own_go (fun _ => XS.aloadN X.here hx rfl (hb hby at_83) rfl rfl) ?_
    show Run p.tables e below (T.setTop (mkF m 84 #[.val (.int p1), .val (.int k), .val (.ref a), .val (.int z)] [(.ref a)])) _
    obtain ⟨vk1, Tk1, Lk1, Xk1q, ⟨rfl, ek1, rfl⟩, stk1⟩ := own_callV X hx hZ hown (hw _ (List.mem_of_getElem? (i := 4) rfl)) (hw _ (List.mem_of_getElem? (i := 6) rfl)) (hw _ (List.mem_of_getElem? (i := 7) rfl)) (hw _ (List.mem_of_getElem? (i := 8) rfl)) (hw _ (List.mem_of_getElem? (i := 2) rfl)) (by decide) eT (rm1 l Z a0 hw [] a_CONSERVATIVE a_CONSERVATIVE_BASIC a h0 S_CONSERVATIVE S_CONSERVATIVE_BASIC) Ea (g := (mkF m 84 #[.val (.int p1), .val (.int k), .val (.ref a), .val (.int z)] [(.ref a)])) rfl (by rw [hml]; rfl) (argsL := []) (rest := []) own_pd1 rfl rfl rfl (W := 0) (by show 2 * 0 + _ ≤ _; exact Nat.le_of_eq rfl) (hb hby at_84) (by decide) (by decide) (by decide) (by decide)
    have Xk1 : Stand p l e room_1 s m #[(.int p1)] below meth c Tk1 [] 0 0 := Xk1q
    refine own_go stk1 ?_
    rw [qa]
    show Run p.tables e below (Tk1.setTop (mkF m 87 #[.val (.int p1), .val (.int k), .val (.ref a), .val (.int z)] [(.int z)])) _
    refine own_go (fun _ => XS.iloadN Xk1.here hx rfl (hb hby at_87) rfl) ?_
    show Run p.tables e below (Tk1.setTop (mkF m 88 #[.val (.int p1), .val (.int k), .val (.ref a), .val (.int z)] [(.int z), (.int z)])) _
    refine own_go (fun _ => XS.icmpNo Xk1.here hx rfl (hb hby at_88) rfl (XT.ii_ne_f rfl)) ?_
    show Run p.tables e below (Tk1.setTop (mkF m 91 #[.val (.int p1), .val (.int k), .val (.ref a), .val (.int z)] [])) _
    refine own_go (fun _ => XS.iconst Xk1.here hx rfl (hb hby at_91)) ?_
    show Run p.tables e below (Tk1.setTop (mkF m 92 #[.val (.int p1), .val (.int k), .val (.ref a), .val (.int z)] [(.int (1 : Int32))])) _
    refine own_go (fun _ => XS.goto Xk1.here hx rfl (pc0 := 92) (pc' := 96) rfl (hb hby at_92) (by decide) (by decide)) ?_
    show Run p.tables e below (Tk1.setTop (mkF m 96 #[.val (.int p1), .val (.int k), .val (.ref a), .val (.int z)] [(.int (1 : Int32))])) _
    exact own_out Xk1 (v := some (.int (1 : Int32))) (fun q => by rw [hret] at q; cases q) hlk (fun fs hr => retN Xk1 hx (t := .boolean) hret (by simp) (hb hby at_96) hr) ⟨rfl, Fr.nil n0⟩ (by decide) (by decide)
  refine own_go (fun _ k => castTop (ef_0 m p1) k) ?_
  show Run p.tables e below (s₁.setTop (mkF m 0 #[.val (.int p1), .unset, .unset, .unset] [])) _
  refine own_go (fun _ => XS.iloadN X0.here hx rfl (hb hby at_0) rfl) ?_
  show Run p.tables e below (s₁.setTop (mkF m 1 #[.val (.int p1), .unset, .unset, .unset] [(.int p1)])) _
  refine own_go (fun _ => Jvm.Stand.ldcI X0 hx hown (mvT hZ (hw _ (List.mem_of_getElem? (i := 0) rfl))) rfl (hb hby at_1)) ?_
  show Run p.tables e below (s₁.setTop (mkF m 3 #[.val (.int p1), .unset, .unset, .unset] [(.int (2147483647 : Int32)), (.int p1)])) _
  refine own_go (fun _ => XS.iand X0.here hx rfl (hb hby at_3) rfl) ?_
  show Run p.tables e below (s₁.setTop (mkF m 4 #[.val (.int p1), .unset, .unset, .unset] [(.int (p1 &&& (2147483647 : Int32)))])) _
  refine own_go (fun _ => XS.bipush X0.here hx rfl (hb hby at_4)) ?_
  show Run p.tables e below (s₁.setTop (mkF m 6 #[.val (.int p1), .unset, .unset, .unset] [(.int (6 : Int32)), (.int (p1 &&& (2147483647 : Int32)))])) _
  refine own_go (fun _ => iremM X0 hx rfl (hb hby at_6) rfl (by decide)) ?_
  show Run p.tables e below (s₁.setTop (mkF m 7 #[.val (.int p1), .unset, .unset, .unset] [(.int ((p1 &&& (2147483647 : Int32)) % (6 : Int32)))])) _
  refine own_go (fun _ => XS.istoreN X0.here hx rfl (hb hby at_7) rfl (l' := #[.val (.int p1), .val (.int ((p1 &&& (2147483647 : Int32)) % (6 : Int32))), .unset, .unset]) rfl) ?_
  show Run p.tables e below (s₁.setTop (mkF m 8 #[.val (.int p1), .val (.int ((p1 &&& (2147483647 : Int32)) % (6 : Int32))), .unset, .unset] [])) _
  generalize ((p1 &&& (2147483647 : Int32)) % (6 : Int32)) = k
  show Run p.tables e below (s₁.setTop (mkF m 8 #[.val (.int p1), .val (.int k), .unset, .unset] [])) _
  refine own_go (fun _ => XS.iloadN X0.here hx rfl (hb hby at_8) rfl) ?_
  show Run p.tables e below (s₁.setTop (mkF m 9 #[.val (.int p1), .val (.int k), .unset, .unset] [(.int k)])) _
  by_cases q0 : k = 0
  · show Run p.tables e below (s₁.setTop (mkF m 9 #[.val (.int p1), .val (.int k), .unset, .unset] [(.int k)])) _
    refine own_go (fun _ => XS.ifNo X0.here hx rfl (hb hby at_9) rfl (XT.i0_ne_f q0)) ?_
    show Run p.tables e below (s₁.setTop (mkF m 12 #[.val (.int p1), .val (.int k), .unset, .unset] [])) _
    obtain ⟨Tk101, Xk101, ek101, stk101⟩ := getS X0 hx hZ hown (host := "") (hw _ (List.mem_of_getElem? (i := 1) rfl)) Via.refl e0 S_RIGOROUS (g := (mkF m 12 #[.val (.int p1), .val (.int k), .unset, .unset] [])) rfl (hb hby at_12)
    refine own_go stk101 ?_
    show Run p.tables e below (Tk101.setTop (mkF m 15 #[.val (.int p1), .val (.int k), .unset, .unset] [(.ref a_RIGOROUS)])) _
    refine own_go (fun _ => XS.astoreN Xk101.here hx rfl (hb hby at_15) rfl rfl (l' := #[.val (.int p1), .val (.int k), .val (.ref a_RIGOROUS), .unset]) rfl) ?_
    show Run p.tables e below (Tk101.setTop (mkF m 16 #[.val (.int p1), .val (.int k), .val (.ref a_RIGOROUS), .unset] [])) _
    refine own_go (fun _ => XS.iconst Xk101.here hx rfl (hb hby at_16)) ?_
    show Run p.tables e below (Tk101.setTop (mkF m 17 #[.val (.int p1), .val (.int k), .val (.ref a_RIGOROUS), .unset] [(.int (0 : Int32))])) _
    refine own_go (fun _ => XS.istoreN Xk101.here hx rfl (hb hby at_17) rfl (l' := #[.val (.int p1), .val (.int k), .val (.ref a_RIGOROUS), .val (.int (0 : Int32))]) rfl) ?_
    show Run p.tables e below (Tk101.setTop (mkF m 18 #[.val (.int p1), .val (.int k), .val (.ref a_RIGOROUS), .val (.int (0 : Int32))] [])) _
    refine own_go (fun _ => XS.goto Xk101.here hx rfl (pc0 := 18) (pc' := 83) rfl (hb hby at_18) (by decide) (by decide)) ?_
    show Run p.tables e below (Tk101.setTop (mkF m 83 #[.val (.int p1), .val (.int k), .val (.ref a_RIGOROUS), .val (.int (0 : Int32))] [])) _
    exact J k _ _ Xk101 ek101 a_RIGOROUS E_RIGOROUS (by rw [own_hit, if_neg ne_RIGOROUS_CONSERVATIVE, if_neg ne_RIGOROUS_CONSERVATIVE_BASIC])
  · show Run p.tables e below (s₁.setTop (mkF m 9 #[.val (.int p1), .val (.int k), .unset, .unset] [(.int k)])) _
    refine own_go (fun _ => XS.ifYes X0.here hx rfl (pc0 := 9) (pc' := 21) rfl (hb hby at_9) rfl (XT.i0_ne_t q0) (by decide) (by decide)) ?_
    show Run p.tables e below (s₁.setTop (mkF m 21 #[.val (.int p1), .val (.int k), .unset, .unset] [])) _
    refine own_go (fun _ => XS.iloadN X0.here hx rfl (hb hby at_21) rfl) ?_
    show Run p.tables e below (s₁.setTop (mkF m 22 #[.val (.int p1), .val (.int k), .unset, .unset] [(.int k)])) _
    refine own_go (fun _ => XS.iconst X0.here hx rfl (hb hby at_22)) ?_
    show Run p.tables e below (s₁.setTop (mkF m 23 #[.val (.int p1), .val (.int k), .unset, .unset] [(.int (1 : Int32)), (.int k)])) _
    by_cases q1 : k = 1
    · show Run p.tables e below (s₁.setTop (mkF m 23 #[.val (.int p1), .val (.int k), .unset, .unset] [(.int (1 : Int32)), (.int k)])) _
      refine own_go (fun _ => XS.icmpNo X0.here hx rfl (hb hby at_23) rfl (XT.ii_ne_f q1)) ?_
      show Run p.tables e below (s₁.setTop (mkF m 26 #[.val (.int p1), .val (.int k), .unset, .unset] [])) _
      obtain ⟨Tk102, Xk102, ek102, stk102⟩ := getS X0 hx hZ hown (host := "") (hw _ (List.mem_of_getElem? (i := 16) rfl)) Via.refl e0 S_STRICT (g := (mkF m 26 #[.val (.int p1), .val (.int k), .unset, .unset] [])) rfl (hb hby at_26)
      refine own_go stk102 ?_
      show Run p.tables e below (Tk102.setTop (mkF m 29 #[.val (.int p1), .val (.int k), .unset, .unset] [(.ref a_STRICT)])) _
      refine own_go (fun _ => XS.astoreN Xk102.here hx rfl (hb hby at_29) rfl rfl (l' := #[.val (.int p1), .val (.int k), .val (.ref a_STRICT), .unset]) rfl) ?_
      show Run p.tables e below (Tk102.setTop (mkF m 30 #[.val (.int p1), .val (.int k), .val (.ref a_STRICT), .unset] [])) _
      refine own_go (fun _ => XS.iconst Xk102.here hx rfl (hb hby at_30)) ?_
      show Run p.tables e below (Tk102.setTop (mkF m 31 #[.val (.int p1), .val (.int k), .val (.ref a_STRICT), .unset] [(.int (0 : Int32))])) _
      refine own_go (fun _ => XS.istoreN Xk102.here hx rfl (hb hby at_31) rfl (l' := #[.val (.int p1), .val (.int k), .val (.ref a_STRICT), .val (.int (0 : Int32))]) rfl) ?_
      show Run p.tables e below (Tk102.setTop (mkF m 32 #[.val (.int p1), .val (.int k), .val (.ref a_STRICT), .val (.int (0 : Int32))] [])) _
      refine own_go (fun _ => XS.goto Xk102.here hx rfl (pc0 := 32) (pc' := 83) rfl (hb hby at_32) (by decide) (by decide)) ?_
      show Run p.tables e below (Tk102.setTop (mkF m 83 #[.val (.int p1), .val (.int k), .val (.ref a_STRICT), .val (.int (0 : Int32))] [])) _
      exact J k _ _ Xk102 ek102 a_STRICT E_STRICT (by rw [own_hit, if_neg ne_STRICT_CONSERVATIVE, if_neg ne_STRICT_CONSERVATIVE_BASIC])
    · show Run p.tables e below (s₁.setTop (mkF m 23 #[.val (.int p1), .val (.int k), .unset, .unset] [(.int (1 : Int32)), (.int k)])) _
      refine own_go (fun _ => XS.icmpYes X0.here hx rfl (pc0 := 23) (pc' := 35) rfl (hb hby at_23) rfl (XT.ii_ne_t q1) (by decide) (by decide)) ?_
      show Run p.tables e below (s₁.setTop (mkF m 35 #[.val (.int p1), .val (.int k), .unset, .unset] [])) _
      refine own_go (fun _ => XS.iloadN X0.here hx rfl (hb hby at_35) rfl) ?_
      show Run p.tables e below (s₁.setTop (mkF m 36 #[.val (.int p1), .val (.int k), .unset, .unset] [(.int k)])) _
      refine own_go (fun _ => XS.iconst X0.here hx rfl (hb hby at_36)) ?_
      show Run p.tables e below (s₁.setTop (mkF m 37 #[.val (.int p1), .val (.int k), .unset, .unset] [(.int (2 : Int32)), (.int k)])) _
      by_cases q2 : k = 2
      · show Run p.tables e below (s₁.setTop (mkF m 37 #[.val (.int p1), .val (.int k), .unset, .unset] [(.int (2 : Int32)), (.int k)])) _
        refine own_go (fun _ => XS.icmpNo X0.here hx rfl (hb hby at_37) rfl (XT.ii_ne_f q2)) ?_
        show Run p.tables e below (s₁.setTop (mkF m 40 #[.val (.int p1), .val (.int k), .unset, .unset] [])) _
        obtain ⟨Tk103, Xk103, ek103, stk103⟩ := getS X0 hx hZ hown (host := "") (hw _ (List.mem_of_getElem? (i := 14) rfl)) Via.refl e0 S_BASIC (g := (mkF m 40 #[.val (.int p1), .val (.int k), .unset, .unset] [])) rfl (hb hby at_40)
        refine own_go stk103 ?_
        show Run p.tables e below (Tk103.setTop (mkF m 43 #[.val (.int p1), .val (.int k), .unset, .unset] [(.ref a_BASIC)])) _
        refine own_go (fun _ => XS.astoreN Xk103.here hx rfl (hb hby at_43) rfl rfl (l' := #[.val (.int p1), .val (.int k), .val (.ref a_BASIC), .unset]) rfl) ?_
        show Run p.tables e below (Tk103.setTop (mkF m 44 #[.val (.int p1), .val (.int k), .val (.ref a_BASIC), .unset] [])) _
        refine own_go (fun _ => XS.iconst Xk103.here hx rfl (hb hby at_44)) ?_
        show Run p.tables e below (Tk103.setTop (mkF m 45 #[.val (.int p1), .val (.int k), .val (.ref a_BASIC), .unset] [(.int (0 : Int32))])) _
        refine own_go (fun _ => XS.istoreN Xk103.here hx rfl (hb hby at_45) rfl (l' := #[.val (.int p1), .val (.int k), .val (.ref a_BASIC), .val (.int (0 : Int32))]) rfl) ?_
        show Run p.tables e below (Tk103.setTop (mkF m 46 #[.val (.int p1), .val (.int k), .val (.ref a_BASIC), .val (.int (0 : Int32))] [])) _
        refine own_go (fun _ => XS.goto Xk103.here hx rfl (pc0 := 46) (pc' := 83) rfl (hb hby at_46) (by decide) (by decide)) ?_
        show Run p.tables e below (Tk103.setTop (mkF m 83 #[.val (.int p1), .val (.int k), .val (.ref a_BASIC), .val (.int (0 : Int32))] [])) _
        exact J k _ _ Xk103 ek103 a_BASIC E_BASIC (by rw [own_hit, if_neg ne_BASIC_CONSERVATIVE, if_neg ne_BASIC_CONSERVATIVE_BASIC])
      · show Run p.tables e below (s₁.setTop (mkF m 37 #[.val (.int p1), .val (.int k), .unset, .unset] [(.int (2 : Int32)), (.int k)])) _
        refine own_go (fun _ => XS.icmpYes X0.here hx rfl (pc0 := 37) (pc' := 49) rfl (hb hby at_37) rfl (XT.ii_ne_t q2) (by decide) (by decide)) ?_
        show Run p.tables e below (s₁.setTop (mkF m 49 #[.val (.int p1), .val (.int k), .unset, .unset] [])) _
        refine own_go (fun _ => XS.iloadN X0.here hx rfl (hb hby at_49) rfl) ?_
        show Run p.tables e below (s₁.setTop (mkF m 50 #[.val (.int p1), .val (.int k), .unset, .unset] [(.int k)])) _
        refine own_go (fun _ => XS.iconst X0.here hx rfl (hb hby at_50)) ?_
        show Run p.tables e below (s₁.setTop (mkF m 51 #[.val (.int p1), .val (.int k), .unset, .unset] [(.int (3 : Int32)), (.int k)])) _
        by_cases q3 : k = 3
        · show Run p.tables e below (s₁.setTop (mkF m 51 #[.val (.int p1), .val (.int k), .unset, .unset] [(.int (3 : Int32)), (.int k)])) _
          refine own_go (fun _ => XS.icmpNo X0.here hx rfl (hb hby at_51) rfl (XT.ii_ne_f q3)) ?_
          show Run p.tables e below (s₁.setTop (mkF m 54 #[.val (.int p1), .val (.int k), .unset, .unset] [])) _
          obtain ⟨Tk104, Xk104, ek104, stk104⟩ := getS X0 hx hZ hown (host := "") (hw _ (List.mem_of_getElem? (i := 13) rfl)) Via.refl e0 S_CONSERVATIVE (g := (mkF m 54 #[.val (.int p1), .val (.int k), .unset, .unset] [])) rfl (hb hby at_54)
          refine own_go stk104 ?_
          show Run p.tables e below (Tk104.setTop (mkF m 57 #[.val (.int p1), .val (.int k), .unset, .unset] [(.ref a_CONSERVATIVE)])) _
          refine own_go (fun _ => XS.astoreN Xk104.here hx rfl (hb hby at_57) rfl rfl (l' := #[.val (.int p1), .val (.int k), .val (.ref a_CONSERVATIVE), .unset]) rfl) ?_
          show Run p.tables e below (Tk104.setTop (mkF m 58 #[.val (.int p1), .val (.int k), .val (.ref a_CONSERVATIVE), .unset] [])) _
          refine own_go (fun _ => XS.iconst Xk104.here hx rfl (hb hby at_58)) ?_
          show Run p.tables e below (Tk104.setTop (mkF m 59 #[.val (.int p1), .val (.int k), .val (.ref a_CONSERVATIVE), .unset] [(.int (1 : Int32))])) _
          refine own_go (fun _ => XS.istoreN Xk104.here hx rfl (hb hby at_59) rfl (l' := #[.val (.int p1), .val (.int k), .val (.ref a_CONSERVATIVE), .val (.int (1 : Int32))]) rfl) ?_
          show Run p.tables e below (Tk104.setTop (mkF m 60 #[.val (.int p1), .val (.int k), .val (.ref a_CONSERVATIVE), .val (.int (1 : Int32))] [])) _
          refine own_go (fun _ => XS.goto Xk104.here hx rfl (pc0 := 60) (pc' := 83) rfl (hb hby at_60) (by decide) (by decide)) ?_
          show Run p.tables e below (Tk104.setTop (mkF m 83 #[.val (.int p1), .val (.int k), .val (.ref a_CONSERVATIVE), .val (.int (1 : Int32))] [])) _
          exact J k _ _ Xk104 ek104 a_CONSERVATIVE E_CONSERVATIVE (by rw [own_hit, if_pos rfl])
        · show Run p.tables e below (s₁.setTop (mkF m 51 #[.val (.int p1), .val (.int k), .unset, .unset] [(.int (3 : Int32)), (.int k)])) _
          refine own_go (fun _ => XS.icmpYes X0.here hx rfl (pc0 := 51) (pc' := 63) rfl (hb hby at_51) rfl (XT.ii_ne_t q3) (by decide) (by decide)) ?_
          show Run p.tables e below (s₁.setTop (mkF m 63 #[.val (.int p1), .val (.int k), .unset, .unset] [])) _
          refine own_go (fun _ => XS.iloadN X0.here hx rfl (hb hby at_63) rfl) ?_
          show Run p.tables e below (s₁.setTop (mkF m 64 #[.val (.int p1), .val (.int k), .unset, .unset] [(.int k)])) _
          refine own_go (fun _ => XS.iconst X0.here hx rfl (hb hby at_64)) ?_
          show Run p.tables e below (s₁.setTop (mkF m 65 #[.val (.int p1), .val (.int k), .unset, .unset] [(.int (4 : Int32)), (.int k)])) _
          by_cases q4 : k = 4
          · show Run p.tables e below (s₁.setTop (mkF m 65 #[.val (.int p1), .val (.int k), .unset, .unset] [(.int (4 : Int32)), (.int k)])) _
            refine own_go (fun _ => XS.icmpNo X0.here hx rfl (hb hby at_65) rfl (XT.ii_ne_f q4)) ?_
            show Run p.tables e below (s₁.setTop (mkF m 68 #[.val (.int p1), .val (.int k), .unset, .unset] [])) _
            obtain ⟨Tk105, Xk105, ek105, stk105⟩ := getS X0 hx hZ hown (host := "") (hw _ (List.mem_of_getElem? (i := 20) rfl)) Via.refl e0 S_CONSERVATIVE_BASIC (g := (mkF m 68 #[.val (.int p1), .val (.int k), .unset, .unset] [])) rfl (hb hby at_68)
            refine own_go stk105 ?_
            show Run p.tables e below (Tk105.setTop (mkF m 71 #[.val (.int p1), .val (.int k), .unset, .unset] [(.ref a_CONSERVATIVE_BASIC)])) _
            refine own_go (fun _ => XS.astoreN Xk105.here hx rfl (hb hby at_71) rfl rfl (l' := #[.val (.int p1), .val (.int k), .val (.ref a_CONSERVATIVE_BASIC), .unset]) rfl) ?_
            show Run p.tables e below (Tk105.setTop (mkF m 72 #[.val (.int p1), .val (.int k), .val (.ref a_CONSERVATIVE_BASIC), .unset] [])) _
            refine own_go (fun _ => XS.iconst Xk105.here hx rfl (hb hby at_72)) ?_
            show Run p.tables e below (Tk105.setTop (mkF m 73 #[.val (.int p1), .val (.int k), .val (.ref a_CONSERVATIVE_BASIC), .unset] [(.int (1 : Int32))])) _
            refine own_go (fun _ => XS.istoreN Xk105.here hx rfl (hb hby at_73) rfl (l' := #[.val (.int p1), .val (.int k), .val (.ref a_CONSERVATIVE_BASIC), .val (.int (1 : Int32))]) rfl) ?_
            show Run p.tables e below (Tk105.setTop (mkF m 74 #[.val (.int p1), .val (.int k), .val (.ref a_CONSERVATIVE_BASIC), .val (.int (1 : Int32))] [])) _
            refine own_go (fun _ => XS.goto Xk105.here hx rfl (pc0 := 74) (pc' := 83) rfl (hb hby at_74) (by decide) (by decide)) ?_
            show Run p.tables e below (Tk105.setTop (mkF m 83 #[.val (.int p1), .val (.int k), .val (.ref a_CONSERVATIVE_BASIC), .val (.int (1 : Int32))] [])) _
            exact J k _ _ Xk105 ek105 a_CONSERVATIVE_BASIC E_CONSERVATIVE_BASIC (by rw [own_hit, if_neg ne_CONSERVATIVE_BASIC_CONSERVATIVE, if_pos rfl])
          · show Run p.tables e below (s₁.setTop (mkF m 65 #[.val (.int p1), .val (.int k), .unset, .unset] [(.int (4 : Int32)), (.int k)])) _
            refine own_go (fun _ => XS.icmpYes X0.here hx rfl (pc0 := 65) (pc' := 77) rfl (hb hby at_65) rfl (XT.ii_ne_t q4) (by decide) (by decide)) ?_
            show Run p.tables e below (s₁.setTop (mkF m 77 #[.val (.int p1), .val (.int k), .unset, .unset] [])) _
            obtain ⟨Tk106, Xk106, ek106, stk106⟩ := getS X0 hx hZ hown (host := "") (hw _ (List.mem_of_getElem? (i := 18) rfl)) Via.refl e0 S_PARTIALLY_STRICT (g := (mkF m 77 #[.val (.int p1), .val (.int k), .unset, .unset] [])) rfl (hb hby at_77)
            refine own_go stk106 ?_
            show Run p.tables e below (Tk106.setTop (mkF m 80 #[.val (.int p1), .val (.int k), .unset, .unset] [(.ref a_PARTIALLY_STRICT)])) _
            refine own_go (fun _ => XS.astoreN Xk106.here hx rfl (hb hby at_80) rfl rfl (l' := #[.val (.int p1), .val (.int k), .val (.ref a_PARTIALLY_STRICT), .unset]) rfl) ?_
            show Run p.tables e below (Tk106.setTop (mkF m 81 #[.val (.int p1), .val (.int k), .val (.ref a_PARTIALLY_STRICT), .unset] [])) _
            refine own_go (fun _ => XS.iconst Xk106.here hx rfl (hb hby at_81)) ?_
            show Run p.tables e below (Tk106.setTop (mkF m 82 #[.val (.int p1), .val (.int k), .val (.ref a_PARTIALLY_STRICT), .unset] [(.int (0 : Int32))])) _
            refine own_go (fun _ => XS.istoreN Xk106.here hx rfl (hb hby at_82) rfl (l' := #[.val (.int p1), .val (.int k), .val (.ref a_PARTIALLY_STRICT), .val (.int (0 : Int32))]) rfl) ?_
            show Run p.tables e below (Tk106.setTop (mkF m 83 #[.val (.int p1), .val (.int k), .val (.ref a_PARTIALLY_STRICT), .val (.int (0 : Int32))] [])) _
            exact J k _ _ Xk106 ek106 a_PARTIALLY_STRICT E_PARTIALLY_STRICT (by rw [own_hit, if_neg ne_PARTIALLY_STRICT_CONSERVATIVE, if_neg ne_PARTIALLY_STRICT_CONSERVATIVE_BASIC])
set_option maxRecDepth 65536 in
set_option maxHeartbeats 40000000 in
theorem comes_1 {Post : Tables → Env → Array Value → State → Outcome → State → Prop} (hpost : ∀ tb e args s v u, (limb_1_1.after args s (.returned v) u = true ∧ limb_1_2.after args s (.returned v) u = true ∧ True) → FrameEnd s (.returned v) u (Jvm.fieldLocs frame_1_writes args s ++ Jvm.arrayLocs frame_1_arrays args s ++ Jvm.staticLocs frame_1_statics s) 0 0 → Post tb e args s (.returned v) u) :
    ArmFor flags0 classFile x code maxLocals ret World_1 tables_1 room_1 Calls_1 rest_1 Pre_1 Post := by
  intro l hfl _ _ p e ha hc hk s m args below hf hA hF happ hP
  obtain ⟨hcalls, hrest, hpre⟩ := hP
  obtain ⟨-, -, -, hnamed, -, -, -, hat⟩ := (Spec.applies_iff hf).mp happ
  obtain ⟨hg, hn⟩ := and_e (Cond.before_iff.mp (show (Jvm.Cond.and given_1 narrow_1).before args s = true from hpre))
  obtain ⟨h1, hg⟩ := and_e hg
  obtain ⟨w0, rfl⟩ : ∃ w0 : Value, args = #[w0] := by
    have hs : args.size = 1 := by simpa [Cond.value, given_1] using h1
    obtain ⟨L⟩ := args
    match L, hs with
    | [w0], _ => exact ⟨w0, rfl⟩
  have hw := fun d (hd : d ∈ tables_1) => atoms_spec (ws := Jvm.Cond.code x code maxLocals ret :: tables_1) hat d (List.mem_cons_of_mem _ hd)
  have hfit : Fit s := fun {y c} hc i hi => by
    obtain ⟨ha, rfl⟩ := Array.getElem?_eq_some_iff.mp hc
    have q := List.all_eq_true.mp ((Array.all_eq_true_iff_forall_mem.mp hF) _ (Array.getElem_mem ha)) i (List.mem_range.mpr hi)
    simpa [Array.getElem?_eq_getElem hi] using q
  have g0 := hg
  obtain ⟨i0, q0⟩ := is_v g0
  obtain rfl : w0 = (.int i0) := Option.some.inj q0
  obtain ⟨n0, hn⟩ := and_e hn
  obtain ⟨n1, hn⟩ := and_e hn
  obtain ⟨n2, hn⟩ := and_e hn
  obtain ⟨n3, hn⟩ := and_e hn
  obtain ⟨n4, hn⟩ := and_e hn
  obtain ⟨n5, hn⟩ := and_e hn
  obtain ⟨n6, hn⟩ := and_e hn
  obtain ⟨n7, hn⟩ := and_e hn
  obtain ⟨n8, hn⟩ := and_e hn
  obtain ⟨n9, hn⟩ := and_e hn
  obtain ⟨n10, hn⟩ := and_e hn
  have n11 := hn
  obtain ⟨a_RIGOROUS, ev_RIGOROUS⟩ := exa_v n0
  have E_RIGOROUS := Exa.start ev_RIGOROUS n0
  have S_RIGOROUS := Sta.start ev_RIGOROUS (Or.inr ⟨(hw _ (List.mem_of_getElem? (i := 2) rfl)), (hw _ (List.mem_of_getElem? (i := 3) rfl))⟩)
  obtain ⟨a_CONSERVATIVE, ev_CONSERVATIVE⟩ := exa_v n1
  have E_CONSERVATIVE := Exa.start ev_CONSERVATIVE n1
  have S_CONSERVATIVE := Sta.start ev_CONSERVATIVE (Or.inr ⟨(hw _ (List.mem_of_getElem? (i := 2) rfl)), (hw _ (List.mem_of_getElem? (i := 10) rfl))⟩)
  obtain ⟨a_CONSERVATIVE_BASIC, ev_CONSERVATIVE_BASIC⟩ := exa_v n4
  have E_CONSERVATIVE_BASIC := Exa.start ev_CONSERVATIVE_BASIC n4
  have S_CONSERVATIVE_BASIC := Sta.start ev_CONSERVATIVE_BASIC (Or.inr ⟨(hw _ (List.mem_of_getElem? (i := 2) rfl)), (hw _ (List.mem_of_getElem? (i := 12) rfl))⟩)
  obtain ⟨a_BASIC, ev_BASIC⟩ := exa_v n6
  have E_BASIC := Exa.start ev_BASIC n6
  have S_BASIC := Sta.start ev_BASIC (Or.inr ⟨(hw _ (List.mem_of_getElem? (i := 2) rfl)), (hw _ (List.mem_of_getElem? (i := 15) rfl))⟩)
  obtain ⟨a_STRICT, ev_STRICT⟩ := exa_v n8
  have E_STRICT := Exa.start ev_STRICT n8
  have S_STRICT := Sta.start ev_STRICT (Or.inr ⟨(hw _ (List.mem_of_getElem? (i := 2) rfl)), (hw _ (List.mem_of_getElem? (i := 17) rfl))⟩)
  obtain ⟨a_PARTIALLY_STRICT, ev_PARTIALLY_STRICT⟩ := exa_v n10
  have E_PARTIALLY_STRICT := Exa.start ev_PARTIALLY_STRICT n10
  have S_PARTIALLY_STRICT := Sta.start ev_PARTIALLY_STRICT (Or.inr ⟨(hw _ (List.mem_of_getElem? (i := 2) rfl)), (hw _ (List.mem_of_getElem? (i := 19) rfl))⟩)
  have F_RIGOROUS_ordinal := own_fld ev_RIGOROUS n2
  have F_CONSERVATIVE_ordinal := own_fld ev_CONSERVATIVE n3
  have F_CONSERVATIVE_BASIC_ordinal := own_fld ev_CONSERVATIVE_BASIC n5
  have F_BASIC_ordinal := own_fld ev_BASIC n7
  have F_STRICT_ordinal := own_fld ev_STRICT n9
  have F_PARTIALLY_STRICT_ordinal := own_fld ev_PARTIALLY_STRICT n11
  obtain ⟨n, o, h1, h2, h3, _, L, rfl, ⟨rfl, N⟩, hq⟩ := rm0 l s _ hw tables_1 i0 a_RIGOROUS a_STRICT a_BASIC a_CONSERVATIVE a_CONSERVATIVE_BASIC a_PARTIALLY_STRICT s.heap s.heap.size S_RIGOROUS S_STRICT S_BASIC S_CONSERVATIVE S_CONSERVATIVE_BASIC S_PARTIALLY_STRICT E_RIGOROUS E_STRICT E_BASIC E_CONSERVATIVE E_CONSERVATIVE_BASIC E_PARTIALLY_STRICT (F_RIGOROUS_ordinal.ne F_CONSERVATIVE_ordinal (by decide)) (F_RIGOROUS_ordinal.ne F_CONSERVATIVE_BASIC_ordinal (by decide)) (F_STRICT_ordinal.ne F_CONSERVATIVE_ordinal (by decide)) (F_STRICT_ordinal.ne F_CONSERVATIVE_BASIC_ordinal (by decide)) (F_BASIC_ordinal.ne F_CONSERVATIVE_ordinal (by decide)) (F_BASIC_ordinal.ne F_CONSERVATIVE_BASIC_ordinal (by decide)) (F_CONSERVATIVE_BASIC_ordinal.ne F_CONSERVATIVE_ordinal (by decide)) (F_PARTIALLY_STRICT_ordinal.ne F_CONSERVATIVE_ordinal (by decide)) (F_PARTIALLY_STRICT_ordinal.ne F_CONSERVATIVE_BASIC_ordinal (by decide)) p e ha hc hk s m _ below hf ((Spec.applies_iff_loose hf).mp happ).1 ⟨rfl, State.Warmed39.refl s, rfl⟩ trivial
  refine ⟨n, _, h1, h2, h3, hpost _ _ _ _ _ _ ⟨Cond.after_iff.mpr rfl, Cond.after_iff.mpr (eq_i res_at (Term.int_eval (1)) rfl), trivial⟩ ⟨hq.1, hq.2.1, (hq.2.2.sift fun y hy => Or.inr (N y hy)).mono (by decide) (by decide)⟩⟩
theorem main_1_1 : Claimed_1_1 := comes_1 fun _ _ _ _ _ _ h hF => ⟨h.1, hF⟩
theorem main_1_2 : Claimed_1_2 := comes_1 fun _ _ _ _ _ _ h hF => ⟨h.2.1, hF⟩
end Jvm.Pilot.@@N@@
namespace Jvm.Pilot.@@N@@
open Jvm Jvm.ClassFile Sem Op Lib Jvm.Free Jvm.Stand Jvm.Pilot.@@N@@.Jvm.D
/-! MADE BY PROGRAM (witnessworld.py) out of the Statement's table words and the real class files: 12 classes; the members and pool entries that the words name. The judged class is class 1, her method 1. -/
namespace start1
open Jvm.ClassFile
def u (s : String) : CpInfo := .utf8 (stringToUtf16 s)
/-- a pool by its gaps: so many unusable entries, then the entry; so many at the end -/
def gap : Nat → List CpInfo → List CpInfo
  | 0, r => r
  | n + 1, r => .unusable :: gap n r
def poolList (es : List (Nat × CpInfo)) (last : Nat) : List CpInfo := es.foldr (fun e r => gap e.1 (e.2 :: r)) (gap last [])
def pool (es : List (Nat × CpInfo)) (last : Nat) : Array CpInfo := ⟨poolList es last⟩
def fileOf (pool : Array CpInfo) (this : Nat) (attrs : Array Attribute := #[]) (ms : Array MethodInfo := #[]) (fl : Nat := 33) (sup : Nat := 0) (ifs : Array Nat := #[]) (fds : Array FieldInfo := #[]) : ClassFile where
  minorVersion := 0
  majorVersion := 65
  constantPool := pool
  accessFlags := fl
  thisClass := this
  superClass := sup
  interfaces := ifs
  fields := fds
  methods := ms
  attributes := attrs
def plain (name : String) (sup : Option ClassId) : Class where
  name := name
  kind := .ordinary
  loader := none
  accessFlags := 33
  super := sup
  interfaces := #[]
  cf := none
  fields := #[]
  methods := #[]
  instanceTypes := #[]
  staticTypes := #[]
  resolved := #[]
  callSites := []
  init := .initialized
  statics := none
  mirror := none

def pool0 : Array CpInfo := pool [(5, u "<init>"), (0, u "()V"), (1, .class_ 10), (1, u "java/lang/Object")] 113

def k0m0 : Method := { name := "<init>", desc := "()V", sig := { parameters := [], returnType := none }, accessFlags := 1, code := none }
/-- java/lang/Object -/
def k0 : Class := { plain "java/lang/Object" none with
  accessFlags := 33
  interfaces := #[]
  cf := some (fileOf pool0 8 #[] #[{ accessFlags := 1, nameIndex := 5, descriptorIndex := 6, attributes := #[] }] 33 0 #[] #[])
  fields := #[]
  methods := #[k0m0]
  instanceTypes := #[]
  staticTypes := #[]
  resolved := Array.replicate 124 none
  statics := none }

def pool1 : Array CpInfo := pool [(2, .class_ 4), (1, u "java/lang/Object"), (0, u "<init>"), (0, u "()V"), (0, .integer 2147483647), (0, .fieldref 9 10), (0, .class_ 11), (0, .nameAndType 12 13), (0, u "com/example/lockpoint/lockpoint/core/Policy"), (0, u "RIGOROUS"), (0, u "Lcom/example/lockpoint/lockpoint/core/Policy;"), (0, .fieldref 9 15), (0, .nameAndType 16 13), (0, u "STRICT"), (0, .fieldref 9 18), (0, .nameAndType 19 13), (0, u "BASIC"), (0, .fieldref 9 21), (0, .nameAndType 22 13), (0, u "CONSERVATIVE"), (0, .fieldref 9 24), (0, .nameAndType 25 13), (0, u "CONSERVATIVE_BASIC"), (0, .fieldref 9 27), (0, .nameAndType 28 13), (0, u "PARTIALLY_STRICT"), (0, .methodref 9 30), (0, .nameAndType 31 32), (0, u "declaresLocks"), (0, u "()Z"), (0, .class_ 34), (0, u "com/example/lockpoint/lockpoint/core/PolicyDeclaresLocksPinLaw"), (2, u "law"), (0, u "(I)Z")] 3

def k1m0 : Method := { name := "<init>", desc := "()V", sig := { parameters := [], returnType := none }, accessFlags := 1, code := none }
def k1c1 : Code := { maxStack := 2, maxLocals := 4, code := code, exceptionTable := #[], attributes := #[] }
def k1m1 : Method := { name := "law", desc := "(I)Z", sig := { parameters := [.int], returnType := some .boolean }, accessFlags := 9, code := some k1c1 }
/-- com/example/lockpoint/lockpoint/core/PolicyDeclaresLocksPinLaw -/
def k1 : Class := { plain "com/example/lockpoint/lockpoint/core/PolicyDeclaresLocksPinLaw" (some 0) with
  accessFlags := 49
  interfaces := #[]
  cf := some (fileOf pool1 33 #[] #[{ accessFlags := 1, nameIndex := 5, descriptorIndex := 6, attributes := #[] }, { accessFlags := 9, nameIndex := 37, descriptorIndex := 38, attributes := #[] }] 49 2 #[] #[])
  fields := #[]
  methods := #[k1m0, k1m1]
  instanceTypes := #[]
  staticTypes := #[]
  resolved := Array.replicate 42 none
  statics := none }

def pool2 : Array CpInfo := pool [(1, .class_ 2), (0, u "java/lang/constant/Constable"), (0, .class_ 4), (0, u "java/lang/Object")] 6

/-- java/lang/constant/Constable -/
def k2 : Class := { plain "java/lang/constant/Constable" (some 0) with
  accessFlags := 1537
  interfaces := #[]
  cf := some (fileOf pool2 1 #[] #[] 1537 3 #[] #[])
  fields := #[]
  methods := #[]
  instanceTypes := #[]
  staticTypes := #[]
  resolved := Array.replicate 11 none
  statics := none }

def pool3 : Array CpInfo := pool [(1, .class_ 2), (0, u "java/lang/Comparable"), (0, .class_ 4), (0, u "java/lang/Object")] 7

/-- java/lang/Comparable -/
def k3 : Class := { plain "java/lang/Comparable" (some 0) with
  accessFlags := 1537
  interfaces := #[]
  cf := some (fileOf pool3 1 #[] #[] 1537 3 #[] #[])
  fields := #[]
  methods := #[]
  instanceTypes := #[]
  staticTypes := #[]
  resolved := Array.replicate 12 none
  statics := none }

def pool4 : Array CpInfo := pool [(1, .class_ 2), (0, u "java/io/Serializable"), (0, .class_ 4), (0, u "java/lang/Object")] 2

/-- java/io/Serializable -/
def k4 : Class := { plain "java/io/Serializable" (some 0) with
  accessFlags := 1537
  interfaces := #[]
  cf := some (fileOf pool4 1 #[] #[] 1537 3 #[] #[])
  fields := #[]
  methods := #[]
  instanceTypes := #[]
  staticTypes := #[]
  resolved := Array.replicate 7 none
  statics := none }

def pool5 : Array CpInfo := pool [(2, .class_ 4), (1, u "java/lang/Enum"), (0, u "name"), (0, u "Ljava/lang/String;"), (2, u "ordinal"), (0, u "I"), (1, .class_ 14), (1, u "java/lang/Object"), (4, u "hash"), (86, .class_ 108), (1, u "java/lang/Enum$EnumDesc"), (2, .class_ 112), (0, u "java/lang/constant/Constable"), (0, .class_ 114), (0, u "java/lang/Comparable"), (0, .class_ 116), (0, u "java/io/Serializable")] 87

/-- java/lang/Enum -/
def k5 : Class := { plain "java/lang/Enum" (some 0) with
  accessFlags := 1057
  interfaces := #[2, 3, 4]
  cf := some (fileOf pool5 2 #[.nestMembers #[106]] #[] 1057 12 #[111, 113, 115] #[{ accessFlags := 18, nameIndex := 5, descriptorIndex := 6, attributes := #[] }, { accessFlags := 18, nameIndex := 9, descriptorIndex := 10, attributes := #[] }, { accessFlags := 2, nameIndex := 19, descriptorIndex := 10, attributes := #[] }])
  fields := #[{ name := "name", type := (.object "java/lang/String"), accessFlags := 18, slot := 0, constantValue := 0 }, { name := "ordinal", type := .int, accessFlags := 18, slot := 1, constantValue := 0 }, { name := "hash", type := .int, accessFlags := 2, slot := 2, constantValue := 0 }]
  methods := #[]
  instanceTypes := #[(.object "java/lang/String"), .int, .int]
  staticTypes := #[]
  resolved := Array.replicate 204 none
  statics := none }

def pool6 : Array CpInfo := pool [(1, .class_ 2), (0, u "com/example/lockpoint/lockpoint/core/Policy"), (2, u "RIGOROUS"), (0, u "Lcom/example/lockpoint/lockpoint/core/Policy;"), (2, u "STRICT"), (2, u "BASIC"), (0, .fieldref 1 14), (0, .nameAndType 15 6), (0, u "CONSERVATIVE"), (0, .fieldref 1 17), (0, .nameAndType 18 6), (0, u "CONSERVATIVE_BASIC"), (2, u "PARTIALLY_STRICT"), (2, u "$VALUES"), (0, u "[Lcom/example/lockpoint/lockpoint/core/Policy;"), (6, .class_ 34), (1, u "java/lang/Enum"), (8, u "name"), (0, u "Ljava/lang/String;"), (8, u "promises"), (0, u "Ljava/util/Set;"), (47, u "()Z"), (66, u "declaresLocks")] 23

def k6c0 : Code := { maxStack := 2, maxLocals := 1, code := prog_74_method_7_code, exceptionTable := #[], attributes := #[] }
def k6m0 : Method := { name := "declaresLocks", desc := "()Z", sig := { parameters := [], returnType := some .boolean }, accessFlags := 1, code := some k6c0 }
/-- com/example/lockpoint/lockpoint/core/Policy -/
def k6 : Class := { plain "com/example/lockpoint/lockpoint/core/Policy" (some 5) with
  accessFlags := 16433
  interfaces := #[]
  cf := some (fileOf pool6 1 #[] #[{ accessFlags := 1, nameIndex := 169, descriptorIndex := 102, attributes := #[] }] 16433 32 #[] #[{ accessFlags := 16409, nameIndex := 5, descriptorIndex := 6, attributes := #[] }, { accessFlags := 16409, nameIndex := 9, descriptorIndex := 6, attributes := #[] }, { accessFlags := 16409, nameIndex := 12, descriptorIndex := 6, attributes := #[] }, { accessFlags := 16409, nameIndex := 15, descriptorIndex := 6, attributes := #[] }, { accessFlags := 16409, nameIndex := 18, descriptorIndex := 6, attributes := #[] }, { accessFlags := 16409, nameIndex := 21, descriptorIndex := 6, attributes := #[] }, { accessFlags := 18, nameIndex := 43, descriptorIndex := 44, attributes := #[] }, { accessFlags := 18, nameIndex := 53, descriptorIndex := 54, attributes := #[] }, { accessFlags := 4122, nameIndex := 24, descriptorIndex := 25, attributes := #[] }])
  fields := #[{ name := "RIGOROUS", type := (.object "com/example/lockpoint/lockpoint/core/Policy"), accessFlags := 16409, slot := 0, constantValue := 0 }, { name := "STRICT", type := (.object "com/example/lockpoint/lockpoint/core/Policy"), accessFlags := 16409, slot := 1, constantValue := 0 }, { name := "BASIC", type := (.object "com/example/lockpoint/lockpoint/core/Policy"), accessFlags := 16409, slot := 2, constantValue := 0 }, { name := "CONSERVATIVE", type := (.object "com/example/lockpoint/lockpoint/core/Policy"), accessFlags := 16409, slot := 3, constantValue := 0 }, { name := "CONSERVATIVE_BASIC", type := (.object "com/example/lockpoint/lockpoint/core/Policy"), accessFlags := 16409, slot := 4, constantValue := 0 }, { name := "PARTIALLY_STRICT", type := (.object "com/example/lockpoint/lockpoint/core/Policy"), accessFlags := 16409, slot := 5, constantValue := 0 }, { name := "name", type := (.object "java/lang/String"), accessFlags := 18, slot := 3, constantValue := 0 }, { name := "promises", type := (.object "java/util/Set"), accessFlags := 18, slot := 4, constantValue := 0 }, { name := "$VALUES", type := (.array (.object "com/example/lockpoint/lockpoint/core/Policy")), accessFlags := 4122, slot := 6, constantValue := 0 }]
  methods := #[k6m0]
  instanceTypes := #[(.object "java/lang/String"), .int, .int, (.object "java/lang/String"), (.object "java/util/Set")]
  staticTypes := #[(.object "com/example/lockpoint/lockpoint/core/Policy"), (.object "com/example/lockpoint/lockpoint/core/Policy"), (.object "com/example/lockpoint/lockpoint/core/Policy"), (.object "com/example/lockpoint/lockpoint/core/Policy"), (.object "com/example/lockpoint/lockpoint/core/Policy"), (.object "com/example/lockpoint/lockpoint/core/Policy"), (.array (.object "com/example/lockpoint/lockpoint/core/Policy"))]
  resolved := Array.replicate 193 none
  statics := some 0 }

def pool7 : Array CpInfo := pool [(1, u "java/lang/Cloneable"), (0, .class_ 1), (0, u "java/lang/Object"), (0, .class_ 3)] 3

/-- java/lang/Cloneable -/
def k7 : Class := { plain "java/lang/Cloneable" (some 0) with
  accessFlags := 1537
  interfaces := #[]
  cf := some (fileOf pool7 2 #[] #[] 1537 4 #[] #[])
  fields := #[]
  methods := #[]
  instanceTypes := #[]
  staticTypes := #[]
  resolved := Array.replicate 8 none
  statics := none }

/-- the primitive byte -/
def k8 : Class := { plain "byte" none with kind := .primitive 'B', accessFlags := 0x411 }
/-- [B -/
def k9 : Class := { plain "[B" (some 0) with kind := .array 8 .byte, interfaces := #[7, 4], accessFlags := 1041 }

/-- the primitive int -/
def k10 : Class := { plain "int" none with kind := .primitive 'I', accessFlags := 0x411 }
/-- [I -/
def k11 : Class := { plain "[I" (some 0) with kind := .array 10 .int, interfaces := #[7, 4], accessFlags := 1041 }

def heap : Heap := #[{ cls := 6, slots := #[.ref 1, .ref 2, .ref 3, .ref 4, .ref 5, .ref 6, .null], vm := .statics 6 },
  { cls := 6, slots := #[.null, .int 0, .int 0, .null, .null], vm := .none },
  { cls := 6, slots := #[.null, .int 1, .int 0, .null, .null], vm := .none },
  { cls := 6, slots := #[.null, .int 2, .int 0, .null, .null], vm := .none },
  { cls := 6, slots := #[.null, .int 3, .int 0, .null, .null], vm := .none },
  { cls := 6, slots := #[.null, .int 4, .int 0, .null, .null], vm := .none },
  { cls := 6, slots := #[.null, .int 5, .int 0, .null, .null], vm := .none }]
def classes : Array Class := #[k0, k1, k2, k3, k4, k5, k6, k7, k8, k9, k10, k11]
def interned : List (Array UInt16 × Addr) := []
def slotsUsed : Nat := 37
def theMethod : MethodId := ⟨1, 1⟩
def args0 : Array Value := #[.int 5]
def aboutOver (below : List Frame) : State where
  vm := { classes := classes, interned := interned.toArray }
  heap := heap
  slotsUsed := slotsUsed
  threads := #[{ frames := .invoking theMethod args0 :: below }]
def below0 : List Frame := [.native { method := ⟨0, 0⟩, args := #[] }]
def about1 : State := aboutOver below0
def p0 : Program := .bare "" "" ""
def e0 : Env := launch0.env 0 0 0
theorem w_frames : about1.frames = Frame.invoking theMethod args0 :: below0 := rfl
set_option maxRecDepth 65536 in
theorem w_args : argsFit about1.vm theMethod args0 = true := by decide +kernel
set_option maxRecDepth 65536 in
theorem w_heap : heapFits about1 = true := by decide +kernel
set_option maxRecDepth 65536 in
theorem w_runnable : about1.curStatus? = some .runnable := by decide +kernel
set_option maxRecDepth 65536 in
theorem w_alone : about1.alone = true := by decide +kernel
set_option maxRecDepth 65536 in
theorem w_named : about1.methodNamed? x = some theMethod := by decide +kernel
set_option maxRecDepth 65536 in
theorem w_hears : about1.hears theMethod below0 = true := by decide +kernel
set_option maxRecDepth 65536 in
theorem w_ripe : about1.ripe theMethod args0 below0 = true := by decide +kernel
theorem w_running : about1.status = .running := rfl
set_option maxRecDepth 65536 in
theorem w_room : about1.hasRoom e0.platform room_1 = true :=
  launch0.hasRoom_least _ room_1 (by decide +kernel) (by decide +kernel) (by decide +kernel) (by decide +kernel) (by decide +kernel) (by decide +kernel)
theorem allAtoms_all (ts : List Jvm.Cond) (a : Array Jvm.Value) (st : Jvm.State) : (allAtoms ts).before a st = ts.all (fun c => c.before a st) := by
  induction ts with
  | nil => rfl
  | cons c t ih =>
    show (Jvm.Cond.and c (allAtoms t)).before a st = _
    rw [Jvm.Cond.before_and, ih, List.all_cons]
def words1 : List Jvm.Cond := Jvm.Cond.code x code maxLocals ret :: tables_1
/-- a 'code' word, met by the world's own term for the bytes: nothing is compared byte by byte -/
theorem code_word {y : MethodName} {bytes : ByteArray} {mx : Nat} {rt : Option FieldType} {a : Array Value} {s : State} {m : MethodId} {meth : Method} {c : Code} (h1 : s.methodNamed? y = some m) (h2 : s.vm.method? m = some meth) (h3 : meth.code = some c) (h4 : c.code = bytes)
    (h5 : (c.maxLocals == mx && c.exceptionTable.isEmpty && decide (c.maxStack ≤ mostOperands) && decide (meth.sig.returnType = rt) && !meth.locks && decide (parseMethodDescriptor y.desc = some meth.sig)) = true) : (Jvm.Cond.code y bytes mx rt).before a s = true := by
  simp only [Bool.and_eq_true, beq_iff_eq, Bool.not_eq_true', decide_eq_true_eq] at h5
  obtain ⟨⟨⟨⟨⟨g1, g2⟩, g3⟩, g4⟩, g5⟩, g6⟩ := h5
  simp [Cond.before, Cond.holds, Cond.value, h1, h2, h3, h4, g1, g2, g3, g4, g5, g6]
def isCode : Jvm.Cond → Bool
  | .code _ _ _ _ => true
  | _ => false
theorem all_split {L : List Jvm.Cond} {P : Jvm.Cond → Bool} (h1 : L.all (fun c => isCode c || P c) = true) (h2 : ∀ c ∈ L.filter isCode, P c = true) : L.all P = true := by
  refine List.all_eq_true.mpr fun c hc => ?_
  have h := List.all_eq_true.mp h1 c hc
  rcases Bool.eq_false_or_eq_true (isCode c) with hi | hi
  · exact h2 c (List.mem_filter.mpr ⟨hc, hi⟩)
  · simpa [hi] using h
set_option maxRecDepth 65536 in
theorem w_c0 : (Jvm.Cond.code x code maxLocals ret).before args0 about1 = true := code_word (m := ⟨1, 1⟩) (meth := k1m1) (c := k1c1) (by decide +kernel) rfl rfl rfl (by decide +kernel)
set_option maxRecDepth 65536 in
theorem w_c1 : (Jvm.Cond.code ({ cls := "com/example/lockpoint/lockpoint/core/Policy", name := "declaresLocks", desc := "()Z" } : Jvm.MethodName) prog_74_method_7_code (1 : Nat) (Option.some Jvm.ClassFile.FieldType.boolean)).before args0 about1 = true := code_word (m := ⟨6, 0⟩) (meth := k6m0) (c := k6c0) (by decide +kernel) rfl rfl rfl (by decide +kernel)
def codes1 : List Jvm.Cond := [Jvm.Cond.code x code maxLocals ret, Jvm.Cond.code ({ cls := "com/example/lockpoint/lockpoint/core/Policy", name := "declaresLocks", desc := "()Z" } : Jvm.MethodName) prog_74_method_7_code (1 : Nat) (Option.some Jvm.ClassFile.FieldType.boolean)]
set_option maxRecDepth 65536 in
theorem codes_eq : words1.filter isCode = codes1 := rfl
theorem w_codes : ∀ c ∈ words1.filter isCode, c.before args0 about1 = true := by
  rw [codes_eq]
  intro c hc
  simp only [codes1, List.mem_cons, List.not_mem_nil, or_false] at hc
  rcases hc with rfl | rfl
  · exact w_c0
  · exact w_c1
set_option maxRecDepth 65536 in
theorem w_t1 : words1.all (fun c => isCode c || c.before args0 about1) = true := by decide +kernel
theorem w_tables : (allAtoms (Jvm.Cond.code x code maxLocals ret :: tables_1)).before args0 about1 = true := by
  rw [allAtoms_all]
  show words1.all (fun c => c.before args0 about1) = true
  refine all_split ?_ w_codes
  rw [w_t1]
set_option maxRecDepth 65536 in
theorem w_case : (Jvm.Cond.and given_1 narrow_1).before args0 about1 = true := by decide +kernel
theorem w_applies : (headSpec (Jvm.Cond.code x code maxLocals ret :: tables_1) room_1).applies x e0.platform about1 = true :=
  (Spec.applies_iff w_frames).mpr ⟨w_running, w_runnable, w_alone, w_named, w_hears, w_ripe, w_room, w_tables⟩
theorem atStart : AtStart classFile x code maxLocals ret World_1 tables_1 room_1 Calls_1 rest_1 Pre_1 launch0 p0 e0 about1 theMethod args0 below0 :=
  ⟨lists_1, trivial, launch0.admits_env _ _ _, launch0.least_env, fairChoices_fair.cas, fairChoices_fair.clock, w_frames, w_args, w_heap, w_applies, trivial, trivial, w_case⟩
end start1
theorem witness_1 : WitnessClaimed_1 := ⟨start1.p0, start1.e0, start1.about1, start1.theMethod, start1.args0, start1.below0, start1.atStart⟩
end Jvm.Pilot.@@N@@
