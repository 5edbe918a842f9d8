import JvmDerived
import JvmDerived.Pilot.@@N@@Statement
import JvmDerived.Pilot.@@N@@Code
set_option linter.unusedVariables false
set_option linter.unusedSimpArgs false
namespace Jvm.RoadKit
open Sem ClassFile Op Lib Jvm.Stand Jvm.Free Jvm.LawKit
section New
variable {p : Program} {l : Launch} {e : Env} {R : Room} {s : State} {m : MethodId} {args : Array Value} {below : List Frame} {meth : Method} {c : Code} {T : State} {locs : List Loc} {cells slots : Nat}
theorem retI (X : Stand p l e R s m args below meth c T locs cells slots) (hx : p.tables.exec = Jvm.exec) {pc : Nat} {Ls : Array Slot} {z : Int32} {rest : List Value} (hret : meth.sig.returnType = some .int) (hd : decode c.code pc = .ok (.ireturn, 1)) {fs : List Frame}
    (hl : ∀ (f : JFrame) (acts : List Action), f.method = m → f.locked = none → f.entered = [] → (doReturn e (T.setTop f) acts (some (.int z))).1 = T.setFrames fs) : Steps p.tables e below (T.setTop (mkF m pc Ls (.int z :: rest))) (T.setFrames fs) := by
  have hm' : T.vm.method? m = some meth := X.method'
  have hn : narrow .int (.int z) = .int z := rfl
  show Steps p.tables e below (T.setTop { method := m, pc := pc, locals := Ls, stack := _ :: rest, locked := none }) _
  jvm_step X.here [X.here.top, hx, hd, hm', hret, hn]
  first | (intro acts; rw [hl _ acts rfl rfl rfl]) | rw [hl _ _ rfl rfl rfl]
  exact Steps.refl _
end New
end Jvm.RoadKit
namespace Jvm.Pilot.@@N@@
open Jvm Jvm.ClassFile Sem Op Lib Jvm.Free Jvm.Stand Jvm.LawKit Jvm.RoadKit Bundle Jvm.Pilot.@@N@@.Jvm.D
/-! own_..: a walk as a goal: from here some run ends as the contract says; steps are taken off its front -/
section Own
variable {p : Program} {l : Launch} {e : Env} {R : Room} {s : State} {m : MethodId} {args : Array Value} {below : List Frame} {meth : Method} {c : Code} {T : State} {locs : List Loc} {cells slots : Nat} {Z : State} {a0 : Array Value} {h : Heap}
def Run (tb : Tables) (e : Env) (below : List Frame) (A : State) (G : State → Outcome → Prop) : Prop := ∃ t o, Steps tb e below A t ∧ G t o
theorem own_go {tb : Tables} {A B : State} {G : State → Outcome → Prop} (st : ∀ t, Steps tb e below B t → Steps tb e below A t) (k : Run tb e below B G) : Run tb e below A G := by
  obtain ⟨t, o, h1, h2⟩ := k
  exact ⟨t, o, st t h1, h2⟩
def OwnFin (s : State) (below : List Frame) (Q : Option Value → Heap → List Loc → Prop) (ck sk : Nat) : State → Outcome → Prop :=
  fun t o => t.status = .running ∧ Ended t below o ∧ ∃ v L, o = .returned v ∧ Q v t.heap L ∧ FrameEnd s o t L ck sk
def OwnCtr (l : Launch) (y : MethodName) (bytes : ByteArray) (maxL : Nat) (ret : Option FieldType) (ws : List Jvm.Cond) (rm : Room) (Z : State) (as' : Array Value) (h : Heap) (Q : Option Value → Heap → List Loc → Prop) : Prop :=
  MetFree l y (head1 (Jvm.Cond.code y bytes maxL ret :: ws) rm) (fun a U => a = as' ∧ Z.Warmed39 U.vm ∧ U.heap = h) (fun _ _ _ _ _ => True) (fun _ U o U' => ∃ v L, o = .returned v ∧ Q v U'.heap L ∧ FrameEnd U o U' L rm.cells rm.slots)
theorem own_body {y : MethodName} {bytes : ByteArray} {maxL : Nat} {ret : Option FieldType} {ws : List Jvm.Cond} {rm : Room} {as' : Array Value} {Q : Option Value → Heap → List Loc → Prop} (pn : plainName y.cls = true)
    (H : ∀ (p : Program) (e : Env) (s : State) (m : MethodId) (below : List Frame) (meth : Method) (c : Code) (s₁ : State), Stand p l e rm s m as' below meth c s₁ [] 0 0 → p.tables.exec = Jvm.exec → c.code = bytes → c.maxLocals = maxL →
      s.vm.findClass y.cls = some m.cls → meth.name = y.name → meth.sig.returnType = ret → meth.locks = false → Z.Warmed39 s.vm → s₁.heap = h → Run p.tables e below (s₁.setTop (entryFrame m as' maxL)) (OwnFin s below Q rm.cells rm.slots)) :
    OwnCtr l y bytes maxL ret ws rm Z as' h Q := by
  refine MetFree.of_bodySF (plainFor_of_name pn) hisR ?_
  intro p e s m args below meth c s₁ Bd hml0 hP hK
  obtain ⟨rfl, hZ, hh⟩ := hP
  exact H p e s m below meth c s₁ (Stand.of_body Bd) Bd.exec Bd.bytes hml0 (findClass_of_methodNamed Bd.named) (name_of_methodNamed Bd.named Bd.method).1 Bd.returns (BodyLoose.notSynchronized Bd) hZ (by rw [← hh, Bd.state]; rfl)
theorem own_out (X : Stand p l e R s m args below meth c T locs cells slots) {v : Option Value} (hv : meth.sig.returnType = none → v = none) (hlk : meth.locks = false) {g : JFrame} {Q : Option Value → Heap → List Loc → Prop} {ck sk : Nat}
    (hst : ∀ fs, (∀ (f : JFrame) (acts : List Action), f.method = m → f.locked = none → f.entered = [] → (doReturn e (T.setTop f) acts v).1 = T.setFrames fs) → Steps p.tables e below (T.setTop g) (T.setFrames fs))
    (hQ : Q v T.heap locs) (hc : cells ≤ ck) (hs : slots ≤ sk) : Run p.tables e below (T.setTop g) (OwnFin s below Q ck sk) := by
  obtain ⟨fs, hr, hrun, hended, hW, hsame⟩ := X.leave (v := v) hv hlk
  exact ⟨_, _, hst fs hr, hrun, hended, v, locs, rfl, hQ, ⟨_, rfl⟩, hW, hsame.mono hc hs⟩
theorem own_callV (X : Stand p l e R s m args below meth c T locs cells slots) (hx : p.tables.exec = Jvm.exec) (hZ : Z.Warmed39 s.vm) {own C : String} {index : Nat} {y : MethodName} {bytes : ByteArray} {maxL : Nat} {ret : Option FieldType}
    (hown : s.vm.findClass own = some m.cls) (w1 : (Jvm.Cond.methodLink own index y).before a0 Z = true) (w2 : (Jvm.Cond.instanceMethod y).before a0 Z = true) (w3 : (Jvm.Cond.selects C y y).before a0 Z = true)
    (w4 : (Jvm.Cond.code y bytes maxL ret).before a0 Z = true) (w5 : (Jvm.Cond.initialized y.cls).before a0 Z = true) (hy : y.cls ≠ "java/lang/invoke/MethodHandle" ∧ y.cls ≠ "java/lang/invoke/VarHandle")
    (eT : T.heap = h) {rm : Room} {as' : Array Value} {Q : Option Value → Heap → List Loc → Prop} (hM : OwnCtr l y bytes maxL ret [] rm Z as' h Q)
    {b : Addr} (E : Exa Z h b C) {g : JFrame} (hg : g.method = m) (hsize : g.locals.size = c.maxLocals) {argsL rest : List Value} {ps : List FieldType} {rt : Option FieldType} (hpd : parseMethodDescriptor y.desc = some ⟨ps, rt⟩) (hlen : argsL.length = ps.length)
    (hs : g.stack = argsL.reverse ++ .ref b :: rest) (has : as' = (Value.ref b :: argsL).toArray) {W : Nat} (hW : 2 * g.monitorRoom + (rest.map fun v => v.category).sum ≤ W) (hd : decode c.code g.pc = .ok (.invokevirtual index, 3))
    (hf : rm.frames + 1 ≤ R.frames) (hl : W + (maxL + 11) + rm.locals ≤ R.locals) (hc : cells + rm.cells ≤ R.cells) (hsl : slots + rm.slots ≤ R.slots) :
    ∃ (v : Option Value) (T' : State) (L : List Loc), Stand p l e R s m args below meth c T' (locs ++ L) (cells + rm.cells) (slots + rm.slots) ∧ Q v T'.heap L ∧
      ∀ target, Steps p.tables e below (T'.setTop { g with pc := g.pc + 3, stack := v.toList ++ rest }) target → Steps p.tables e below (T.setTop g) target := by
  obtain ⟨cell, k, h1, h2, h3, h4, -⟩ := E
  obtain ⟨v, vm₁, ⟨T', L', k', n'⟩, -, X', ⟨L, hQ, l1, l2, l3⟩, st⟩ := Jvm.LawKit.callV X hx hown (mvT hZ w1) (mvT hZ w2) (mvT hZ w3) (mvT hZ w4) hy (backOf (W := W) hM hZ w4 w5 hf hl) (b := b) (cellB := cell) (by rw [eT]; exact h1) h4 (by rw [hZ.alike.findClass]; exact h2) hg hsize (lenOf hpd hlen) hs hW hd (fun _ _ => ⟨has.symm, eT, hc, hsl⟩)
  dsimp only [Pt.U, Pt.locs, Pt.cells, Pt.slots] at X' l1 l2 l3 st hQ
  subst l1 l2 l3
  exact ⟨v, T', L, X', hQ, st⟩
theorem own_callVU (X : Stand p l e R s m args below meth c T locs cells slots) (hx : p.tables.exec = Jvm.exec) (hZ : Z.Warmed39 s.vm) {own C owner : String} {index : Nat} {x y : MethodName} {bytes : ByteArray} {maxL : Nat} {ret : Option FieldType}
    (hown : s.vm.findClass own = some m.cls) (w1 : (Jvm.Cond.methodLink own index x).before a0 Z = true) (w1' : (Jvm.Cond.sameMethod x.cls owner x.name x.desc).before a0 Z = true) (w1'' : (Jvm.Cond.declares ⟨owner, x.name, x.desc⟩).before a0 Z = true) (w2 : (Jvm.Cond.instanceMethod y).before a0 Z = true) (w3 : (Jvm.Cond.selects C x y).before a0 Z = true)
    (w4 : (Jvm.Cond.code y bytes maxL ret).before a0 Z = true) (w5 : (Jvm.Cond.initialized y.cls).before a0 Z = true) (hy : owner ≠ "java/lang/invoke/MethodHandle" ∧ owner ≠ "java/lang/invoke/VarHandle")
    (eT : T.heap = h) {rm : Room} {as' : Array Value} {Q : Option Value → Heap → List Loc → Prop} (hM : OwnCtr l y bytes maxL ret [] rm Z as' h Q)
    {b : Addr} (E : Exa Z h b C) {g : JFrame} (hg : g.method = m) (hsize : g.locals.size = c.maxLocals) {argsL rest : List Value} {ps : List FieldType} {rt : Option FieldType} (hpd : parseMethodDescriptor x.desc = some ⟨ps, rt⟩) (hlen : argsL.length = ps.length)
    (hs : g.stack = argsL.reverse ++ .ref b :: rest) (has : as' = (Value.ref b :: argsL).toArray) {W : Nat} (hW : 2 * g.monitorRoom + (rest.map fun v => v.category).sum ≤ W) (hd : decode c.code g.pc = .ok (.invokevirtual index, 3))
    (hf : rm.frames + 1 ≤ R.frames) (hl : W + (maxL + 11) + rm.locals ≤ R.locals) (hc : cells + rm.cells ≤ R.cells) (hsl : slots + rm.slots ≤ R.slots) :
    ∃ (v : Option Value) (T' : State) (L : List Loc), Stand p l e R s m args below meth c T' (locs ++ L) (cells + rm.cells) (slots + rm.slots) ∧ Q v T'.heap L ∧
      ∀ target, Steps p.tables e below (T'.setTop { g with pc := g.pc + 3, stack := v.toList ++ rest }) target → Steps p.tables e below (T.setTop g) target := by
  obtain ⟨cB, kB, q1, q2, q3⟩ := isOf hZ eT E
  obtain ⟨v, vm₁, ⟨T', L', k', n'⟩, -, X', ⟨L, hQ, l1, l2, l3⟩, st⟩ := X.virtualBackUp hx hown (mvT hZ w1) (mvT hZ w1') (mvT hZ w1'') hy (mvT hZ w3) (mvT hZ w2) (backOf (W := W) hM hZ w4 w5 hf hl) q1 q3 hg hsize (Steps.refl _) (lenOf hpd hlen) hs hW hd (fun _ _ => ⟨has.symm, eT, hc, hsl⟩)
  dsimp only [Pt.U, Pt.locs, Pt.cells, Pt.slots] at X' l1 l2 l3 st hQ
  subst l1 l2 l3
  exact ⟨v, T', L, X', hQ, fun _ k => st.trans k⟩
theorem own_callS (X : Stand p l e R s m args below meth c T locs cells slots) (hx : p.tables.exec = Jvm.exec) (hZ : Z.Warmed39 s.vm) {own : String} {index : Nat} {y : MethodName} {bytes : ByteArray} {maxL : Nat} {ret : Option FieldType}
    (hown : s.vm.findClass own = some m.cls) (w1 : (Jvm.Cond.methodLink own index y).before a0 Z = true) (w2 : (Jvm.Cond.static y).before a0 Z = true)
    (w4 : (Jvm.Cond.code y bytes maxL ret).before a0 Z = true) (w5 : (Jvm.Cond.initialized y.cls).before a0 Z = true) (hy : y.cls ≠ "java/lang/invoke/MethodHandle" ∧ y.cls ≠ "java/lang/invoke/VarHandle")
    (eT : T.heap = h) {rm : Room} {as' : Array Value} {Q : Option Value → Heap → List Loc → Prop} (hM : OwnCtr l y bytes maxL ret [] rm Z as' h Q)
    {g : JFrame} (hg : g.method = m) (hsize : g.locals.size = c.maxLocals) {argsL rest : List Value} {ps : List FieldType} {rt : Option FieldType} (hpd : parseMethodDescriptor y.desc = some ⟨ps, rt⟩) (hlen : argsL.length = ps.length)
    (hs : g.stack = argsL.reverse ++ rest) (has : as' = argsL.toArray) {W : Nat} (hW : 2 * g.monitorRoom + (rest.map fun v => v.category).sum ≤ W) (hd : decode c.code g.pc = .ok (.invokestatic index, 3))
    (hf : rm.frames + 1 ≤ R.frames) (hl : W + (maxL + 11) + rm.locals ≤ R.locals) (hc : cells + rm.cells ≤ R.cells) (hsl : slots + rm.slots ≤ R.slots) :
    ∃ (v : Option Value) (T' : State) (L : List Loc), Stand p l e R s m args below meth c T' (locs ++ L) (cells + rm.cells) (slots + rm.slots) ∧ Q v T'.heap L ∧
      ∀ target, Steps p.tables e below (T'.setTop { g with pc := g.pc + 3, stack := v.toList ++ rest }) target → Steps p.tables e below (T.setTop g) target := by
  obtain ⟨v, vm₁, ⟨T', L', k', n'⟩, -, X', ⟨L, hQ, l1, l2, l3⟩, st⟩ := Jvm.LawKit.callS X hx hown (mvT hZ w1) (mvT hZ w2) (mvT hZ w5) (mvT hZ w4) hy (backOf (W := W) hM hZ w4 w5 hf hl) hg hsize (lenOf hpd hlen) hs hW hd (fun _ _ => ⟨has.symm, eT, hc, hsl⟩)
  dsimp only [Pt.U, Pt.locs, Pt.cells, Pt.slots] at X' l1 l2 l3 st hQ
  subst l1 l2 l3
  exact ⟨v, T', L, X', hQ, st⟩
theorem own_callI (X : Stand p l e R s m args below meth c T locs cells slots) (hx : p.tables.exec = Jvm.exec) (hZ : Z.Warmed39 s.vm) {own : String} {index : Nat} {y : MethodName} {bytes : ByteArray} {maxL : Nat}
    (hown : s.vm.findClass own = some m.cls) (hy1 : y.name = "<init>") (w1 : (Jvm.Cond.methodLink own index y).before a0 Z = true) (w2 : (Jvm.Cond.instanceMethod y).before a0 Z = true)
    (w4 : (Jvm.Cond.code y bytes maxL none).before a0 Z = true) (w5 : (Jvm.Cond.initialized y.cls).before a0 Z = true) (hy : y.cls ≠ "java/lang/invoke/MethodHandle" ∧ y.cls ≠ "java/lang/invoke/VarHandle")
    (eT : T.heap = h) {rm : Room} {as' : Array Value} {Q : Option Value → Heap → List Loc → Prop} (hM : OwnCtr l y bytes maxL none [] rm Z as' h Q)
    {b : Addr} {g : JFrame} (hg : g.method = m) (hsize : g.locals.size = c.maxLocals) {argsL rest : List Value} {ps : List FieldType} {rt : Option FieldType} (hpd : parseMethodDescriptor y.desc = some ⟨ps, rt⟩) (hlen : argsL.length = ps.length)
    (hs : g.stack = argsL.reverse ++ .ref b :: rest) (has : as' = (Value.ref b :: argsL).toArray) {W : Nat} (hW : 2 * g.monitorRoom + (rest.map fun v => v.category).sum ≤ W) (hd : decode c.code g.pc = .ok (.invokespecial index, 3))
    (hf : rm.frames + 1 ≤ R.frames) (hl : W + (maxL + 11) + rm.locals ≤ R.locals) (hc : cells + rm.cells ≤ R.cells) (hsl : slots + rm.slots ≤ R.slots) :
    ∃ (v : Option Value) (T' : State) (L : List Loc), Stand p l e R s m args below meth c T' (locs ++ L) (cells + rm.cells) (slots + rm.slots) ∧ Q v T'.heap L ∧
      ∀ target, Steps p.tables e below (T'.setTop { g with pc := g.pc + 3, stack := v.toList ++ rest }) target → Steps p.tables e below (T.setTop g) target := by
  obtain ⟨v, vm₁, ⟨T', L', k', n'⟩, -, X', ⟨L, hQ, l1, l2, l3⟩, st⟩ := Jvm.LawKit.callI X hx hown hy1 (mvT hZ w1) (mvT hZ w2) (mvT hZ w4) hy (backOf (W := W) hM hZ w4 w5 hf hl) hg hsize (a := b) (lenOf hpd hlen) hs hW hd (fun _ _ => ⟨has.symm, eT, hc, hsl⟩)
  dsimp only [Pt.U, Pt.locs, Pt.cells, Pt.slots] at X' l1 l2 l3 st hQ
  subst l1 l2 l3
  exact ⟨v, T', L, X', hQ, st⟩
theorem own_fld {t : Term} {u : Addr} {C n d : String} {k : Int32} (ev : t.eval args s none [] s = some (.ref u)) (w : (Jvm.Cond.eq (.field t C n d) (.int k)).value args s none s [] = some true) : Fld s s.heap u C n d (.int k) :=
  Fld.start (by rw [← fld_at (args := args) (first := s) (o := none) (idx := []) ev]; exact Cond.eq_int (beq_iff_eq.mpr w) (Term.int_eval k))
theorem own_rne {a b : Addr} (q : a ≠ b) : ¬ Value.ref a = .ref b := fun w => q (Value.ref.inj w)
end Own

theorem d1_0 : decode prog_18_method_4_code 0 = .ok (.aload_n 0, 1) := by decide +kernel
theorem d1_1 : decode prog_18_method_4_code 1 = .ok (.getstatic 3, 3) := by decide +kernel
theorem d1_4 : decode prog_18_method_4_code 4 = .ok (.if_acmp .eq 10, 3) := by decide +kernel
theorem d1_7 : decode prog_18_method_4_code 7 = .ok (.aload_n 0, 1) := by decide +kernel
theorem d1_8 : decode prog_18_method_4_code 8 = .ok (.getstatic 7, 3) := by decide +kernel
theorem d1_11 : decode prog_18_method_4_code 11 = .ok (.if_acmp .ne 7, 3) := by decide +kernel
theorem d1_14 : decode prog_18_method_4_code 14 = .ok (.iconst 1, 1) := by decide +kernel
theorem d1_15 : decode prog_18_method_4_code 15 = .ok (.goto 4, 3) := by decide +kernel
theorem d1_18 : decode prog_18_method_4_code 18 = .ok (.iconst 0, 1) := by decide +kernel
theorem d1_19 : decode prog_18_method_4_code 19 = .ok (.ireturn, 1) := by decide +kernel
theorem own_pn1 : plainName "com/example/paycadence/paycadence/model/EnrolmentStatus" = true := by first | (simp [plainName, overriddenIn]; done) | decide +kernel
theorem own_pn0 : plainName "com/example/paycadence/paycadence/model/EnrolmentStatusIsPendingPinLaw" = true := by first | (simp [plainName, overriddenIn]; done) | decide +kernel
theorem own_pd1 : parseMethodDescriptor "()Z" = some ⟨[], some .boolean⟩ := by decide +kernel
theorem ef_0 (m : MethodId) (x0 : Int32) : entryFrame m #[(.int x0)] maxLocals = mkF m 0 #[.val (.int x0), .unset, .unset, .unset] [] := by first | (simp [entryFrame, mkF, argsToLocals, Value.category, maxLocals]; done) | rfl
theorem ef_1 (m : MethodId) (x0 : Addr) : entryFrame m #[(.ref x0)] 1 = mkF m 0 #[.val (.ref x0)] [] := by first | (simp [entryFrame, mkF, argsToLocals, Value.category]; done) | rfl
def own_hit (x1 x2 a : Addr) : Int32 := if a = x1 then 1 else if a = x2 then 1 else 0
abbrev own_R1 : Room := { frames := 0, cells := 0, slots := 0, locals := 0 }
set_option maxRecDepth 65536 in
set_option maxHeartbeats 40000000 in
theorem rm1 (l : Launch) (Z : State) (a0 : Array Value) (hw : ∀ d ∈ tables_1, d.before a0 Z = true) (ws : List Jvm.Cond) (x1 x2 a : Addr) (h0 : Heap) (S_PENDING_ACTIVE : Sta Z h0 "com/example/paycadence/paycadence/model/EnrolmentStatus" "PENDING_ACTIVE" "Lcom/example/paycadence/paycadence/model/EnrolmentStatus;" (.ref x1)) (S_PENDING_WAIT : Sta Z h0 "com/example/paycadence/paycadence/model/EnrolmentStatus" "PENDING_WAIT" "Lcom/example/paycadence/paycadence/model/EnrolmentStatus;" (.ref x2)) :
    OwnCtr l (⟨"com/example/paycadence/paycadence/model/EnrolmentStatus", "isPending", "()Z"⟩ : MethodName) prog_18_method_4_code 1 (some .boolean) ws own_R1 Z #[(.ref a)] h0 (fun v h L => v = some (.int (own_hit x1 x2 a)) ∧ h = h0 ∧ L = []) := by
  refine own_body own_pn1 ?_
  intro p e s m below meth c s₁ X0 hx hby hml hown hnm hret hlk hZ e0
  refine own_go (fun _ k => castTop (ef_1 m a) k) ?_
  show Run p.tables e below (s₁.setTop (mkF m 0 #[.val (.ref a)] [])) _
  refine own_go (fun _ => XS.aloadN X0.here hx rfl (hb hby d1_0) rfl rfl) ?_
  show Run p.tables e below (s₁.setTop (mkF m 1 #[.val (.ref a)] [(.ref a)])) _
  obtain ⟨Tk1, Xk1, ek1, stk1⟩ := getS X0 hx hZ hown (host := "") (hw _ (List.mem_of_getElem? (i := 9) rfl)) Via.refl e0 S_PENDING_ACTIVE (g := (mkF m 1 #[.val (.ref a)] [(.ref a)])) rfl (hb hby d1_1)
  refine own_go stk1 ?_
  show Run p.tables e below (Tk1.setTop (mkF m 4 #[.val (.ref a)] [(.ref x1), (.ref a)])) _
  by_cases q1 : a = x1
  · show Run p.tables e below (Tk1.setTop (mkF m 4 #[.val (.ref a)] [(.ref x1), (.ref a)])) _
    refine own_go (fun _ => XT.acmpYes Xk1.here hx rfl (pc0 := 4) (pc' := 14) rfl (hb hby d1_4) rfl rfl rfl (XT.aa_eq_t (by rw [q1])) (by decide) (by decide)) ?_
    show Run p.tables e below (Tk1.setTop (mkF m 14 #[.val (.ref a)] [])) _
    refine own_go (fun _ => XS.iconst Xk1.here hx rfl (hb hby d1_14)) ?_
    show Run p.tables e below (Tk1.setTop (mkF m 15 #[.val (.ref a)] [(.int (1 : Int32))])) _
    refine own_go (fun _ => XS.goto Xk1.here hx rfl (pc0 := 15) (pc' := 19) rfl (hb hby d1_15) (by decide) (by decide)) ?_
    show Run p.tables e below (Tk1.setTop (mkF m 19 #[.val (.ref a)] [(.int (1 : Int32))])) _
    exact own_out Xk1 (v := some (.int (1 : Int32))) (fun q => by rw [hret] at q; cases q) hlk (fun fs hr => retN Xk1 hx (t := .boolean) hret (by simp) (hb hby d1_19) hr) ⟨(by rw [own_hit, if_pos q1]), ek1, rfl⟩ (by decide) (by decide)
  · show Run p.tables e below (Tk1.setTop (mkF m 4 #[.val (.ref a)] [(.ref x1), (.ref a)])) _
    refine own_go (fun _ => XT.acmpNo Xk1.here hx rfl (hb hby d1_4) rfl rfl rfl (XT.aa_eq_f (own_rne q1))) ?_
    show Run p.tables e below (Tk1.setTop (mkF m 7 #[.val (.ref a)] [])) _
    refine own_go (fun _ => XS.aloadN Xk1.here hx rfl (hb hby d1_7) rfl rfl) ?_
    show Run p.tables e below (Tk1.setTop (mkF m 8 #[.val (.ref a)] [(.ref a)])) _
    obtain ⟨Tk2, Xk2, ek2, stk2⟩ := getS Xk1 hx hZ hown (host := "") (hw _ (List.mem_of_getElem? (i := 12) rfl)) Via.refl ek1 S_PENDING_WAIT (g := (mkF m 8 #[.val (.ref a)] [(.ref a)])) rfl (hb hby d1_8)
    refine own_go stk2 ?_
    show Run p.tables e below (Tk2.setTop (mkF m 11 #[.val (.ref a)] [(.ref x2), (.ref a)])) _
    by_cases q2 : a = x2
    · show Run p.tables e below (Tk2.setTop (mkF m 11 #[.val (.ref a)] [(.ref x2), (.ref a)])) _
      refine own_go (fun _ => XT.acmpNo Xk2.here hx rfl (hb hby d1_11) rfl rfl rfl (XT.aa_ne_f (by rw [q2]))) ?_
      show Run p.tables e below (Tk2.setTop (mkF m 14 #[.val (.ref a)] [])) _
      refine own_go (fun _ => XS.iconst Xk2.here hx rfl (hb hby d1_14)) ?_
      show Run p.tables e below (Tk2.setTop (mkF m 15 #[.val (.ref a)] [(.int (1 : Int32))])) _
      refine own_go (fun _ => XS.goto Xk2.here hx rfl (pc0 := 15) (pc' := 19) rfl (hb hby d1_15) (by decide) (by decide)) ?_
      show Run p.tables e below (Tk2.setTop (mkF m 19 #[.val (.ref a)] [(.int (1 : Int32))])) _
      exact own_out Xk2 (v := some (.int (1 : Int32))) (fun q => by rw [hret] at q; cases q) hlk (fun fs hr => retN Xk2 hx (t := .boolean) hret (by simp) (hb hby d1_19) hr) ⟨(by rw [own_hit, if_neg q1, if_pos q2]), ek2, rfl⟩ (by decide) (by decide)
    · show Run p.tables e below (Tk2.setTop (mkF m 11 #[.val (.ref a)] [(.ref x2), (.ref a)])) _
      refine own_go (fun _ => XT.acmpYes Xk2.here hx rfl (pc0 := 11) (pc' := 18) rfl (hb hby d1_11) rfl rfl rfl (XT.aa_ne_t (own_rne q2)) (by decide) (by decide)) ?_
      show Run p.tables e below (Tk2.setTop (mkF m 18 #[.val (.ref a)] [])) _
      refine own_go (fun _ => XS.iconst Xk2.here hx rfl (hb hby d1_18)) ?_
      show Run p.tables e below (Tk2.setTop (mkF m 19 #[.val (.ref a)] [(.int (0 : Int32))])) _
      exact own_out Xk2 (v := some (.int (0 : Int32))) (fun q => by rw [hret] at q; cases q) hlk (fun fs hr => retN Xk2 hx (t := .boolean) hret (by simp) (hb hby d1_19) hr) ⟨(by rw [own_hit, if_neg q1, if_neg q2]), ek2, rfl⟩ (by decide) (by decide)
def own_Q0 (n0 : Nat) (v : Option Value) (h : Heap) (L : List Loc) : Prop := v = some (.int 1) ∧ Fr n0 L
set_option maxRecDepth 65536 in
set_option maxHeartbeats 40000000 in
theorem rm0 (l : Launch) (Z : State) (a0 : Array Value) (hw : ∀ d ∈ tables_1, d.before a0 Z = true) (ws : List Jvm.Cond) (p1 : Int32) (a_PENDING_ACTIVE a_PENDING_WAIT a_ACTIVE a_BAD_ACTIVE a_FAILED : Addr) (h0 : Heap) (n0 : Nat) (S_PENDING_ACTIVE : Sta Z h0 "com/example/paycadence/paycadence/model/EnrolmentStatus" "PENDING_ACTIVE" "Lcom/example/paycadence/paycadence/model/EnrolmentStatus;" (.ref a_PENDING_ACTIVE)) (S_PENDING_WAIT : Sta Z h0 "com/example/paycadence/paycadence/model/EnrolmentStatus" "PENDING_WAIT" "Lcom/example/paycadence/paycadence/model/EnrolmentStatus;" (.ref a_PENDING_WAIT)) (S_ACTIVE : Sta Z h0 "com/example/paycadence/paycadence/model/EnrolmentStatus" "ACTIVE" "Lcom/example/paycadence/paycadence/model/EnrolmentStatus;" (.ref a_ACTIVE)) (S_BAD_ACTIVE : Sta Z h0 "com/example/paycadence/paycadence/model/EnrolmentStatus" "BAD_ACTIVE" "Lcom/example/paycadence/paycadence/model/EnrolmentStatus;" (.ref a_BAD_ACTIVE)) (S_FAILED : Sta Z h0 "com/example/paycadence/paycadence/model/EnrolmentStatus" "FAILED" "Lcom/example/paycadence/paycadence/model/EnrolmentStatus;" (.ref a_FAILED)) (E_PENDING_ACTIVE : Exa Z h0 a_PENDING_ACTIVE "com/example/paycadence/paycadence/model/EnrolmentStatus") (E_PENDING_WAIT : Exa Z h0 a_PENDING_WAIT "com/example/paycadence/paycadence/model/EnrolmentStatus") (E_ACTIVE : Exa Z h0 a_ACTIVE "com/example/paycadence/paycadence/model/EnrolmentStatus") (E_BAD_ACTIVE : Exa Z h0 a_BAD_ACTIVE "com/example/paycadence/paycadence/model/EnrolmentStatus") (E_FAILED : Exa Z h0 a_FAILED "com/example/paycadence/paycadence/model/EnrolmentStatus") (ne_PENDING_WAIT_PENDING_ACTIVE : a_PENDING_WAIT ≠ a_PENDING_ACTIVE) (ne_ACTIVE_PENDING_ACTIVE : a_ACTIVE ≠ a_PENDING_ACTIVE) (ne_ACTIVE_PENDING_WAIT : a_ACTIVE ≠ a_PENDING_WAIT) (ne_BAD_ACTIVE_PENDING_ACTIVE : a_BAD_ACTIVE ≠ a_PENDING_ACTIVE) (ne_BAD_ACTIVE_PENDING_WAIT : a_BAD_ACTIVE ≠ a_PENDING_WAIT) (ne_FAILED_PENDING_ACTIVE : a_FAILED ≠ a_PENDING_ACTIVE) (ne_FAILED_PENDING_WAIT : a_FAILED ≠ a_PENDING_WAIT) :
    OwnCtr l x code maxLocals ret ws room_1 Z #[(.int p1)] h0 (own_Q0 n0) := by
  refine own_body own_pn0 ?_
  intro p e s m below meth c s₁ X0 hx hby hml hown hnm hret hlk hZ e0
  have J : ∀ (k z : Int32) (T : State) (X : Stand p l e room_1 s m #[(.int p1)] below meth c T [] 0 0) (eT : T.heap = h0) (a : Addr) (Ea : Exa Z h0 a "com/example/paycadence/paycadence/model/EnrolmentStatus") (qa : own_hit a_PENDING_ACTIVE a_PENDING_WAIT a = z),
      Run p.tables e below (T.setTop (mkF m 68 #[.val (.int p1), .val (.int k), .val (.ref a), .val (.int z)] [])) (OwnFin s below (own_Q0 n0) room_1.cells room_1.slots) := by
    intro k z T X eT a Ea qa
    show Run p.tables e below (T.setTop (mkF m 68 #[.val (.int p1), .val (.int k), .val (.ref a), .val (.int z)] [])) _
    refine own_go (fun _ => XS.aloadN X.here hx rfl (hb hby at_68) rfl rfl) ?_
    show Run p.tables e below (T.setTop (mkF m 69 #[.val (.int p1), .val (.int k), .val (.ref a), .val (.int z)] [(.ref a)])) _
    obtain ⟨vk1, Tk1, Lk1, Xk1q, ⟨rfl, ek1, rfl⟩, stk1⟩ := own_callV X hx hZ hown (hw _ (List.mem_of_getElem? (i := 4) rfl)) (hw _ (List.mem_of_getElem? (i := 6) rfl)) (hw _ (List.mem_of_getElem? (i := 7) rfl)) (hw _ (List.mem_of_getElem? (i := 8) rfl)) (hw _ (List.mem_of_getElem? (i := 2) rfl)) (by decide) eT (rm1 l Z a0 hw [] a_PENDING_ACTIVE a_PENDING_WAIT a h0 S_PENDING_ACTIVE S_PENDING_WAIT) Ea (g := (mkF m 69 #[.val (.int p1), .val (.int k), .val (.ref a), .val (.int z)] [(.ref a)])) rfl (by rw [hml]; rfl) (argsL := []) (rest := []) own_pd1 rfl rfl rfl (W := 0) (by show 2 * 0 + _ ≤ _; exact Nat.le_of_eq rfl) (hb hby at_69) (by decide) (by decide) (by decide) (by decide)
    have Xk1 : Stand p l e room_1 s m #[(.int p1)] below meth c Tk1 [] 0 0 := Xk1q
    refine own_go stk1 ?_
    rw [qa]
    show Run p.tables e below (Tk1.setTop (mkF m 72 #[.val (.int p1), .val (.int k), .val (.ref a), .val (.int z)] [(.int z)])) _
    refine own_go (fun _ => XS.iloadN Xk1.here hx rfl (hb hby at_72) rfl) ?_
    show Run p.tables e below (Tk1.setTop (mkF m 73 #[.val (.int p1), .val (.int k), .val (.ref a), .val (.int z)] [(.int z), (.int z)])) _
    refine own_go (fun _ => XS.icmpNo Xk1.here hx rfl (hb hby at_73) rfl (XT.ii_ne_f rfl)) ?_
    show Run p.tables e below (Tk1.setTop (mkF m 76 #[.val (.int p1), .val (.int k), .val (.ref a), .val (.int z)] [])) _
    refine own_go (fun _ => XS.iconst Xk1.here hx rfl (hb hby at_76)) ?_
    show Run p.tables e below (Tk1.setTop (mkF m 77 #[.val (.int p1), .val (.int k), .val (.ref a), .val (.int z)] [(.int (1 : Int32))])) _
    refine own_go (fun _ => XS.goto Xk1.here hx rfl (pc0 := 77) (pc' := 81) rfl (hb hby at_77) (by decide) (by decide)) ?_
    show Run p.tables e below (Tk1.setTop (mkF m 81 #[.val (.int p1), .val (.int k), .val (.ref a), .val (.int z)] [(.int (1 : Int32))])) _
    exact own_out Xk1 (v := some (.int (1 : Int32))) (fun q => by rw [hret] at q; cases q) hlk (fun fs hr => retN Xk1 hx (t := .boolean) hret (by simp) (hb hby at_81) hr) ⟨rfl, Fr.nil n0⟩ (by decide) (by decide)
  refine own_go (fun _ k => castTop (ef_0 m p1) k) ?_
  show Run p.tables e below (s₁.setTop (mkF m 0 #[.val (.int p1), .unset, .unset, .unset] [])) _
  refine own_go (fun _ => XS.iloadN X0.here hx rfl (hb hby at_0) rfl) ?_
  show Run p.tables e below (s₁.setTop (mkF m 1 #[.val (.int p1), .unset, .unset, .unset] [(.int p1)])) _
  refine own_go (fun _ => Jvm.Stand.ldcI X0 hx hown (mvT hZ (hw _ (List.mem_of_getElem? (i := 0) rfl))) rfl (hb hby at_1)) ?_
  show Run p.tables e below (s₁.setTop (mkF m 3 #[.val (.int p1), .unset, .unset, .unset] [(.int (2147483647 : Int32)), (.int p1)])) _
  refine own_go (fun _ => XS.iand X0.here hx rfl (hb hby at_3) rfl) ?_
  show Run p.tables e below (s₁.setTop (mkF m 4 #[.val (.int p1), .unset, .unset, .unset] [(.int (p1 &&& (2147483647 : Int32)))])) _
  refine own_go (fun _ => XS.iconst X0.here hx rfl (hb hby at_4)) ?_
  show Run p.tables e below (s₁.setTop (mkF m 5 #[.val (.int p1), .unset, .unset, .unset] [(.int (5 : Int32)), (.int (p1 &&& (2147483647 : Int32)))])) _
  refine own_go (fun _ => iremM X0 hx rfl (hb hby at_5) rfl (by decide)) ?_
  show Run p.tables e below (s₁.setTop (mkF m 6 #[.val (.int p1), .unset, .unset, .unset] [(.int ((p1 &&& (2147483647 : Int32)) % (5 : Int32)))])) _
  refine own_go (fun _ => XS.istoreN X0.here hx rfl (hb hby at_6) rfl (l' := #[.val (.int p1), .val (.int ((p1 &&& (2147483647 : Int32)) % (5 : Int32))), .unset, .unset]) rfl) ?_
  show Run p.tables e below (s₁.setTop (mkF m 7 #[.val (.int p1), .val (.int ((p1 &&& (2147483647 : Int32)) % (5 : Int32))), .unset, .unset] [])) _
  generalize ((p1 &&& (2147483647 : Int32)) % (5 : Int32)) = k
  show Run p.tables e below (s₁.setTop (mkF m 7 #[.val (.int p1), .val (.int k), .unset, .unset] [])) _
  refine own_go (fun _ => XS.iloadN X0.here hx rfl (hb hby at_7) rfl) ?_
  show Run p.tables e below (s₁.setTop (mkF m 8 #[.val (.int p1), .val (.int k), .unset, .unset] [(.int k)])) _
  by_cases q0 : k = 0
  · show Run p.tables e below (s₁.setTop (mkF m 8 #[.val (.int p1), .val (.int k), .unset, .unset] [(.int k)])) _
    refine own_go (fun _ => XS.ifNo X0.here hx rfl (hb hby at_8) rfl (XT.i0_ne_f q0)) ?_
    show Run p.tables e below (s₁.setTop (mkF m 11 #[.val (.int p1), .val (.int k), .unset, .unset] [])) _
    obtain ⟨Tk101, Xk101, ek101, stk101⟩ := getS X0 hx hZ hown (host := "") (hw _ (List.mem_of_getElem? (i := 1) rfl)) Via.refl e0 S_PENDING_ACTIVE (g := (mkF m 11 #[.val (.int p1), .val (.int k), .unset, .unset] [])) rfl (hb hby at_11)
    refine own_go stk101 ?_
    show Run p.tables e below (Tk101.setTop (mkF m 14 #[.val (.int p1), .val (.int k), .unset, .unset] [(.ref a_PENDING_ACTIVE)])) _
    refine own_go (fun _ => XS.astoreN Xk101.here hx rfl (hb hby at_14) rfl rfl (l' := #[.val (.int p1), .val (.int k), .val (.ref a_PENDING_ACTIVE), .unset]) rfl) ?_
    show Run p.tables e below (Tk101.setTop (mkF m 15 #[.val (.int p1), .val (.int k), .val (.ref a_PENDING_ACTIVE), .unset] [])) _
    refine own_go (fun _ => XS.iconst Xk101.here hx rfl (hb hby at_15)) ?_
    show Run p.tables e below (Tk101.setTop (mkF m 16 #[.val (.int p1), .val (.int k), .val (.ref a_PENDING_ACTIVE), .unset] [(.int (1 : Int32))])) _
    refine own_go (fun _ => XS.istoreN Xk101.here hx rfl (hb hby at_16) rfl (l' := #[.val (.int p1), .val (.int k), .val (.ref a_PENDING_ACTIVE), .val (.int (1 : Int32))]) rfl) ?_
    show Run p.tables e below (Tk101.setTop (mkF m 17 #[.val (.int p1), .val (.int k), .val (.ref a_PENDING_ACTIVE), .val (.int (1 : Int32))] [])) _
    refine own_go (fun _ => XS.goto Xk101.here hx rfl (pc0 := 17) (pc' := 68) rfl (hb hby at_17) (by decide) (by decide)) ?_
    show Run p.tables e below (Tk101.setTop (mkF m 68 #[.val (.int p1), .val (.int k), .val (.ref a_PENDING_ACTIVE), .val (.int (1 : Int32))] [])) _
    exact J k _ _ Xk101 ek101 a_PENDING_ACTIVE E_PENDING_ACTIVE (by rw [own_hit, if_pos rfl])
  · show Run p.tables e below (s₁.setTop (mkF m 8 #[.val (.int p1), .val (.int k), .unset, .unset] [(.int k)])) _
    refine own_go (fun _ => XS.ifYes X0.here hx rfl (pc0 := 8) (pc' := 20) rfl (hb hby at_8) rfl (XT.i0_ne_t q0) (by decide) (by decide)) ?_
    show Run p.tables e below (s₁.setTop (mkF m 20 #[.val (.int p1), .val (.int k), .unset, .unset] [])) _
    refine own_go (fun _ => XS.iloadN X0.here hx rfl (hb hby at_20) rfl) ?_
    show Run p.tables e below (s₁.setTop (mkF m 21 #[.val (.int p1), .val (.int k), .unset, .unset] [(.int k)])) _
    refine own_go (fun _ => XS.iconst X0.here hx rfl (hb hby at_21)) ?_
    show Run p.tables e below (s₁.setTop (mkF m 22 #[.val (.int p1), .val (.int k), .unset, .unset] [(.int (1 : Int32)), (.int k)])) _
    by_cases q1 : k = 1
    · show Run p.tables e below (s₁.setTop (mkF m 22 #[.val (.int p1), .val (.int k), .unset, .unset] [(.int (1 : Int32)), (.int k)])) _
      refine own_go (fun _ => XS.icmpNo X0.here hx rfl (hb hby at_22) rfl (XT.ii_ne_f q1)) ?_
      show Run p.tables e below (s₁.setTop (mkF m 25 #[.val (.int p1), .val (.int k), .unset, .unset] [])) _
      obtain ⟨Tk102, Xk102, ek102, stk102⟩ := getS X0 hx hZ hown (host := "") (hw _ (List.mem_of_getElem? (i := 14) rfl)) Via.refl e0 S_PENDING_WAIT (g := (mkF m 25 #[.val (.int p1), .val (.int k), .unset, .unset] [])) rfl (hb hby at_25)
      refine own_go stk102 ?_
      show Run p.tables e below (Tk102.setTop (mkF m 28 #[.val (.int p1), .val (.int k), .unset, .unset] [(.ref a_PENDING_WAIT)])) _
      refine own_go (fun _ => XS.astoreN Xk102.here hx rfl (hb hby at_28) rfl rfl (l' := #[.val (.int p1), .val (.int k), .val (.ref a_PENDING_WAIT), .unset]) rfl) ?_
      show Run p.tables e below (Tk102.setTop (mkF m 29 #[.val (.int p1), .val (.int k), .val (.ref a_PENDING_WAIT), .unset] [])) _
      refine own_go (fun _ => XS.iconst Xk102.here hx rfl (hb hby at_29)) ?_
      show Run p.tables e below (Tk102.setTop (mkF m 30 #[.val (.int p1), .val (.int k), .val (.ref a_PENDING_WAIT), .unset] [(.int (1 : Int32))])) _
      refine own_go (fun _ => XS.istoreN Xk102.here hx rfl (hb hby at_30) rfl (l' := #[.val (.int p1), .val (.int k), .val (.ref a_PENDING_WAIT), .val (.int (1 : Int32))]) rfl) ?_
      show Run p.tables e below (Tk102.setTop (mkF m 31 #[.val (.int p1), .val (.int k), .val (.ref a_PENDING_WAIT), .val (.int (1 : Int32))] [])) _
      refine own_go (fun _ => XS.goto Xk102.here hx rfl (pc0 := 31) (pc' := 68) rfl (hb hby at_31) (by decide) (by decide)) ?_
      show Run p.tables e below (Tk102.setTop (mkF m 68 #[.val (.int p1), .val (.int k), .val (.ref a_PENDING_WAIT), .val (.int (1 : Int32))] [])) _
      exact J k _ _ Xk102 ek102 a_PENDING_WAIT E_PENDING_WAIT (by rw [own_hit, if_neg ne_PENDING_WAIT_PENDING_ACTIVE, if_pos rfl])
    · show Run p.tables e below (s₁.setTop (mkF m 22 #[.val (.int p1), .val (.int k), .unset, .unset] [(.int (1 : Int32)), (.int k)])) _
      refine own_go (fun _ => XS.icmpYes X0.here hx rfl (pc0 := 22) (pc' := 34) rfl (hb hby at_22) rfl (XT.ii_ne_t q1) (by decide) (by decide)) ?_
      show Run p.tables e below (s₁.setTop (mkF m 34 #[.val (.int p1), .val (.int k), .unset, .unset] [])) _
      refine own_go (fun _ => XS.iloadN X0.here hx rfl (hb hby at_34) rfl) ?_
      show Run p.tables e below (s₁.setTop (mkF m 35 #[.val (.int p1), .val (.int k), .unset, .unset] [(.int k)])) _
      refine own_go (fun _ => XS.iconst X0.here hx rfl (hb hby at_35)) ?_
      show Run p.tables e below (s₁.setTop (mkF m 36 #[.val (.int p1), .val (.int k), .unset, .unset] [(.int (2 : Int32)), (.int k)])) _
      by_cases q2 : k = 2
      · show Run p.tables e below (s₁.setTop (mkF m 36 #[.val (.int p1), .val (.int k), .unset, .unset] [(.int (2 : Int32)), (.int k)])) _
        refine own_go (fun _ => XS.icmpNo X0.here hx rfl (hb hby at_36) rfl (XT.ii_ne_f q2)) ?_
        show Run p.tables e below (s₁.setTop (mkF m 39 #[.val (.int p1), .val (.int k), .unset, .unset] [])) _
        obtain ⟨Tk103, Xk103, ek103, stk103⟩ := getS X0 hx hZ hown (host := "") (hw _ (List.mem_of_getElem? (i := 17) rfl)) Via.refl e0 S_ACTIVE (g := (mkF m 39 #[.val (.int p1), .val (.int k), .unset, .unset] [])) rfl (hb hby at_39)
        refine own_go stk103 ?_
        show Run p.tables e below (Tk103.setTop (mkF m 42 #[.val (.int p1), .val (.int k), .unset, .unset] [(.ref a_ACTIVE)])) _
        refine own_go (fun _ => XS.astoreN Xk103.here hx rfl (hb hby at_42) rfl rfl (l' := #[.val (.int p1), .val (.int k), .val (.ref a_ACTIVE), .unset]) rfl) ?_
        show Run p.tables e below (Tk103.setTop (mkF m 43 #[.val (.int p1), .val (.int k), .val (.ref a_ACTIVE), .unset] [])) _
        refine own_go (fun _ => XS.iconst Xk103.here hx rfl (hb hby at_43)) ?_
        show Run p.tables e below (Tk103.setTop (mkF m 44 #[.val (.int p1), .val (.int k), .val (.ref a_ACTIVE), .unset] [(.int (0 : Int32))])) _
        refine own_go (fun _ => XS.istoreN Xk103.here hx rfl (hb hby at_44) rfl (l' := #[.val (.int p1), .val (.int k), .val (.ref a_ACTIVE), .val (.int (0 : Int32))]) rfl) ?_
        show Run p.tables e below (Tk103.setTop (mkF m 45 #[.val (.int p1), .val (.int k), .val (.ref a_ACTIVE), .val (.int (0 : Int32))] [])) _
        refine own_go (fun _ => XS.goto Xk103.here hx rfl (pc0 := 45) (pc' := 68) rfl (hb hby at_45) (by decide) (by decide)) ?_
        show Run p.tables e below (Tk103.setTop (mkF m 68 #[.val (.int p1), .val (.int k), .val (.ref a_ACTIVE), .val (.int (0 : Int32))] [])) _
        exact J k _ _ Xk103 ek103 a_ACTIVE E_ACTIVE (by rw [own_hit, if_neg ne_ACTIVE_PENDING_ACTIVE, if_neg ne_ACTIVE_PENDING_WAIT])
      · show Run p.tables e below (s₁.setTop (mkF m 36 #[.val (.int p1), .val (.int k), .unset, .unset] [(.int (2 : Int32)), (.int k)])) _
        refine own_go (fun _ => XS.icmpYes X0.here hx rfl (pc0 := 36) (pc' := 48) rfl (hb hby at_36) rfl (XT.ii_ne_t q2) (by decide) (by decide)) ?_
        show Run p.tables e below (s₁.setTop (mkF m 48 #[.val (.int p1), .val (.int k), .unset, .unset] [])) _
        refine own_go (fun _ => XS.iloadN X0.here hx rfl (hb hby at_48) rfl) ?_
        show Run p.tables e below (s₁.setTop (mkF m 49 #[.val (.int p1), .val (.int k), .unset, .unset] [(.int k)])) _
        refine own_go (fun _ => XS.iconst X0.here hx rfl (hb hby at_49)) ?_
        show Run p.tables e below (s₁.setTop (mkF m 50 #[.val (.int p1), .val (.int k), .unset, .unset] [(.int (3 : Int32)), (.int k)])) _
        by_cases q3 : k = 3
        · show Run p.tables e below (s₁.setTop (mkF m 50 #[.val (.int p1), .val (.int k), .unset, .unset] [(.int (3 : Int32)), (.int k)])) _
          refine own_go (fun _ => XS.icmpNo X0.here hx rfl (hb hby at_50) rfl (XT.ii_ne_f q3)) ?_
          show Run p.tables e below (s₁.setTop (mkF m 53 #[.val (.int p1), .val (.int k), .unset, .unset] [])) _
          obtain ⟨Tk104, Xk104, ek104, stk104⟩ := getS X0 hx hZ hown (host := "") (hw _ (List.mem_of_getElem? (i := 10) rfl)) Via.refl e0 S_BAD_ACTIVE (g := (mkF m 53 #[.val (.int p1), .val (.int k), .unset, .unset] [])) rfl (hb hby at_53)
          refine own_go stk104 ?_
          show Run p.tables e below (Tk104.setTop (mkF m 56 #[.val (.int p1), .val (.int k), .unset, .unset] [(.ref a_BAD_ACTIVE)])) _
          refine own_go (fun _ => XS.astoreN Xk104.here hx rfl (hb hby at_56) rfl rfl (l' := #[.val (.int p1), .val (.int k), .val (.ref a_BAD_ACTIVE), .unset]) rfl) ?_
          show Run p.tables e below (Tk104.setTop (mkF m 57 #[.val (.int p1), .val (.int k), .val (.ref a_BAD_ACTIVE), .unset] [])) _
          refine own_go (fun _ => XS.iconst Xk104.here hx rfl (hb hby at_57)) ?_
          show Run p.tables e below (Tk104.setTop (mkF m 58 #[.val (.int p1), .val (.int k), .val (.ref a_BAD_ACTIVE), .unset] [(.int (0 : Int32))])) _
          refine own_go (fun _ => XS.istoreN Xk104.here hx rfl (hb hby at_58) rfl (l' := #[.val (.int p1), .val (.int k), .val (.ref a_BAD_ACTIVE), .val (.int (0 : Int32))]) rfl) ?_
          show Run p.tables e below (Tk104.setTop (mkF m 59 #[.val (.int p1), .val (.int k), .val (.ref a_BAD_ACTIVE), .val (.int (0 : Int32))] [])) _
          refine own_go (fun _ => XS.goto Xk104.here hx rfl (pc0 := 59) (pc' := 68) rfl (hb hby at_59) (by decide) (by decide)) ?_
          show Run p.tables e below (Tk104.setTop (mkF m 68 #[.val (.int p1), .val (.int k), .val (.ref a_BAD_ACTIVE), .val (.int (0 : Int32))] [])) _
          exact J k _ _ Xk104 ek104 a_BAD_ACTIVE E_BAD_ACTIVE (by rw [own_hit, if_neg ne_BAD_ACTIVE_PENDING_ACTIVE, if_neg ne_BAD_ACTIVE_PENDING_WAIT])
        · show Run p.tables e below (s₁.setTop (mkF m 50 #[.val (.int p1), .val (.int k), .unset, .unset] [(.int (3 : Int32)), (.int k)])) _
          refine own_go (fun _ => XS.icmpYes X0.here hx rfl (pc0 := 50) (pc' := 62) rfl (hb hby at_50) rfl (XT.ii_ne_t q3) (by decide) (by decide)) ?_
          show Run p.tables e below (s₁.setTop (mkF m 62 #[.val (.int p1), .val (.int k), .unset, .unset] [])) _
          obtain ⟨Tk105, Xk105, ek105, stk105⟩ := getS X0 hx hZ hown (host := "") (hw _ (List.mem_of_getElem? (i := 15) rfl)) Via.refl e0 S_FAILED (g := (mkF m 62 #[.val (.int p1), .val (.int k), .unset, .unset] [])) rfl (hb hby at_62)
          refine own_go stk105 ?_
          show Run p.tables e below (Tk105.setTop (mkF m 65 #[.val (.int p1), .val (.int k), .unset, .unset] [(.ref a_FAILED)])) _
          refine own_go (fun _ => XS.astoreN Xk105.here hx rfl (hb hby at_65) rfl rfl (l' := #[.val (.int p1), .val (.int k), .val (.ref a_FAILED), .unset]) rfl) ?_
          show Run p.tables e below (Tk105.setTop (mkF m 66 #[.val (.int p1), .val (.int k), .val (.ref a_FAILED), .unset] [])) _
          refine own_go (fun _ => XS.iconst Xk105.here hx rfl (hb hby at_66)) ?_
          show Run p.tables e below (Tk105.setTop (mkF m 67 #[.val (.int p1), .val (.int k), .val (.ref a_FAILED), .unset] [(.int (0 : Int32))])) _
          refine own_go (fun _ => XS.istoreN Xk105.here hx rfl (hb hby at_67) rfl (l' := #[.val (.int p1), .val (.int k), .val (.ref a_FAILED), .val (.int (0 : Int32))]) rfl) ?_
          show Run p.tables e below (Tk105.setTop (mkF m 68 #[.val (.int p1), .val (.int k), .val (.ref a_FAILED), .val (.int (0 : Int32))] [])) _
          exact J k _ _ Xk105 ek105 a_FAILED E_FAILED (by rw [own_hit, if_neg ne_FAILED_PENDING_ACTIVE, if_neg ne_FAILED_PENDING_WAIT])
set_option maxRecDepth 65536 in
set_option maxHeartbeats 40000000 in
theorem comes_1 {Post : Tables → Env → Array Value → State → Outcome → State → Prop} (hpost : ∀ tb e args s v u, (limb_1_1.after args s (.returned v) u = true ∧ limb_1_2.after args s (.returned v) u = true ∧ True) → FrameEnd s (.returned v) u (Jvm.fieldLocs frame_1_writes args s ++ Jvm.arrayLocs frame_1_arrays args s ++ Jvm.staticLocs frame_1_statics s) 0 0 → Post tb e args s (.returned v) u) :
    ArmFor flags0 classFile x code maxLocals ret World_1 tables_1 room_1 Calls_1 rest_1 Pre_1 Post := by
  intro l hfl _ _ p e ha hc hk s m args below hf hA hF happ hP
  obtain ⟨hcalls, hrest, hpre⟩ := hP
  obtain ⟨-, -, -, hnamed, -, -, -, hat⟩ := (Spec.applies_iff hf).mp happ
  obtain ⟨hg, hn⟩ := and_e (Cond.before_iff.mp (show (Jvm.Cond.and given_1 narrow_1).before args s = true from hpre))
  obtain ⟨h1, hg⟩ := and_e hg
  obtain ⟨w0, rfl⟩ : ∃ w0 : Value, args = #[w0] := by
    have hs : args.size = 1 := by simpa [Cond.value, given_1] using h1
    obtain ⟨L⟩ := args
    match L, hs with
    | [w0], _ => exact ⟨w0, rfl⟩
  have hw := fun d (hd : d ∈ tables_1) => atoms_spec (ws := Jvm.Cond.code x code maxLocals ret :: tables_1) hat d (List.mem_cons_of_mem _ hd)
  have hfit : Fit s := fun {y c} hc i hi => by
    obtain ⟨ha, rfl⟩ := Array.getElem?_eq_some_iff.mp hc
    have q := List.all_eq_true.mp ((Array.all_eq_true_iff_forall_mem.mp hF) _ (Array.getElem_mem ha)) i (List.mem_range.mpr hi)
    simpa [Array.getElem?_eq_getElem hi] using q
  have g0 := hg
  obtain ⟨i0, q0⟩ := is_v g0
  obtain rfl : w0 = (.int i0) := Option.some.inj q0
  obtain ⟨n0, hn⟩ := and_e hn
  obtain ⟨n1, hn⟩ := and_e hn
  obtain ⟨n2, hn⟩ := and_e hn
  obtain ⟨n3, hn⟩ := and_e hn
  obtain ⟨n4, hn⟩ := and_e hn
  obtain ⟨n5, hn⟩ := and_e hn
  obtain ⟨n6, hn⟩ := and_e hn
  obtain ⟨n7, hn⟩ := and_e hn
  obtain ⟨n8, hn⟩ := and_e hn
  have n9 := hn
  obtain ⟨a_PENDING_ACTIVE, ev_PENDING_ACTIVE⟩ := exa_v n0
  have E_PENDING_ACTIVE := Exa.start ev_PENDING_ACTIVE n0
  have S_PENDING_ACTIVE := Sta.start ev_PENDING_ACTIVE (Or.inr ⟨(hw _ (List.mem_of_getElem? (i := 2) rfl)), (hw _ (List.mem_of_getElem? (i := 3) rfl))⟩)
  obtain ⟨a_BAD_ACTIVE, ev_BAD_ACTIVE⟩ := exa_v n1
  have E_BAD_ACTIVE := Exa.start ev_BAD_ACTIVE n1
  have S_BAD_ACTIVE := Sta.start ev_BAD_ACTIVE (Or.inr ⟨(hw _ (List.mem_of_getElem? (i := 2) rfl)), (hw _ (List.mem_of_getElem? (i := 11) rfl))⟩)
  obtain ⟨a_PENDING_WAIT, ev_PENDING_WAIT⟩ := exa_v n4
  have E_PENDING_WAIT := Exa.start ev_PENDING_WAIT n4
  have S_PENDING_WAIT := Sta.start ev_PENDING_WAIT (Or.inr ⟨(hw _ (List.mem_of_getElem? (i := 2) rfl)), (hw _ (List.mem_of_getElem? (i := 13) rfl))⟩)
  obtain ⟨a_FAILED, ev_FAILED⟩ := exa_v n6
  have E_FAILED := Exa.start ev_FAILED n6
  have S_FAILED := Sta.start ev_FAILED (Or.inr ⟨(hw _ (List.mem_of_getElem? (i := 2) rfl)), (hw _ (List.mem_of_getElem? (i := 16) rfl))⟩)
  obtain ⟨a_ACTIVE, ev_ACTIVE⟩ := exa_v n8
  have E_ACTIVE := Exa.start ev_ACTIVE n8
  have S_ACTIVE := Sta.start ev_ACTIVE (Or.inr ⟨(hw _ (List.mem_of_getElem? (i := 2) rfl)), (hw _ (List.mem_of_getElem? (i := 18) rfl))⟩)
  have F_BAD_ACTIVE_ordinal := own_fld ev_BAD_ACTIVE n2
  have F_PENDING_ACTIVE_ordinal := own_fld ev_PENDING_ACTIVE n3
  have F_PENDING_WAIT_ordinal := own_fld ev_PENDING_WAIT n5
  have F_FAILED_ordinal := own_fld ev_FAILED n7
  have F_ACTIVE_ordinal := own_fld ev_ACTIVE n9
  obtain ⟨n, o, h1, h2, h3, _, L, rfl, ⟨rfl, N⟩, hq⟩ := rm0 l s _ hw tables_1 i0 a_PENDING_ACTIVE a_PENDING_WAIT a_ACTIVE a_BAD_ACTIVE a_FAILED s.heap s.heap.size S_PENDING_ACTIVE S_PENDING_WAIT S_ACTIVE S_BAD_ACTIVE S_FAILED E_PENDING_ACTIVE E_PENDING_WAIT E_ACTIVE E_BAD_ACTIVE E_FAILED (F_PENDING_WAIT_ordinal.ne F_PENDING_ACTIVE_ordinal (by decide)) (F_ACTIVE_ordinal.ne F_PENDING_ACTIVE_ordinal (by decide)) (F_ACTIVE_ordinal.ne F_PENDING_WAIT_ordinal (by decide)) (F_BAD_ACTIVE_ordinal.ne F_PENDING_ACTIVE_ordinal (by decide)) (F_BAD_ACTIVE_ordinal.ne F_PENDING_WAIT_ordinal (by decide)) (F_FAILED_ordinal.ne F_PENDING_ACTIVE_ordinal (by decide)) (F_FAILED_ordinal.ne F_PENDING_WAIT_ordinal (by decide)) p e ha hc hk s m _ below hf ((Spec.applies_iff_loose hf).mp happ).1 ⟨rfl, State.Warmed39.refl s, rfl⟩ trivial
  refine ⟨n, _, h1, h2, h3, hpost _ _ _ _ _ _ ⟨Cond.after_iff.mpr rfl, Cond.after_iff.mpr (eq_i res_at (Term.int_eval (1)) rfl), trivial⟩ ⟨hq.1, hq.2.1, (hq.2.2.sift fun y hy => Or.inr (N y hy)).mono (by decide) (by decide)⟩⟩
theorem main_1_1 : Claimed_1_1 := comes_1 fun _ _ _ _ _ _ h hF => ⟨h.1, hF⟩
theorem main_1_2 : Claimed_1_2 := comes_1 fun _ _ _ _ _ _ h hF => ⟨h.2.1, hF⟩
end Jvm.Pilot.@@N@@
namespace Jvm.Pilot.@@N@@
open Jvm Jvm.ClassFile Sem Op Lib Jvm.Free Jvm.Stand Jvm.Pilot.@@N@@.Jvm.D
/-! MADE BY PROGRAM (witnessworld.py) out of the Statement's table words and the real class files: 12 classes; the members and pool entries that the words name. The judged class is class 1, her method 1. -/
namespace start1
open Jvm.ClassFile
def u (s : String) : CpInfo := .utf8 (stringToUtf16 s)
/-- a pool by its gaps: so many unusable entries, then the entry; so many at the end -/
def gap : Nat → List CpInfo → List CpInfo
  | 0, r => r
  | n + 1, r => .unusable :: gap n r
def poolList (es : List (Nat × CpInfo)) (last : Nat) : List CpInfo := es.foldr (fun e r => gap e.1 (e.2 :: r)) (gap last [])
def pool (es : List (Nat × CpInfo)) (last : Nat) : Array CpInfo := ⟨poolList es last⟩
def fileOf (pool : Array CpInfo) (this : Nat) (attrs : Array Attribute := #[]) (ms : Array MethodInfo := #[]) (fl : Nat := 33) (sup : Nat := 0) (ifs : Array Nat := #[]) (fds : Array FieldInfo := #[]) : ClassFile where
  minorVersion := 0
  majorVersion := 65
  constantPool := pool
  accessFlags := fl
  thisClass := this
  superClass := sup
  interfaces := ifs
  fields := fds
  methods := ms
  attributes := attrs
def plain (name : String) (sup : Option ClassId) : Class where
  name := name
  kind := .ordinary
  loader := none
  accessFlags := 33
  super := sup
  interfaces := #[]
  cf := none
  fields := #[]
  methods := #[]
  instanceTypes := #[]
  staticTypes := #[]
  resolved := #[]
  callSites := []
  init := .initialized
  statics := none
  mirror := none

def pool0 : Array CpInfo := pool [(5, u "<init>"), (0, u "()V"), (1, .class_ 10), (1, u "java/lang/Object")] 113

def k0m0 : Method := { name := "<init>", desc := "()V", sig := { parameters := [], returnType := none }, accessFlags := 1, code := none }
/-- java/lang/Object -/
def k0 : Class := { plain "java/lang/Object" none with
  accessFlags := 33
  interfaces := #[]
  cf := some (fileOf pool0 8 #[] #[{ accessFlags := 1, nameIndex := 5, descriptorIndex := 6, attributes := #[] }] 33 0 #[] #[])
  fields := #[]
  methods := #[k0m0]
  instanceTypes := #[]
  staticTypes := #[]
  resolved := Array.replicate 124 none
  statics := none }

def pool1 : Array CpInfo := pool [(2, .class_ 4), (1, u "java/lang/Object"), (0, u "<init>"), (0, u "()V"), (0, .integer 2147483647), (0, .fieldref 9 10), (0, .class_ 11), (0, .nameAndType 12 13), (0, u "com/example/paycadence/paycadence/model/EnrolmentStatus"), (0, u "PENDING_ACTIVE"), (0, u "Lcom/example/paycadence/paycadence/model/EnrolmentStatus;"), (0, .fieldref 9 15), (0, .nameAndType 16 13), (0, u "PENDING_WAIT"), (0, .fieldref 9 18), (0, .nameAndType 19 13), (0, u "ACTIVE"), (0, .fieldref 9 21), (0, .nameAndType 22 13), (0, u "BAD_ACTIVE"), (0, .fieldref 9 24), (0, .nameAndType 25 13), (0, u "FAILED"), (0, .methodref 9 27), (0, .nameAndType 28 29), (0, u "isPending"), (0, u "()Z"), (0, .class_ 31), (0, u "com/example/paycadence/paycadence/model/EnrolmentStatusIsPendingPinLaw"), (2, u "law"), (0, u "(I)Z")] 3

def k1m0 : Method := { name := "<init>", desc := "()V", sig := { parameters := [], returnType := none }, accessFlags := 1, code := none }
def k1c1 : Code := { maxStack := 2, maxLocals := 4, code := code, exceptionTable := #[], attributes := #[] }
def k1m1 : Method := { name := "law", desc := "(I)Z", sig := { parameters := [.int], returnType := some .boolean }, accessFlags := 9, code := some k1c1 }
/-- com/example/paycadence/paycadence/model/EnrolmentStatusIsPendingPinLaw -/
def k1 : Class := { plain "com/example/paycadence/paycadence/model/EnrolmentStatusIsPendingPinLaw" (some 0) with
  accessFlags := 49
  interfaces := #[]
  cf := some (fileOf pool1 30 #[] #[{ accessFlags := 1, nameIndex := 5, descriptorIndex := 6, attributes := #[] }, { accessFlags := 9, nameIndex := 34, descriptorIndex := 35, attributes := #[] }] 49 2 #[] #[])
  fields := #[]
  methods := #[k1m0, k1m1]
  instanceTypes := #[]
  staticTypes := #[]
  resolved := Array.replicate 39 none
  statics := none }

def pool2 : Array CpInfo := pool [(1, .class_ 2), (0, u "java/lang/constant/Constable"), (0, .class_ 4), (0, u "java/lang/Object")] 6

/-- java/lang/constant/Constable -/
def k2 : Class := { plain "java/lang/constant/Constable" (some 0) with
  accessFlags := 1537
  interfaces := #[]
  cf := some (fileOf pool2 1 #[] #[] 1537 3 #[] #[])
  fields := #[]
  methods := #[]
  instanceTypes := #[]
  staticTypes := #[]
  resolved := Array.replicate 11 none
  statics := none }

def pool3 : Array CpInfo := pool [(1, .class_ 2), (0, u "java/lang/Comparable"), (0, .class_ 4), (0, u "java/lang/Object")] 7

/-- java/lang/Comparable -/
def k3 : Class := { plain "java/lang/Comparable" (some 0) with
  accessFlags := 1537
  interfaces := #[]
  cf := some (fileOf pool3 1 #[] #[] 1537 3 #[] #[])
  fields := #[]
  methods := #[]
  instanceTypes := #[]
  staticTypes := #[]
  resolved := Array.replicate 12 none
  statics := none }

def pool4 : Array CpInfo := pool [(1, .class_ 2), (0, u "java/io/Serializable"), (0, .class_ 4), (0, u "java/lang/Object")] 2

/-- java/io/Serializable -/
def k4 : Class := { plain "java/io/Serializable" (some 0) with
  accessFlags := 1537
  interfaces := #[]
  cf := some (fileOf pool4 1 #[] #[] 1537 3 #[] #[])
  fields := #[]
  methods := #[]
  instanceTypes := #[]
  staticTypes := #[]
  resolved := Array.replicate 7 none
  statics := none }

def pool5 : Array CpInfo := pool [(2, .class_ 4), (1, u "java/lang/Enum"), (0, u "name"), (0, u "Ljava/lang/String;"), (2, u "ordinal"), (0, u "I"), (1, .class_ 14), (1, u "java/lang/Object"), (4, u "hash"), (86, .class_ 108), (1, u "java/lang/Enum$EnumDesc"), (2, .class_ 112), (0, u "java/lang/constant/Constable"), (0, .class_ 114), (0, u "java/lang/Comparable"), (0, .class_ 116), (0, u "java/io/Serializable")] 87

/-- java/lang/Enum -/
def k5 : Class := { plain "java/lang/Enum" (some 0) with
  accessFlags := 1057
  interfaces := #[2, 3, 4]
  cf := some (fileOf pool5 2 #[.nestMembers #[106]] #[] 1057 12 #[111, 113, 115] #[{ accessFlags := 18, nameIndex := 5, descriptorIndex := 6, attributes := #[] }, { accessFlags := 18, nameIndex := 9, descriptorIndex := 10, attributes := #[] }, { accessFlags := 2, nameIndex := 19, descriptorIndex := 10, attributes := #[] }])
  fields := #[{ name := "name", type := (.object "java/lang/String"), accessFlags := 18, slot := 0, constantValue := 0 }, { name := "ordinal", type := .int, accessFlags := 18, slot := 1, constantValue := 0 }, { name := "hash", type := .int, accessFlags := 2, slot := 2, constantValue := 0 }]
  methods := #[]
  instanceTypes := #[(.object "java/lang/String"), .int, .int]
  staticTypes := #[]
  resolved := Array.replicate 204 none
  statics := none }

def pool6 : Array CpInfo := pool [(1, .class_ 2), (0, u "com/example/paycadence/paycadence/model/EnrolmentStatus"), (0, .fieldref 1 4), (0, .nameAndType 5 6), (0, u "PENDING_ACTIVE"), (0, u "Lcom/example/paycadence/paycadence/model/EnrolmentStatus;"), (0, .fieldref 1 8), (0, .nameAndType 9 6), (0, u "PENDING_WAIT"), (2, u "ACTIVE"), (2, u "BAD_ACTIVE"), (2, u "FAILED"), (2, u "$VALUES"), (0, u "[Lcom/example/paycadence/paycadence/model/EnrolmentStatus;"), (6, .class_ 31), (1, u "java/lang/Enum"), (8, u "text"), (0, u "Ljava/lang/String;"), (29, u "isPending"), (0, u "()Z")] 8

def k6c0 : Code := { maxStack := 2, maxLocals := 1, code := prog_18_method_4_code, exceptionTable := #[], attributes := #[] }
def k6m0 : Method := { name := "isPending", desc := "()Z", sig := { parameters := [], returnType := some .boolean }, accessFlags := 1, code := some k6c0 }
/-- com/example/paycadence/paycadence/model/EnrolmentStatus -/
def k6 : Class := { plain "com/example/paycadence/paycadence/model/EnrolmentStatus" (some 5) with
  accessFlags := 16433
  interfaces := #[]
  cf := some (fileOf pool6 1 #[] #[{ accessFlags := 1, nameIndex := 71, descriptorIndex := 72, attributes := #[] }] 16433 29 #[] #[{ accessFlags := 16409, nameIndex := 5, descriptorIndex := 6, attributes := #[] }, { accessFlags := 16409, nameIndex := 9, descriptorIndex := 6, attributes := #[] }, { accessFlags := 16409, nameIndex := 12, descriptorIndex := 6, attributes := #[] }, { accessFlags := 16409, nameIndex := 15, descriptorIndex := 6, attributes := #[] }, { accessFlags := 16409, nameIndex := 18, descriptorIndex := 6, attributes := #[] }, { accessFlags := 18, nameIndex := 40, descriptorIndex := 41, attributes := #[] }, { accessFlags := 4122, nameIndex := 21, descriptorIndex := 22, attributes := #[] }])
  fields := #[{ name := "PENDING_ACTIVE", type := (.object "com/example/paycadence/paycadence/model/EnrolmentStatus"), accessFlags := 16409, slot := 0, constantValue := 0 }, { name := "PENDING_WAIT", type := (.object "com/example/paycadence/paycadence/model/EnrolmentStatus"), accessFlags := 16409, slot := 1, constantValue := 0 }, { name := "ACTIVE", type := (.object "com/example/paycadence/paycadence/model/EnrolmentStatus"), accessFlags := 16409, slot := 2, constantValue := 0 }, { name := "BAD_ACTIVE", type := (.object "com/example/paycadence/paycadence/model/EnrolmentStatus"), accessFlags := 16409, slot := 3, constantValue := 0 }, { name := "FAILED", type := (.object "com/example/paycadence/paycadence/model/EnrolmentStatus"), accessFlags := 16409, slot := 4, constantValue := 0 }, { name := "text", type := (.object "java/lang/String"), accessFlags := 18, slot := 3, constantValue := 0 }, { name := "$VALUES", type := (.array (.object "com/example/paycadence/paycadence/model/EnrolmentStatus")), accessFlags := 4122, slot := 5, constantValue := 0 }]
  methods := #[k6m0]
  instanceTypes := #[(.object "java/lang/String"), .int, .int, (.object "java/lang/String")]
  staticTypes := #[(.object "com/example/paycadence/paycadence/model/EnrolmentStatus"), (.object "com/example/paycadence/paycadence/model/EnrolmentStatus"), (.object "com/example/paycadence/paycadence/model/EnrolmentStatus"), (.object "com/example/paycadence/paycadence/model/EnrolmentStatus"), (.object "com/example/paycadence/paycadence/model/EnrolmentStatus"), (.array (.object "com/example/paycadence/paycadence/model/EnrolmentStatus"))]
  resolved := Array.replicate 81 none
  statics := some 0 }

def pool7 : Array CpInfo := pool [(1, u "java/lang/Cloneable"), (0, .class_ 1), (0, u "java/lang/Object"), (0, .class_ 3)] 3

/-- java/lang/Cloneable -/
def k7 : Class := { plain "java/lang/Cloneable" (some 0) with
  accessFlags := 1537
  interfaces := #[]
  cf := some (fileOf pool7 2 #[] #[] 1537 4 #[] #[])
  fields := #[]
  methods := #[]
  instanceTypes := #[]
  staticTypes := #[]
  resolved := Array.replicate 8 none
  statics := none }

/-- the primitive byte -/
def k8 : Class := { plain "byte" none with kind := .primitive 'B', accessFlags := 0x411 }
/-- [B -/
def k9 : Class := { plain "[B" (some 0) with kind := .array 8 .byte, interfaces := #[7, 4], accessFlags := 1041 }

/-- the primitive int -/
def k10 : Class := { plain "int" none with kind := .primitive 'I', accessFlags := 0x411 }
/-- [I -/
def k11 : Class := { plain "[I" (some 0) with kind := .array 10 .int, interfaces := #[7, 4], accessFlags := 1041 }

def heap : Heap := #[{ cls := 6, slots := #[.ref 1, .ref 2, .ref 3, .ref 4, .ref 5, .null], vm := .statics 6 },
  { cls := 6, slots := #[.null, .int 0, .int 0, .null], vm := .none },
  { cls := 6, slots := #[.null, .int 1, .int 0, .null], vm := .none },
  { cls := 6, slots := #[.null, .int 2, .int 0, .null], vm := .none },
  { cls := 6, slots := #[.null, .int 3, .int 0, .null], vm := .none },
  { cls := 6, slots := #[.null, .int 4, .int 0, .null], vm := .none }]
def classes : Array Class := #[k0, k1, k2, k3, k4, k5, k6, k7, k8, k9, k10, k11]
def interned : List (Array UInt16 × Addr) := []
def slotsUsed : Nat := 26
def theMethod : MethodId := ⟨1, 1⟩
def args0 : Array Value := #[.int 5]
def aboutOver (below : List Frame) : State where
  vm := { classes := classes, interned := interned.toArray }
  heap := heap
  slotsUsed := slotsUsed
  threads := #[{ frames := .invoking theMethod args0 :: below }]
def below0 : List Frame := [.native { method := ⟨0, 0⟩, args := #[] }]
def about1 : State := aboutOver below0
def p0 : Program := .bare "" "" ""
def e0 : Env := launch0.env 0 0 0
theorem w_frames : about1.frames = Frame.invoking theMethod args0 :: below0 := rfl
set_option maxRecDepth 65536 in
theorem w_args : argsFit about1.vm theMethod args0 = true := by decide +kernel
set_option maxRecDepth 65536 in
theorem w_heap : heapFits about1 = true := by decide +kernel
set_option maxRecDepth 65536 in
theorem w_runnable : about1.curStatus? = some .runnable := by decide +kernel
set_option maxRecDepth 65536 in
theorem w_alone : about1.alone = true := by decide +kernel
set_option maxRecDepth 65536 in
theorem w_named : about1.methodNamed? x = some theMethod := by decide +kernel
set_option maxRecDepth 65536 in
theorem w_hears : about1.hears theMethod below0 = true := by decide +kernel
set_option maxRecDepth 65536 in
theorem w_ripe : about1.ripe theMethod args0 below0 = true := by decide +kernel
theorem w_running : about1.status = .running := rfl
set_option maxRecDepth 65536 in
theorem w_room : about1.hasRoom e0.platform room_1 = true :=
  launch0.hasRoom_least _ room_1 (by decide +kernel) (by decide +kernel) (by decide +kernel) (by decide +kernel) (by decide +kernel) (by decide +kernel)
theorem allAtoms_all (ts : List Jvm.Cond) (a : Array Jvm.Value) (st : Jvm.State) : (allAtoms ts).before a st = ts.all (fun c => c.before a st) := by
  induction ts with
  | nil => rfl
  | cons c t ih =>
    show (Jvm.Cond.and c (allAtoms t)).before a st = _
    rw [Jvm.Cond.before_and, ih, List.all_cons]
def words1 : List Jvm.Cond := Jvm.Cond.code x code maxLocals ret :: tables_1
/-- a 'code' word, met by the world's own term for the bytes: nothing is compared byte by byte -/
theorem code_word {y : MethodName} {bytes : ByteArray} {mx : Nat} {rt : Option FieldType} {a : Array Value} {s : State} {m : MethodId} {meth : Method} {c : Code} (h1 : s.methodNamed? y = some m) (h2 : s.vm.method? m = some meth) (h3 : meth.code = some c) (h4 : c.code = bytes)
    (h5 : (c.maxLocals == mx && c.exceptionTable.isEmpty && decide (c.maxStack ≤ mostOperands) && decide (meth.sig.returnType = rt) && !meth.locks && decide (parseMethodDescriptor y.desc = some meth.sig)) = true) : (Jvm.Cond.code y bytes mx rt).before a s = true := by
  simp only [Bool.and_eq_true, beq_iff_eq, Bool.not_eq_true', decide_eq_true_eq] at h5
  obtain ⟨⟨⟨⟨⟨g1, g2⟩, g3⟩, g4⟩, g5⟩, g6⟩ := h5
  simp [Cond.before, Cond.holds, Cond.value, h1, h2, h3, h4, g1, g2, g3, g4, g5, g6]
def isCode : Jvm.Cond → Bool
  | .code _ _ _ _ => true
  | _ => false
theorem all_split {L : List Jvm.Cond} {P : Jvm.Cond → Bool} (h1 : L.all (fun c => isCode c || P c) = true) (h2 : ∀ c ∈ L.filter isCode, P c = true) : L.all P = true := by
  refine List.all_eq_true.mpr fun c hc => ?_
  have h := List.all_eq_true.mp h1 c hc
  rcases Bool.eq_false_or_eq_true (isCode c) with hi | hi
  · exact h2 c (List.mem_filter.mpr ⟨hc, hi⟩)
  · simpa [hi] using h
set_option maxRecDepth 65536 in
theorem w_c0 : (Jvm.Cond.code x code maxLocals ret).before args0 about1 = true := code_word (m := ⟨1, 1⟩) (meth := k1m1) (c := k1c1) (by decide +kernel) rfl rfl rfl (by decide +kernel)
set_option maxRecDepth 65536 in
theorem w_c1 : (Jvm.Cond.code ({ cls := "com/example/paycadence/paycadence/model/EnrolmentStatus", name := "isPending", desc := "()Z" } : Jvm.MethodName) prog_18_method_4_code (1 : Nat) (Option.some Jvm.ClassFile.FieldType.boolean)).before args0 about1 = true := code_word (m := ⟨6, 0⟩) (meth := k6m0) (c := k6c0) (by decide +kernel) rfl rfl rfl (by decide +kernel)
def codes1 : List Jvm.Cond := [Jvm.Cond.code x code maxLocals ret, Jvm.Cond.code ({ cls := "com/example/paycadence/paycadence/model/EnrolmentStatus", name := "isPending", desc := "()Z" } : Jvm.MethodName) prog_18_method_4_code (1 : Nat) (Option.some Jvm.ClassFile.FieldType.boolean)]
set_option maxRecDepth 65536 in
theorem codes_eq : words1.filter isCode = codes1 := rfl
theorem w_codes : ∀ c ∈ words1.filter isCode, c.before args0 about1 = true := by
  rw [codes_eq]
  intro c hc
  simp only [codes1, List.mem_cons, List.not_mem_nil, or_false] at hc
  rcases hc with rfl | rfl
  · exact w_c0
  · exact w_c1
set_option maxRecDepth 65536 in
theorem w_t1 : words1.all (fun c => isCode c || c.before args0 about1) = true := by decide +kernel
theorem w_tables : (allAtoms (Jvm.Cond.code x code maxLocals ret :: tables_1)).before args0 about1 = true := by
  rw [allAtoms_all]
  show words1.all (fun c => c.before args0 about1) = true
  refine all_split ?_ w_codes
  rw [w_t1]
set_option maxRecDepth 65536 in
theorem w_case : (Jvm.Cond.and given_1 narrow_1).before args0 about1 = true := by decide +kernel
theorem w_applies : (headSpec (Jvm.Cond.code x code maxLocals ret :: tables_1) room_1).applies x e0.platform about1 = true :=
  (Spec.applies_iff w_frames).mpr ⟨w_running, w_runnable, w_alone, w_named, w_hears, w_ripe, w_room, w_tables⟩
theorem atStart : AtStart classFile x code maxLocals ret World_1 tables_1 room_1 Calls_1 rest_1 Pre_1 launch0 p0 e0 about1 theMethod args0 below0 :=
  ⟨lists_1, trivial, launch0.admits_env _ _ _, launch0.least_env, fairChoices_fair.cas, fairChoices_fair.clock, w_frames, w_args, w_heap, w_applies, trivial, trivial, w_case⟩
end start1
theorem witness_1 : WitnessClaimed_1 := ⟨start1.p0, start1.e0, start1.about1, start1.theMethod, start1.args0, start1.below0, start1.atStart⟩
end Jvm.Pilot.@@N@@
