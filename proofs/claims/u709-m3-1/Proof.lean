import JvmDerived
import JvmDerived.Pilot.@@N@@Statement
import JvmDerived.Pilot.@@N@@Code
set_option linter.unusedVariables false
set_option linter.unusedSimpArgs false
namespace Jvm.RoadKit
open Sem ClassFile Op Lib Jvm.Stand Jvm.Free Jvm.LawKit
section New
variable {p : Program} {l : Launch} {e : Env} {R : Room} {s : State} {m : MethodId} {args : Array Value} {below : List Frame} {meth : Method} {c : Code} {T : State} {locs : List Loc} {cells slots : Nat}
theorem retI (X : Stand p l e R s m args below meth c T locs cells slots) (hx : p.tables.exec = Jvm.exec) {pc : Nat} {Ls : Array Slot} {z : Int32} {rest : List Value} (hret : meth.sig.returnType = some .int) (hd : decode c.code pc = .ok (.ireturn, 1)) {fs : List Frame}
    (hl : ∀ (f : JFrame) (acts : List Action), f.method = m → f.locked = none → f.entered = [] → (doReturn e (T.setTop f) acts (some (.int z))).1 = T.setFrames fs) : Steps p.tables e below (T.setTop (mkF m pc Ls (.int z :: rest))) (T.setFrames fs) := by
  have hm' : T.vm.method? m = some meth := X.method'
  have hn : narrow .int (.int z) = .int z := rfl
  show Steps p.tables e below (T.setTop { method := m, pc := pc, locals := Ls, stack := _ :: rest, locked := none }) _
  jvm_step X.here [X.here.top, hx, hd, hm', hret, hn]
  first | (intro acts; rw [hl _ acts rfl rfl rfl]) | rw [hl _ _ rfl rfl rfl]
  exact Steps.refl _
end New
end Jvm.RoadKit
namespace Jvm.Pilot.@@N@@
open Jvm Jvm.ClassFile Sem Op Lib Jvm.Free Jvm.Stand Jvm.LawKit Jvm.RoadKit Bundle Jvm.Pilot.@@N@@.Jvm.D
/-! own_..: a walk as a goal: from here some run ends as the contract says; steps are taken off its front -/
section Own
variable {p : Program} {l : Launch} {e : Env} {R : Room} {s : State} {m : MethodId} {args : Array Value} {below : List Frame} {meth : Method} {c : Code} {T : State} {locs : List Loc} {cells slots : Nat} {Z : State} {a0 : Array Value} {h : Heap}
def Run (tb : Tables) (e : Env) (below : List Frame) (A : State) (G : State → Outcome → Prop) : Prop := ∃ t o, Steps tb e below A t ∧ G t o
theorem own_go {tb : Tables} {A B : State} {G : State → Outcome → Prop} (st : ∀ t, Steps tb e below B t → Steps tb e below A t) (k : Run tb e below B G) : Run tb e below A G := by
  obtain ⟨t, o, h1, h2⟩ := k
  exact ⟨t, o, st t h1, h2⟩
def OwnFin (s : State) (below : List Frame) (Q : Option Value → Heap → List Loc → Prop) (ck sk : Nat) : State → Outcome → Prop :=
  fun t o => t.status = .running ∧ Ended t below o ∧ ∃ v L, o = .returned v ∧ Q v t.heap L ∧ FrameEnd s o t L ck sk
def OwnCtr (l : Launch) (y : MethodName) (bytes : ByteArray) (maxL : Nat) (ret : Option FieldType) (ws : List Jvm.Cond) (rm : Room) (Z : State) (as' : Array Value) (h : Heap) (Q : Option Value → Heap → List Loc → Prop) : Prop :=
  MetFree l y (head1 (Jvm.Cond.code y bytes maxL ret :: ws) rm) (fun a U => a = as' ∧ Z.Warmed39 U.vm ∧ U.heap = h) (fun _ _ _ _ _ => True) (fun _ U o U' => ∃ v L, o = .returned v ∧ Q v U'.heap L ∧ FrameEnd U o U' L rm.cells rm.slots)
theorem own_bodyF {y : MethodName} {bytes : ByteArray} {maxL : Nat} {ret : Option FieldType} {ws : List Jvm.Cond} {rm : Room} {as' : Array Value} {Q : Option Value → Heap → List Loc → Prop} (pn : plainFor y = true)
    (H : ∀ (p : Program) (e : Env) (s : State) (m : MethodId) (below : List Frame) (meth : Method) (c : Code) (s₁ : State), Stand p l e rm s m as' below meth c s₁ [] 0 0 → p.tables.exec = Jvm.exec → c.code = bytes → c.maxLocals = maxL →
      s.vm.findClass y.cls = some m.cls → meth.name = y.name → meth.sig.returnType = ret → meth.locks = false → Z.Warmed39 s.vm → s₁.heap = h → Run p.tables e below (s₁.setTop (entryFrame m as' maxL)) (OwnFin s below Q rm.cells rm.slots)) :
    OwnCtr l y bytes maxL ret ws rm Z as' h Q := by
  refine MetFree.of_bodySF pn hisR ?_
  intro p e s m args below meth c s₁ Bd hml0 hP hK
  obtain ⟨rfl, hZ, hh⟩ := hP
  exact H p e s m below meth c s₁ (Stand.of_body Bd) Bd.exec Bd.bytes hml0 (findClass_of_methodNamed Bd.named) (name_of_methodNamed Bd.named Bd.method).1 Bd.returns (BodyLoose.notSynchronized Bd) hZ (by rw [← hh, Bd.state]; rfl)
theorem own_body {y : MethodName} {bytes : ByteArray} {maxL : Nat} {ret : Option FieldType} {ws : List Jvm.Cond} {rm : Room} {as' : Array Value} {Q : Option Value → Heap → List Loc → Prop} (pn : plainName y.cls = true)
    (H : ∀ (p : Program) (e : Env) (s : State) (m : MethodId) (below : List Frame) (meth : Method) (c : Code) (s₁ : State), Stand p l e rm s m as' below meth c s₁ [] 0 0 → p.tables.exec = Jvm.exec → c.code = bytes → c.maxLocals = maxL →
      s.vm.findClass y.cls = some m.cls → meth.name = y.name → meth.sig.returnType = ret → meth.locks = false → Z.Warmed39 s.vm → s₁.heap = h → Run p.tables e below (s₁.setTop (entryFrame m as' maxL)) (OwnFin s below Q rm.cells rm.slots)) :
    OwnCtr l y bytes maxL ret ws rm Z as' h Q := own_bodyF (plainFor_of_name pn) H
theorem own_out (X : Stand p l e R s m args below meth c T locs cells slots) {v : Option Value} (hv : meth.sig.returnType = none → v = none) (hlk : meth.locks = false) {g : JFrame} {Q : Option Value → Heap → List Loc → Prop} {ck sk : Nat}
    (hst : ∀ fs, (∀ (f : JFrame) (acts : List Action), f.method = m → f.locked = none → f.entered = [] → (doReturn e (T.setTop f) acts v).1 = T.setFrames fs) → Steps p.tables e below (T.setTop g) (T.setFrames fs))
    (hQ : Q v T.heap locs) (hc : cells ≤ ck) (hs : slots ≤ sk) : Run p.tables e below (T.setTop g) (OwnFin s below Q ck sk) := by
  obtain ⟨fs, hr, hrun, hended, hW, hsame⟩ := X.leave (v := v) hv hlk
  exact ⟨_, _, hst fs hr, hrun, hended, v, locs, rfl, hQ, ⟨_, rfl⟩, hW, hsame.mono hc hs⟩
theorem own_callV (X : Stand p l e R s m args below meth c T locs cells slots) (hx : p.tables.exec = Jvm.exec) (hZ : Z.Warmed39 s.vm) {own C : String} {index : Nat} {y : MethodName} {bytes : ByteArray} {maxL : Nat} {ret : Option FieldType}
    (hown : s.vm.findClass own = some m.cls) (w1 : (Jvm.Cond.methodLink own index y).before a0 Z = true) (w2 : (Jvm.Cond.instanceMethod y).before a0 Z = true) (w3 : (Jvm.Cond.selects C y y).before a0 Z = true)
    (w4 : (Jvm.Cond.code y bytes maxL ret).before a0 Z = true) (w5 : (Jvm.Cond.initialized y.cls).before a0 Z = true) (hy : y.cls ≠ "java/lang/invoke/MethodHandle" ∧ y.cls ≠ "java/lang/invoke/VarHandle")
    (eT : T.heap = h) {rm : Room} {as' : Array Value} {Q : Option Value → Heap → List Loc → Prop} (hM : OwnCtr l y bytes maxL ret [] rm Z as' h Q)
    {b : Addr} (E : Exa Z h b C) {g : JFrame} (hg : g.method = m) (hsize : g.locals.size = c.maxLocals) {argsL rest : List Value} {ps : List FieldType} {rt : Option FieldType} (hpd : parseMethodDescriptor y.desc = some ⟨ps, rt⟩) (hlen : argsL.length = ps.length)
    (hs : g.stack = argsL.reverse ++ .ref b :: rest) (has : as' = (Value.ref b :: argsL).toArray) {W : Nat} (hW : 2 * g.monitorRoom + (rest.map fun v => v.category).sum ≤ W) (hd : decode c.code g.pc = .ok (.invokevirtual index, 3))
    (hf : rm.frames + 1 ≤ R.frames) (hl : W + (maxL + 11) + rm.locals ≤ R.locals) (hc : cells + rm.cells ≤ R.cells) (hsl : slots + rm.slots ≤ R.slots) :
    ∃ (v : Option Value) (T' : State) (L : List Loc), Stand p l e R s m args below meth c T' (locs ++ L) (cells + rm.cells) (slots + rm.slots) ∧ Q v T'.heap L ∧
      ∀ target, Steps p.tables e below (T'.setTop { g with pc := g.pc + 3, stack := v.toList ++ rest }) target → Steps p.tables e below (T.setTop g) target := by
  obtain ⟨cell, k, h1, h2, h3, h4, -⟩ := E
  obtain ⟨v, vm₁, ⟨T', L', k', n'⟩, -, X', ⟨L, hQ, l1, l2, l3⟩, st⟩ := Jvm.LawKit.callV X hx hown (mvT hZ w1) (mvT hZ w2) (mvT hZ w3) (mvT hZ w4) hy (backOf (W := W) hM hZ w4 w5 hf hl) (b := b) (cellB := cell) (by rw [eT]; exact h1) h4 (by rw [hZ.alike.findClass]; exact h2) hg hsize (lenOf hpd hlen) hs hW hd (fun _ _ => ⟨has.symm, eT, hc, hsl⟩)
  dsimp only [Pt.U, Pt.locs, Pt.cells, Pt.slots] at X' l1 l2 l3 st hQ
  subst l1 l2 l3
  exact ⟨v, T', L, X', hQ, st⟩
theorem own_callVU (X : Stand p l e R s m args below meth c T locs cells slots) (hx : p.tables.exec = Jvm.exec) (hZ : Z.Warmed39 s.vm) {own C owner : String} {index : Nat} {x y : MethodName} {bytes : ByteArray} {maxL : Nat} {ret : Option FieldType}
    (hown : s.vm.findClass own = some m.cls) (w1 : (Jvm.Cond.methodLink own index x).before a0 Z = true) (w1' : (Jvm.Cond.sameMethod x.cls owner x.name x.desc).before a0 Z = true) (w1'' : (Jvm.Cond.declares ⟨owner, x.name, x.desc⟩).before a0 Z = true) (w2 : (Jvm.Cond.instanceMethod y).before a0 Z = true) (w3 : (Jvm.Cond.selects C x y).before a0 Z = true)
    (w4 : (Jvm.Cond.code y bytes maxL ret).before a0 Z = true) (w5 : (Jvm.Cond.initialized y.cls).before a0 Z = true) (hy : owner ≠ "java/lang/invoke/MethodHandle" ∧ owner ≠ "java/lang/invoke/VarHandle")
    (eT : T.heap = h) {rm : Room} {as' : Array Value} {Q : Option Value → Heap → List Loc → Prop} (hM : OwnCtr l y bytes maxL ret [] rm Z as' h Q)
    {b : Addr} (E : Exa Z h b C) {g : JFrame} (hg : g.method = m) (hsize : g.locals.size = c.maxLocals) {argsL rest : List Value} {ps : List FieldType} {rt : Option FieldType} (hpd : parseMethodDescriptor x.desc = some ⟨ps, rt⟩) (hlen : argsL.length = ps.length)
    (hs : g.stack = argsL.reverse ++ .ref b :: rest) (has : as' = (Value.ref b :: argsL).toArray) {W : Nat} (hW : 2 * g.monitorRoom + (rest.map fun v => v.category).sum ≤ W) (hd : decode c.code g.pc = .ok (.invokevirtual index, 3))
    (hf : rm.frames + 1 ≤ R.frames) (hl : W + (maxL + 11) + rm.locals ≤ R.locals) (hc : cells + rm.cells ≤ R.cells) (hsl : slots + rm.slots ≤ R.slots) :
    ∃ (v : Option Value) (T' : State) (L : List Loc), Stand p l e R s m args below meth c T' (locs ++ L) (cells + rm.cells) (slots + rm.slots) ∧ Q v T'.heap L ∧
      ∀ target, Steps p.tables e below (T'.setTop { g with pc := g.pc + 3, stack := v.toList ++ rest }) target → Steps p.tables e below (T.setTop g) target := by
  obtain ⟨cB, kB, q1, q2, q3⟩ := isOf hZ eT E
  obtain ⟨v, vm₁, ⟨T', L', k', n'⟩, -, X', ⟨L, hQ, l1, l2, l3⟩, st⟩ := X.virtualBackUp hx hown (mvT hZ w1) (mvT hZ w1') (mvT hZ w1'') hy (mvT hZ w3) (mvT hZ w2) (backOf (W := W) hM hZ w4 w5 hf hl) q1 q3 hg hsize (Steps.refl _) (lenOf hpd hlen) hs hW hd (fun _ _ => ⟨has.symm, eT, hc, hsl⟩)
  dsimp only [Pt.U, Pt.locs, Pt.cells, Pt.slots] at X' l1 l2 l3 st hQ
  subst l1 l2 l3
  exact ⟨v, T', L, X', hQ, fun _ k => st.trans k⟩
theorem own_callS (X : Stand p l e R s m args below meth c T locs cells slots) (hx : p.tables.exec = Jvm.exec) (hZ : Z.Warmed39 s.vm) {own : String} {index : Nat} {y : MethodName} {bytes : ByteArray} {maxL : Nat} {ret : Option FieldType}
    (hown : s.vm.findClass own = some m.cls) (w1 : (Jvm.Cond.methodLink own index y).before a0 Z = true) (w2 : (Jvm.Cond.static y).before a0 Z = true)
    (w4 : (Jvm.Cond.code y bytes maxL ret).before a0 Z = true) (w5 : (Jvm.Cond.initialized y.cls).before a0 Z = true) (hy : y.cls ≠ "java/lang/invoke/MethodHandle" ∧ y.cls ≠ "java/lang/invoke/VarHandle")
    (eT : T.heap = h) {rm : Room} {as' : Array Value} {Q : Option Value → Heap → List Loc → Prop} (hM : OwnCtr l y bytes maxL ret [] rm Z as' h Q)
    {g : JFrame} (hg : g.method = m) (hsize : g.locals.size = c.maxLocals) {argsL rest : List Value} {ps : List FieldType} {rt : Option FieldType} (hpd : parseMethodDescriptor y.desc = some ⟨ps, rt⟩) (hlen : argsL.length = ps.length)
    (hs : g.stack = argsL.reverse ++ rest) (has : as' = argsL.toArray) {W : Nat} (hW : 2 * g.monitorRoom + (rest.map fun v => v.category).sum ≤ W) (hd : decode c.code g.pc = .ok (.invokestatic index, 3))
    (hf : rm.frames + 1 ≤ R.frames) (hl : W + (maxL + 11) + rm.locals ≤ R.locals) (hc : cells + rm.cells ≤ R.cells) (hsl : slots + rm.slots ≤ R.slots) :
    ∃ (v : Option Value) (T' : State) (L : List Loc), Stand p l e R s m args below meth c T' (locs ++ L) (cells + rm.cells) (slots + rm.slots) ∧ Q v T'.heap L ∧
      ∀ target, Steps p.tables e below (T'.setTop { g with pc := g.pc + 3, stack := v.toList ++ rest }) target → Steps p.tables e below (T.setTop g) target := by
  obtain ⟨v, vm₁, ⟨T', L', k', n'⟩, -, X', ⟨L, hQ, l1, l2, l3⟩, st⟩ := Jvm.LawKit.callS X hx hown (mvT hZ w1) (mvT hZ w2) (mvT hZ w5) (mvT hZ w4) hy (backOf (W := W) hM hZ w4 w5 hf hl) hg hsize (lenOf hpd hlen) hs hW hd (fun _ _ => ⟨has.symm, eT, hc, hsl⟩)
  dsimp only [Pt.U, Pt.locs, Pt.cells, Pt.slots] at X' l1 l2 l3 st hQ
  subst l1 l2 l3
  exact ⟨v, T', L, X', hQ, st⟩
theorem own_callI (X : Stand p l e R s m args below meth c T locs cells slots) (hx : p.tables.exec = Jvm.exec) (hZ : Z.Warmed39 s.vm) {own : String} {index : Nat} {y : MethodName} {bytes : ByteArray} {maxL : Nat}
    (hown : s.vm.findClass own = some m.cls) (hy1 : y.name = "<init>") (w1 : (Jvm.Cond.methodLink own index y).before a0 Z = true) (w2 : (Jvm.Cond.instanceMethod y).before a0 Z = true)
    (w4 : (Jvm.Cond.code y bytes maxL none).before a0 Z = true) (w5 : (Jvm.Cond.initialized y.cls).before a0 Z = true) (hy : y.cls ≠ "java/lang/invoke/MethodHandle" ∧ y.cls ≠ "java/lang/invoke/VarHandle")
    (eT : T.heap = h) {rm : Room} {as' : Array Value} {Q : Option Value → Heap → List Loc → Prop} (hM : OwnCtr l y bytes maxL none [] rm Z as' h Q)
    {b : Addr} {g : JFrame} (hg : g.method = m) (hsize : g.locals.size = c.maxLocals) {argsL rest : List Value} {ps : List FieldType} {rt : Option FieldType} (hpd : parseMethodDescriptor y.desc = some ⟨ps, rt⟩) (hlen : argsL.length = ps.length)
    (hs : g.stack = argsL.reverse ++ .ref b :: rest) (has : as' = (Value.ref b :: argsL).toArray) {W : Nat} (hW : 2 * g.monitorRoom + (rest.map fun v => v.category).sum ≤ W) (hd : decode c.code g.pc = .ok (.invokespecial index, 3))
    (hf : rm.frames + 1 ≤ R.frames) (hl : W + (maxL + 11) + rm.locals ≤ R.locals) (hc : cells + rm.cells ≤ R.cells) (hsl : slots + rm.slots ≤ R.slots) :
    ∃ (v : Option Value) (T' : State) (L : List Loc), Stand p l e R s m args below meth c T' (locs ++ L) (cells + rm.cells) (slots + rm.slots) ∧ Q v T'.heap L ∧
      ∀ target, Steps p.tables e below (T'.setTop { g with pc := g.pc + 3, stack := v.toList ++ rest }) target → Steps p.tables e below (T.setTop g) target := by
  obtain ⟨v, vm₁, ⟨T', L', k', n'⟩, -, X', ⟨L, hQ, l1, l2, l3⟩, st⟩ := Jvm.LawKit.callI X hx hown hy1 (mvT hZ w1) (mvT hZ w2) (mvT hZ w4) hy (backOf (W := W) hM hZ w4 w5 hf hl) hg hsize (a := b) (lenOf hpd hlen) hs hW hd (fun _ _ => ⟨has.symm, eT, hc, hsl⟩)
  dsimp only [Pt.U, Pt.locs, Pt.cells, Pt.slots] at X' l1 l2 l3 st hQ
  subst l1 l2 l3
  exact ⟨v, T', L, X', hQ, st⟩
theorem own_fld {t : Term} {u : Addr} {C n d : String} {k : Int32} (ev : t.eval args s none [] s = some (.ref u)) (w : (Jvm.Cond.eq (.field t C n d) (.int k)).value args s none s [] = some true) : Fld s s.heap u C n d (.int k) :=
  Fld.start (by rw [← fld_at (args := args) (first := s) (o := none) (idx := []) ev]; exact Cond.eq_int (beq_iff_eq.mpr w) (Term.int_eval k))
theorem own_rne {a b : Addr} (q : a ≠ b) : ¬ Value.ref a = .ref b := fun w => q (Value.ref.inj w)
end Own
section Own2
variable {p : Program} {l : Launch} {e : Env} {R : Room} {s : State} {m : MethodId} {args : Array Value} {below : List Frame} {meth : Method} {c : Code} {T : State} {locs : List Loc} {cells slots : Nat} {Z : State} {a0 : Array Value} {h : Heap}
theorem own_extwr {h0 h h' : Heap} {a : Addr} {sl : Nat} {v : Value} (E : Ext h0 h) (W : Wr h h' a sl v) (q : h0.size ≤ a) : Ext h0 h' := by
  refine ⟨by rw [W.size]; exact E.1, fun b c hb => ?_⟩
  have hlt : b < h0.size := (Array.getElem?_eq_some_iff.mp hb).1
  obtain ⟨c', e1, -, -, -, e5, -⟩ := wr_at W (E.2 _ _ hb)
  rw [e1, e5 (Nat.ne_of_lt (Nat.lt_of_lt_of_le hlt q))]
theorem own_exttr {h0 h h' : Heap} (E : Ext h0 h) (E' : Ext h h') : Ext h0 h' := ⟨Nat.le_trans E.1 E'.1, fun a c q => E'.2 _ _ (E.2 _ _ q)⟩
theorem own_extrf (h : Heap) : Ext h h := ⟨Nat.le_refl _, fun _ _ q => q⟩
theorem own_stR (X : Stand p l e R s m args below meth c T locs cells slots) (hx : p.tables.exec = Jvm.exec) (hZ : Z.Warmed39 s.vm) (eT : T.heap = h) {a : Addr} {k : ClassId} {ty : FieldType} {z : Int32} {vs : List Value} (V : Arv Z h a k ty z vs .null) (hty : ty.isReference = true)
    {j : Int32} (hj : ¬ j < 0 ∧ j < z) (i : Nat) (hi : j.toNatClampNeg = i) (hl : i < vs.length) {C : String} {y : Addr} (O : Ovr Z k C) (I : Exa Z h y C) (hv : fits ty (.ref y) = true) {h0 : Heap} (E : Ext h0 h) (ge : h0.size ≤ a) {n0 : Nat} (N : Fr n0 locs) (ge0 : n0 ≤ a)
    {g : JFrame} (hg : g.method = m) {rest : List Value} (hs : g.stack = .ref y :: .int j :: .ref a :: rest) (hd : decode c.code g.pc = .ok (.aastore, 1)) :
    ∃ (T' : State) (h' : Heap) (L : List Loc), Stand p l e R s m args below meth c T' L cells slots ∧ T'.heap = h' ∧ Ext h0 h' ∧ Arv Z h' a k ty z (vs.set i (.ref y)) .null ∧ Fr n0 L ∧
      ∀ target, Steps p.tables e below (T'.setTop { g with pc := g.pc + 1, stack := rest }) target → Steps p.tables e below (T.setTop g) target := by
  obtain ⟨cl, A, q1, S, q3, H, G⟩ := V
  obtain ⟨T', h', X', e', W, st⟩ := stR X hx hZ eT A (inb_of S hj) hty (Sto.ofV A q1 O (Ins.self I)) hg hs hd
  exact ⟨T', h', _, X', e', own_extwr E W ge, Arv.set A q1 S q3 H G hv W i hi hl, Fr.snoc X' N ge0, st⟩
theorem own_aaload (X : Stand p l e R s m args below meth c T locs cells slots) (hx : p.tables.exec = Jvm.exec) (hZ : Z.Warmed39 s.vm) (eT : T.heap = h) {a : Addr} {k : ClassId} {ty : FieldType} {z : Int32} {vs : List Value} {dv : Value} (V : Arv Z h a k ty z vs dv) (hty : ty.isReference = true)
    {j : Int32} (hj : ¬ j < 0 ∧ j < z) {v : Value} (u : vs.getD j.toNatClampNeg dv = v)
    {g : JFrame} (hg : g.method = m) {rest : List Value} (hs : g.stack = .int j :: .ref a :: rest) (hd : decode c.code g.pc = .ok (.aaload, 1)) :
    ∀ target, Steps p.tables e below (T.setTop { g with pc := g.pc + 1, stack := v :: rest }) target → Steps p.tables e below (T.setTop g) target := by
  obtain ⟨cl, A, q1, S, q3, H, G⟩ := V
  exact X.aaload hx (j := j) (v := v) (by rw [eT]; exact A.1) (State.isArrayOf_alike hZ.alike A.2.1) hty A.2.2 (inb_of S hj) (Has.at H (inb_of S hj) u) hg hs hd
theorem own_alen (X : Stand p l e R s m args below meth c T locs cells slots) (hx : p.tables.exec = Jvm.exec) (hZ : Z.Warmed39 s.vm) (eT : T.heap = h) {a : Addr} {k : ClassId} {ty : FieldType} {z : Int32} {vs : List Value} {dv : Value} (V : Arv Z h a k ty z vs dv)
    {g : JFrame} (hg : g.method = m) {rest : List Value} (hs : g.stack = .ref a :: rest) (hd : decode c.code g.pc = .ok (.arraylength, 1)) :
    ∀ target, Steps p.tables e below (T.setTop { g with pc := g.pc + 1, stack := .int z :: rest }) target → Steps p.tables e below (T.setTop g) target := by
  obtain ⟨cl, A, q1, S, q3, H, G⟩ := V
  rw [← len_of S q3]
  exact X.arraylength hx (by rw [eT]; exact A.1) (State.isArrayOf_alike hZ.alike A.2.1) hg hs hd
end Own2
section Own3
variable {args : Array Value} {s : State}
theorem own_eqR {t u : Term} {y : Addr} (w : (Jvm.Cond.eq t u).value args s none s [] = some true) (hu : u.eval args s none [] s = some (.ref y)) : t.eval args s none [] s = some (.ref y) := by
  obtain ⟨x1, y1, ha, hb, k1, k2⟩ := cmp_v (Or.inl w)
  cases hu.symm.trans hb
  have q := gotT (eq_R ha hb k2.2 k2.1) w
  rw [ha, q]
theorem own_len {t : Term} {a : Addr} {cl : Cell} {ty : FieldType} {n : Int32} (ev : t.eval args s none [] s = some (.ref a)) (A : Arr s s.heap a cl ty) (w : (Jvm.Cond.eq (.length t) (.int n)).value args s none s [] = some true) : cl.slots.size < 2 ^ 31 ∧ cl.slots.size.toInt32 = n := by
  have e := Cond.eq_int (beq_iff_eq.mpr w : (Jvm.Cond.eq (.length t) (.int n)).holds args s none s [] = true) (Term.int_eval n)
  have q := A.fin (Vm.Alike.refl _)
  by_cases hl : cl.slots.size < 2 ^ 31
  · exact ⟨hl, Value.int.inj (Option.some.inj ((len_f ev q hl).symm.trans e))⟩
  · simp [Term.eval, ev, q, hl] at e
theorem own_nullF {t : Term} {u : Addr} {C n d : String} (ev : t.eval args s none [] s = some (.ref u)) (w : (Jvm.Cond.eq (.field t C n d) .null).value args s none s [] = some true) : Fld s s.heap u C n d .null :=
  Fld.start (by rw [← fld_at (args := args) (first := s) (o := none) (idx := []) ev]; exact null_v w)
end Own3

theorem d1_0 : decode prog_19_method_6_code 0 = .ok (.invokestatic 46, 3) := by decide +kernel
theorem d1_3 : decode prog_19_method_6_code 3 = .ok (.astore_n 1, 1) := by decide +kernel
theorem d1_4 : decode prog_19_method_6_code 4 = .ok (.aload_n 1, 1) := by decide +kernel
theorem d1_5 : decode prog_19_method_6_code 5 = .ok (.arraylength, 1) := by decide +kernel
theorem d1_6 : decode prog_19_method_6_code 6 = .ok (.istore_n 2, 1) := by decide +kernel
theorem d1_7 : decode prog_19_method_6_code 7 = .ok (.iconst 0, 1) := by decide +kernel
theorem d1_8 : decode prog_19_method_6_code 8 = .ok (.istore_n 3, 1) := by decide +kernel
theorem d1_9 : decode prog_19_method_6_code 9 = .ok (.iload_n 3, 1) := by decide +kernel
theorem d1_10 : decode prog_19_method_6_code 10 = .ok (.iload_n 2, 1) := by decide +kernel
theorem d1_11 : decode prog_19_method_6_code 11 = .ok (.if_icmp .ge 29, 3) := by decide +kernel
theorem d1_14 : decode prog_19_method_6_code 14 = .ok (.aload_n 1, 1) := by decide +kernel
theorem d1_15 : decode prog_19_method_6_code 15 = .ok (.iload_n 3, 1) := by decide +kernel
theorem d1_16 : decode prog_19_method_6_code 16 = .ok (.aaload, 1) := by decide +kernel
theorem d1_17 : decode prog_19_method_6_code 17 = .ok (.astore 4, 2) := by decide +kernel
theorem d1_19 : decode prog_19_method_6_code 19 = .ok (.aload 4, 2) := by decide +kernel
theorem d1_21 : decode prog_19_method_6_code 21 = .ok (.getfield 38, 3) := by decide +kernel
theorem d1_24 : decode prog_19_method_6_code 24 = .ok (.iload_n 0, 1) := by decide +kernel
theorem d1_25 : decode prog_19_method_6_code 25 = .ok (.if_icmp .ne 9, 3) := by decide +kernel
theorem d1_28 : decode prog_19_method_6_code 28 = .ok (.aload 4, 2) := by decide +kernel
theorem d1_30 : decode prog_19_method_6_code 30 = .ok (.invokestatic 50, 3) := by decide +kernel
theorem d1_33 : decode prog_19_method_6_code 33 = .ok (.areturn, 1) := by decide +kernel
theorem d1_34 : decode prog_19_method_6_code 34 = .ok (.iinc 3 1, 3) := by decide +kernel
theorem d1_37 : decode prog_19_method_6_code 37 = .ok (.goto (-28), 3) := by decide +kernel
theorem d1_40 : decode prog_19_method_6_code 40 = .ok (.invokestatic 56, 3) := by decide +kernel
theorem d1_43 : decode prog_19_method_6_code 43 = .ok (.areturn, 1) := by decide +kernel
theorem d2_0 : decode prog_19_method_1_code 0 = .ok (.getstatic 19, 3) := by decide +kernel
theorem d2_3 : decode prog_19_method_1_code 3 = .ok (.invokevirtual 23, 3) := by decide +kernel
theorem d2_6 : decode prog_19_method_1_code 6 = .ok (.checkcast 24, 3) := by decide +kernel
theorem d2_9 : decode prog_19_method_1_code 9 = .ok (.areturn, 1) := by decide +kernel
theorem d3_0 : decode jdk_32_method_1_code 0 = .ok (.getstatic 1, 3) := by decide +kernel
theorem d3_3 : decode jdk_32_method_1_code 3 = .ok (.astore_n 0, 1) := by decide +kernel
theorem d3_4 : decode jdk_32_method_1_code 4 = .ok (.aload_n 0, 1) := by decide +kernel
theorem d3_5 : decode jdk_32_method_1_code 5 = .ok (.areturn, 1) := by decide +kernel
theorem d4_0 : decode method_2_code 0 = .ok (.iload_n 0, 1) := by decide +kernel
theorem d4_1 : decode method_2_code 1 = .ok (.bipush 99, 2) := by decide +kernel
theorem d4_3 : decode method_2_code 3 = .ok (.if_icmp .ne 7, 3) := by decide +kernel
theorem d4_6 : decode method_2_code 6 = .ok (.getstatic 7, 3) := by decide +kernel
theorem d4_9 : decode method_2_code 9 = .ok (.areturn, 1) := by decide +kernel
theorem d4_10 : decode method_2_code 10 = .ok (.iload_n 0, 1) := by decide +kernel
theorem d4_11 : decode method_2_code 11 = .ok (.bipush 114, 2) := by decide +kernel
theorem d4_13 : decode method_2_code 13 = .ok (.if_icmp .ne 7, 3) := by decide +kernel
theorem d4_16 : decode method_2_code 16 = .ok (.getstatic 13, 3) := by decide +kernel
theorem d4_19 : decode method_2_code 19 = .ok (.areturn, 1) := by decide +kernel
theorem d4_20 : decode method_2_code 20 = .ok (.iload_n 0, 1) := by decide +kernel
theorem d4_21 : decode method_2_code 21 = .ok (.bipush 117, 2) := by decide +kernel
theorem d4_23 : decode method_2_code 23 = .ok (.if_icmp .ne 7, 3) := by decide +kernel
theorem d4_26 : decode method_2_code 26 = .ok (.getstatic 16, 3) := by decide +kernel
theorem d4_29 : decode method_2_code 29 = .ok (.areturn, 1) := by decide +kernel
theorem d4_30 : decode method_2_code 30 = .ok (.iload_n 0, 1) := by decide +kernel
theorem d4_31 : decode method_2_code 31 = .ok (.bipush 100, 2) := by decide +kernel
theorem d4_33 : decode method_2_code 33 = .ok (.if_icmp .ne 7, 3) := by decide +kernel
theorem d4_36 : decode method_2_code 36 = .ok (.getstatic 19, 3) := by decide +kernel
theorem d4_39 : decode method_2_code 39 = .ok (.areturn, 1) := by decide +kernel
theorem d4_40 : decode method_2_code 40 = .ok (.iload_n 0, 1) := by decide +kernel
theorem d4_41 : decode method_2_code 41 = .ok (.bipush 115, 2) := by decide +kernel
theorem d4_43 : decode method_2_code 43 = .ok (.if_icmp .ne 7, 3) := by decide +kernel
theorem d4_46 : decode method_2_code 46 = .ok (.getstatic 22, 3) := by decide +kernel
theorem d4_49 : decode method_2_code 49 = .ok (.areturn, 1) := by decide +kernel
theorem d4_50 : decode method_2_code 50 = .ok (.aconst_null, 1) := by decide +kernel
theorem d4_51 : decode method_2_code 51 = .ok (.areturn, 1) := by decide +kernel
theorem d5_0 : decode jdk_32_method_6_code 0 = .ok (.aload_n 0, 1) := by decide +kernel
theorem d5_1 : decode jdk_32_method_6_code 1 = .ok (.getfield 13, 3) := by decide +kernel
theorem d5_4 : decode jdk_32_method_6_code 4 = .ok (.ifnull 7, 3) := by decide +kernel
theorem d5_7 : decode jdk_32_method_6_code 7 = .ok (.iconst 1, 1) := by decide +kernel
theorem d5_8 : decode jdk_32_method_6_code 8 = .ok (.goto 4, 3) := by decide +kernel
theorem d5_11 : decode jdk_32_method_6_code 11 = .ok (.iconst 0, 1) := by decide +kernel
theorem d5_12 : decode jdk_32_method_6_code 12 = .ok (.ireturn, 1) := by decide +kernel
theorem d6_0 : decode jdk_32_method_3_code 0 = .ok (.new 2, 3) := by decide +kernel
theorem d6_3 : decode jdk_32_method_3_code 3 = .ok (.dup, 1) := by decide +kernel
theorem d6_4 : decode jdk_32_method_3_code 4 = .ok (.aload_n 0, 1) := by decide +kernel
theorem d6_5 : decode jdk_32_method_3_code 5 = .ok (.invokestatic 17, 3) := by decide +kernel
theorem d6_8 : decode jdk_32_method_3_code 8 = .ok (.invokespecial 23, 3) := by decide +kernel
theorem d6_11 : decode jdk_32_method_3_code 11 = .ok (.areturn, 1) := by decide +kernel
theorem d7_0 : decode jdk_31_method_10_code 0 = .ok (.aload_n 0, 1) := by decide +kernel
theorem d7_1 : decode jdk_31_method_10_code 1 = .ok (.ifnonnull 11, 3) := by decide +kernel
theorem d7_12 : decode jdk_31_method_10_code 12 = .ok (.aload_n 0, 1) := by decide +kernel
theorem d7_13 : decode jdk_31_method_10_code 13 = .ok (.areturn, 1) := by decide +kernel
theorem d8_0 : decode jdk_32_method_2_code 0 = .ok (.aload_n 0, 1) := by decide +kernel
theorem d8_1 : decode jdk_32_method_2_code 1 = .ok (.invokespecial 7, 3) := by decide +kernel
theorem d8_4 : decode jdk_32_method_2_code 4 = .ok (.aload_n 0, 1) := by decide +kernel
theorem d8_5 : decode jdk_32_method_2_code 5 = .ok (.aload_n 1, 1) := by decide +kernel
theorem d8_6 : decode jdk_32_method_2_code 6 = .ok (.putfield 13, 3) := by decide +kernel
theorem d8_9 : decode jdk_32_method_2_code 9 = .ok (.return_, 1) := by decide +kernel
theorem d10_0 : decode jdk_32_method_5_code 0 = .ok (.aload_n 0, 1) := by decide +kernel
theorem d10_1 : decode jdk_32_method_5_code 1 = .ok (.getfield 13, 3) := by decide +kernel
theorem d10_4 : decode jdk_32_method_5_code 4 = .ok (.ifnonnull 13, 3) := by decide +kernel
theorem d10_17 : decode jdk_32_method_5_code 17 = .ok (.aload_n 0, 1) := by decide +kernel
theorem d10_18 : decode jdk_32_method_5_code 18 = .ok (.getfield 13, 3) := by decide +kernel
theorem d10_21 : decode jdk_32_method_5_code 21 = .ok (.areturn, 1) := by decide +kernel
theorem own_pnL : plainName "com/example/chartleaf/chartleaf/model/PermissionOfPinLaw" = true := by first | (simp [plainName, overriddenIn]; done) | decide +kernel
theorem own_pnP : plainName "com/example/chartleaf/chartleaf/model/Permission" = true := by first | (simp [plainName, overriddenIn]; done) | decide +kernel
theorem own_pnO : plainName "java/util/Optional" = true := by first | (simp [plainName, overriddenIn]; done) | decide +kernel
theorem own_pnB : plainName "java/util/Objects" = true := by first | (simp [plainName, overriddenIn]; done) | decide +kernel
theorem own_pdOF : parseMethodDescriptor "(C)Ljava/util/Optional;" = some ⟨[.char], some (.object "java/util/Optional")⟩ := by decide +kernel
theorem own_pdVAL : parseMethodDescriptor "()[Lcom/example/chartleaf/chartleaf/model/Permission;" = some ⟨[], some (.array (.object "com/example/chartleaf/chartleaf/model/Permission"))⟩ := by decide +kernel
theorem own_pdEMP : parseMethodDescriptor "()Ljava/util/Optional;" = some ⟨[], some (.object "java/util/Optional")⟩ := by decide +kernel
theorem own_pdEXP : parseMethodDescriptor "(C)Lcom/example/chartleaf/chartleaf/model/Permission;" = some ⟨[.char], some (.object "com/example/chartleaf/chartleaf/model/Permission")⟩ := by decide +kernel
theorem own_pdPRE : parseMethodDescriptor "()Z" = some ⟨[], some .boolean⟩ := by decide +kernel
theorem own_pdOOF : parseMethodDescriptor "(Ljava/lang/Object;)Ljava/util/Optional;" = some ⟨[(.object "java/lang/Object")], some (.object "java/util/Optional")⟩ := by decide +kernel
theorem own_pdRNN : parseMethodDescriptor "(Ljava/lang/Object;)Ljava/lang/Object;" = some ⟨[(.object "java/lang/Object")], some (.object "java/lang/Object")⟩ := by decide +kernel
theorem own_pdINI : parseMethodDescriptor "(Ljava/lang/Object;)V" = some ⟨[(.object "java/lang/Object")], none⟩ := by decide +kernel
theorem own_pdGET : parseMethodDescriptor "()Ljava/lang/Object;" = some ⟨[], some (.object "java/lang/Object")⟩ := by decide +kernel
theorem ef_L (m : MethodId) (x0 : Int32) (x1 : Int32) : entryFrame m #[(.int x0), (.int x1)] maxLocals = mkF m 0 #[.val (.int x0), .val (.int x1), .unset, .unset, .unset] [] := by first | (simp [entryFrame, mkF, argsToLocals, Value.category, maxLocals]; done) | rfl
theorem ef_OF (m : MethodId) (x0 : Int32) : entryFrame m #[(.int x0)] 5 = mkF m 0 #[.val (.int x0), .unset, .unset, .unset, .unset] [] := by first | (simp [entryFrame, mkF, argsToLocals, Value.category]; done) | rfl
theorem ef_VAL (m : MethodId) : entryFrame m #[] 0 = mkF m 0 #[] [] := by first | (simp [entryFrame, mkF, argsToLocals, Value.category]; done) | rfl
theorem ef_EMP (m : MethodId) : entryFrame m #[] 1 = mkF m 0 #[.unset] [] := by first | (simp [entryFrame, mkF, argsToLocals, Value.category]; done) | rfl
theorem ef_I1 (m : MethodId) (x0 : Int32) : entryFrame m #[(.int x0)] 1 = mkF m 0 #[.val (.int x0)] [] := by first | (simp [entryFrame, mkF, argsToLocals, Value.category]; done) | rfl
theorem ef_R1 (m : MethodId) (x0 : Addr) : entryFrame m #[(.ref x0)] 1 = mkF m 0 #[.val (.ref x0)] [] := by first | (simp [entryFrame, mkF, argsToLocals, Value.category]; done) | rfl
theorem ef_RR (m : MethodId) (x0 : Addr) (x1 : Addr) : entryFrame m #[(.ref x0), (.ref x1)] 2 = mkF m 0 #[.val (.ref x0), .val (.ref x1)] [] := by first | (simp [entryFrame, mkF, argsToLocals, Value.category]; done) | rfl
def own_val (x0 x1 x2 x3 x4 : Addr) (k : Int32) : Value := if k = 99 then .ref x0 else if k = 114 then .ref x1 else if k = 117 then .ref x2 else if k = 100 then .ref x3 else if k = 115 then .ref x4 else .null
theorem own_vr (x0 x1 x2 x3 x4 : Addr) (k : Int32) : (own_val x0 x1 x2 x3 x4 k).isRef = true := by
  unfold own_val
  repeat' split
  all_goals rfl
abbrev own_R0 : Room := { frames := 0, cells := 0, slots := 0, locals := 0 }
abbrev own_RI : Room := { frames := 1, cells := 0, slots := 0, locals := 12 }
abbrev own_RO : Room := { frames := 2, cells := 1, slots := 1, locals := 26 }
abbrev own_RV : Room := { frames := 1, cells := 1, slots := 5, locals := 14 }
abbrev own_RP : Room := { frames := 3, cells := 2, slots := 6, locals := 38 }
set_option maxRecDepth 65536 in
set_option maxHeartbeats 40000000 in
theorem rmRNN (l : Launch) (Z : State) (a0 : Array Value) (hw : ∀ d ∈ tables_1, d.before a0 Z = true) (ws : List Jvm.Cond) (a : Addr) (h0 : Heap) :
    OwnCtr l (⟨"java/util/Objects", "requireNonNull", "(Ljava/lang/Object;)Ljava/lang/Object;"⟩ : MethodName) jdk_31_method_10_code 1 (some (.object "java/lang/Object")) ws own_R0 Z #[(.ref a)] h0 (fun v h L => v = some (.ref a) ∧ h = h0 ∧ L = []) := by
  refine own_body own_pnB ?_
  intro p e s m below meth c s₁ X0 hx hby hml hown hnm hret hlk hZ e0
  refine own_go (fun _ k => castTop (ef_R1 m a) k) ?_
  show Run p.tables e below (s₁.setTop (mkF m 0 #[.val (.ref a)] [])) _
  refine own_go (fun _ => XS.aloadN X0.here hx rfl (hb hby d7_0) rfl rfl) ?_
  show Run p.tables e below (s₁.setTop (mkF m 1 #[.val (.ref a)] [(.ref a)])) _
  refine own_go (fun _ => XT.ifnonnullYes X0.here hx rfl (pc0 := 1) (pc' := 12) rfl (hb hby d7_1) rfl (by decide) (by decide)) ?_
  show Run p.tables e below (s₁.setTop (mkF m 12 #[.val (.ref a)] [])) _
  refine own_go (fun _ => XS.aloadN X0.here hx rfl (hb hby d7_12) rfl rfl) ?_
  show Run p.tables e below (s₁.setTop (mkF m 13 #[.val (.ref a)] [(.ref a)])) _
  exact own_out X0 (v := some (.ref a)) (fun q => by rw [hret] at q; cases q) hlk (fun fs hr => X0.areturnOut hx rfl hret rfl (hb hby d7_13) hr) ⟨rfl, e0, rfl⟩ (by decide) (by decide)
def own_QI (Z : State) (a b : Addr) (h0 : Heap) (n0 : Nat) (v : Option Value) (h : Heap) (L : List Loc) : Prop := v = none ∧ Fr n0 L ∧ Wr h0 h a (Jvm.RoadKit.slotOf Z "java/util/Optional" "value" "Ljava/lang/Object;") (.ref b) ∧ Fld Z h a "java/util/Optional" "value" "Ljava/lang/Object;" (.ref b)
set_option maxRecDepth 65536 in
set_option maxHeartbeats 40000000 in
theorem rmINI (l : Launch) (Z : State) (a0 : Array Value) (hw : ∀ d ∈ tables_1, d.before a0 Z = true) (ws : List Jvm.Cond) (a b : Addr) (h0 : Heap) (n0 : Nat) (ge : n0 ≤ a) (E0 : Exa Z h0 a "java/util/Optional") (F0 : Fld Z h0 a "java/util/Optional" "value" "Ljava/lang/Object;" .null) :
    OwnCtr l (⟨"java/util/Optional", "<init>", "(Ljava/lang/Object;)V"⟩ : MethodName) jdk_32_method_2_code 2 none ws own_RI Z #[(.ref a), (.ref b)] h0 (own_QI Z a b h0 n0) := by
  refine own_body own_pnO ?_
  intro p e s m below meth c s₁ X0 hx hby hml hown hnm hret hlk hZ e0
  refine own_go (fun _ k => castTop (ef_RR m a b) k) ?_
  show Run p.tables e below (s₁.setTop (mkF m 0 #[.val (.ref a), .val (.ref b)] [])) _
  refine own_go (fun _ => XS.aloadN X0.here hx rfl (hb hby d8_0) rfl rfl) ?_
  show Run p.tables e below (s₁.setTop (mkF m 1 #[.val (.ref a), .val (.ref b)] [(.ref a)])) _
  obtain ⟨T1, X1, e1, st1⟩ := initO X0 hx hZ hown (hw _ (List.mem_of_getElem? (i := 57) rfl)) (hw _ (List.mem_of_getElem? (i := 58) rfl)) (hw _ (List.mem_of_getElem? (i := 59) rfl)) e0 (g := (mkF m 1 #[.val (.ref a), .val (.ref b)] [(.ref a)])) rfl (by rw [hml]; rfl) rfl (hb hby d8_1) (by decide) (W := 0) (by show 2 * 0 + _ ≤ _; exact Nat.le_of_eq rfl) (by decide)
  refine own_go st1 ?_
  show Run p.tables e below (T1.setTop (mkF m 4 #[.val (.ref a), .val (.ref b)] [])) _
  refine own_go (fun _ => XS.aloadN X1.here hx rfl (hb hby d8_4) rfl rfl) ?_
  show Run p.tables e below (T1.setTop (mkF m 5 #[.val (.ref a), .val (.ref b)] [(.ref a)])) _
  refine own_go (fun _ => XS.aloadN X1.here hx rfl (hb hby d8_5) rfl rfl) ?_
  show Run p.tables e below (T1.setTop (mkF m 6 #[.val (.ref a), .val (.ref b)] [(.ref b), (.ref a)])) _
  obtain ⟨T2, h2, X2, e2, W2, st2⟩ := putF X1 hx hZ hown (host := "") (Or.inl (hw _ (List.mem_of_getElem? (i := 41) rfl))) Via.refl e1 F0 E0 (Or.inr ⟨(hw _ (List.mem_of_getElem? (i := 42) rfl)), rfl, hnm⟩) (hw _ (List.mem_of_getElem? (i := 48) rfl)) (ty := (.object "java/lang/Object")) (by decide) rfl rfl (g := (mkF m 6 #[.val (.ref a), .val (.ref b)] [(.ref b), (.ref a)])) rfl rfl (hb hby d8_6)
  refine own_go st2 ?_
  show Run p.tables e below (T2.setTop (mkF m 9 #[.val (.ref a), .val (.ref b)] [])) _
  subst e2
  exact own_out X2 (v := none) (fun _ => rfl) hlk (fun fs hr => X2.returnOut hx hret (hb hby d8_9) hr) ⟨rfl, Fr.snoc X2 (Fr.nil n0) ge, W2, F0.same W2⟩ (by decide) (by decide)
def own_QO (Z : State) (b : Addr) (h0 : Heap) (n0 : Nat) (v : Option Value) (h : Heap) (L : List Loc) : Prop := ∃ r, v = some (.ref r) ∧ Fr n0 L ∧ Ext h0 h ∧ Exa Z h r "java/util/Optional" ∧ Fld Z h r "java/util/Optional" "value" "Ljava/lang/Object;" (.ref b)
set_option maxRecDepth 65536 in
set_option maxHeartbeats 40000000 in
theorem rmOOF (l : Launch) (Z : State) (a0 : Array Value) (hw : ∀ d ∈ tables_1, d.before a0 Z = true) (ws : List Jvm.Cond) (b : Addr) (h0 : Heap) (n0 : Nat) (Z0 : n0 ≤ h0.size) :
    OwnCtr l (⟨"java/util/Optional", "of", "(Ljava/lang/Object;)Ljava/util/Optional;"⟩ : MethodName) jdk_32_method_3_code 1 (some (.object "java/util/Optional")) ws own_RO Z #[(.ref b)] h0 (own_QO Z b h0 n0) := by
  refine own_body own_pnO ?_
  intro p e s m below meth c s₁ X0 hx hby hml hown hnm hret hlk hZ e0
  refine own_go (fun _ k => castTop (ef_R1 m b) k) ?_
  show Run p.tables e below (s₁.setTop (mkF m 0 #[.val (.ref b)] [])) _
  obtain ⟨TN, hN, XN, eN, EN, AN, DN, -, stN⟩ := newO X0 hx hZ hown (hw _ (List.mem_of_getElem? (i := 47) rfl)) (hw _ (List.mem_of_getElem? (i := 48) rfl)) (hw _ (List.mem_of_getElem? (i := 29) rfl)) e0 (g := (mkF m 0 #[.val (.ref b)] [])) rfl (hb hby d6_0) (by decide) (by decide)
  obtain ⟨r, gr⟩ : ∃ z, z = h0.size := ⟨_, rfl⟩
  rw [← gr] at AN DN stN
  have FN : Fld Z hN r "java/util/Optional" "value" "Ljava/lang/Object;" .null := DN (Or.inr (hw _ (List.mem_of_getElem? (i := 42) rfl))) (ty := (.object "java/lang/Object")) (by decide)
  refine own_go stN ?_
  show Run p.tables e below (TN.setTop (mkF m 3 #[.val (.ref b)] [(.ref r)])) _
  refine own_go (fun _ => XS.dup XN.here hx rfl (hb hby d6_3) rfl rfl) ?_
  show Run p.tables e below (TN.setTop (mkF m 4 #[.val (.ref b)] [(.ref r), (.ref r)])) _
  refine own_go (fun _ => XS.aloadN XN.here hx rfl (hb hby d6_4) rfl rfl) ?_
  show Run p.tables e below (TN.setTop (mkF m 5 #[.val (.ref b)] [(.ref b), (.ref r), (.ref r)])) _
  obtain ⟨vk1, Tk1, Lk1, Xk1, ⟨rfl, ek1, rfl⟩, stk1⟩ := own_callS XN hx hZ hown (hw _ (List.mem_of_getElem? (i := 49) rfl)) (hw _ (List.mem_of_getElem? (i := 50) rfl)) (hw _ (List.mem_of_getElem? (i := 52) rfl)) (hw _ (List.mem_of_getElem? (i := 51) rfl)) (by decide) eN (rmRNN l Z a0 hw [] b hN) (g := (mkF m 5 #[.val (.ref b)] [(.ref b), (.ref r), (.ref r)])) rfl (by rw [hml]; rfl) (argsL := [(.ref b)]) (rest := [(.ref r), (.ref r)]) own_pdRNN rfl rfl rfl (W := 2) (by show 2 * 0 + _ ≤ _; exact Nat.le_of_eq rfl) (hb hby d6_5) (by decide) (by decide) (by decide) (by decide)
  refine own_go stk1 ?_
  show Run p.tables e below (Tk1.setTop (mkF m 8 #[.val (.ref b)] [(.ref b), (.ref r), (.ref r)])) _
  obtain ⟨vk2, Tk2, Lk2, Xk2, ⟨rfl, NI, WI, FI⟩, stk2⟩ := own_callI Xk1 hx hZ hown rfl (hw _ (List.mem_of_getElem? (i := 53) rfl)) (hw _ (List.mem_of_getElem? (i := 54) rfl)) (hw _ (List.mem_of_getElem? (i := 56) rfl)) (hw _ (List.mem_of_getElem? (i := 29) rfl)) (by decide) ek1 (rmINI l Z a0 hw [] r b hN n0 (Nat.le_trans Z0 (Nat.le_of_eq gr.symm)) AN FN) (b := r) (g := (mkF m 8 #[.val (.ref b)] [(.ref b), (.ref r), (.ref r)])) rfl (by rw [hml]; rfl) (argsL := [(.ref b)]) (rest := [(.ref r)]) own_pdINI rfl rfl rfl (W := 1) (by show 2 * 0 + _ ≤ _; exact Nat.le_of_eq rfl) (hb hby d6_8) (by decide) (by decide) (by decide) (by decide)
  refine own_go stk2 ?_
  show Run p.tables e below (Tk2.setTop (mkF m 11 #[.val (.ref b)] [(.ref r)])) _
  exact own_out Xk2 (v := some (.ref r)) (fun q => by rw [hret] at q; cases q) hlk (fun fs hr => Xk2.areturnOut hx rfl hret rfl (hb hby d6_11) hr) ⟨r, rfl, (by simpa using NI), own_extwr EN WI (Nat.le_of_eq gr.symm), AN.wr WI, FI⟩ (by decide) (by decide)
set_option maxRecDepth 65536 in
set_option maxHeartbeats 40000000 in
theorem rmEMP (l : Launch) (Z : State) (a0 : Array Value) (hw : ∀ d ∈ tables_1, d.before a0 Z = true) (ws : List Jvm.Cond) (r : Addr) (h0 : Heap) (S : Sta Z h0 "java/util/Optional" "EMPTY" "Ljava/util/Optional;" (.ref r)) :
    OwnCtr l (⟨"java/util/Optional", "empty", "()Ljava/util/Optional;"⟩ : MethodName) jdk_32_method_1_code 1 (some (.object "java/util/Optional")) ws own_R0 Z #[] h0 (fun v h L => v = some (.ref r) ∧ h = h0 ∧ L = []) := by
  refine own_body own_pnO ?_
  intro p e s m below meth c s₁ X0 hx hby hml hown hnm hret hlk hZ e0
  refine own_go (fun _ k => castTop (ef_EMP m) k) ?_
  show Run p.tables e below (s₁.setTop (mkF m 0 #[.unset] [])) _
  obtain ⟨Tk1, Xk1, ek1, stk1⟩ := getS X0 hx hZ hown (host := "") (hw _ (List.mem_of_getElem? (i := 31) rfl)) Via.refl e0 S (g := (mkF m 0 #[.unset] [])) rfl (hb hby d3_0)
  refine own_go stk1 ?_
  show Run p.tables e below (Tk1.setTop (mkF m 3 #[.unset] [(.ref r)])) _
  refine own_go (fun _ => XS.astoreN Xk1.here hx rfl (hb hby d3_3) rfl rfl (l' := #[.val (.ref r)]) rfl) ?_
  show Run p.tables e below (Tk1.setTop (mkF m 4 #[.val (.ref r)] [])) _
  refine own_go (fun _ => XS.aloadN Xk1.here hx rfl (hb hby d3_4) rfl rfl) ?_
  show Run p.tables e below (Tk1.setTop (mkF m 5 #[.val (.ref r)] [(.ref r)])) _
  exact own_out Xk1 (v := some (.ref r)) (fun q => by rw [hret] at q; cases q) hlk (fun fs hr => Xk1.areturnOut hx rfl hret rfl (hb hby d3_5) hr) ⟨rfl, ek1, rfl⟩ (by decide) (by decide)
set_option maxRecDepth 65536 in
set_option maxHeartbeats 40000000 in
theorem rmPREn (l : Launch) (Z : State) (a0 : Array Value) (hw : ∀ d ∈ tables_1, d.before a0 Z = true) (ws : List Jvm.Cond) (a y : Addr) (h0 : Heap) (F : Fld Z h0 a "java/util/Optional" "value" "Ljava/lang/Object;" .null) :
    OwnCtr l (⟨"java/util/Optional", "isPresent", "()Z"⟩ : MethodName) jdk_32_method_6_code 1 (some .boolean) ws own_R0 Z #[(.ref a)] h0 ((fun v h L => v = some (.int 0) ∧ h = h0 ∧ L = [])) := by
  refine own_body own_pnO ?_
  intro p e s m below meth c s₁ X0 hx hby hml hown hnm hret hlk hZ e0
  refine own_go (fun _ k => castTop (ef_R1 m a) k) ?_
  show Run p.tables e below (s₁.setTop (mkF m 0 #[.val (.ref a)] [])) _
  refine own_go (fun _ => XS.aloadN X0.here hx rfl (hb hby d5_0) rfl rfl) ?_
  show Run p.tables e below (s₁.setTop (mkF m 1 #[.val (.ref a)] [(.ref a)])) _
  obtain ⟨Tk1, Xk1, ek1, stk1⟩ := getF X0 hx hZ hown (host := "") (Or.inl (hw _ (List.mem_of_getElem? (i := 41) rfl))) Via.refl e0 F (g := (mkF m 1 #[.val (.ref a)] [(.ref a)])) rfl rfl (hb hby d5_1)
  refine own_go stk1 ?_
  show Run p.tables e below (Tk1.setTop (mkF m 4 #[.val (.ref a)] [.null])) _
  refine own_go (fun _ => XS.ifnullYes Xk1.here hx rfl (pc0 := 4) (pc' := 11) rfl (hb hby d5_4) rfl (by decide) (by decide)) ?_
  show Run p.tables e below (Tk1.setTop (mkF m 11 #[.val (.ref a)] [])) _
  refine own_go (fun _ => XS.iconst Xk1.here hx rfl (hb hby d5_11)) ?_
  show Run p.tables e below (Tk1.setTop (mkF m 12 #[.val (.ref a)] [(.int (0 : Int32))])) _
  exact own_out Xk1 (v := some (.int (0 : Int32))) (fun q => by rw [hret] at q; cases q) hlk (fun fs hr => retN Xk1 hx (t := .boolean) hret (by simp) (hb hby d5_12) hr) ⟨rfl, ek1, rfl⟩ (by decide) (by decide)
set_option maxRecDepth 65536 in
set_option maxHeartbeats 40000000 in
theorem rmPREr (l : Launch) (Z : State) (a0 : Array Value) (hw : ∀ d ∈ tables_1, d.before a0 Z = true) (ws : List Jvm.Cond) (a y : Addr) (h0 : Heap) (F : Fld Z h0 a "java/util/Optional" "value" "Ljava/lang/Object;" (.ref y)) :
    OwnCtr l (⟨"java/util/Optional", "isPresent", "()Z"⟩ : MethodName) jdk_32_method_6_code 1 (some .boolean) ws own_R0 Z #[(.ref a)] h0 ((fun v h L => v = some (.int 1) ∧ h = h0 ∧ L = [])) := by
  refine own_body own_pnO ?_
  intro p e s m below meth c s₁ X0 hx hby hml hown hnm hret hlk hZ e0
  refine own_go (fun _ k => castTop (ef_R1 m a) k) ?_
  show Run p.tables e below (s₁.setTop (mkF m 0 #[.val (.ref a)] [])) _
  refine own_go (fun _ => XS.aloadN X0.here hx rfl (hb hby d5_0) rfl rfl) ?_
  show Run p.tables e below (s₁.setTop (mkF m 1 #[.val (.ref a)] [(.ref a)])) _
  obtain ⟨Tk1, Xk1, ek1, stk1⟩ := getF X0 hx hZ hown (host := "") (Or.inl (hw _ (List.mem_of_getElem? (i := 41) rfl))) Via.refl e0 F (g := (mkF m 1 #[.val (.ref a)] [(.ref a)])) rfl rfl (hb hby d5_1)
  refine own_go stk1 ?_
  show Run p.tables e below (Tk1.setTop (mkF m 4 #[.val (.ref a)] [(.ref y)])) _
  refine own_go (fun _ => XS.ifnullNo Xk1.here hx rfl (hb hby d5_4) rfl) ?_
  show Run p.tables e below (Tk1.setTop (mkF m 7 #[.val (.ref a)] [])) _
  refine own_go (fun _ => XS.iconst Xk1.here hx rfl (hb hby d5_7)) ?_
  show Run p.tables e below (Tk1.setTop (mkF m 8 #[.val (.ref a)] [(.int (1 : Int32))])) _
  refine own_go (fun _ => XS.goto Xk1.here hx rfl (pc0 := 8) (pc' := 12) rfl (hb hby d5_8) (by decide) (by decide)) ?_
  show Run p.tables e below (Tk1.setTop (mkF m 12 #[.val (.ref a)] [(.int (1 : Int32))])) _
  exact own_out Xk1 (v := some (.int (1 : Int32))) (fun q => by rw [hret] at q; cases q) hlk (fun fs hr => retN Xk1 hx (t := .boolean) hret (by simp) (hb hby d5_12) hr) ⟨rfl, ek1, rfl⟩ (by decide) (by decide)
set_option maxRecDepth 65536 in
set_option maxHeartbeats 40000000 in
theorem rmGET (l : Launch) (Z : State) (a0 : Array Value) (hw : ∀ d ∈ tables_1, d.before a0 Z = true) (ws : List Jvm.Cond) (a y : Addr) (h0 : Heap) (F : Fld Z h0 a "java/util/Optional" "value" "Ljava/lang/Object;" (.ref y)) :
    OwnCtr l (⟨"java/util/Optional", "get", "()Ljava/lang/Object;"⟩ : MethodName) jdk_32_method_5_code 1 (some (.object "java/lang/Object")) ws own_R0 Z #[(.ref a)] h0 (fun v h L => v = some (.ref y) ∧ h = h0 ∧ L = []) := by
  refine own_body own_pnO ?_
  intro p e s m below meth c s₁ X0 hx hby hml hown hnm hret hlk hZ e0
  refine own_go (fun _ k => castTop (ef_R1 m a) k) ?_
  show Run p.tables e below (s₁.setTop (mkF m 0 #[.val (.ref a)] [])) _
  refine own_go (fun _ => XS.aloadN X0.here hx rfl (hb hby d10_0) rfl rfl) ?_
  show Run p.tables e below (s₁.setTop (mkF m 1 #[.val (.ref a)] [(.ref a)])) _
  obtain ⟨Tk1, Xk1, ek1, stk1⟩ := getF X0 hx hZ hown (host := "") (Or.inl (hw _ (List.mem_of_getElem? (i := 41) rfl))) Via.refl e0 F (g := (mkF m 1 #[.val (.ref a)] [(.ref a)])) rfl rfl (hb hby d10_1)
  refine own_go stk1 ?_
  show Run p.tables e below (Tk1.setTop (mkF m 4 #[.val (.ref a)] [(.ref y)])) _
  refine own_go (fun _ => XT.ifnonnullYes Xk1.here hx rfl (pc0 := 4) (pc' := 17) rfl (hb hby d10_4) rfl (by decide) (by decide)) ?_
  show Run p.tables e below (Tk1.setTop (mkF m 17 #[.val (.ref a)] [])) _
  refine own_go (fun _ => XS.aloadN Xk1.here hx rfl (hb hby d10_17) rfl rfl) ?_
  show Run p.tables e below (Tk1.setTop (mkF m 18 #[.val (.ref a)] [(.ref a)])) _
  obtain ⟨Tk2, Xk2, ek2, stk2⟩ := getF Xk1 hx hZ hown (host := "") (Or.inl (hw _ (List.mem_of_getElem? (i := 41) rfl))) Via.refl ek1 F (g := (mkF m 18 #[.val (.ref a)] [(.ref a)])) rfl rfl (hb hby d10_18)
  refine own_go stk2 ?_
  show Run p.tables e below (Tk2.setTop (mkF m 21 #[.val (.ref a)] [(.ref y)])) _
  exact own_out Xk2 (v := some (.ref y)) (fun q => by rw [hret] at q; cases q) hlk (fun fs hr => Xk2.areturnOut hx rfl hret rfl (hb hby d10_21) hr) ⟨rfl, ek2, rfl⟩ (by decide) (by decide)
set_option maxRecDepth 65536 in
set_option maxHeartbeats 40000000 in
theorem rmEXP (l : Launch) (Z : State) (a0 : Array Value) (hw : ∀ d ∈ tables_1, d.before a0 Z = true) (ws : List Jvm.Cond) (k : Int32) (x0 x1 x2 x3 x4 : Addr) (h0 : Heap) (S_CREATE : Sta Z h0 "com/example/chartleaf/chartleaf/model/Permission" "CREATE" "Lcom/example/chartleaf/chartleaf/model/Permission;" (.ref x0)) (S_READ : Sta Z h0 "com/example/chartleaf/chartleaf/model/Permission" "READ" "Lcom/example/chartleaf/chartleaf/model/Permission;" (.ref x1)) (S_UPDATE : Sta Z h0 "com/example/chartleaf/chartleaf/model/Permission" "UPDATE" "Lcom/example/chartleaf/chartleaf/model/Permission;" (.ref x2)) (S_DELETE : Sta Z h0 "com/example/chartleaf/chartleaf/model/Permission" "DELETE" "Lcom/example/chartleaf/chartleaf/model/Permission;" (.ref x3)) (S_SEARCH : Sta Z h0 "com/example/chartleaf/chartleaf/model/Permission" "SEARCH" "Lcom/example/chartleaf/chartleaf/model/Permission;" (.ref x4)) :
    OwnCtr l (⟨"com/example/chartleaf/chartleaf/model/PermissionOfPinLaw", "expected", "(C)Lcom/example/chartleaf/chartleaf/model/Permission;"⟩ : MethodName) method_2_code 1 (some (.object "com/example/chartleaf/chartleaf/model/Permission")) ws own_R0 Z #[(.int k)] h0 ((fun v h L => v = some (own_val x0 x1 x2 x3 x4 k) ∧ h = h0 ∧ L = [])) := by
  refine own_body own_pnL ?_
  intro p e s m below meth c s₁ X0 hx hby hml hown hnm hret hlk hZ e0
  refine own_go (fun _ k => castTop (ef_I1 m _) k) ?_
  show Run p.tables e below (s₁.setTop (mkF m 0 #[.val (.int k)] [])) _
  refine own_go (fun _ => XS.iloadN X0.here hx rfl (hb hby d4_0) rfl) ?_
  show Run p.tables e below (s₁.setTop (mkF m 1 #[.val (.int k)] [(.int k)])) _
  refine own_go (fun _ => XS.bipush X0.here hx rfl (hb hby d4_1)) ?_
  show Run p.tables e below (s₁.setTop (mkF m 3 #[.val (.int k)] [(.int (99 : Int32)), (.int k)])) _
  by_cases q0 : k = 99
  · show Run p.tables e below (s₁.setTop (mkF m 3 #[.val (.int k)] [(.int (99 : Int32)), (.int k)])) _
    refine own_go (fun _ => XS.icmpNo X0.here hx rfl (hb hby d4_3) rfl (XT.ii_ne_f q0)) ?_
    show Run p.tables e below (s₁.setTop (mkF m 6 #[.val (.int k)] [])) _
    obtain ⟨Tk1, Xk1, ek1, stk1⟩ := getS X0 hx hZ hown (host := "") (hw _ (List.mem_of_getElem? (i := 67) rfl)) Via.refl e0 S_CREATE (g := (mkF m 6 #[.val (.int k)] [])) rfl (hb hby d4_6)
    refine own_go stk1 ?_
    show Run p.tables e below (Tk1.setTop (mkF m 9 #[.val (.int k)] [(.ref x0)])) _
    exact own_out Xk1 (v := some (.ref x0)) (fun q => by rw [hret] at q; cases q) hlk (fun fs hr => Xk1.areturnOut hx rfl hret rfl (hb hby d4_9) hr) ⟨(by rw [own_val, if_pos q0]), ek1, rfl⟩ (by decide) (by decide)
  · show Run p.tables e below (s₁.setTop (mkF m 3 #[.val (.int k)] [(.int (99 : Int32)), (.int k)])) _
    refine own_go (fun _ => XS.icmpYes X0.here hx rfl (pc0 := 3) (pc' := 10) rfl (hb hby d4_3) rfl (XT.ii_ne_t q0) (by decide) (by decide)) ?_
    show Run p.tables e below (s₁.setTop (mkF m 10 #[.val (.int k)] [])) _
    refine own_go (fun _ => XS.iloadN X0.here hx rfl (hb hby d4_10) rfl) ?_
    show Run p.tables e below (s₁.setTop (mkF m 11 #[.val (.int k)] [(.int k)])) _
    refine own_go (fun _ => XS.bipush X0.here hx rfl (hb hby d4_11)) ?_
    show Run p.tables e below (s₁.setTop (mkF m 13 #[.val (.int k)] [(.int (114 : Int32)), (.int k)])) _
    by_cases q1 : k = 114
    · show Run p.tables e below (s₁.setTop (mkF m 13 #[.val (.int k)] [(.int (114 : Int32)), (.int k)])) _
      refine own_go (fun _ => XS.icmpNo X0.here hx rfl (hb hby d4_13) rfl (XT.ii_ne_f q1)) ?_
      show Run p.tables e below (s₁.setTop (mkF m 16 #[.val (.int k)] [])) _
      obtain ⟨Tk2, Xk2, ek2, stk2⟩ := getS X0 hx hZ hown (host := "") (hw _ (List.mem_of_getElem? (i := 69) rfl)) Via.refl e0 S_READ (g := (mkF m 16 #[.val (.int k)] [])) rfl (hb hby d4_16)
      refine own_go stk2 ?_
      show Run p.tables e below (Tk2.setTop (mkF m 19 #[.val (.int k)] [(.ref x1)])) _
      exact own_out Xk2 (v := some (.ref x1)) (fun q => by rw [hret] at q; cases q) hlk (fun fs hr => Xk2.areturnOut hx rfl hret rfl (hb hby d4_19) hr) ⟨(by rw [own_val, if_neg q0, if_pos q1]), ek2, rfl⟩ (by decide) (by decide)
    · show Run p.tables e below (s₁.setTop (mkF m 13 #[.val (.int k)] [(.int (114 : Int32)), (.int k)])) _
      refine own_go (fun _ => XS.icmpYes X0.here hx rfl (pc0 := 13) (pc' := 20) rfl (hb hby d4_13) rfl (XT.ii_ne_t q1) (by decide) (by decide)) ?_
      show Run p.tables e below (s₁.setTop (mkF m 20 #[.val (.int k)] [])) _
      refine own_go (fun _ => XS.iloadN X0.here hx rfl (hb hby d4_20) rfl) ?_
      show Run p.tables e below (s₁.setTop (mkF m 21 #[.val (.int k)] [(.int k)])) _
      refine own_go (fun _ => XS.bipush X0.here hx rfl (hb hby d4_21)) ?_
      show Run p.tables e below (s₁.setTop (mkF m 23 #[.val (.int k)] [(.int (117 : Int32)), (.int k)])) _
      by_cases q2 : k = 117
      · show Run p.tables e below (s₁.setTop (mkF m 23 #[.val (.int k)] [(.int (117 : Int32)), (.int k)])) _
        refine own_go (fun _ => XS.icmpNo X0.here hx rfl (hb hby d4_23) rfl (XT.ii_ne_f q2)) ?_
        show Run p.tables e below (s₁.setTop (mkF m 26 #[.val (.int k)] [])) _
        obtain ⟨Tk3, Xk3, ek3, stk3⟩ := getS X0 hx hZ hown (host := "") (hw _ (List.mem_of_getElem? (i := 68) rfl)) Via.refl e0 S_UPDATE (g := (mkF m 26 #[.val (.int k)] [])) rfl (hb hby d4_26)
        refine own_go stk3 ?_
        show Run p.tables e below (Tk3.setTop (mkF m 29 #[.val (.int k)] [(.ref x2)])) _
        exact own_out Xk3 (v := some (.ref x2)) (fun q => by rw [hret] at q; cases q) hlk (fun fs hr => Xk3.areturnOut hx rfl hret rfl (hb hby d4_29) hr) ⟨(by rw [own_val, if_neg q0, if_neg q1, if_pos q2]), ek3, rfl⟩ (by decide) (by decide)
      · show Run p.tables e below (s₁.setTop (mkF m 23 #[.val (.int k)] [(.int (117 : Int32)), (.int k)])) _
        refine own_go (fun _ => XS.icmpYes X0.here hx rfl (pc0 := 23) (pc' := 30) rfl (hb hby d4_23) rfl (XT.ii_ne_t q2) (by decide) (by decide)) ?_
        show Run p.tables e below (s₁.setTop (mkF m 30 #[.val (.int k)] [])) _
        refine own_go (fun _ => XS.iloadN X0.here hx rfl (hb hby d4_30) rfl) ?_
        show Run p.tables e below (s₁.setTop (mkF m 31 #[.val (.int k)] [(.int k)])) _
        refine own_go (fun _ => XS.bipush X0.here hx rfl (hb hby d4_31)) ?_
        show Run p.tables e below (s₁.setTop (mkF m 33 #[.val (.int k)] [(.int (100 : Int32)), (.int k)])) _
        by_cases q3 : k = 100
        · show Run p.tables e below (s₁.setTop (mkF m 33 #[.val (.int k)] [(.int (100 : Int32)), (.int k)])) _
          refine own_go (fun _ => XS.icmpNo X0.here hx rfl (hb hby d4_33) rfl (XT.ii_ne_f q3)) ?_
          show Run p.tables e below (s₁.setTop (mkF m 36 #[.val (.int k)] [])) _
          obtain ⟨Tk4, Xk4, ek4, stk4⟩ := getS X0 hx hZ hown (host := "") (hw _ (List.mem_of_getElem? (i := 60) rfl)) Via.refl e0 S_DELETE (g := (mkF m 36 #[.val (.int k)] [])) rfl (hb hby d4_36)
          refine own_go stk4 ?_
          show Run p.tables e below (Tk4.setTop (mkF m 39 #[.val (.int k)] [(.ref x3)])) _
          exact own_out Xk4 (v := some (.ref x3)) (fun q => by rw [hret] at q; cases q) hlk (fun fs hr => Xk4.areturnOut hx rfl hret rfl (hb hby d4_39) hr) ⟨(by rw [own_val, if_neg q0, if_neg q1, if_neg q2, if_pos q3]), ek4, rfl⟩ (by decide) (by decide)
        · show Run p.tables e below (s₁.setTop (mkF m 33 #[.val (.int k)] [(.int (100 : Int32)), (.int k)])) _
          refine own_go (fun _ => XS.icmpYes X0.here hx rfl (pc0 := 33) (pc' := 40) rfl (hb hby d4_33) rfl (XT.ii_ne_t q3) (by decide) (by decide)) ?_
          show Run p.tables e below (s₁.setTop (mkF m 40 #[.val (.int k)] [])) _
          refine own_go (fun _ => XS.iloadN X0.here hx rfl (hb hby d4_40) rfl) ?_
          show Run p.tables e below (s₁.setTop (mkF m 41 #[.val (.int k)] [(.int k)])) _
          refine own_go (fun _ => XS.bipush X0.here hx rfl (hb hby d4_41)) ?_
          show Run p.tables e below (s₁.setTop (mkF m 43 #[.val (.int k)] [(.int (115 : Int32)), (.int k)])) _
          by_cases q4 : k = 115
          · show Run p.tables e below (s₁.setTop (mkF m 43 #[.val (.int k)] [(.int (115 : Int32)), (.int k)])) _
            refine own_go (fun _ => XS.icmpNo X0.here hx rfl (hb hby d4_43) rfl (XT.ii_ne_f q4)) ?_
            show Run p.tables e below (s₁.setTop (mkF m 46 #[.val (.int k)] [])) _
            obtain ⟨Tk5, Xk5, ek5, stk5⟩ := getS X0 hx hZ hown (host := "") (hw _ (List.mem_of_getElem? (i := 66) rfl)) Via.refl e0 S_SEARCH (g := (mkF m 46 #[.val (.int k)] [])) rfl (hb hby d4_46)
            refine own_go stk5 ?_
            show Run p.tables e below (Tk5.setTop (mkF m 49 #[.val (.int k)] [(.ref x4)])) _
            exact own_out Xk5 (v := some (.ref x4)) (fun q => by rw [hret] at q; cases q) hlk (fun fs hr => Xk5.areturnOut hx rfl hret rfl (hb hby d4_49) hr) ⟨(by rw [own_val, if_neg q0, if_neg q1, if_neg q2, if_neg q3, if_pos q4]), ek5, rfl⟩ (by decide) (by decide)
          · show Run p.tables e below (s₁.setTop (mkF m 43 #[.val (.int k)] [(.int (115 : Int32)), (.int k)])) _
            refine own_go (fun _ => XS.icmpYes X0.here hx rfl (pc0 := 43) (pc' := 50) rfl (hb hby d4_43) rfl (XT.ii_ne_t q4) (by decide) (by decide)) ?_
            show Run p.tables e below (s₁.setTop (mkF m 50 #[.val (.int k)] [])) _
            refine own_go (fun _ => XS.aconstNull X0.here hx rfl (hb hby d4_50)) ?_
            show Run p.tables e below (s₁.setTop (mkF m 51 #[.val (.int k)] [.null])) _
            exact own_out X0 (v := some .null) (fun q => by rw [hret] at q; cases q) hlk (fun fs hr => X0.areturnOut hx rfl hret rfl (hb hby d4_51) hr) ⟨(by rw [own_val, if_neg q0, if_neg q1, if_neg q2, if_neg q3, if_neg q4]), e0, rfl⟩ (by decide) (by decide)
def own_QV (Z : State) (kc : ClassId) (x0 x1 x2 x3 x4 : Addr) (h0 : Heap) (v : Option Value) (h : Heap) (L : List Loc) : Prop := ∃ r, v = some (.ref r) ∧ L = [] ∧ Ext h0 h ∧ Arv Z h r kc (.object "com/example/chartleaf/chartleaf/model/Permission") 5 [.ref x0, .ref x1, .ref x2, .ref x3, .ref x4] .null
set_option maxRecDepth 65536 in
set_option maxHeartbeats 40000000 in
theorem rmVAL (l : Launch) (Z : State) (a0 : Array Value) (hw : ∀ d ∈ tables_1, d.before a0 Z = true) (ws : List Jvm.Cond) (kc : ClassId) (x0 x1 x2 x3 x4 a : Addr) (h0 : Heap) (S : Sta Z h0 "com/example/chartleaf/chartleaf/model/Permission" "$VALUES" "[Lcom/example/chartleaf/chartleaf/model/Permission;" (.ref a)) (E : Exa Z h0 a "[Lcom/example/chartleaf/chartleaf/model/Permission;") (V : Arv Z h0 a kc (.object "com/example/chartleaf/chartleaf/model/Permission") 5 [.ref x0, .ref x1, .ref x2, .ref x3, .ref x4] .null) :
    OwnCtr l (⟨"com/example/chartleaf/chartleaf/model/Permission", "values", "()[Lcom/example/chartleaf/chartleaf/model/Permission;"⟩ : MethodName) prog_19_method_1_code 0 (some (.array (.object "com/example/chartleaf/chartleaf/model/Permission"))) ws own_RV Z #[] h0 (own_QV Z kc x0 x1 x2 x3 x4 h0) := by
  refine own_body own_pnP ?_
  intro p e s m below meth c s₁ X0 hx hby hml hown hnm hret hlk hZ e0
  refine own_go (fun _ k => castTop (ef_VAL m) k) ?_
  show Run p.tables e below (s₁.setTop (mkF m 0 #[] [])) _
  obtain ⟨Tk1, Xk1, ek1, stk1⟩ := getS X0 hx hZ hown (host := "") (hw _ (List.mem_of_getElem? (i := 8) rfl)) Via.refl e0 S (g := (mkF m 0 #[] [])) rfl (hb hby d2_0)
  refine own_go stk1 ?_
  show Run p.tables e below (Tk1.setTop (mkF m 3 #[] [(.ref a)])) _
  obtain ⟨TC, hC, XC, eC, EC, VC, AC, stC⟩ := cloneH Xk1 hx hZ hown (hw _ (List.mem_of_getElem? (i := 10) rfl)) (hw _ (List.mem_of_getElem? (i := 11) rfl)) (hw _ (List.mem_of_getElem? (i := 15) rfl)) (hw _ (List.mem_of_getElem? (i := 13) rfl)) (hw _ (List.mem_of_getElem? (i := 14) rfl)) (hw _ (List.mem_of_getElem? (i := 16) rfl)) ek1 (Arv.arh V) E (g := (mkF m 3 #[] [(.ref a)])) rfl (by rw [hml]; rfl) rfl (hb hby d2_3) (by decide) (W := 0) (cap := 5) (by show 2 * 0 + _ ≤ _; exact Nat.le_of_eq rfl) (by decide) (by decide) (by decide) (by decide)
  obtain ⟨r, gr⟩ : ∃ z, z = h0.size := ⟨_, rfl⟩
  rw [← gr] at VC AC stC
  refine own_go stC ?_
  show Run p.tables e below (TC.setTop (mkF m 6 #[] [(.ref r)])) _
  obtain ⟨TD, XD, eD, stD⟩ := castY XC hx hZ hown (hw _ (List.mem_of_getElem? (i := 23) rfl)) eC (Ins.self AC) (g := (mkF m 6 #[] [(.ref r)])) rfl rfl (hb hby d2_6)
  refine own_go stD ?_
  show Run p.tables e below (TD.setTop (mkF m 9 #[] [(.ref r)])) _
  subst eD
  exact own_out XD (v := some (.ref r)) (fun q => by rw [hret] at q; cases q) hlk (fun fs hr => XD.areturnOut hx rfl hret rfl (hb hby d2_9) hr) ⟨r, rfl, rfl, EC, VC⟩ (by decide) (by decide)
def own_QP (Z : State) (u : Value) (h0 : Heap) (n0 : Nat) (v : Option Value) (h : Heap) (L : List Loc) : Prop := ∃ r, v = some (.ref r) ∧ Fr n0 L ∧ Ext h0 h ∧ Exa Z h r "java/util/Optional" ∧ Fld Z h r "java/util/Optional" "value" "Ljava/lang/Object;" u
set_option maxRecDepth 65536 in
set_option maxHeartbeats 40000000 in
theorem rmOF (l : Launch) (Z : State) (a0 : Array Value) (hw : ∀ d ∈ tables_1, d.before a0 Z = true) (ws : List Jvm.Cond) (k : Int32) (kc : ClassId) (x0 x1 x2 x3 x4 a em : Addr) (h0 : Heap) (n0 : Nat) (Z0 : n0 ≤ h0.size) (S : Sta Z h0 "com/example/chartleaf/chartleaf/model/Permission" "$VALUES" "[Lcom/example/chartleaf/chartleaf/model/Permission;" (.ref a)) (E : Exa Z h0 a "[Lcom/example/chartleaf/chartleaf/model/Permission;") (V : Arv Z h0 a kc (.object "com/example/chartleaf/chartleaf/model/Permission") 5 [.ref x0, .ref x1, .ref x2, .ref x3, .ref x4] .null) (SE : Sta Z h0 "java/util/Optional" "EMPTY" "Ljava/util/Optional;" (.ref em)) (EE : Exa Z h0 em "java/util/Optional") (FE : Fld Z h0 em "java/util/Optional" "value" "Ljava/lang/Object;" .null) (F_CREATE : Fld Z h0 x0 "com/example/chartleaf/chartleaf/model/Permission" "letter" "C" (.int 99)) (F_READ : Fld Z h0 x1 "com/example/chartleaf/chartleaf/model/Permission" "letter" "C" (.int 114)) (F_UPDATE : Fld Z h0 x2 "com/example/chartleaf/chartleaf/model/Permission" "letter" "C" (.int 117)) (F_DELETE : Fld Z h0 x3 "com/example/chartleaf/chartleaf/model/Permission" "letter" "C" (.int 100)) (F_SEARCH : Fld Z h0 x4 "com/example/chartleaf/chartleaf/model/Permission" "letter" "C" (.int 115)) :
    OwnCtr l (⟨"com/example/chartleaf/chartleaf/model/Permission", "of", "(C)Ljava/util/Optional;"⟩ : MethodName) prog_19_method_6_code 5 (some (.object "java/util/Optional")) ws own_RP Z #[(.int k)] h0 (own_QP Z (own_val x0 x1 x2 x3 x4 k) h0 n0) := by
  refine own_body own_pnP ?_
  intro p e s m below meth c s₁ X0 hx hby hml hown hnm hret hlk hZ e0
  refine own_go (fun _ k => castTop (ef_OF m _) k) ?_
  show Run p.tables e below (s₁.setTop (mkF m 0 #[.val (.int k), .unset, .unset, .unset, .unset] [])) _
  obtain ⟨vk1, Tk1, Lk1, Xk1, ⟨r, rfl, rfl, EV, VV⟩, stk1⟩ := own_callS X0 hx hZ hown (hw _ (List.mem_of_getElem? (i := 5) rfl)) (hw _ (List.mem_of_getElem? (i := 6) rfl)) (hw _ (List.mem_of_getElem? (i := 7) rfl)) (hw _ (List.mem_of_getElem? (i := 3) rfl)) (by decide) e0 (rmVAL l Z a0 hw [] kc x0 x1 x2 x3 x4 a h0 S E V) (g := (mkF m 0 #[.val (.int k), .unset, .unset, .unset, .unset] [])) rfl (by rw [hml]; rfl) (argsL := []) (rest := []) own_pdVAL rfl rfl rfl (W := 0) (by show 2 * 0 + _ ≤ _; exact Nat.le_of_eq rfl) (hb hby d1_0) (by decide) (by decide) (by decide) (by decide)
  refine own_go stk1 ?_
  show Run p.tables e below (Tk1.setTop (mkF m 3 #[.val (.int k), .unset, .unset, .unset, .unset] [(.ref r)])) _
  refine own_go (fun _ => XS.astoreN Xk1.here hx rfl (hb hby d1_3) rfl rfl (l' := #[.val (.int k), .val (.ref r), .unset, .unset, .unset]) rfl) ?_
  show Run p.tables e below (Tk1.setTop (mkF m 4 #[.val (.int k), .val (.ref r), .unset, .unset, .unset] [])) _
  refine own_go (fun _ => XS.aloadN Xk1.here hx rfl (hb hby d1_4) rfl rfl) ?_
  show Run p.tables e below (Tk1.setTop (mkF m 5 #[.val (.int k), .val (.ref r), .unset, .unset, .unset] [(.ref r)])) _
  refine own_go (fun _ => own_alen Xk1 hx hZ rfl VV (g := (mkF m 5 #[.val (.int k), .val (.ref r), .unset, .unset, .unset] [(.ref r)])) rfl rfl (hb hby d1_5) _) ?_
  show Run p.tables e below (Tk1.setTop (mkF m 6 #[.val (.int k), .val (.ref r), .unset, .unset, .unset] [(.int (5 : Int32))])) _
  refine own_go (fun _ => XS.istoreN Xk1.here hx rfl (hb hby d1_6) rfl (l' := #[.val (.int k), .val (.ref r), .val (.int (5 : Int32)), .unset, .unset]) rfl) ?_
  show Run p.tables e below (Tk1.setTop (mkF m 7 #[.val (.int k), .val (.ref r), .val (.int (5 : Int32)), .unset, .unset] [])) _
  refine own_go (fun _ => XS.iconst Xk1.here hx rfl (hb hby d1_7)) ?_
  show Run p.tables e below (Tk1.setTop (mkF m 8 #[.val (.int k), .val (.ref r), .val (.int (5 : Int32)), .unset, .unset] [(.int (0 : Int32))])) _
  refine own_go (fun _ => XS.istoreN Xk1.here hx rfl (hb hby d1_8) rfl (l' := #[.val (.int k), .val (.ref r), .val (.int (5 : Int32)), .val (.int (0 : Int32)), .unset]) rfl) ?_
  show Run p.tables e below (Tk1.setTop (mkF m 9 #[.val (.int k), .val (.ref r), .val (.int (5 : Int32)), .val (.int (0 : Int32)), .unset] [])) _
  refine own_go (fun _ => XS.iloadN Xk1.here hx rfl (hb hby d1_9) rfl) ?_
  show Run p.tables e below (Tk1.setTop (mkF m 10 #[.val (.int k), .val (.ref r), .val (.int (5 : Int32)), .val (.int (0 : Int32)), .unset] [(.int (0 : Int32))])) _
  refine own_go (fun _ => XS.iloadN Xk1.here hx rfl (hb hby d1_10) rfl) ?_
  show Run p.tables e below (Tk1.setTop (mkF m 11 #[.val (.int k), .val (.ref r), .val (.int (5 : Int32)), .val (.int (0 : Int32)), .unset] [(.int (5 : Int32)), (.int (0 : Int32))])) _
  have Z1 : n0 ≤ Tk1.heap.size := Nat.le_trans Z0 EV.1
  have es : ([] : List Loc) ++ [] = [] := rfl
  refine own_go (fun _ => XS.icmpNo Xk1.here hx rfl (hb hby d1_11) rfl (XT.ii_ge_f (by decide))) ?_
  show Run p.tables e below (Tk1.setTop (mkF m 14 #[.val (.int k), .val (.ref r), .val (.int (5 : Int32)), .val (.int (0 : Int32)), .unset] [])) _
  refine own_go (fun _ => XS.aloadN Xk1.here hx rfl (hb hby d1_14) rfl rfl) ?_
  show Run p.tables e below (Tk1.setTop (mkF m 15 #[.val (.int k), .val (.ref r), .val (.int (5 : Int32)), .val (.int (0 : Int32)), .unset] [(.ref r)])) _
  refine own_go (fun _ => XS.iloadN Xk1.here hx rfl (hb hby d1_15) rfl) ?_
  show Run p.tables e below (Tk1.setTop (mkF m 16 #[.val (.int k), .val (.ref r), .val (.int (5 : Int32)), .val (.int (0 : Int32)), .unset] [(.int (0 : Int32)), (.ref r)])) _
  refine own_go (fun _ => own_aaload Xk1 hx hZ rfl VV rfl (j := (0 : Int32)) ⟨by decide, by decide⟩ (v := .ref x0) rfl (g := (mkF m 16 #[.val (.int k), .val (.ref r), .val (.int (5 : Int32)), .val (.int (0 : Int32)), .unset] [(.int (0 : Int32)), (.ref r)])) rfl rfl (hb hby d1_16) _) ?_
  show Run p.tables e below (Tk1.setTop (mkF m 17 #[.val (.int k), .val (.ref r), .val (.int (5 : Int32)), .val (.int (0 : Int32)), .unset] [(.ref x0)])) _
  refine own_go (fun _ => XS.astore Xk1.here hx rfl (hb hby d1_17) rfl rfl (l' := #[.val (.int k), .val (.ref r), .val (.int (5 : Int32)), .val (.int (0 : Int32)), .val (.ref x0)]) rfl) ?_
  show Run p.tables e below (Tk1.setTop (mkF m 19 #[.val (.int k), .val (.ref r), .val (.int (5 : Int32)), .val (.int (0 : Int32)), .val (.ref x0)] [])) _
  refine own_go (fun _ => XS.aload Xk1.here hx rfl (hb hby d1_19) rfl rfl) ?_
  show Run p.tables e below (Tk1.setTop (mkF m 21 #[.val (.int k), .val (.ref r), .val (.int (5 : Int32)), .val (.int (0 : Int32)), .val (.ref x0)] [(.ref x0)])) _
  obtain ⟨Tk2, Xk2, ek2, stk2⟩ := getF Xk1 hx hZ hown (host := "") (Or.inl (hw _ (List.mem_of_getElem? (i := 25) rfl))) Via.refl rfl (F_CREATE.ext EV) (g := (mkF m 21 #[.val (.int k), .val (.ref r), .val (.int (5 : Int32)), .val (.int (0 : Int32)), .val (.ref x0)] [(.ref x0)])) rfl rfl (hb hby d1_21)
  refine own_go stk2 ?_
  show Run p.tables e below (Tk2.setTop (mkF m 24 #[.val (.int k), .val (.ref r), .val (.int (5 : Int32)), .val (.int (0 : Int32)), .val (.ref x0)] [(.int (99 : Int32))])) _
  refine own_go (fun _ => XS.iloadN Xk2.here hx rfl (hb hby d1_24) rfl) ?_
  show Run p.tables e below (Tk2.setTop (mkF m 25 #[.val (.int k), .val (.ref r), .val (.int (5 : Int32)), .val (.int (0 : Int32)), .val (.ref x0)] [(.int k), (.int (99 : Int32))])) _
  by_cases q0 : k = 99
  · show Run p.tables e below (Tk2.setTop (mkF m 25 #[.val (.int k), .val (.ref r), .val (.int (5 : Int32)), .val (.int (0 : Int32)), .val (.ref x0)] [(.int k), (.int (99 : Int32))])) _
    refine own_go (fun _ => XS.icmpNo Xk2.here hx rfl (hb hby d1_25) rfl (XT.ii_ne_f q0.symm)) ?_
    show Run p.tables e below (Tk2.setTop (mkF m 28 #[.val (.int k), .val (.ref r), .val (.int (5 : Int32)), .val (.int (0 : Int32)), .val (.ref x0)] [])) _
    refine own_go (fun _ => XS.aload Xk2.here hx rfl (hb hby d1_28) rfl rfl) ?_
    show Run p.tables e below (Tk2.setTop (mkF m 30 #[.val (.int k), .val (.ref r), .val (.int (5 : Int32)), .val (.int (0 : Int32)), .val (.ref x0)] [(.ref x0)])) _
    obtain ⟨vk3, Tk3, Lk3, Xk3, ⟨ro, rfl, NO, EO, AO, FO⟩, stk3⟩ := own_callS Xk2 hx hZ hown (hw _ (List.mem_of_getElem? (i := 44) rfl)) (hw _ (List.mem_of_getElem? (i := 45) rfl)) (hw _ (List.mem_of_getElem? (i := 46) rfl)) (hw _ (List.mem_of_getElem? (i := 29) rfl)) (by decide) ek2 (rmOOF l Z a0 hw [] x0 Tk1.heap n0 Z1) (g := (mkF m 30 #[.val (.int k), .val (.ref r), .val (.int (5 : Int32)), .val (.int (0 : Int32)), .val (.ref x0)] [(.ref x0)])) rfl (by rw [hml]; rfl) (argsL := [(.ref x0)]) (rest := []) own_pdOOF rfl rfl rfl (W := 0) (by show 2 * 0 + _ ≤ _; exact Nat.le_of_eq rfl) (hb hby d1_30) (by decide) (by decide) (by decide) (by decide)
    refine own_go stk3 ?_
    show Run p.tables e below (Tk3.setTop (mkF m 33 #[.val (.int k), .val (.ref r), .val (.int (5 : Int32)), .val (.int (0 : Int32)), .val (.ref x0)] [(.ref ro)])) _
    exact own_out Xk3 (v := some (.ref ro)) (fun q => by rw [hret] at q; cases q) hlk (fun fs hr => Xk3.areturnOut hx rfl hret rfl (hb hby d1_33) hr) ⟨ro, rfl, (by simpa using NO), own_exttr EV EO, AO, (by rw [own_val, if_pos q0]; exact FO)⟩ (by decide) (by decide)
  · show Run p.tables e below (Tk2.setTop (mkF m 25 #[.val (.int k), .val (.ref r), .val (.int (5 : Int32)), .val (.int (0 : Int32)), .val (.ref x0)] [(.int k), (.int (99 : Int32))])) _
    refine own_go (fun _ => XS.icmpYes Xk2.here hx rfl (pc0 := 25) (pc' := 34) rfl (hb hby d1_25) rfl (XT.ii_ne_t (fun q => q0 q.symm)) (by decide) (by decide)) ?_
    show Run p.tables e below (Tk2.setTop (mkF m 34 #[.val (.int k), .val (.ref r), .val (.int (5 : Int32)), .val (.int (0 : Int32)), .val (.ref x0)] [])) _
    refine own_go (fun _ => XS.iinc Xk2.here hx rfl (hb hby d1_34) rfl (l' := #[.val (.int k), .val (.ref r), .val (.int (5 : Int32)), .val (.int (1 : Int32)), .val (.ref x0)]) rfl) ?_
    show Run p.tables e below (Tk2.setTop (mkF m 37 #[.val (.int k), .val (.ref r), .val (.int (5 : Int32)), .val (.int (1 : Int32)), .val (.ref x0)] [])) _
    refine own_go (fun _ => XS.goto Xk2.here hx rfl (pc0 := 37) (pc' := 9) rfl (hb hby d1_37) (by decide) (by decide)) ?_
    show Run p.tables e below (Tk2.setTop (mkF m 9 #[.val (.int k), .val (.ref r), .val (.int (5 : Int32)), .val (.int (1 : Int32)), .val (.ref x0)] [])) _
    refine own_go (fun _ => XS.iloadN Xk2.here hx rfl (hb hby d1_9) rfl) ?_
    show Run p.tables e below (Tk2.setTop (mkF m 10 #[.val (.int k), .val (.ref r), .val (.int (5 : Int32)), .val (.int (1 : Int32)), .val (.ref x0)] [(.int (1 : Int32))])) _
    refine own_go (fun _ => XS.iloadN Xk2.here hx rfl (hb hby d1_10) rfl) ?_
    show Run p.tables e below (Tk2.setTop (mkF m 11 #[.val (.int k), .val (.ref r), .val (.int (5 : Int32)), .val (.int (1 : Int32)), .val (.ref x0)] [(.int (5 : Int32)), (.int (1 : Int32))])) _
    refine own_go (fun _ => XS.icmpNo Xk2.here hx rfl (hb hby d1_11) rfl (XT.ii_ge_f (by decide))) ?_
    show Run p.tables e below (Tk2.setTop (mkF m 14 #[.val (.int k), .val (.ref r), .val (.int (5 : Int32)), .val (.int (1 : Int32)), .val (.ref x0)] [])) _
    refine own_go (fun _ => XS.aloadN Xk2.here hx rfl (hb hby d1_14) rfl rfl) ?_
    show Run p.tables e below (Tk2.setTop (mkF m 15 #[.val (.int k), .val (.ref r), .val (.int (5 : Int32)), .val (.int (1 : Int32)), .val (.ref x0)] [(.ref r)])) _
    refine own_go (fun _ => XS.iloadN Xk2.here hx rfl (hb hby d1_15) rfl) ?_
    show Run p.tables e below (Tk2.setTop (mkF m 16 #[.val (.int k), .val (.ref r), .val (.int (5 : Int32)), .val (.int (1 : Int32)), .val (.ref x0)] [(.int (1 : Int32)), (.ref r)])) _
    refine own_go (fun _ => own_aaload Xk2 hx hZ ek2 VV rfl (j := (1 : Int32)) ⟨by decide, by decide⟩ (v := .ref x1) rfl (g := (mkF m 16 #[.val (.int k), .val (.ref r), .val (.int (5 : Int32)), .val (.int (1 : Int32)), .val (.ref x0)] [(.int (1 : Int32)), (.ref r)])) rfl rfl (hb hby d1_16) _) ?_
    show Run p.tables e below (Tk2.setTop (mkF m 17 #[.val (.int k), .val (.ref r), .val (.int (5 : Int32)), .val (.int (1 : Int32)), .val (.ref x0)] [(.ref x1)])) _
    refine own_go (fun _ => XS.astore Xk2.here hx rfl (hb hby d1_17) rfl rfl (l' := #[.val (.int k), .val (.ref r), .val (.int (5 : Int32)), .val (.int (1 : Int32)), .val (.ref x1)]) rfl) ?_
    show Run p.tables e below (Tk2.setTop (mkF m 19 #[.val (.int k), .val (.ref r), .val (.int (5 : Int32)), .val (.int (1 : Int32)), .val (.ref x1)] [])) _
    refine own_go (fun _ => XS.aload Xk2.here hx rfl (hb hby d1_19) rfl rfl) ?_
    show Run p.tables e below (Tk2.setTop (mkF m 21 #[.val (.int k), .val (.ref r), .val (.int (5 : Int32)), .val (.int (1 : Int32)), .val (.ref x1)] [(.ref x1)])) _
    obtain ⟨Tk4, Xk4, ek4, stk4⟩ := getF Xk2 hx hZ hown (host := "") (Or.inl (hw _ (List.mem_of_getElem? (i := 25) rfl))) Via.refl ek2 (F_READ.ext EV) (g := (mkF m 21 #[.val (.int k), .val (.ref r), .val (.int (5 : Int32)), .val (.int (1 : Int32)), .val (.ref x1)] [(.ref x1)])) rfl rfl (hb hby d1_21)
    refine own_go stk4 ?_
    show Run p.tables e below (Tk4.setTop (mkF m 24 #[.val (.int k), .val (.ref r), .val (.int (5 : Int32)), .val (.int (1 : Int32)), .val (.ref x1)] [(.int (114 : Int32))])) _
    refine own_go (fun _ => XS.iloadN Xk4.here hx rfl (hb hby d1_24) rfl) ?_
    show Run p.tables e below (Tk4.setTop (mkF m 25 #[.val (.int k), .val (.ref r), .val (.int (5 : Int32)), .val (.int (1 : Int32)), .val (.ref x1)] [(.int k), (.int (114 : Int32))])) _
    by_cases q1 : k = 114
    · show Run p.tables e below (Tk4.setTop (mkF m 25 #[.val (.int k), .val (.ref r), .val (.int (5 : Int32)), .val (.int (1 : Int32)), .val (.ref x1)] [(.int k), (.int (114 : Int32))])) _
      refine own_go (fun _ => XS.icmpNo Xk4.here hx rfl (hb hby d1_25) rfl (XT.ii_ne_f q1.symm)) ?_
      show Run p.tables e below (Tk4.setTop (mkF m 28 #[.val (.int k), .val (.ref r), .val (.int (5 : Int32)), .val (.int (1 : Int32)), .val (.ref x1)] [])) _
      refine own_go (fun _ => XS.aload Xk4.here hx rfl (hb hby d1_28) rfl rfl) ?_
      show Run p.tables e below (Tk4.setTop (mkF m 30 #[.val (.int k), .val (.ref r), .val (.int (5 : Int32)), .val (.int (1 : Int32)), .val (.ref x1)] [(.ref x1)])) _
      obtain ⟨vk5, Tk5, Lk5, Xk5, ⟨ro, rfl, NO, EO, AO, FO⟩, stk5⟩ := own_callS Xk4 hx hZ hown (hw _ (List.mem_of_getElem? (i := 44) rfl)) (hw _ (List.mem_of_getElem? (i := 45) rfl)) (hw _ (List.mem_of_getElem? (i := 46) rfl)) (hw _ (List.mem_of_getElem? (i := 29) rfl)) (by decide) ek4 (rmOOF l Z a0 hw [] x1 Tk1.heap n0 Z1) (g := (mkF m 30 #[.val (.int k), .val (.ref r), .val (.int (5 : Int32)), .val (.int (1 : Int32)), .val (.ref x1)] [(.ref x1)])) rfl (by rw [hml]; rfl) (argsL := [(.ref x1)]) (rest := []) own_pdOOF rfl rfl rfl (W := 0) (by show 2 * 0 + _ ≤ _; exact Nat.le_of_eq rfl) (hb hby d1_30) (by decide) (by decide) (by decide) (by decide)
      refine own_go stk5 ?_
      show Run p.tables e below (Tk5.setTop (mkF m 33 #[.val (.int k), .val (.ref r), .val (.int (5 : Int32)), .val (.int (1 : Int32)), .val (.ref x1)] [(.ref ro)])) _
      exact own_out Xk5 (v := some (.ref ro)) (fun q => by rw [hret] at q; cases q) hlk (fun fs hr => Xk5.areturnOut hx rfl hret rfl (hb hby d1_33) hr) ⟨ro, rfl, (by simpa using NO), own_exttr EV EO, AO, (by rw [own_val, if_neg q0, if_pos q1]; exact FO)⟩ (by decide) (by decide)
    · show Run p.tables e below (Tk4.setTop (mkF m 25 #[.val (.int k), .val (.ref r), .val (.int (5 : Int32)), .val (.int (1 : Int32)), .val (.ref x1)] [(.int k), (.int (114 : Int32))])) _
      refine own_go (fun _ => XS.icmpYes Xk4.here hx rfl (pc0 := 25) (pc' := 34) rfl (hb hby d1_25) rfl (XT.ii_ne_t (fun q => q1 q.symm)) (by decide) (by decide)) ?_
      show Run p.tables e below (Tk4.setTop (mkF m 34 #[.val (.int k), .val (.ref r), .val (.int (5 : Int32)), .val (.int (1 : Int32)), .val (.ref x1)] [])) _
      refine own_go (fun _ => XS.iinc Xk4.here hx rfl (hb hby d1_34) rfl (l' := #[.val (.int k), .val (.ref r), .val (.int (5 : Int32)), .val (.int (2 : Int32)), .val (.ref x1)]) rfl) ?_
      show Run p.tables e below (Tk4.setTop (mkF m 37 #[.val (.int k), .val (.ref r), .val (.int (5 : Int32)), .val (.int (2 : Int32)), .val (.ref x1)] [])) _
      refine own_go (fun _ => XS.goto Xk4.here hx rfl (pc0 := 37) (pc' := 9) rfl (hb hby d1_37) (by decide) (by decide)) ?_
      show Run p.tables e below (Tk4.setTop (mkF m 9 #[.val (.int k), .val (.ref r), .val (.int (5 : Int32)), .val (.int (2 : Int32)), .val (.ref x1)] [])) _
      refine own_go (fun _ => XS.iloadN Xk4.here hx rfl (hb hby d1_9) rfl) ?_
      show Run p.tables e below (Tk4.setTop (mkF m 10 #[.val (.int k), .val (.ref r), .val (.int (5 : Int32)), .val (.int (2 : Int32)), .val (.ref x1)] [(.int (2 : Int32))])) _
      refine own_go (fun _ => XS.iloadN Xk4.here hx rfl (hb hby d1_10) rfl) ?_
      show Run p.tables e below (Tk4.setTop (mkF m 11 #[.val (.int k), .val (.ref r), .val (.int (5 : Int32)), .val (.int (2 : Int32)), .val (.ref x1)] [(.int (5 : Int32)), (.int (2 : Int32))])) _
      refine own_go (fun _ => XS.icmpNo Xk4.here hx rfl (hb hby d1_11) rfl (XT.ii_ge_f (by decide))) ?_
      show Run p.tables e below (Tk4.setTop (mkF m 14 #[.val (.int k), .val (.ref r), .val (.int (5 : Int32)), .val (.int (2 : Int32)), .val (.ref x1)] [])) _
      refine own_go (fun _ => XS.aloadN Xk4.here hx rfl (hb hby d1_14) rfl rfl) ?_
      show Run p.tables e below (Tk4.setTop (mkF m 15 #[.val (.int k), .val (.ref r), .val (.int (5 : Int32)), .val (.int (2 : Int32)), .val (.ref x1)] [(.ref r)])) _
      refine own_go (fun _ => XS.iloadN Xk4.here hx rfl (hb hby d1_15) rfl) ?_
      show Run p.tables e below (Tk4.setTop (mkF m 16 #[.val (.int k), .val (.ref r), .val (.int (5 : Int32)), .val (.int (2 : Int32)), .val (.ref x1)] [(.int (2 : Int32)), (.ref r)])) _
      refine own_go (fun _ => own_aaload Xk4 hx hZ ek4 VV rfl (j := (2 : Int32)) ⟨by decide, by decide⟩ (v := .ref x2) rfl (g := (mkF m 16 #[.val (.int k), .val (.ref r), .val (.int (5 : Int32)), .val (.int (2 : Int32)), .val (.ref x1)] [(.int (2 : Int32)), (.ref r)])) rfl rfl (hb hby d1_16) _) ?_
      show Run p.tables e below (Tk4.setTop (mkF m 17 #[.val (.int k), .val (.ref r), .val (.int (5 : Int32)), .val (.int (2 : Int32)), .val (.ref x1)] [(.ref x2)])) _
      refine own_go (fun _ => XS.astore Xk4.here hx rfl (hb hby d1_17) rfl rfl (l' := #[.val (.int k), .val (.ref r), .val (.int (5 : Int32)), .val (.int (2 : Int32)), .val (.ref x2)]) rfl) ?_
      show Run p.tables e below (Tk4.setTop (mkF m 19 #[.val (.int k), .val (.ref r), .val (.int (5 : Int32)), .val (.int (2 : Int32)), .val (.ref x2)] [])) _
      refine own_go (fun _ => XS.aload Xk4.here hx rfl (hb hby d1_19) rfl rfl) ?_
      show Run p.tables e below (Tk4.setTop (mkF m 21 #[.val (.int k), .val (.ref r), .val (.int (5 : Int32)), .val (.int (2 : Int32)), .val (.ref x2)] [(.ref x2)])) _
      obtain ⟨Tk6, Xk6, ek6, stk6⟩ := getF Xk4 hx hZ hown (host := "") (Or.inl (hw _ (List.mem_of_getElem? (i := 25) rfl))) Via.refl ek4 (F_UPDATE.ext EV) (g := (mkF m 21 #[.val (.int k), .val (.ref r), .val (.int (5 : Int32)), .val (.int (2 : Int32)), .val (.ref x2)] [(.ref x2)])) rfl rfl (hb hby d1_21)
      refine own_go stk6 ?_
      show Run p.tables e below (Tk6.setTop (mkF m 24 #[.val (.int k), .val (.ref r), .val (.int (5 : Int32)), .val (.int (2 : Int32)), .val (.ref x2)] [(.int (117 : Int32))])) _
      refine own_go (fun _ => XS.iloadN Xk6.here hx rfl (hb hby d1_24) rfl) ?_
      show Run p.tables e below (Tk6.setTop (mkF m 25 #[.val (.int k), .val (.ref r), .val (.int (5 : Int32)), .val (.int (2 : Int32)), .val (.ref x2)] [(.int k), (.int (117 : Int32))])) _
      by_cases q2 : k = 117
      · show Run p.tables e below (Tk6.setTop (mkF m 25 #[.val (.int k), .val (.ref r), .val (.int (5 : Int32)), .val (.int (2 : Int32)), .val (.ref x2)] [(.int k), (.int (117 : Int32))])) _
        refine own_go (fun _ => XS.icmpNo Xk6.here hx rfl (hb hby d1_25) rfl (XT.ii_ne_f q2.symm)) ?_
        show Run p.tables e below (Tk6.setTop (mkF m 28 #[.val (.int k), .val (.ref r), .val (.int (5 : Int32)), .val (.int (2 : Int32)), .val (.ref x2)] [])) _
        refine own_go (fun _ => XS.aload Xk6.here hx rfl (hb hby d1_28) rfl rfl) ?_
        show Run p.tables e below (Tk6.setTop (mkF m 30 #[.val (.int k), .val (.ref r), .val (.int (5 : Int32)), .val (.int (2 : Int32)), .val (.ref x2)] [(.ref x2)])) _
        obtain ⟨vk7, Tk7, Lk7, Xk7, ⟨ro, rfl, NO, EO, AO, FO⟩, stk7⟩ := own_callS Xk6 hx hZ hown (hw _ (List.mem_of_getElem? (i := 44) rfl)) (hw _ (List.mem_of_getElem? (i := 45) rfl)) (hw _ (List.mem_of_getElem? (i := 46) rfl)) (hw _ (List.mem_of_getElem? (i := 29) rfl)) (by decide) ek6 (rmOOF l Z a0 hw [] x2 Tk1.heap n0 Z1) (g := (mkF m 30 #[.val (.int k), .val (.ref r), .val (.int (5 : Int32)), .val (.int (2 : Int32)), .val (.ref x2)] [(.ref x2)])) rfl (by rw [hml]; rfl) (argsL := [(.ref x2)]) (rest := []) own_pdOOF rfl rfl rfl (W := 0) (by show 2 * 0 + _ ≤ _; exact Nat.le_of_eq rfl) (hb hby d1_30) (by decide) (by decide) (by decide) (by decide)
        refine own_go stk7 ?_
        show Run p.tables e below (Tk7.setTop (mkF m 33 #[.val (.int k), .val (.ref r), .val (.int (5 : Int32)), .val (.int (2 : Int32)), .val (.ref x2)] [(.ref ro)])) _
        exact own_out Xk7 (v := some (.ref ro)) (fun q => by rw [hret] at q; cases q) hlk (fun fs hr => Xk7.areturnOut hx rfl hret rfl (hb hby d1_33) hr) ⟨ro, rfl, (by simpa using NO), own_exttr EV EO, AO, (by rw [own_val, if_neg q0, if_neg q1, if_pos q2]; exact FO)⟩ (by decide) (by decide)
      · show Run p.tables e below (Tk6.setTop (mkF m 25 #[.val (.int k), .val (.ref r), .val (.int (5 : Int32)), .val (.int (2 : Int32)), .val (.ref x2)] [(.int k), (.int (117 : Int32))])) _
        refine own_go (fun _ => XS.icmpYes Xk6.here hx rfl (pc0 := 25) (pc' := 34) rfl (hb hby d1_25) rfl (XT.ii_ne_t (fun q => q2 q.symm)) (by decide) (by decide)) ?_
        show Run p.tables e below (Tk6.setTop (mkF m 34 #[.val (.int k), .val (.ref r), .val (.int (5 : Int32)), .val (.int (2 : Int32)), .val (.ref x2)] [])) _
        refine own_go (fun _ => XS.iinc Xk6.here hx rfl (hb hby d1_34) rfl (l' := #[.val (.int k), .val (.ref r), .val (.int (5 : Int32)), .val (.int (3 : Int32)), .val (.ref x2)]) rfl) ?_
        show Run p.tables e below (Tk6.setTop (mkF m 37 #[.val (.int k), .val (.ref r), .val (.int (5 : Int32)), .val (.int (3 : Int32)), .val (.ref x2)] [])) _
        refine own_go (fun _ => XS.goto Xk6.here hx rfl (pc0 := 37) (pc' := 9) rfl (hb hby d1_37) (by decide) (by decide)) ?_
        show Run p.tables e below (Tk6.setTop (mkF m 9 #[.val (.int k), .val (.ref r), .val (.int (5 : Int32)), .val (.int (3 : Int32)), .val (.ref x2)] [])) _
        refine own_go (fun _ => XS.iloadN Xk6.here hx rfl (hb hby d1_9) rfl) ?_
        show Run p.tables e below (Tk6.setTop (mkF m 10 #[.val (.int k), .val (.ref r), .val (.int (5 : Int32)), .val (.int (3 : Int32)), .val (.ref x2)] [(.int (3 : Int32))])) _
        refine own_go (fun _ => XS.iloadN Xk6.here hx rfl (hb hby d1_10) rfl) ?_
        show Run p.tables e below (Tk6.setTop (mkF m 11 #[.val (.int k), .val (.ref r), .val (.int (5 : Int32)), .val (.int (3 : Int32)), .val (.ref x2)] [(.int (5 : Int32)), (.int (3 : Int32))])) _
        refine own_go (fun _ => XS.icmpNo Xk6.here hx rfl (hb hby d1_11) rfl (XT.ii_ge_f (by decide))) ?_
        show Run p.tables e below (Tk6.setTop (mkF m 14 #[.val (.int k), .val (.ref r), .val (.int (5 : Int32)), .val (.int (3 : Int32)), .val (.ref x2)] [])) _
        refine own_go (fun _ => XS.aloadN Xk6.here hx rfl (hb hby d1_14) rfl rfl) ?_
        show Run p.tables e below (Tk6.setTop (mkF m 15 #[.val (.int k), .val (.ref r), .val (.int (5 : Int32)), .val (.int (3 : Int32)), .val (.ref x2)] [(.ref r)])) _
        refine own_go (fun _ => XS.iloadN Xk6.here hx rfl (hb hby d1_15) rfl) ?_
        show Run p.tables e below (Tk6.setTop (mkF m 16 #[.val (.int k), .val (.ref r), .val (.int (5 : Int32)), .val (.int (3 : Int32)), .val (.ref x2)] [(.int (3 : Int32)), (.ref r)])) _
        refine own_go (fun _ => own_aaload Xk6 hx hZ ek6 VV rfl (j := (3 : Int32)) ⟨by decide, by decide⟩ (v := .ref x3) rfl (g := (mkF m 16 #[.val (.int k), .val (.ref r), .val (.int (5 : Int32)), .val (.int (3 : Int32)), .val (.ref x2)] [(.int (3 : Int32)), (.ref r)])) rfl rfl (hb hby d1_16) _) ?_
        show Run p.tables e below (Tk6.setTop (mkF m 17 #[.val (.int k), .val (.ref r), .val (.int (5 : Int32)), .val (.int (3 : Int32)), .val (.ref x2)] [(.ref x3)])) _
        refine own_go (fun _ => XS.astore Xk6.here hx rfl (hb hby d1_17) rfl rfl (l' := #[.val (.int k), .val (.ref r), .val (.int (5 : Int32)), .val (.int (3 : Int32)), .val (.ref x3)]) rfl) ?_
        show Run p.tables e below (Tk6.setTop (mkF m 19 #[.val (.int k), .val (.ref r), .val (.int (5 : Int32)), .val (.int (3 : Int32)), .val (.ref x3)] [])) _
        refine own_go (fun _ => XS.aload Xk6.here hx rfl (hb hby d1_19) rfl rfl) ?_
        show Run p.tables e below (Tk6.setTop (mkF m 21 #[.val (.int k), .val (.ref r), .val (.int (5 : Int32)), .val (.int (3 : Int32)), .val (.ref x3)] [(.ref x3)])) _
        obtain ⟨Tk8, Xk8, ek8, stk8⟩ := getF Xk6 hx hZ hown (host := "") (Or.inl (hw _ (List.mem_of_getElem? (i := 25) rfl))) Via.refl ek6 (F_DELETE.ext EV) (g := (mkF m 21 #[.val (.int k), .val (.ref r), .val (.int (5 : Int32)), .val (.int (3 : Int32)), .val (.ref x3)] [(.ref x3)])) rfl rfl (hb hby d1_21)
        refine own_go stk8 ?_
        show Run p.tables e below (Tk8.setTop (mkF m 24 #[.val (.int k), .val (.ref r), .val (.int (5 : Int32)), .val (.int (3 : Int32)), .val (.ref x3)] [(.int (100 : Int32))])) _
        refine own_go (fun _ => XS.iloadN Xk8.here hx rfl (hb hby d1_24) rfl) ?_
        show Run p.tables e below (Tk8.setTop (mkF m 25 #[.val (.int k), .val (.ref r), .val (.int (5 : Int32)), .val (.int (3 : Int32)), .val (.ref x3)] [(.int k), (.int (100 : Int32))])) _
        by_cases q3 : k = 100
        · show Run p.tables e below (Tk8.setTop (mkF m 25 #[.val (.int k), .val (.ref r), .val (.int (5 : Int32)), .val (.int (3 : Int32)), .val (.ref x3)] [(.int k), (.int (100 : Int32))])) _
          refine own_go (fun _ => XS.icmpNo Xk8.here hx rfl (hb hby d1_25) rfl (XT.ii_ne_f q3.symm)) ?_
          show Run p.tables e below (Tk8.setTop (mkF m 28 #[.val (.int k), .val (.ref r), .val (.int (5 : Int32)), .val (.int (3 : Int32)), .val (.ref x3)] [])) _
          refine own_go (fun _ => XS.aload Xk8.here hx rfl (hb hby d1_28) rfl rfl) ?_
          show Run p.tables e below (Tk8.setTop (mkF m 30 #[.val (.int k), .val (.ref r), .val (.int (5 : Int32)), .val (.int (3 : Int32)), .val (.ref x3)] [(.ref x3)])) _
          obtain ⟨vk9, Tk9, Lk9, Xk9, ⟨ro, rfl, NO, EO, AO, FO⟩, stk9⟩ := own_callS Xk8 hx hZ hown (hw _ (List.mem_of_getElem? (i := 44) rfl)) (hw _ (List.mem_of_getElem? (i := 45) rfl)) (hw _ (List.mem_of_getElem? (i := 46) rfl)) (hw _ (List.mem_of_getElem? (i := 29) rfl)) (by decide) ek8 (rmOOF l Z a0 hw [] x3 Tk1.heap n0 Z1) (g := (mkF m 30 #[.val (.int k), .val (.ref r), .val (.int (5 : Int32)), .val (.int (3 : Int32)), .val (.ref x3)] [(.ref x3)])) rfl (by rw [hml]; rfl) (argsL := [(.ref x3)]) (rest := []) own_pdOOF rfl rfl rfl (W := 0) (by show 2 * 0 + _ ≤ _; exact Nat.le_of_eq rfl) (hb hby d1_30) (by decide) (by decide) (by decide) (by decide)
          refine own_go stk9 ?_
          show Run p.tables e below (Tk9.setTop (mkF m 33 #[.val (.int k), .val (.ref r), .val (.int (5 : Int32)), .val (.int (3 : Int32)), .val (.ref x3)] [(.ref ro)])) _
          exact own_out Xk9 (v := some (.ref ro)) (fun q => by rw [hret] at q; cases q) hlk (fun fs hr => Xk9.areturnOut hx rfl hret rfl (hb hby d1_33) hr) ⟨ro, rfl, (by simpa using NO), own_exttr EV EO, AO, (by rw [own_val, if_neg q0, if_neg q1, if_neg q2, if_pos q3]; exact FO)⟩ (by decide) (by decide)
        · show Run p.tables e below (Tk8.setTop (mkF m 25 #[.val (.int k), .val (.ref r), .val (.int (5 : Int32)), .val (.int (3 : Int32)), .val (.ref x3)] [(.int k), (.int (100 : Int32))])) _
          refine own_go (fun _ => XS.icmpYes Xk8.here hx rfl (pc0 := 25) (pc' := 34) rfl (hb hby d1_25) rfl (XT.ii_ne_t (fun q => q3 q.symm)) (by decide) (by decide)) ?_
          show Run p.tables e below (Tk8.setTop (mkF m 34 #[.val (.int k), .val (.ref r), .val (.int (5 : Int32)), .val (.int (3 : Int32)), .val (.ref x3)] [])) _
          refine own_go (fun _ => XS.iinc Xk8.here hx rfl (hb hby d1_34) rfl (l' := #[.val (.int k), .val (.ref r), .val (.int (5 : Int32)), .val (.int (4 : Int32)), .val (.ref x3)]) rfl) ?_
          show Run p.tables e below (Tk8.setTop (mkF m 37 #[.val (.int k), .val (.ref r), .val (.int (5 : Int32)), .val (.int (4 : Int32)), .val (.ref x3)] [])) _
          refine own_go (fun _ => XS.goto Xk8.here hx rfl (pc0 := 37) (pc' := 9) rfl (hb hby d1_37) (by decide) (by decide)) ?_
          show Run p.tables e below (Tk8.setTop (mkF m 9 #[.val (.int k), .val (.ref r), .val (.int (5 : Int32)), .val (.int (4 : Int32)), .val (.ref x3)] [])) _
          refine own_go (fun _ => XS.iloadN Xk8.here hx rfl (hb hby d1_9) rfl) ?_
          show Run p.tables e below (Tk8.setTop (mkF m 10 #[.val (.int k), .val (.ref r), .val (.int (5 : Int32)), .val (.int (4 : Int32)), .val (.ref x3)] [(.int (4 : Int32))])) _
          refine own_go (fun _ => XS.iloadN Xk8.here hx rfl (hb hby d1_10) rfl) ?_
          show Run p.tables e below (Tk8.setTop (mkF m 11 #[.val (.int k), .val (.ref r), .val (.int (5 : Int32)), .val (.int (4 : Int32)), .val (.ref x3)] [(.int (5 : Int32)), (.int (4 : Int32))])) _
          refine own_go (fun _ => XS.icmpNo Xk8.here hx rfl (hb hby d1_11) rfl (XT.ii_ge_f (by decide))) ?_
          show Run p.tables e below (Tk8.setTop (mkF m 14 #[.val (.int k), .val (.ref r), .val (.int (5 : Int32)), .val (.int (4 : Int32)), .val (.ref x3)] [])) _
          refine own_go (fun _ => XS.aloadN Xk8.here hx rfl (hb hby d1_14) rfl rfl) ?_
          show Run p.tables e below (Tk8.setTop (mkF m 15 #[.val (.int k), .val (.ref r), .val (.int (5 : Int32)), .val (.int (4 : Int32)), .val (.ref x3)] [(.ref r)])) _
          refine own_go (fun _ => XS.iloadN Xk8.here hx rfl (hb hby d1_15) rfl) ?_
          show Run p.tables e below (Tk8.setTop (mkF m 16 #[.val (.int k), .val (.ref r), .val (.int (5 : Int32)), .val (.int (4 : Int32)), .val (.ref x3)] [(.int (4 : Int32)), (.ref r)])) _
          refine own_go (fun _ => own_aaload Xk8 hx hZ ek8 VV rfl (j := (4 : Int32)) ⟨by decide, by decide⟩ (v := .ref x4) rfl (g := (mkF m 16 #[.val (.int k), .val (.ref r), .val (.int (5 : Int32)), .val (.int (4 : Int32)), .val (.ref x3)] [(.int (4 : Int32)), (.ref r)])) rfl rfl (hb hby d1_16) _) ?_
          show Run p.tables e below (Tk8.setTop (mkF m 17 #[.val (.int k), .val (.ref r), .val (.int (5 : Int32)), .val (.int (4 : Int32)), .val (.ref x3)] [(.ref x4)])) _
          refine own_go (fun _ => XS.astore Xk8.here hx rfl (hb hby d1_17) rfl rfl (l' := #[.val (.int k), .val (.ref r), .val (.int (5 : Int32)), .val (.int (4 : Int32)), .val (.ref x4)]) rfl) ?_
          show Run p.tables e below (Tk8.setTop (mkF m 19 #[.val (.int k), .val (.ref r), .val (.int (5 : Int32)), .val (.int (4 : Int32)), .val (.ref x4)] [])) _
          refine own_go (fun _ => XS.aload Xk8.here hx rfl (hb hby d1_19) rfl rfl) ?_
          show Run p.tables e below (Tk8.setTop (mkF m 21 #[.val (.int k), .val (.ref r), .val (.int (5 : Int32)), .val (.int (4 : Int32)), .val (.ref x4)] [(.ref x4)])) _
          obtain ⟨Tk10, Xk10, ek10, stk10⟩ := getF Xk8 hx hZ hown (host := "") (Or.inl (hw _ (List.mem_of_getElem? (i := 25) rfl))) Via.refl ek8 (F_SEARCH.ext EV) (g := (mkF m 21 #[.val (.int k), .val (.ref r), .val (.int (5 : Int32)), .val (.int (4 : Int32)), .val (.ref x4)] [(.ref x4)])) rfl rfl (hb hby d1_21)
          refine own_go stk10 ?_
          show Run p.tables e below (Tk10.setTop (mkF m 24 #[.val (.int k), .val (.ref r), .val (.int (5 : Int32)), .val (.int (4 : Int32)), .val (.ref x4)] [(.int (115 : Int32))])) _
          refine own_go (fun _ => XS.iloadN Xk10.here hx rfl (hb hby d1_24) rfl) ?_
          show Run p.tables e below (Tk10.setTop (mkF m 25 #[.val (.int k), .val (.ref r), .val (.int (5 : Int32)), .val (.int (4 : Int32)), .val (.ref x4)] [(.int k), (.int (115 : Int32))])) _
          by_cases q4 : k = 115
          · show Run p.tables e below (Tk10.setTop (mkF m 25 #[.val (.int k), .val (.ref r), .val (.int (5 : Int32)), .val (.int (4 : Int32)), .val (.ref x4)] [(.int k), (.int (115 : Int32))])) _
            refine own_go (fun _ => XS.icmpNo Xk10.here hx rfl (hb hby d1_25) rfl (XT.ii_ne_f q4.symm)) ?_
            show Run p.tables e below (Tk10.setTop (mkF m 28 #[.val (.int k), .val (.ref r), .val (.int (5 : Int32)), .val (.int (4 : Int32)), .val (.ref x4)] [])) _
            refine own_go (fun _ => XS.aload Xk10.here hx rfl (hb hby d1_28) rfl rfl) ?_
            show Run p.tables e below (Tk10.setTop (mkF m 30 #[.val (.int k), .val (.ref r), .val (.int (5 : Int32)), .val (.int (4 : Int32)), .val (.ref x4)] [(.ref x4)])) _
            obtain ⟨vk11, Tk11, Lk11, Xk11, ⟨ro, rfl, NO, EO, AO, FO⟩, stk11⟩ := own_callS Xk10 hx hZ hown (hw _ (List.mem_of_getElem? (i := 44) rfl)) (hw _ (List.mem_of_getElem? (i := 45) rfl)) (hw _ (List.mem_of_getElem? (i := 46) rfl)) (hw _ (List.mem_of_getElem? (i := 29) rfl)) (by decide) ek10 (rmOOF l Z a0 hw [] x4 Tk1.heap n0 Z1) (g := (mkF m 30 #[.val (.int k), .val (.ref r), .val (.int (5 : Int32)), .val (.int (4 : Int32)), .val (.ref x4)] [(.ref x4)])) rfl (by rw [hml]; rfl) (argsL := [(.ref x4)]) (rest := []) own_pdOOF rfl rfl rfl (W := 0) (by show 2 * 0 + _ ≤ _; exact Nat.le_of_eq rfl) (hb hby d1_30) (by decide) (by decide) (by decide) (by decide)
            refine own_go stk11 ?_
            show Run p.tables e below (Tk11.setTop (mkF m 33 #[.val (.int k), .val (.ref r), .val (.int (5 : Int32)), .val (.int (4 : Int32)), .val (.ref x4)] [(.ref ro)])) _
            exact own_out Xk11 (v := some (.ref ro)) (fun q => by rw [hret] at q; cases q) hlk (fun fs hr => Xk11.areturnOut hx rfl hret rfl (hb hby d1_33) hr) ⟨ro, rfl, (by simpa using NO), own_exttr EV EO, AO, (by rw [own_val, if_neg q0, if_neg q1, if_neg q2, if_neg q3, if_pos q4]; exact FO)⟩ (by decide) (by decide)
          · show Run p.tables e below (Tk10.setTop (mkF m 25 #[.val (.int k), .val (.ref r), .val (.int (5 : Int32)), .val (.int (4 : Int32)), .val (.ref x4)] [(.int k), (.int (115 : Int32))])) _
            refine own_go (fun _ => XS.icmpYes Xk10.here hx rfl (pc0 := 25) (pc' := 34) rfl (hb hby d1_25) rfl (XT.ii_ne_t (fun q => q4 q.symm)) (by decide) (by decide)) ?_
            show Run p.tables e below (Tk10.setTop (mkF m 34 #[.val (.int k), .val (.ref r), .val (.int (5 : Int32)), .val (.int (4 : Int32)), .val (.ref x4)] [])) _
            refine own_go (fun _ => XS.iinc Xk10.here hx rfl (hb hby d1_34) rfl (l' := #[.val (.int k), .val (.ref r), .val (.int (5 : Int32)), .val (.int (5 : Int32)), .val (.ref x4)]) rfl) ?_
            show Run p.tables e below (Tk10.setTop (mkF m 37 #[.val (.int k), .val (.ref r), .val (.int (5 : Int32)), .val (.int (5 : Int32)), .val (.ref x4)] [])) _
            refine own_go (fun _ => XS.goto Xk10.here hx rfl (pc0 := 37) (pc' := 9) rfl (hb hby d1_37) (by decide) (by decide)) ?_
            show Run p.tables e below (Tk10.setTop (mkF m 9 #[.val (.int k), .val (.ref r), .val (.int (5 : Int32)), .val (.int (5 : Int32)), .val (.ref x4)] [])) _
            refine own_go (fun _ => XS.iloadN Xk10.here hx rfl (hb hby d1_9) rfl) ?_
            show Run p.tables e below (Tk10.setTop (mkF m 10 #[.val (.int k), .val (.ref r), .val (.int (5 : Int32)), .val (.int (5 : Int32)), .val (.ref x4)] [(.int (5 : Int32))])) _
            refine own_go (fun _ => XS.iloadN Xk10.here hx rfl (hb hby d1_10) rfl) ?_
            show Run p.tables e below (Tk10.setTop (mkF m 11 #[.val (.int k), .val (.ref r), .val (.int (5 : Int32)), .val (.int (5 : Int32)), .val (.ref x4)] [(.int (5 : Int32)), (.int (5 : Int32))])) _
            refine own_go (fun _ => XS.icmpYes Xk10.here hx rfl (pc0 := 11) (pc' := 40) rfl (hb hby d1_11) rfl (XT.ii_ge_t (by decide)) (by decide) (by decide)) ?_
            show Run p.tables e below (Tk10.setTop (mkF m 40 #[.val (.int k), .val (.ref r), .val (.int (5 : Int32)), .val (.int (5 : Int32)), .val (.ref x4)] [])) _
            obtain ⟨vk12, Tk12, Lk12, Xk12, ⟨rfl, ek12, rfl⟩, stk12⟩ := own_callS Xk10 hx hZ hown (hw _ (List.mem_of_getElem? (i := 27) rfl)) (hw _ (List.mem_of_getElem? (i := 28) rfl)) (hw _ (List.mem_of_getElem? (i := 30) rfl)) (hw _ (List.mem_of_getElem? (i := 29) rfl)) (by decide) ek10 (rmEMP l Z a0 hw [] em Tk1.heap (SE.ext EV)) (g := (mkF m 40 #[.val (.int k), .val (.ref r), .val (.int (5 : Int32)), .val (.int (5 : Int32)), .val (.ref x4)] [])) rfl (by rw [hml]; rfl) (argsL := []) (rest := []) own_pdEMP rfl rfl rfl (W := 0) (by show 2 * 0 + _ ≤ _; exact Nat.le_of_eq rfl) (hb hby d1_40) (by decide) (by decide) (by decide) (by decide)
            refine own_go stk12 ?_
            show Run p.tables e below (Tk12.setTop (mkF m 43 #[.val (.int k), .val (.ref r), .val (.int (5 : Int32)), .val (.int (5 : Int32)), .val (.ref x4)] [(.ref em)])) _
            exact own_out Xk12 (v := some (.ref em)) (fun q => by rw [hret] at q; cases q) hlk (fun fs hr => Xk12.areturnOut hx rfl hret rfl (hb hby d1_43) hr) ⟨em, rfl, (by simpa using Fr.nil n0), (by rw [ek12]; exact EV), (by rw [ek12]; exact EE.ext EV), (by rw [ek12, own_val, if_neg q0, if_neg q1, if_neg q2, if_neg q3, if_neg q4]; exact FE.ext EV)⟩ (by decide) (by decide)
def own_Q0 (n0 : Nat) (v : Option Value) (h : Heap) (L : List Loc) : Prop := v = some (.int 1) ∧ Fr n0 L
set_option maxRecDepth 65536 in
set_option maxHeartbeats 40000000 in
theorem rm0 (l : Launch) (Z : State) (a0 : Array Value) (hw : ∀ d ∈ tables_1, d.before a0 Z = true) (ws : List Jvm.Cond) (p0 p1 : Int32) (kc : ClassId) (x0 x1 x2 x3 x4 a em : Addr) (h0 : Heap) (n0 : Nat) (Z0 : n0 ≤ h0.size) (S : Sta Z h0 "com/example/chartleaf/chartleaf/model/Permission" "$VALUES" "[Lcom/example/chartleaf/chartleaf/model/Permission;" (.ref a)) (E : Exa Z h0 a "[Lcom/example/chartleaf/chartleaf/model/Permission;") (V : Arv Z h0 a kc (.object "com/example/chartleaf/chartleaf/model/Permission") 5 [.ref x0, .ref x1, .ref x2, .ref x3, .ref x4] .null) (SE : Sta Z h0 "java/util/Optional" "EMPTY" "Ljava/util/Optional;" (.ref em)) (EE : Exa Z h0 em "java/util/Optional") (FE : Fld Z h0 em "java/util/Optional" "value" "Ljava/lang/Object;" .null) (F_CREATE : Fld Z h0 x0 "com/example/chartleaf/chartleaf/model/Permission" "letter" "C" (.int 99)) (F_READ : Fld Z h0 x1 "com/example/chartleaf/chartleaf/model/Permission" "letter" "C" (.int 114)) (F_UPDATE : Fld Z h0 x2 "com/example/chartleaf/chartleaf/model/Permission" "letter" "C" (.int 117)) (F_DELETE : Fld Z h0 x3 "com/example/chartleaf/chartleaf/model/Permission" "letter" "C" (.int 100)) (F_SEARCH : Fld Z h0 x4 "com/example/chartleaf/chartleaf/model/Permission" "letter" "C" (.int 115)) (S_CREATE : Sta Z h0 "com/example/chartleaf/chartleaf/model/Permission" "CREATE" "Lcom/example/chartleaf/chartleaf/model/Permission;" (.ref x0)) (S_READ : Sta Z h0 "com/example/chartleaf/chartleaf/model/Permission" "READ" "Lcom/example/chartleaf/chartleaf/model/Permission;" (.ref x1)) (S_UPDATE : Sta Z h0 "com/example/chartleaf/chartleaf/model/Permission" "UPDATE" "Lcom/example/chartleaf/chartleaf/model/Permission;" (.ref x2)) (S_DELETE : Sta Z h0 "com/example/chartleaf/chartleaf/model/Permission" "DELETE" "Lcom/example/chartleaf/chartleaf/model/Permission;" (.ref x3)) (S_SEARCH : Sta Z h0 "com/example/chartleaf/chartleaf/model/Permission" "SEARCH" "Lcom/example/chartleaf/chartleaf/model/Permission;" (.ref x4)) :
    OwnCtr l x code maxLocals ret ws room_1 Z #[(.int p0), (.int p1)] h0 (own_Q0 n0) := by
  refine own_body own_pnL ?_
  intro p e s m below meth c s₁ X0 hx hby hml hown hnm hret hlk hZ e0
  have J : ∀ (k : Int32), Run p.tables e below (s₁.setTop (mkF m 27 #[.val (.int p0), .val (.int p1), .val (.int k), .unset, .unset] [])) (OwnFin s below (own_Q0 n0) room_1.cells room_1.slots) := by
    intro k
    show Run p.tables e below (s₁.setTop (mkF m 27 #[.val (.int p0), .val (.int p1), .val (.int k), .unset, .unset] [])) _
    refine own_go (fun _ => XS.iloadN X0.here hx rfl (hb hby at_27) rfl) ?_
    show Run p.tables e below (s₁.setTop (mkF m 28 #[.val (.int p0), .val (.int p1), .val (.int k), .unset, .unset] [(.int k)])) _
    obtain ⟨vk1, Tk1, Lk1, Xk1, ⟨r, rfl, NR, ER, AR, FR⟩, stk1⟩ := own_callS X0 hx hZ hown (hw _ (List.mem_of_getElem? (i := 1) rfl)) (hw _ (List.mem_of_getElem? (i := 2) rfl)) (hw _ (List.mem_of_getElem? (i := 4) rfl)) (hw _ (List.mem_of_getElem? (i := 3) rfl)) (by decide) e0 (rmOF l Z a0 hw [] k kc x0 x1 x2 x3 x4 a em h0 n0 Z0 S E V SE EE FE F_CREATE F_READ F_UPDATE F_DELETE F_SEARCH) (g := (mkF m 28 #[.val (.int p0), .val (.int p1), .val (.int k), .unset, .unset] [(.int k)])) rfl (by rw [hml]; rfl) (argsL := [(.int k)]) (rest := []) own_pdOF rfl rfl rfl (W := 0) (by show 2 * 0 + _ ≤ _; exact Nat.le_of_eq rfl) (hb hby at_28) (by decide) (by decide) (by decide) (by decide)
    refine own_go stk1 ?_
    show Run p.tables e below (Tk1.setTop (mkF m 31 #[.val (.int p0), .val (.int p1), .val (.int k), .unset, .unset] [(.ref r)])) _
    refine own_go (fun _ => XS.astoreN Xk1.here hx rfl (hb hby at_31) rfl rfl (l' := #[.val (.int p0), .val (.int p1), .val (.int k), .val (.ref r), .unset]) rfl) ?_
    show Run p.tables e below (Tk1.setTop (mkF m 32 #[.val (.int p0), .val (.int p1), .val (.int k), .val (.ref r), .unset] [])) _
    refine own_go (fun _ => XS.iloadN Xk1.here hx rfl (hb hby at_32) rfl) ?_
    show Run p.tables e below (Tk1.setTop (mkF m 33 #[.val (.int p0), .val (.int p1), .val (.int k), .val (.ref r), .unset] [(.int k)])) _
    obtain ⟨vk2, Tk2, Lk2, Xk2, ⟨rfl, ek2, rfl⟩, stk2⟩ := own_callS Xk1 hx hZ hown (hw _ (List.mem_of_getElem? (i := 32) rfl)) (hw _ (List.mem_of_getElem? (i := 33) rfl)) (hw _ (List.mem_of_getElem? (i := 35) rfl)) (hw _ (List.mem_of_getElem? (i := 34) rfl)) (by decide) rfl (rmEXP l Z a0 hw [] k x0 x1 x2 x3 x4 Tk1.heap (S_CREATE.ext ER) (S_READ.ext ER) (S_UPDATE.ext ER) (S_DELETE.ext ER) (S_SEARCH.ext ER)) (g := (mkF m 33 #[.val (.int p0), .val (.int p1), .val (.int k), .val (.ref r), .unset] [(.int k)])) rfl (by rw [hml]; rfl) (argsL := [(.int k)]) (rest := []) own_pdEXP rfl rfl rfl (W := 0) (by show 2 * 0 + _ ≤ _; exact Nat.le_of_eq rfl) (hb hby at_33) (by decide) (by decide) (by decide) (by decide)
    refine own_go stk2 ?_
    show Run p.tables e below (Tk2.setTop (mkF m 36 #[.val (.int p0), .val (.int p1), .val (.int k), .val (.ref r), .unset] [(own_val x0 x1 x2 x3 x4 k)])) _
    rcases ref_cases (own_vr x0 x1 x2 x3 x4 k) with hE | ⟨y, hE⟩
    · rw [hE] at FR ⊢
      show Run p.tables e below (Tk2.setTop (mkF m 36 #[.val (.int p0), .val (.int p1), .val (.int k), .val (.ref r), .unset] [.null])) _
      refine own_go (fun _ => XS.astore Xk2.here hx rfl (hb hby at_36) rfl rfl (l' := #[.val (.int p0), .val (.int p1), .val (.int k), .val (.ref r), .val .null]) rfl) ?_
      show Run p.tables e below (Tk2.setTop (mkF m 38 #[.val (.int p0), .val (.int p1), .val (.int k), .val (.ref r), .val .null] [])) _
      refine own_go (fun _ => XS.aload Xk2.here hx rfl (hb hby at_38) rfl rfl) ?_
      show Run p.tables e below (Tk2.setTop (mkF m 40 #[.val (.int p0), .val (.int p1), .val (.int k), .val (.ref r), .val .null] [.null])) _
      refine own_go (fun _ => XT.ifnonnullNo Xk2.here hx rfl (hb hby at_40) rfl) ?_
      show Run p.tables e below (Tk2.setTop (mkF m 43 #[.val (.int p0), .val (.int p1), .val (.int k), .val (.ref r), .val .null] [])) _
      refine own_go (fun _ => XS.aloadN Xk2.here hx rfl (hb hby at_43) rfl rfl) ?_
      show Run p.tables e below (Tk2.setTop (mkF m 44 #[.val (.int p0), .val (.int p1), .val (.int k), .val (.ref r), .val .null] [(.ref r)])) _
      obtain ⟨vk3, Tk3, Lk3, Xk3, ⟨rfl, ek3, rfl⟩, stk3⟩ := own_callV Xk2 hx hZ hown (hw _ (List.mem_of_getElem? (i := 36) rfl)) (hw _ (List.mem_of_getElem? (i := 38) rfl)) (hw _ (List.mem_of_getElem? (i := 39) rfl)) (hw _ (List.mem_of_getElem? (i := 40) rfl)) (hw _ (List.mem_of_getElem? (i := 29) rfl)) (by decide) ek2 (rmPREn l Z a0 hw [] r 0 Tk1.heap FR) AR (g := (mkF m 44 #[.val (.int p0), .val (.int p1), .val (.int k), .val (.ref r), .val .null] [(.ref r)])) rfl (by rw [hml]; rfl) (argsL := []) (rest := []) own_pdPRE rfl rfl rfl (W := 0) (by show 2 * 0 + _ ≤ _; exact Nat.le_of_eq rfl) (hb hby at_44) (by decide) (by decide) (by decide) (by decide)
      refine own_go stk3 ?_
      show Run p.tables e below (Tk3.setTop (mkF m 47 #[.val (.int p0), .val (.int p1), .val (.int k), .val (.ref r), .val .null] [(.int (0 : Int32))])) _
      refine own_go (fun _ => XS.ifNo Xk3.here hx rfl (hb hby at_47) rfl (XT.i0_ne_f rfl)) ?_
      show Run p.tables e below (Tk3.setTop (mkF m 50 #[.val (.int p0), .val (.int p1), .val (.int k), .val (.ref r), .val .null] [])) _
      refine own_go (fun _ => XS.iconst Xk3.here hx rfl (hb hby at_50)) ?_
      show Run p.tables e below (Tk3.setTop (mkF m 51 #[.val (.int p0), .val (.int p1), .val (.int k), .val (.ref r), .val .null] [(.int (1 : Int32))])) _
      refine own_go (fun _ => XS.goto Xk3.here hx rfl (pc0 := 51) (pc' := 55) rfl (hb hby at_51) (by decide) (by decide)) ?_
      show Run p.tables e below (Tk3.setTop (mkF m 55 #[.val (.int p0), .val (.int p1), .val (.int k), .val (.ref r), .val .null] [(.int (1 : Int32))])) _
      exact own_out Xk3 (v := some (.int (1 : Int32))) (fun q => by rw [hret] at q; cases q) hlk (fun fs hr => retN Xk3 hx (t := .boolean) hret (by simp) (hb hby at_55) hr) ⟨rfl, (by simpa using NR)⟩ (by decide) (by decide)
    · rw [hE] at FR ⊢
      show Run p.tables e below (Tk2.setTop (mkF m 36 #[.val (.int p0), .val (.int p1), .val (.int k), .val (.ref r), .unset] [(.ref y)])) _
      refine own_go (fun _ => XS.astore Xk2.here hx rfl (hb hby at_36) rfl rfl (l' := #[.val (.int p0), .val (.int p1), .val (.int k), .val (.ref r), .val (.ref y)]) rfl) ?_
      show Run p.tables e below (Tk2.setTop (mkF m 38 #[.val (.int p0), .val (.int p1), .val (.int k), .val (.ref r), .val (.ref y)] [])) _
      refine own_go (fun _ => XS.aload Xk2.here hx rfl (hb hby at_38) rfl rfl) ?_
      show Run p.tables e below (Tk2.setTop (mkF m 40 #[.val (.int p0), .val (.int p1), .val (.int k), .val (.ref r), .val (.ref y)] [(.ref y)])) _
      refine own_go (fun _ => XT.ifnonnullYes Xk2.here hx rfl (pc0 := 40) (pc' := 56) rfl (hb hby at_40) rfl (by decide) (by decide)) ?_
      show Run p.tables e below (Tk2.setTop (mkF m 56 #[.val (.int p0), .val (.int p1), .val (.int k), .val (.ref r), .val (.ref y)] [])) _
      refine own_go (fun _ => XS.aloadN Xk2.here hx rfl (hb hby at_56) rfl rfl) ?_
      show Run p.tables e below (Tk2.setTop (mkF m 57 #[.val (.int p0), .val (.int p1), .val (.int k), .val (.ref r), .val (.ref y)] [(.ref r)])) _
      obtain ⟨vk4, Tk4, Lk4, Xk4, ⟨rfl, ek4, rfl⟩, stk4⟩ := own_callV Xk2 hx hZ hown (hw _ (List.mem_of_getElem? (i := 36) rfl)) (hw _ (List.mem_of_getElem? (i := 38) rfl)) (hw _ (List.mem_of_getElem? (i := 39) rfl)) (hw _ (List.mem_of_getElem? (i := 40) rfl)) (hw _ (List.mem_of_getElem? (i := 29) rfl)) (by decide) ek2 (rmPREr l Z a0 hw [] r y Tk1.heap FR) AR (g := (mkF m 57 #[.val (.int p0), .val (.int p1), .val (.int k), .val (.ref r), .val (.ref y)] [(.ref r)])) rfl (by rw [hml]; rfl) (argsL := []) (rest := []) own_pdPRE rfl rfl rfl (W := 0) (by show 2 * 0 + _ ≤ _; exact Nat.le_of_eq rfl) (hb hby at_57) (by decide) (by decide) (by decide) (by decide)
      refine own_go stk4 ?_
      show Run p.tables e below (Tk4.setTop (mkF m 60 #[.val (.int p0), .val (.int p1), .val (.int k), .val (.ref r), .val (.ref y)] [(.int (1 : Int32))])) _
      refine own_go (fun _ => XS.ifNo Xk4.here hx rfl (hb hby at_60) rfl (XT.i0_eq_f (by decide))) ?_
      show Run p.tables e below (Tk4.setTop (mkF m 63 #[.val (.int p0), .val (.int p1), .val (.int k), .val (.ref r), .val (.ref y)] [])) _
      refine own_go (fun _ => XS.aloadN Xk4.here hx rfl (hb hby at_63) rfl rfl) ?_
      show Run p.tables e below (Tk4.setTop (mkF m 64 #[.val (.int p0), .val (.int p1), .val (.int k), .val (.ref r), .val (.ref y)] [(.ref r)])) _
      obtain ⟨vk5, Tk5, Lk5, Xk5, ⟨rfl, ek5, rfl⟩, stk5⟩ := own_callV Xk4 hx hZ hown (hw _ (List.mem_of_getElem? (i := 61) rfl)) (hw _ (List.mem_of_getElem? (i := 63) rfl)) (hw _ (List.mem_of_getElem? (i := 64) rfl)) (hw _ (List.mem_of_getElem? (i := 65) rfl)) (hw _ (List.mem_of_getElem? (i := 29) rfl)) (by decide) ek4 (rmGET l Z a0 hw [] r y Tk1.heap FR) AR (g := (mkF m 64 #[.val (.int p0), .val (.int p1), .val (.int k), .val (.ref r), .val (.ref y)] [(.ref r)])) rfl (by rw [hml]; rfl) (argsL := []) (rest := []) own_pdGET rfl rfl rfl (W := 0) (by show 2 * 0 + _ ≤ _; exact Nat.le_of_eq rfl) (hb hby at_64) (by decide) (by decide) (by decide) (by decide)
      refine own_go stk5 ?_
      show Run p.tables e below (Tk5.setTop (mkF m 67 #[.val (.int p0), .val (.int p1), .val (.int k), .val (.ref r), .val (.ref y)] [(.ref y)])) _
      refine own_go (fun _ => XS.aload Xk5.here hx rfl (hb hby at_67) rfl rfl) ?_
      show Run p.tables e below (Tk5.setTop (mkF m 69 #[.val (.int p0), .val (.int p1), .val (.int k), .val (.ref r), .val (.ref y)] [(.ref y), (.ref y)])) _
      refine own_go (fun _ => XT.acmpNo Xk5.here hx rfl (hb hby at_69) rfl rfl rfl (XT.aa_ne_f rfl)) ?_
      show Run p.tables e below (Tk5.setTop (mkF m 72 #[.val (.int p0), .val (.int p1), .val (.int k), .val (.ref r), .val (.ref y)] [])) _
      refine own_go (fun _ => XS.iconst Xk5.here hx rfl (hb hby at_72)) ?_
      show Run p.tables e below (Tk5.setTop (mkF m 73 #[.val (.int p0), .val (.int p1), .val (.int k), .val (.ref r), .val (.ref y)] [(.int (1 : Int32))])) _
      refine own_go (fun _ => XS.goto Xk5.here hx rfl (pc0 := 73) (pc' := 77) rfl (hb hby at_73) (by decide) (by decide)) ?_
      show Run p.tables e below (Tk5.setTop (mkF m 77 #[.val (.int p0), .val (.int p1), .val (.int k), .val (.ref r), .val (.ref y)] [(.int (1 : Int32))])) _
      exact own_out Xk5 (v := some (.int (1 : Int32))) (fun q => by rw [hret] at q; cases q) hlk (fun fs hr => retN Xk5 hx (t := .boolean) hret (by simp) (hb hby at_77) hr) ⟨rfl, (by simpa using NR)⟩ (by decide) (by decide)
  refine own_go (fun _ k => castTop (ef_L m p0 p1) k) ?_
  show Run p.tables e below (s₁.setTop (mkF m 0 #[.val (.int p0), .val (.int p1), .unset, .unset, .unset] [])) _
  refine own_go (fun _ => XS.iloadN X0.here hx rfl (hb hby at_0) rfl) ?_
  show Run p.tables e below (s₁.setTop (mkF m 1 #[.val (.int p0), .val (.int p1), .unset, .unset, .unset] [(.int p1)])) _
  refine own_go (fun _ => XS.iconst X0.here hx rfl (hb hby at_1)) ?_
  show Run p.tables e below (s₁.setTop (mkF m 2 #[.val (.int p0), .val (.int p1), .unset, .unset, .unset] [(.int (1 : Int32)), (.int p1)])) _
  refine own_go (fun _ => XS.iand X0.here hx rfl (hb hby at_2) rfl) ?_
  show Run p.tables e below (s₁.setTop (mkF m 3 #[.val (.int p0), .val (.int p1), .unset, .unset, .unset] [(.int (p1 &&& (1 : Int32)))])) _
  by_cases q : (p1 &&& (1 : Int32)) = 0
  · show Run p.tables e below (s₁.setTop (mkF m 3 #[.val (.int p0), .val (.int p1), .unset, .unset, .unset] [(.int (p1 &&& (1 : Int32)))])) _
    refine own_go (fun _ => XS.ifYes X0.here hx rfl (pc0 := 3) (pc' := 21) rfl (hb hby at_3) rfl (XT.i0_eq_t q) (by decide) (by decide)) ?_
    show Run p.tables e below (s₁.setTop (mkF m 21 #[.val (.int p0), .val (.int p1), .unset, .unset, .unset] [])) _
    refine own_go (fun _ => XS.iloadN X0.here hx rfl (hb hby at_21) rfl) ?_
    show Run p.tables e below (s₁.setTop (mkF m 22 #[.val (.int p0), .val (.int p1), .unset, .unset, .unset] [(.int p0)])) _
    refine own_go (fun _ => Jvm.Stand.ldcI X0 hx hown (mvT hZ (hw _ (List.mem_of_getElem? (i := 43) rfl))) rfl (hb hby at_22)) ?_
    show Run p.tables e below (s₁.setTop (mkF m 24 #[.val (.int p0), .val (.int p1), .unset, .unset, .unset] [(.int (65535 : Int32)), (.int p0)])) _
    refine own_go (fun _ => XS.iand X0.here hx rfl (hb hby at_24) rfl) ?_
    show Run p.tables e below (s₁.setTop (mkF m 25 #[.val (.int p0), .val (.int p1), .unset, .unset, .unset] [(.int (p0 &&& (65535 : Int32)))])) _
    refine own_go (fun _ => XT.i2c X0.here hx rfl (hb hby at_25) rfl) ?_
    show Run p.tables e below (s₁.setTop (mkF m 26 #[.val (.int p0), .val (.int p1), .unset, .unset, .unset] [(.int ((p0 &&& (65535 : Int32))).toUInt32.toUInt16.toUInt32.toInt32)])) _
    refine own_go (fun _ => XS.istoreN X0.here hx rfl (hb hby at_26) rfl (l' := #[.val (.int p0), .val (.int p1), .val (.int ((p0 &&& (65535 : Int32))).toUInt32.toUInt16.toUInt32.toInt32), .unset, .unset]) rfl) ?_
    show Run p.tables e below (s₁.setTop (mkF m 27 #[.val (.int p0), .val (.int p1), .val (.int ((p0 &&& (65535 : Int32))).toUInt32.toUInt16.toUInt32.toInt32), .unset, .unset] [])) _
    exact J _
  · show Run p.tables e below (s₁.setTop (mkF m 3 #[.val (.int p0), .val (.int p1), .unset, .unset, .unset] [(.int (p1 &&& (1 : Int32)))])) _
    refine own_go (fun _ => XS.ifNo X0.here hx rfl (hb hby at_3) rfl (XT.i0_eq_f q)) ?_
    show Run p.tables e below (s₁.setTop (mkF m 6 #[.val (.int p0), .val (.int p1), .unset, .unset, .unset] [])) _
    refine own_go (fun _ => XS.bipush X0.here hx rfl (hb hby at_6)) ?_
    show Run p.tables e below (s₁.setTop (mkF m 8 #[.val (.int p0), .val (.int p1), .unset, .unset, .unset] [(.int (97 : Int32))])) _
    refine own_go (fun _ => XS.iloadN X0.here hx rfl (hb hby at_8) rfl) ?_
    show Run p.tables e below (s₁.setTop (mkF m 9 #[.val (.int p0), .val (.int p1), .unset, .unset, .unset] [(.int p0), (.int (97 : Int32))])) _
    refine own_go (fun _ => Jvm.Stand.ldcI X0 hx hown (mvT hZ (hw _ (List.mem_of_getElem? (i := 0) rfl))) rfl (hb hby at_9)) ?_
    show Run p.tables e below (s₁.setTop (mkF m 11 #[.val (.int p0), .val (.int p1), .unset, .unset, .unset] [(.int (2147483647 : Int32)), (.int p0), (.int (97 : Int32))])) _
    refine own_go (fun _ => XS.iand X0.here hx rfl (hb hby at_11) rfl) ?_
    show Run p.tables e below (s₁.setTop (mkF m 12 #[.val (.int p0), .val (.int p1), .unset, .unset, .unset] [(.int (p0 &&& (2147483647 : Int32))), (.int (97 : Int32))])) _
    refine own_go (fun _ => XS.bipush X0.here hx rfl (hb hby at_12)) ?_
    show Run p.tables e below (s₁.setTop (mkF m 14 #[.val (.int p0), .val (.int p1), .unset, .unset, .unset] [(.int (26 : Int32)), (.int (p0 &&& (2147483647 : Int32))), (.int (97 : Int32))])) _
    refine own_go (fun _ => iremM X0 hx rfl (hb hby at_14) rfl (by decide)) ?_
    show Run p.tables e below (s₁.setTop (mkF m 15 #[.val (.int p0), .val (.int p1), .unset, .unset, .unset] [(.int ((p0 &&& (2147483647 : Int32)) % (26 : Int32))), (.int (97 : Int32))])) _
    refine own_go (fun _ => XS.iadd X0.here hx rfl (hb hby at_15) rfl) ?_
    show Run p.tables e below (s₁.setTop (mkF m 16 #[.val (.int p0), .val (.int p1), .unset, .unset, .unset] [(.int ((97 : Int32) + ((p0 &&& (2147483647 : Int32)) % (26 : Int32))))])) _
    refine own_go (fun _ => XT.i2c X0.here hx rfl (hb hby at_16) rfl) ?_
    show Run p.tables e below (s₁.setTop (mkF m 17 #[.val (.int p0), .val (.int p1), .unset, .unset, .unset] [(.int (((97 : Int32) + ((p0 &&& (2147483647 : Int32)) % (26 : Int32)))).toUInt32.toUInt16.toUInt32.toInt32)])) _
    refine own_go (fun _ => XS.istoreN X0.here hx rfl (hb hby at_17) rfl (l' := #[.val (.int p0), .val (.int p1), .val (.int (((97 : Int32) + ((p0 &&& (2147483647 : Int32)) % (26 : Int32)))).toUInt32.toUInt16.toUInt32.toInt32), .unset, .unset]) rfl) ?_
    show Run p.tables e below (s₁.setTop (mkF m 18 #[.val (.int p0), .val (.int p1), .val (.int (((97 : Int32) + ((p0 &&& (2147483647 : Int32)) % (26 : Int32)))).toUInt32.toUInt16.toUInt32.toInt32), .unset, .unset] [])) _
    refine own_go (fun _ => XS.goto X0.here hx rfl (pc0 := 18) (pc' := 27) rfl (hb hby at_18) (by decide) (by decide)) ?_
    show Run p.tables e below (s₁.setTop (mkF m 27 #[.val (.int p0), .val (.int p1), .val (.int (((97 : Int32) + ((p0 &&& (2147483647 : Int32)) % (26 : Int32)))).toUInt32.toUInt16.toUInt32.toInt32), .unset, .unset] [])) _
    exact J _
set_option maxRecDepth 65536 in
set_option maxHeartbeats 40000000 in
theorem comes_1 {Post : Tables → Env → Array Value → State → Outcome → State → Prop} (hpost : ∀ tb e args s v u, (limb_1_1.after args s (.returned v) u = true ∧ limb_1_2.after args s (.returned v) u = true ∧ True) → FrameEnd s (.returned v) u (Jvm.fieldLocs frame_1_writes args s ++ Jvm.arrayLocs frame_1_arrays args s ++ Jvm.staticLocs frame_1_statics s) 16 128 → Post tb e args s (.returned v) u) :
    ArmFor flags0 classFile x code maxLocals ret World_1 tables_1 room_1 Calls_1 rest_1 Pre_1 Post := by
  intro l hfl _ _ p e ha hc hk s m args below hf hA hF happ hP
  obtain ⟨hcalls, hrest, hpre⟩ := hP
  obtain ⟨-, -, -, hnamed, -, -, -, hat⟩ := (Spec.applies_iff hf).mp happ
  obtain ⟨hg, hn⟩ := and_e (Cond.before_iff.mp (show (Jvm.Cond.and given_1 narrow_1).before args s = true from hpre))
  obtain ⟨h1, hg⟩ := and_e hg
  obtain ⟨w0, w1, rfl⟩ : ∃ w0 w1 : Value, args = #[w0, w1] := by
    have hs : args.size = 2 := by simpa [Cond.value, given_1] using h1
    obtain ⟨L⟩ := args
    match L, hs with
    | [w0, w1], _ => exact ⟨w0, w1, rfl⟩
  have hw := fun d (hd : d ∈ tables_1) => atoms_spec (ws := Jvm.Cond.code x code maxLocals ret :: tables_1) hat d (List.mem_cons_of_mem _ hd)
  have hfit : Fit s := fun {y c} hc i hi => by
    obtain ⟨ha, rfl⟩ := Array.getElem?_eq_some_iff.mp hc
    have q := List.all_eq_true.mp ((Array.all_eq_true_iff_forall_mem.mp hF) _ (Array.getElem_mem ha)) i (List.mem_range.mpr hi)
    simpa [Array.getElem?_eq_getElem hi] using q
  obtain ⟨g0, hg⟩ := and_e hg
  obtain ⟨i0, q0⟩ := is_v g0
  obtain rfl : w0 = (.int i0) := Option.some.inj q0
  have g1 := hg
  obtain ⟨i1, q1⟩ := is_v g1
  obtain rfl : w1 = (.int i1) := Option.some.inj q1
  obtain ⟨n0, hn⟩ := and_e hn
  obtain ⟨n1, hn⟩ := and_e hn
  obtain ⟨n2, hn⟩ := and_e hn
  obtain ⟨n3, hn⟩ := and_e hn
  obtain ⟨n4, hn⟩ := and_e hn
  obtain ⟨n5, hn⟩ := and_e hn
  obtain ⟨n6, hn⟩ := and_e hn
  obtain ⟨n7, hn⟩ := and_e hn
  obtain ⟨n8, hn⟩ := and_e hn
  obtain ⟨n9, hn⟩ := and_e hn
  obtain ⟨n10, hn⟩ := and_e hn
  obtain ⟨n11, hn⟩ := and_e hn
  obtain ⟨n12, hn⟩ := and_e hn
  obtain ⟨n13, hn⟩ := and_e hn
  obtain ⟨n14, hn⟩ := and_e hn
  obtain ⟨n15, hn⟩ := and_e hn
  obtain ⟨n16, hn⟩ := and_e hn
  have n17 := hn
  obtain ⟨a_CREATE, ev_CREATE⟩ := exa_v n3
  have E_CREATE := Exa.start ev_CREATE n3
  have S_CREATE := Sta.start ev_CREATE (Or.inr ⟨(hw _ (List.mem_of_getElem? (i := 3) rfl)), (hw _ (List.mem_of_getElem? (i := 17) rfl))⟩)
  obtain ⟨a_READ, ev_READ⟩ := exa_v n5
  have E_READ := Exa.start ev_READ n5
  have S_READ := Sta.start ev_READ (Or.inr ⟨(hw _ (List.mem_of_getElem? (i := 3) rfl)), (hw _ (List.mem_of_getElem? (i := 18) rfl))⟩)
  obtain ⟨a_UPDATE, ev_UPDATE⟩ := exa_v n7
  have E_UPDATE := Exa.start ev_UPDATE n7
  have S_UPDATE := Sta.start ev_UPDATE (Or.inr ⟨(hw _ (List.mem_of_getElem? (i := 3) rfl)), (hw _ (List.mem_of_getElem? (i := 19) rfl))⟩)
  obtain ⟨a_DELETE, ev_DELETE⟩ := exa_v n9
  have E_DELETE := Exa.start ev_DELETE n9
  have S_DELETE := Sta.start ev_DELETE (Or.inr ⟨(hw _ (List.mem_of_getElem? (i := 3) rfl)), (hw _ (List.mem_of_getElem? (i := 20) rfl))⟩)
  obtain ⟨a_SEARCH, ev_SEARCH⟩ := exa_v n11
  have E_SEARCH := Exa.start ev_SEARCH n11
  have S_SEARCH := Sta.start ev_SEARCH (Or.inr ⟨(hw _ (List.mem_of_getElem? (i := 3) rfl)), (hw _ (List.mem_of_getElem? (i := 21) rfl))⟩)
  have F_CREATE_letter := own_fld ev_CREATE n13
  have F_READ_letter := own_fld ev_READ n14
  have F_UPDATE_letter := own_fld ev_UPDATE n15
  have F_DELETE_letter := own_fld ev_DELETE n16
  have F_SEARCH_letter := own_fld ev_SEARCH n17
  obtain ⟨hsets, hown0⟩ := atoms_of _ (rest_1_c_eq ▸ (show rest_1_c.before _ s = true from hrest))
  obtain ⟨em, evE⟩ := exa_v (Cond.before_iff.mp (hsets _ (List.mem_of_getElem? (i := 2) rfl)))
  have EE := Exa.start evE (Cond.before_iff.mp (hsets _ (List.mem_of_getElem? (i := 2) rfl)))
  have SE := Sta.start evE (Or.inl (hsets _ (List.mem_of_getElem? (i := 1) rfl)))
  have FE := own_nullF evE (Cond.before_iff.mp (hsets _ (List.mem_of_getElem? (i := 3) rfl)))
  obtain ⟨av, evV⟩ := arr_v n0
  obtain ⟨cl, AV⟩ := Arr.start evV n0
  have EV := Exa.start evV n1
  have SV := Sta.start evV (Or.inr ⟨(hw _ (List.mem_of_getElem? (i := 3) rfl)), (hw _ (List.mem_of_getElem? (i := 9) rfl))⟩)
  obtain ⟨l1, l2⟩ := own_len evV AV n2
  have u0 := (elem_in (own_eqR n4 ev_CREATE) evV (Term.int_eval 0) AV.1).2
  have u1 := (elem_in (own_eqR n6 ev_READ) evV (Term.int_eval 1) AV.1).2
  have u2 := (elem_in (own_eqR n8 ev_UPDATE) evV (Term.int_eval 2) AV.1).2
  have u3 := (elem_in (own_eqR n10 ev_DELETE) evV (Term.int_eval 3) AV.1).2
  have u4 := (elem_in (own_eqR n12 ev_SEARCH) evV (Term.int_eval 4) AV.1).2
  have VV : Arv s s.heap av cl.cls (.object "com/example/chartleaf/chartleaf/model/Permission") 5 [.ref a_CREATE, .ref a_READ, .ref a_UPDATE, .ref a_DELETE, .ref a_SEARCH] .null := Arv.start hfit AV l1 l2 (by decide) rfl ⟨u0, u1, u2, u3, u4, trivial⟩
  obtain ⟨n, o, h1, h2, h3, _, L, rfl, ⟨rfl, N⟩, hq⟩ := rm0 l s _ hw tables_1 i0 i1 cl.cls a_CREATE a_READ a_UPDATE a_DELETE a_SEARCH av em s.heap s.heap.size (Nat.le_refl _) SV EV VV SE EE FE F_CREATE_letter F_READ_letter F_UPDATE_letter F_DELETE_letter F_SEARCH_letter S_CREATE S_READ S_UPDATE S_DELETE S_SEARCH p e ha hc hk s m _ below hf ((Spec.applies_iff_loose hf).mp happ).1 ⟨rfl, State.Warmed39.refl s, rfl⟩ trivial
  refine ⟨n, _, h1, h2, h3, hpost _ _ _ _ _ _ ⟨Cond.after_iff.mpr rfl, Cond.after_iff.mpr (eq_i res_at (Term.int_eval (1)) rfl), trivial⟩ ⟨hq.1, hq.2.1, (hq.2.2.sift fun y hy => Or.inr (N y hy)).mono (by decide) (by decide)⟩⟩
theorem main_1_1 : Claimed_1_1 := comes_1 fun _ _ _ _ _ _ h hF => ⟨h.1, hF⟩
theorem main_1_2 : Claimed_1_2 := comes_1 fun _ _ _ _ _ _ h hF => ⟨h.2.1, hF⟩
end Jvm.Pilot.@@N@@
namespace Jvm.Pilot.@@N@@
open Jvm Jvm.ClassFile Sem Op Lib Jvm.Free Jvm.Stand Jvm.Pilot.@@N@@.Jvm.D
/-! MADE BY PROGRAM (witnessworld.py) out of the Statement's table words and the real class files: 15 classes; the members and pool entries that the words name. The judged class is class 1, her method 2. -/
namespace start1
open Jvm.ClassFile
def u (s : String) : CpInfo := .utf8 (stringToUtf16 s)
/-- a pool by its gaps: so many unusable entries, then the entry; so many at the end -/
def gap : Nat → List CpInfo → List CpInfo
  | 0, r => r
  | n + 1, r => .unusable :: gap n r
def poolList (es : List (Nat × CpInfo)) (last : Nat) : List CpInfo := es.foldr (fun e r => gap e.1 (e.2 :: r)) (gap last [])
def pool (es : List (Nat × CpInfo)) (last : Nat) : Array CpInfo := ⟨poolList es last⟩
def fileOf (pool : Array CpInfo) (this : Nat) (attrs : Array Attribute := #[]) (ms : Array MethodInfo := #[]) (fl : Nat := 33) (sup : Nat := 0) (ifs : Array Nat := #[]) (fds : Array FieldInfo := #[]) : ClassFile where
  minorVersion := 0
  majorVersion := 65
  constantPool := pool
  accessFlags := fl
  thisClass := this
  superClass := sup
  interfaces := ifs
  fields := fds
  methods := ms
  attributes := attrs
def plain (name : String) (sup : Option ClassId) : Class where
  name := name
  kind := .ordinary
  loader := none
  accessFlags := 33
  super := sup
  interfaces := #[]
  cf := none
  fields := #[]
  methods := #[]
  instanceTypes := #[]
  staticTypes := #[]
  resolved := #[]
  callSites := []
  init := .initialized
  statics := none
  mirror := none

def pool0 : Array CpInfo := pool [(5, u "<init>"), (0, u "()V"), (1, .class_ 10), (1, u "java/lang/Object"), (85, u "clone"), (0, u "()Ljava/lang/Object;")] 26

def k0c0 : Code := { maxStack := 0, maxLocals := 1, code := object_method_1_code, exceptionTable := #[], attributes := #[] }
def k0m0 : Method := { name := "<init>", desc := "()V", sig := { parameters := [], returnType := none }, accessFlags := 1, code := some k0c0 }
def k0m1 : Method := { name := "clone", desc := "()Ljava/lang/Object;", sig := { parameters := [], returnType := some (.object "java/lang/Object") }, accessFlags := 260, code := none }
/-- java/lang/Object -/
def k0 : Class := { plain "java/lang/Object" none with
  accessFlags := 33
  interfaces := #[]
  cf := some (fileOf pool0 8 #[] #[{ accessFlags := 1, nameIndex := 5, descriptorIndex := 6, attributes := #[] }, { accessFlags := 260, nameIndex := 96, descriptorIndex := 97, attributes := #[] }] 33 0 #[] #[])
  fields := #[]
  methods := #[k0m0, k0m1]
  instanceTypes := #[]
  staticTypes := #[]
  resolved := Array.replicate 124 none
  statics := none }

def pool1 : Array CpInfo := pool [(2, .class_ 4), (1, u "java/lang/Object"), (0, u "<init>"), (0, u "()V"), (0, .fieldref 8 9), (0, .class_ 10), (0, .nameAndType 11 12), (0, u "com/example/chartleaf/chartleaf/model/Permission"), (0, u "CREATE"), (0, u "Lcom/example/chartleaf/chartleaf/model/Permission;"), (0, .fieldref 8 14), (0, .nameAndType 15 12), (0, u "READ"), (0, .fieldref 8 17), (0, .nameAndType 18 12), (0, u "UPDATE"), (0, .fieldref 8 20), (0, .nameAndType 21 12), (0, u "DELETE"), (0, .fieldref 8 23), (0, .nameAndType 24 12), (0, u "SEARCH"), (0, .integer 2147483647), (0, .integer 65535), (0, .methodref 8 28), (0, .nameAndType 29 30), (0, u "of"), (0, u "(C)Ljava/util/Optional;"), (0, .methodref 32 33), (0, .class_ 34), (0, .nameAndType 35 36), (0, u "com/example/chartleaf/chartleaf/model/PermissionOfPinLaw"), (0, u "expected"), (0, u "(C)Lcom/example/chartleaf/chartleaf/model/Permission;"), (0, .methodref 38 39), (0, .class_ 40), (0, .nameAndType 41 42), (0, u "java/util/Optional"), (0, u "isPresent"), (0, u "()Z"), (0, .methodref 38 44), (0, .nameAndType 45 46), (0, u "get"), (0, u "()Ljava/lang/Object;"), (3, u "law"), (0, u "(II)Z")] 2

def k1m0 : Method := { name := "<init>", desc := "()V", sig := { parameters := [], returnType := none }, accessFlags := 1, code := none }
def k1c1 : Code := { maxStack := 2, maxLocals := 1, code := method_2_code, exceptionTable := #[], attributes := #[] }
def k1m1 : Method := { name := "expected", desc := "(C)Lcom/example/chartleaf/chartleaf/model/Permission;", sig := { parameters := [.char], returnType := some (.object "com/example/chartleaf/chartleaf/model/Permission") }, accessFlags := 10, code := some k1c1 }
def k1c2 : Code := { maxStack := 3, maxLocals := 5, code := code, exceptionTable := #[], attributes := #[] }
def k1m2 : Method := { name := "law", desc := "(II)Z", sig := { parameters := [.int, .int], returnType := some .boolean }, accessFlags := 9, code := some k1c2 }
/-- com/example/chartleaf/chartleaf/model/PermissionOfPinLaw -/
def k1 : Class := { plain "com/example/chartleaf/chartleaf/model/PermissionOfPinLaw" (some 0) with
  accessFlags := 49
  interfaces := #[]
  cf := some (fileOf pool1 32 #[] #[{ accessFlags := 1, nameIndex := 5, descriptorIndex := 6, attributes := #[] }, { accessFlags := 10, nameIndex := 35, descriptorIndex := 36, attributes := #[] }, { accessFlags := 9, nameIndex := 50, descriptorIndex := 51, attributes := #[] }] 49 2 #[] #[])
  fields := #[]
  methods := #[k1m0, k1m1, k1m2]
  instanceTypes := #[]
  staticTypes := #[]
  resolved := Array.replicate 54 none
  statics := none }

def pool2 : Array CpInfo := pool [(1, .class_ 2), (0, u "java/lang/constant/Constable"), (0, .class_ 4), (0, u "java/lang/Object")] 6

/-- java/lang/constant/Constable -/
def k2 : Class := { plain "java/lang/constant/Constable" (some 0) with
  accessFlags := 1537
  interfaces := #[]
  cf := some (fileOf pool2 1 #[] #[] 1537 3 #[] #[])
  fields := #[]
  methods := #[]
  instanceTypes := #[]
  staticTypes := #[]
  resolved := Array.replicate 11 none
  statics := none }

def pool3 : Array CpInfo := pool [(1, .class_ 2), (0, u "java/lang/Comparable"), (0, .class_ 4), (0, u "java/lang/Object")] 7

/-- java/lang/Comparable -/
def k3 : Class := { plain "java/lang/Comparable" (some 0) with
  accessFlags := 1537
  interfaces := #[]
  cf := some (fileOf pool3 1 #[] #[] 1537 3 #[] #[])
  fields := #[]
  methods := #[]
  instanceTypes := #[]
  staticTypes := #[]
  resolved := Array.replicate 12 none
  statics := none }

def pool4 : Array CpInfo := pool [(1, .class_ 2), (0, u "java/io/Serializable"), (0, .class_ 4), (0, u "java/lang/Object")] 2

/-- java/io/Serializable -/
def k4 : Class := { plain "java/io/Serializable" (some 0) with
  accessFlags := 1537
  interfaces := #[]
  cf := some (fileOf pool4 1 #[] #[] 1537 3 #[] #[])
  fields := #[]
  methods := #[]
  instanceTypes := #[]
  staticTypes := #[]
  resolved := Array.replicate 7 none
  statics := none }

def pool5 : Array CpInfo := pool [(2, .class_ 4), (1, u "java/lang/Enum"), (0, u "name"), (0, u "Ljava/lang/String;"), (2, u "ordinal"), (0, u "I"), (1, .class_ 14), (1, u "java/lang/Object"), (4, u "hash"), (86, .class_ 108), (1, u "java/lang/Enum$EnumDesc"), (2, .class_ 112), (0, u "java/lang/constant/Constable"), (0, .class_ 114), (0, u "java/lang/Comparable"), (0, .class_ 116), (0, u "java/io/Serializable")] 87

/-- java/lang/Enum -/
def k5 : Class := { plain "java/lang/Enum" (some 0) with
  accessFlags := 1057
  interfaces := #[2, 3, 4]
  cf := some (fileOf pool5 2 #[.nestMembers #[106]] #[] 1057 12 #[111, 113, 115] #[{ accessFlags := 18, nameIndex := 5, descriptorIndex := 6, attributes := #[] }, { accessFlags := 18, nameIndex := 9, descriptorIndex := 10, attributes := #[] }, { accessFlags := 2, nameIndex := 19, descriptorIndex := 10, attributes := #[] }])
  fields := #[{ name := "name", type := (.object "java/lang/String"), accessFlags := 18, slot := 0, constantValue := 0 }, { name := "ordinal", type := .int, accessFlags := 18, slot := 1, constantValue := 0 }, { name := "hash", type := .int, accessFlags := 2, slot := 2, constantValue := 0 }]
  methods := #[]
  instanceTypes := #[(.object "java/lang/String"), .int, .int]
  staticTypes := #[]
  resolved := Array.replicate 204 none
  statics := none }

def pool6 : Array CpInfo := pool [(1, .class_ 2), (0, u "com/example/chartleaf/chartleaf/model/Permission"), (2, u "CREATE"), (0, u "Lcom/example/chartleaf/chartleaf/model/Permission;"), (2, u "READ"), (2, u "UPDATE"), (2, u "DELETE"), (2, u "SEARCH"), (0, .fieldref 1 20), (0, .nameAndType 21 22), (0, u "$VALUES"), (0, u "[Lcom/example/chartleaf/chartleaf/model/Permission;"), (0, .methodref 24 25), (0, .class_ 22), (0, .nameAndType 26 27), (0, u "clone"), (0, u "()Ljava/lang/Object;"), (1, .class_ 31), (1, u "java/lang/Enum"), (6, .fieldref 1 39), (0, .nameAndType 40 41), (0, u "letter"), (0, u "C"), (2, u "verb"), (0, u "Ljava/lang/String;"), (0, .methodref 1 47), (0, .nameAndType 48 49), (0, u "values"), (0, u "()[Lcom/example/chartleaf/chartleaf/model/Permission;"), (0, .methodref 51 52), (0, .class_ 53), (0, .nameAndType 54 55), (0, u "java/util/Optional"), (0, u "of"), (0, u "(Ljava/lang/Object;)Ljava/util/Optional;"), (0, .methodref 51 57), (0, .nameAndType 58 59), (0, u "empty"), (0, u "()Ljava/util/Optional;"), (29, u "(C)Ljava/util/Optional;")] 7

def k6c0 : Code := { maxStack := 1, maxLocals := 0, code := prog_19_method_1_code, exceptionTable := #[], attributes := #[] }
def k6m0 : Method := { name := "values", desc := "()[Lcom/example/chartleaf/chartleaf/model/Permission;", sig := { parameters := [], returnType := some (.array (.object "com/example/chartleaf/chartleaf/model/Permission")) }, accessFlags := 9, code := some k6c0 }
def k6c1 : Code := { maxStack := 2, maxLocals := 5, code := prog_19_method_6_code, exceptionTable := #[], attributes := #[] }
def k6m1 : Method := { name := "of", desc := "(C)Ljava/util/Optional;", sig := { parameters := [.char], returnType := some (.object "java/util/Optional") }, accessFlags := 9, code := some k6c1 }
/-- com/example/chartleaf/chartleaf/model/Permission -/
def k6 : Class := { plain "com/example/chartleaf/chartleaf/model/Permission" (some 5) with
  accessFlags := 16433
  interfaces := #[]
  cf := some (fileOf pool6 1 #[] #[{ accessFlags := 9, nameIndex := 48, descriptorIndex := 49, attributes := #[] }, { accessFlags := 9, nameIndex := 54, descriptorIndex := 89, attributes := #[] }] 16433 29 #[] #[{ accessFlags := 16409, nameIndex := 5, descriptorIndex := 6, attributes := #[] }, { accessFlags := 16409, nameIndex := 9, descriptorIndex := 6, attributes := #[] }, { accessFlags := 16409, nameIndex := 12, descriptorIndex := 6, attributes := #[] }, { accessFlags := 16409, nameIndex := 15, descriptorIndex := 6, attributes := #[] }, { accessFlags := 16409, nameIndex := 18, descriptorIndex := 6, attributes := #[] }, { accessFlags := 18, nameIndex := 40, descriptorIndex := 41, attributes := #[] }, { accessFlags := 18, nameIndex := 44, descriptorIndex := 45, attributes := #[] }, { accessFlags := 4122, nameIndex := 21, descriptorIndex := 22, attributes := #[] }])
  fields := #[{ name := "CREATE", type := (.object "com/example/chartleaf/chartleaf/model/Permission"), accessFlags := 16409, slot := 0, constantValue := 0 }, { name := "READ", type := (.object "com/example/chartleaf/chartleaf/model/Permission"), accessFlags := 16409, slot := 1, constantValue := 0 }, { name := "UPDATE", type := (.object "com/example/chartleaf/chartleaf/model/Permission"), accessFlags := 16409, slot := 2, constantValue := 0 }, { name := "DELETE", type := (.object "com/example/chartleaf/chartleaf/model/Permission"), accessFlags := 16409, slot := 3, constantValue := 0 }, { name := "SEARCH", type := (.object "com/example/chartleaf/chartleaf/model/Permission"), accessFlags := 16409, slot := 4, constantValue := 0 }, { name := "letter", type := .char, accessFlags := 18, slot := 3, constantValue := 0 }, { name := "verb", type := (.object "java/lang/String"), accessFlags := 18, slot := 4, constantValue := 0 }, { name := "$VALUES", type := (.array (.object "com/example/chartleaf/chartleaf/model/Permission")), accessFlags := 4122, slot := 5, constantValue := 0 }]
  methods := #[k6m0, k6m1]
  instanceTypes := #[(.object "java/lang/String"), .int, .int, .char, (.object "java/lang/String")]
  staticTypes := #[(.object "com/example/chartleaf/chartleaf/model/Permission"), (.object "com/example/chartleaf/chartleaf/model/Permission"), (.object "com/example/chartleaf/chartleaf/model/Permission"), (.object "com/example/chartleaf/chartleaf/model/Permission"), (.object "com/example/chartleaf/chartleaf/model/Permission"), (.array (.object "com/example/chartleaf/chartleaf/model/Permission"))]
  resolved := Array.replicate 97 none
  statics := some 0 }

def pool7 : Array CpInfo := pool [(1, .class_ 2), (0, u "java/lang/Cloneable"), (0, .class_ 4), (0, u "java/lang/Object")] 2

/-- java/lang/Cloneable -/
def k7 : Class := { plain "java/lang/Cloneable" (some 0) with
  accessFlags := 1537
  interfaces := #[]
  cf := some (fileOf pool7 1 #[] #[] 1537 3 #[] #[])
  fields := #[]
  methods := #[]
  instanceTypes := #[]
  staticTypes := #[]
  resolved := Array.replicate 7 none
  statics := none }

def pool8 : Array CpInfo := pool [(1, .fieldref 2 3), (0, .class_ 4), (0, .nameAndType 5 6), (0, u "java/util/Optional"), (0, u "EMPTY"), (0, u "Ljava/util/Optional;"), (0, .methodref 8 9), (0, .class_ 10), (0, .nameAndType 11 12), (0, u "java/lang/Object"), (0, u "<init>"), (0, u "()V"), (0, .fieldref 2 14), (0, .nameAndType 15 16), (0, u "value"), (0, u "Ljava/lang/Object;"), (0, .methodref 18 19), (0, .class_ 20), (0, .nameAndType 21 22), (0, u "java/util/Objects"), (0, u "requireNonNull"), (0, u "(Ljava/lang/Object;)Ljava/lang/Object;"), (0, .methodref 2 24), (0, .nameAndType 11 25), (0, u "(Ljava/lang/Object;)V"), (20, u "()Z"), (8, u "empty"), (0, u "()Ljava/util/Optional;"), (8, u "(Ljava/lang/Object;)Ljava/util/Optional;"), (2, u "isPresent"), (4, u "get"), (0, u "()Ljava/lang/Object;"), (7, u "of")] 104

def k8c0 : Code := { maxStack := 1, maxLocals := 1, code := jdk_32_method_1_code, exceptionTable := #[], attributes := #[] }
def k8m0 : Method := { name := "empty", desc := "()Ljava/util/Optional;", sig := { parameters := [], returnType := some (.object "java/util/Optional") }, accessFlags := 9, code := some k8c0 }
def k8c1 : Code := { maxStack := 2, maxLocals := 2, code := jdk_32_method_2_code, exceptionTable := #[], attributes := #[] }
def k8m1 : Method := { name := "<init>", desc := "(Ljava/lang/Object;)V", sig := { parameters := [(.object "java/lang/Object")], returnType := none }, accessFlags := 2, code := some k8c1 }
def k8c2 : Code := { maxStack := 3, maxLocals := 1, code := jdk_32_method_3_code, exceptionTable := #[], attributes := #[] }
def k8m2 : Method := { name := "of", desc := "(Ljava/lang/Object;)Ljava/util/Optional;", sig := { parameters := [(.object "java/lang/Object")], returnType := some (.object "java/util/Optional") }, accessFlags := 9, code := some k8c2 }
def k8c3 : Code := { maxStack := 3, maxLocals := 1, code := jdk_32_method_5_code, exceptionTable := #[], attributes := #[] }
def k8m3 : Method := { name := "get", desc := "()Ljava/lang/Object;", sig := { parameters := [], returnType := some (.object "java/lang/Object") }, accessFlags := 1, code := some k8c3 }
def k8c4 : Code := { maxStack := 1, maxLocals := 1, code := jdk_32_method_6_code, exceptionTable := #[], attributes := #[] }
def k8m4 : Method := { name := "isPresent", desc := "()Z", sig := { parameters := [], returnType := some .boolean }, accessFlags := 1, code := some k8c4 }
/-- java/util/Optional -/
def k8 : Class := { plain "java/util/Optional" (some 0) with
  accessFlags := 49
  interfaces := #[]
  cf := some (fileOf pool8 2 #[] #[{ accessFlags := 9, nameIndex := 55, descriptorIndex := 56, attributes := #[] }, { accessFlags := 2, nameIndex := 11, descriptorIndex := 25, attributes := #[] }, { accessFlags := 9, nameIndex := 82, descriptorIndex := 65, attributes := #[] }, { accessFlags := 1, nameIndex := 73, descriptorIndex := 74, attributes := #[] }, { accessFlags := 1, nameIndex := 68, descriptorIndex := 46, attributes := #[] }] 49 8 #[] #[{ accessFlags := 26, nameIndex := 5, descriptorIndex := 6, attributes := #[] }, { accessFlags := 18, nameIndex := 15, descriptorIndex := 16, attributes := #[] }])
  fields := #[{ name := "EMPTY", type := (.object "java/util/Optional"), accessFlags := 26, slot := 0, constantValue := 0 }, { name := "value", type := (.object "java/lang/Object"), accessFlags := 18, slot := 0, constantValue := 0 }]
  methods := #[k8m0, k8m1, k8m2, k8m3, k8m4]
  instanceTypes := #[(.object "java/lang/Object")]
  staticTypes := #[(.object "java/util/Optional")]
  resolved := Array.replicate 187 none
  statics := some 1 }

def pool9 : Array CpInfo := pool [(2, .class_ 4), (1, u "java/lang/Object"), (0, u "<init>"), (0, u "()V"), (35, .class_ 44), (1, u "java/util/Objects"), (0, u "requireNonNull"), (0, u "(Ljava/lang/Object;)Ljava/lang/Object;")] 137

def k9m0 : Method := { name := "<init>", desc := "()V", sig := { parameters := [], returnType := none }, accessFlags := 2, code := none }
def k9c1 : Code := { maxStack := 2, maxLocals := 1, code := jdk_31_method_10_code, exceptionTable := #[], attributes := #[] }
def k9m1 : Method := { name := "requireNonNull", desc := "(Ljava/lang/Object;)Ljava/lang/Object;", sig := { parameters := [(.object "java/lang/Object")], returnType := some (.object "java/lang/Object") }, accessFlags := 9, code := some k9c1 }
/-- java/util/Objects -/
def k9 : Class := { plain "java/util/Objects" (some 0) with
  accessFlags := 49
  interfaces := #[]
  cf := some (fileOf pool9 42 #[] #[{ accessFlags := 2, nameIndex := 5, descriptorIndex := 6, attributes := #[] }, { accessFlags := 9, nameIndex := 45, descriptorIndex := 46, attributes := #[] }] 49 2 #[] #[])
  fields := #[]
  methods := #[k9m0, k9m1]
  instanceTypes := #[]
  staticTypes := #[]
  resolved := Array.replicate 184 none
  statics := none }

/-- the primitive byte -/
def k10 : Class := { plain "byte" none with kind := .primitive 'B', accessFlags := 0x411 }
/-- [B -/
def k11 : Class := { plain "[B" (some 0) with kind := .array 10 .byte, interfaces := #[7, 4], accessFlags := 1041 }

/-- the primitive int -/
def k12 : Class := { plain "int" none with kind := .primitive 'I', accessFlags := 0x411 }
/-- [I -/
def k13 : Class := { plain "[I" (some 0) with kind := .array 12 .int, interfaces := #[7, 4], accessFlags := 1041 }

/-- [Lcom/example/chartleaf/chartleaf/model/Permission; -/
def k14 : Class := { plain "[Lcom/example/chartleaf/chartleaf/model/Permission;" (some 0) with kind := .array 6 (.object "com/example/chartleaf/chartleaf/model/Permission"), interfaces := #[7, 4], accessFlags := 1041 }

def heap : Heap := #[{ cls := 6, slots := #[.ref 3, .ref 4, .ref 5, .ref 6, .ref 7, .ref 2], vm := .statics 6 },
  { cls := 8, slots := #[.ref 8], vm := .statics 8 },
  { cls := 14, slots := #[.ref 3, .ref 4, .ref 5, .ref 6, .ref 7], vm := .none },
  { cls := 6, slots := #[.null, .int 0, .int 0, .int 99, .null], vm := .none },
  { cls := 6, slots := #[.null, .int 1, .int 0, .int 114, .null], vm := .none },
  { cls := 6, slots := #[.null, .int 2, .int 0, .int 117, .null], vm := .none },
  { cls := 6, slots := #[.null, .int 3, .int 0, .int 100, .null], vm := .none },
  { cls := 6, slots := #[.null, .int 4, .int 0, .int 115, .null], vm := .none },
  { cls := 8, slots := #[.null], vm := .none }]
def classes : Array Class := #[k0, k1, k2, k3, k4, k5, k6, k7, k8, k9, k10, k11, k12, k13, k14]
def interned : List (Array UInt16 × Addr) := []
def slotsUsed : Nat := 38
def theMethod : MethodId := ⟨1, 2⟩
def args0 : Array Value := #[.int 5, .int 6]
def aboutOver (below : List Frame) : State where
  vm := { classes := classes, interned := interned.toArray }
  heap := heap
  slotsUsed := slotsUsed
  threads := #[{ frames := .invoking theMethod args0 :: below }]
def below0 : List Frame := [.native { method := ⟨0, 0⟩, args := #[] }]
def about1 : State := aboutOver below0
def p0 : Program := .bare "" "" ""
def e0 : Env := launch0.env 0 0 0
theorem w_frames : about1.frames = Frame.invoking theMethod args0 :: below0 := rfl
set_option maxRecDepth 65536 in
theorem w_args : argsFit about1.vm theMethod args0 = true := by decide +kernel
set_option maxRecDepth 65536 in
theorem w_heap : heapFits about1 = true := by decide +kernel
set_option maxRecDepth 65536 in
theorem w_runnable : about1.curStatus? = some .runnable := by decide +kernel
set_option maxRecDepth 65536 in
theorem w_alone : about1.alone = true := by decide +kernel
set_option maxRecDepth 65536 in
theorem w_named : about1.methodNamed? x = some theMethod := by decide +kernel
set_option maxRecDepth 65536 in
theorem w_hears : about1.hears theMethod below0 = true := by decide +kernel
set_option maxRecDepth 65536 in
theorem w_ripe : about1.ripe theMethod args0 below0 = true := by decide +kernel
theorem w_running : about1.status = .running := rfl
set_option maxRecDepth 65536 in
theorem w_room : about1.hasRoom e0.platform room_1 = true :=
  launch0.hasRoom_least _ room_1 (by decide +kernel) (by decide +kernel) (by decide +kernel) (by decide +kernel) (by decide +kernel) (by decide +kernel)
theorem allAtoms_all (ts : List Jvm.Cond) (a : Array Jvm.Value) (st : Jvm.State) : (allAtoms ts).before a st = ts.all (fun c => c.before a st) := by
  induction ts with
  | nil => rfl
  | cons c t ih =>
    show (Jvm.Cond.and c (allAtoms t)).before a st = _
    rw [Jvm.Cond.before_and, ih, List.all_cons]
def words1 : List Jvm.Cond := Jvm.Cond.code x code maxLocals ret :: tables_1
/-- a 'code' word, met by the world's own term for the bytes: nothing is compared byte by byte -/
theorem code_word {y : MethodName} {bytes : ByteArray} {mx : Nat} {rt : Option FieldType} {a : Array Value} {s : State} {m : MethodId} {meth : Method} {c : Code} (h1 : s.methodNamed? y = some m) (h2 : s.vm.method? m = some meth) (h3 : meth.code = some c) (h4 : c.code = bytes)
    (h5 : (c.maxLocals == mx && c.exceptionTable.isEmpty && decide (c.maxStack ≤ mostOperands) && decide (meth.sig.returnType = rt) && !meth.locks && decide (parseMethodDescriptor y.desc = some meth.sig)) = true) : (Jvm.Cond.code y bytes mx rt).before a s = true := by
  simp only [Bool.and_eq_true, beq_iff_eq, Bool.not_eq_true', decide_eq_true_eq] at h5
  obtain ⟨⟨⟨⟨⟨g1, g2⟩, g3⟩, g4⟩, g5⟩, g6⟩ := h5
  simp [Cond.before, Cond.holds, Cond.value, h1, h2, h3, h4, g1, g2, g3, g4, g5, g6]
def isCode : Jvm.Cond → Bool
  | .code _ _ _ _ => true
  | _ => false
theorem all_split {L : List Jvm.Cond} {P : Jvm.Cond → Bool} (h1 : L.all (fun c => isCode c || P c) = true) (h2 : ∀ c ∈ L.filter isCode, P c = true) : L.all P = true := by
  refine List.all_eq_true.mpr fun c hc => ?_
  have h := List.all_eq_true.mp h1 c hc
  rcases Bool.eq_false_or_eq_true (isCode c) with hi | hi
  · exact h2 c (List.mem_filter.mpr ⟨hc, hi⟩)
  · simpa [hi] using h
set_option maxRecDepth 65536 in
theorem w_c0 : (Jvm.Cond.code x code maxLocals ret).before args0 about1 = true := code_word (m := ⟨1, 2⟩) (meth := k1m2) (c := k1c2) (by decide +kernel) rfl rfl rfl (by decide +kernel)
set_option maxRecDepth 65536 in
theorem w_c1 : (Jvm.Cond.code ({ cls := "com/example/chartleaf/chartleaf/model/Permission", name := "of", desc := "(C)Ljava/util/Optional;" } : Jvm.MethodName) prog_19_method_6_code (5 : Nat) (Option.some (Jvm.ClassFile.FieldType.object "java/util/Optional"))).before args0 about1 = true := code_word (m := ⟨6, 1⟩) (meth := k6m1) (c := k6c1) (by decide +kernel) rfl rfl rfl (by decide +kernel)
set_option maxRecDepth 65536 in
theorem w_c2 : (Jvm.Cond.code ({ cls := "com/example/chartleaf/chartleaf/model/Permission", name := "values", desc := "()[Lcom/example/chartleaf/chartleaf/model/Permission;" } : Jvm.MethodName) prog_19_method_1_code (0 : Nat) (Option.some (Jvm.ClassFile.FieldType.array (Jvm.ClassFile.FieldType.object "com/example/chartleaf/chartleaf/model/Permission")))).before args0 about1 = true := code_word (m := ⟨6, 0⟩) (meth := k6m0) (c := k6c0) (by decide +kernel) rfl rfl rfl (by decide +kernel)
set_option maxRecDepth 65536 in
theorem w_c3 : (Jvm.Cond.code ({ cls := "java/util/Optional", name := "empty", desc := "()Ljava/util/Optional;" } : Jvm.MethodName) jdk_32_method_1_code (1 : Nat) (Option.some (Jvm.ClassFile.FieldType.object "java/util/Optional"))).before args0 about1 = true := code_word (m := ⟨8, 0⟩) (meth := k8m0) (c := k8c0) (by decide +kernel) rfl rfl rfl (by decide +kernel)
set_option maxRecDepth 65536 in
theorem w_c4 : (Jvm.Cond.code ({ cls := "com/example/chartleaf/chartleaf/model/PermissionOfPinLaw", name := "expected", desc := "(C)Lcom/example/chartleaf/chartleaf/model/Permission;" } : Jvm.MethodName) method_2_code (1 : Nat) (Option.some (Jvm.ClassFile.FieldType.object "com/example/chartleaf/chartleaf/model/Permission"))).before args0 about1 = true := code_word (m := ⟨1, 1⟩) (meth := k1m1) (c := k1c1) (by decide +kernel) rfl rfl rfl (by decide +kernel)
set_option maxRecDepth 65536 in
theorem w_c5 : (Jvm.Cond.code ({ cls := "java/util/Optional", name := "isPresent", desc := "()Z" } : Jvm.MethodName) jdk_32_method_6_code (1 : Nat) (Option.some Jvm.ClassFile.FieldType.boolean)).before args0 about1 = true := code_word (m := ⟨8, 4⟩) (meth := k8m4) (c := k8c4) (by decide +kernel) rfl rfl rfl (by decide +kernel)
set_option maxRecDepth 65536 in
theorem w_c6 : (Jvm.Cond.code ({ cls := "java/util/Optional", name := "of", desc := "(Ljava/lang/Object;)Ljava/util/Optional;" } : Jvm.MethodName) jdk_32_method_3_code (1 : Nat) (Option.some (Jvm.ClassFile.FieldType.object "java/util/Optional"))).before args0 about1 = true := code_word (m := ⟨8, 2⟩) (meth := k8m2) (c := k8c2) (by decide +kernel) rfl rfl rfl (by decide +kernel)
set_option maxRecDepth 65536 in
theorem w_c7 : (Jvm.Cond.code ({ cls := "java/util/Objects", name := "requireNonNull", desc := "(Ljava/lang/Object;)Ljava/lang/Object;" } : Jvm.MethodName) jdk_31_method_10_code (1 : Nat) (Option.some (Jvm.ClassFile.FieldType.object "java/lang/Object"))).before args0 about1 = true := code_word (m := ⟨9, 1⟩) (meth := k9m1) (c := k9c1) (by decide +kernel) rfl rfl rfl (by decide +kernel)
set_option maxRecDepth 65536 in
theorem w_c8 : (Jvm.Cond.code ({ cls := "java/util/Optional", name := "<init>", desc := "(Ljava/lang/Object;)V" } : Jvm.MethodName) jdk_32_method_2_code (2 : Nat) (Option.none : Option Jvm.ClassFile.FieldType)).before args0 about1 = true := code_word (m := ⟨8, 1⟩) (meth := k8m1) (c := k8c1) (by decide +kernel) rfl rfl rfl (by decide +kernel)
set_option maxRecDepth 65536 in
theorem w_c9 : (Jvm.Cond.code ({ cls := "java/lang/Object", name := "<init>", desc := "()V" } : Jvm.MethodName) object_method_1_code (1 : Nat) (Option.none : Option Jvm.ClassFile.FieldType)).before args0 about1 = true := code_word (m := ⟨0, 0⟩) (meth := k0m0) (c := k0c0) (by decide +kernel) rfl rfl rfl (by decide +kernel)
set_option maxRecDepth 65536 in
theorem w_c10 : (Jvm.Cond.code ({ cls := "java/util/Optional", name := "get", desc := "()Ljava/lang/Object;" } : Jvm.MethodName) jdk_32_method_5_code (1 : Nat) (Option.some (Jvm.ClassFile.FieldType.object "java/lang/Object"))).before args0 about1 = true := code_word (m := ⟨8, 3⟩) (meth := k8m3) (c := k8c3) (by decide +kernel) rfl rfl rfl (by decide +kernel)
def codes1 : List Jvm.Cond := [Jvm.Cond.code x code maxLocals ret, Jvm.Cond.code ({ cls := "com/example/chartleaf/chartleaf/model/Permission", name := "of", desc := "(C)Ljava/util/Optional;" } : Jvm.MethodName) prog_19_method_6_code (5 : Nat) (Option.some (Jvm.ClassFile.FieldType.object "java/util/Optional")), Jvm.Cond.code ({ cls := "com/example/chartleaf/chartleaf/model/Permission", name := "values", desc := "()[Lcom/example/chartleaf/chartleaf/model/Permission;" } : Jvm.MethodName) prog_19_method_1_code (0 : Nat) (Option.some (Jvm.ClassFile.FieldType.array (Jvm.ClassFile.FieldType.object "com/example/chartleaf/chartleaf/model/Permission"))), Jvm.Cond.code ({ cls := "java/util/Optional", name := "empty", desc := "()Ljava/util/Optional;" } : Jvm.MethodName) jdk_32_method_1_code (1 : Nat) (Option.some (Jvm.ClassFile.FieldType.object "java/util/Optional")), Jvm.Cond.code ({ cls := "com/example/chartleaf/chartleaf/model/PermissionOfPinLaw", name := "expected", desc := "(C)Lcom/example/chartleaf/chartleaf/model/Permission;" } : Jvm.MethodName) method_2_code (1 : Nat) (Option.some (Jvm.ClassFile.FieldType.object "com/example/chartleaf/chartleaf/model/Permission")), Jvm.Cond.code ({ cls := "java/util/Optional", name := "isPresent", desc := "()Z" } : Jvm.MethodName) jdk_32_method_6_code (1 : Nat) (Option.some Jvm.ClassFile.FieldType.boolean), Jvm.Cond.code ({ cls := "java/util/Optional", name := "of", desc := "(Ljava/lang/Object;)Ljava/util/Optional;" } : Jvm.MethodName) jdk_32_method_3_code (1 : Nat) (Option.some (Jvm.ClassFile.FieldType.object "java/util/Optional")), Jvm.Cond.code ({ cls := "java/util/Objects", name := "requireNonNull", desc := "(Ljava/lang/Object;)Ljava/lang/Object;" } : Jvm.MethodName) jdk_31_method_10_code (1 : Nat) (Option.some (Jvm.ClassFile.FieldType.object "java/lang/Object")), Jvm.Cond.code ({ cls := "java/util/Optional", name := "<init>", desc := "(Ljava/lang/Object;)V" } : Jvm.MethodName) jdk_32_method_2_code (2 : Nat) (Option.none : Option Jvm.ClassFile.FieldType), Jvm.Cond.code ({ cls := "java/lang/Object", name := "<init>", desc := "()V" } : Jvm.MethodName) object_method_1_code (1 : Nat) (Option.none : Option Jvm.ClassFile.FieldType), Jvm.Cond.code ({ cls := "java/util/Optional", name := "get", desc := "()Ljava/lang/Object;" } : Jvm.MethodName) jdk_32_method_5_code (1 : Nat) (Option.some (Jvm.ClassFile.FieldType.object "java/lang/Object"))]
set_option maxRecDepth 65536 in
theorem codes_eq : words1.filter isCode = codes1 := rfl
theorem w_codes : ∀ c ∈ words1.filter isCode, c.before args0 about1 = true := by
  rw [codes_eq]
  intro c hc
  simp only [codes1, List.mem_cons, List.not_mem_nil, or_false] at hc
  rcases hc with rfl | rfl | rfl | rfl | rfl | rfl | rfl | rfl | rfl | rfl | rfl
  · exact w_c0
  · exact w_c1
  · exact w_c2
  · exact w_c3
  · exact w_c4
  · exact w_c5
  · exact w_c6
  · exact w_c7
  · exact w_c8
  · exact w_c9
  · exact w_c10
set_option maxRecDepth 65536 in
theorem w_t1 : (words1.take 24).all (fun c => isCode c || c.before args0 about1) = true := by decide +kernel
set_option maxRecDepth 65536 in
theorem w_t2 : ((words1.drop 24).take 24).all (fun c => isCode c || c.before args0 about1) = true := by decide +kernel
set_option maxRecDepth 65536 in
theorem w_t3 : ((words1.drop 24).drop 24).all (fun c => isCode c || c.before args0 about1) = true := by decide +kernel
theorem w_tables : (allAtoms (Jvm.Cond.code x code maxLocals ret :: tables_1)).before args0 about1 = true := by
  rw [allAtoms_all]
  show words1.all (fun c => c.before args0 about1) = true
  refine all_split ?_ w_codes
  rw [← List.take_append_drop 24 words1, List.all_append, w_t1, ← List.take_append_drop 24 (words1.drop 24), List.all_append, w_t2, w_t3]
  rfl
set_option maxRecDepth 65536 in
theorem w_rest : rest_1_c.before args0 about1 = true := by decide +kernel
set_option maxRecDepth 65536 in
theorem w_case : (Jvm.Cond.and given_1 narrow_1).before args0 about1 = true := by decide +kernel
theorem w_applies : (headSpec (Jvm.Cond.code x code maxLocals ret :: tables_1) room_1).applies x e0.platform about1 = true :=
  (Spec.applies_iff w_frames).mpr ⟨w_running, w_runnable, w_alone, w_named, w_hears, w_ripe, w_room, w_tables⟩
theorem atStart : AtStart classFile x code maxLocals ret World_1 tables_1 room_1 Calls_1 rest_1 Pre_1 launch0 p0 e0 about1 theMethod args0 below0 :=
  ⟨lists_1, trivial, launch0.admits_env _ _ _, launch0.least_env, fairChoices_fair.cas, fairChoices_fair.clock, w_frames, w_args, w_heap, w_applies, trivial, w_rest, w_case⟩
end start1
theorem witness_1 : WitnessClaimed_1 := ⟨start1.p0, start1.e0, start1.about1, start1.theMethod, start1.args0, start1.below0, start1.atStart⟩
end Jvm.Pilot.@@N@@
