import JvmDerived
import JvmDerived.Pilot.@@N@@Statement
import JvmDerived.Pilot.@@N@@Code
set_option linter.unusedVariables false
set_option linter.unusedSimpArgs false
namespace Jvm.RoadKit
open Sem ClassFile Op Lib Jvm.Stand Jvm.Free Jvm.LawKit
section New
variable {p : Program} {l : Launch} {e : Env} {R : Room} {s : State} {m : MethodId} {args : Array Value} {below : List Frame} {meth : Method} {c : Code} {T : State} {locs : List Loc} {cells slots : Nat}
theorem retI (X : Stand p l e R s m args below meth c T locs cells slots) (hx : p.tables.exec = Jvm.exec) {pc : Nat} {Ls : Array Slot} {z : Int32} {rest : List Value} (hret : meth.sig.returnType = some .int) (hd : decode c.code pc = .ok (.ireturn, 1)) {fs : List Frame}
    (hl : ∀ (f : JFrame) (acts : List Action), f.method = m → f.locked = none → f.entered = [] → (doReturn e (T.setTop f) acts (some (.int z))).1 = T.setFrames fs) : Steps p.tables e below (T.setTop (mkF m pc Ls (.int z :: rest))) (T.setFrames fs) := by
  have hm' : T.vm.method? m = some meth := X.method'
  have hn : narrow .int (.int z) = .int z := rfl
  show Steps p.tables e below (T.setTop { method := m, pc := pc, locals := Ls, stack := _ :: rest, locked := none }) _
  jvm_step X.here [X.here.top, hx, hd, hm', hret, hn]
  first | (intro acts; rw [hl _ acts rfl rfl rfl]) | rw [hl _ _ rfl rfl rfl]
  exact Steps.refl _
end New
end Jvm.RoadKit
namespace Jvm.Pilot.@@N@@
open Jvm Jvm.ClassFile Sem Op Lib Jvm.Free Jvm.Stand Jvm.LawKit Jvm.RoadKit Bundle Jvm.Pilot.@@N@@.Jvm.D
/-! own_..: a walk as a goal: from here some run ends as the contract says; steps are taken off its front -/
section Own
variable {p : Program} {l : Launch} {e : Env} {R : Room} {s : State} {m : MethodId} {args : Array Value} {below : List Frame} {meth : Method} {c : Code} {T : State} {locs : List Loc} {cells slots : Nat} {Z : State} {a0 : Array Value} {h : Heap}
def Run (tb : Tables) (e : Env) (below : List Frame) (A : State) (G : State → Outcome → Prop) : Prop := ∃ t o, Steps tb e below A t ∧ G t o
theorem own_go {tb : Tables} {A B : State} {G : State → Outcome → Prop} (st : ∀ t, Steps tb e below B t → Steps tb e below A t) (k : Run tb e below B G) : Run tb e below A G := by
  obtain ⟨t, o, h1, h2⟩ := k
  exact ⟨t, o, st t h1, h2⟩
def OwnFin (s : State) (below : List Frame) (Q : Option Value → Heap → List Loc → Prop) (ck sk : Nat) : State → Outcome → Prop :=
  fun t o => t.status = .running ∧ Ended t below o ∧ ∃ v L, o = .returned v ∧ Q v t.heap L ∧ FrameEnd s o t L ck sk
def OwnCtr (l : Launch) (y : MethodName) (bytes : ByteArray) (maxL : Nat) (ret : Option FieldType) (ws : List Jvm.Cond) (rm : Room) (Z : State) (as' : Array Value) (h : Heap) (Q : Option Value → Heap → List Loc → Prop) : Prop :=
  MetFree l y (head1 (Jvm.Cond.code y bytes maxL ret :: ws) rm) (fun a U => a = as' ∧ Z.Warmed39 U.vm ∧ U.heap = h) (fun _ _ _ _ _ => True) (fun _ U o U' => ∃ v L, o = .returned v ∧ Q v U'.heap L ∧ FrameEnd U o U' L rm.cells rm.slots)
theorem own_bodyF {y : MethodName} {bytes : ByteArray} {maxL : Nat} {ret : Option FieldType} {ws : List Jvm.Cond} {rm : Room} {as' : Array Value} {Q : Option Value → Heap → List Loc → Prop} (pn : plainFor y = true)
    (H : ∀ (p : Program) (e : Env) (s : State) (m : MethodId) (below : List Frame) (meth : Method) (c : Code) (s₁ : State), Stand p l e rm s m as' below meth c s₁ [] 0 0 → p.tables.exec = Jvm.exec → c.code = bytes → c.maxLocals = maxL →
      s.vm.findClass y.cls = some m.cls → meth.name = y.name → meth.sig.returnType = ret → meth.locks = false → Z.Warmed39 s.vm → s₁.heap = h → Run p.tables e below (s₁.setTop (entryFrame m as' maxL)) (OwnFin s below Q rm.cells rm.slots)) :
    OwnCtr l y bytes maxL ret ws rm Z as' h Q := by
  refine MetFree.of_bodySF pn hisR ?_
  intro p e s m args below meth c s₁ Bd hml0 hP hK
  obtain ⟨rfl, hZ, hh⟩ := hP
  exact H p e s m below meth c s₁ (Stand.of_body Bd) Bd.exec Bd.bytes hml0 (findClass_of_methodNamed Bd.named) (name_of_methodNamed Bd.named Bd.method).1 Bd.returns (BodyLoose.notSynchronized Bd) hZ (by rw [← hh, Bd.state]; rfl)
theorem own_body {y : MethodName} {bytes : ByteArray} {maxL : Nat} {ret : Option FieldType} {ws : List Jvm.Cond} {rm : Room} {as' : Array Value} {Q : Option Value → Heap → List Loc → Prop} (pn : plainName y.cls = true)
    (H : ∀ (p : Program) (e : Env) (s : State) (m : MethodId) (below : List Frame) (meth : Method) (c : Code) (s₁ : State), Stand p l e rm s m as' below meth c s₁ [] 0 0 → p.tables.exec = Jvm.exec → c.code = bytes → c.maxLocals = maxL →
      s.vm.findClass y.cls = some m.cls → meth.name = y.name → meth.sig.returnType = ret → meth.locks = false → Z.Warmed39 s.vm → s₁.heap = h → Run p.tables e below (s₁.setTop (entryFrame m as' maxL)) (OwnFin s below Q rm.cells rm.slots)) :
    OwnCtr l y bytes maxL ret ws rm Z as' h Q := own_bodyF (plainFor_of_name pn) H
theorem own_out (X : Stand p l e R s m args below meth c T locs cells slots) {v : Option Value} (hv : meth.sig.returnType = none → v = none) (hlk : meth.locks = false) {g : JFrame} {Q : Option Value → Heap → List Loc → Prop} {ck sk : Nat}
    (hst : ∀ fs, (∀ (f : JFrame) (acts : List Action), f.method = m → f.locked = none → f.entered = [] → (doReturn e (T.setTop f) acts v).1 = T.setFrames fs) → Steps p.tables e below (T.setTop g) (T.setFrames fs))
    (hQ : Q v T.heap locs) (hc : cells ≤ ck) (hs : slots ≤ sk) : Run p.tables e below (T.setTop g) (OwnFin s below Q ck sk) := by
  obtain ⟨fs, hr, hrun, hended, hW, hsame⟩ := X.leave (v := v) hv hlk
  exact ⟨_, _, hst fs hr, hrun, hended, v, locs, rfl, hQ, ⟨_, rfl⟩, hW, hsame.mono hc hs⟩
theorem own_callV (X : Stand p l e R s m args below meth c T locs cells slots) (hx : p.tables.exec = Jvm.exec) (hZ : Z.Warmed39 s.vm) {own C : String} {index : Nat} {y : MethodName} {bytes : ByteArray} {maxL : Nat} {ret : Option FieldType}
    (hown : s.vm.findClass own = some m.cls) (w1 : (Jvm.Cond.methodLink own index y).before a0 Z = true) (w2 : (Jvm.Cond.instanceMethod y).before a0 Z = true) (w3 : (Jvm.Cond.selects C y y).before a0 Z = true)
    (w4 : (Jvm.Cond.code y bytes maxL ret).before a0 Z = true) (w5 : (Jvm.Cond.initialized y.cls).before a0 Z = true) (hy : y.cls ≠ "java/lang/invoke/MethodHandle" ∧ y.cls ≠ "java/lang/invoke/VarHandle")
    (eT : T.heap = h) {rm : Room} {as' : Array Value} {Q : Option Value → Heap → List Loc → Prop} (hM : OwnCtr l y bytes maxL ret [] rm Z as' h Q)
    {b : Addr} (E : Exa Z h b C) {g : JFrame} (hg : g.method = m) (hsize : g.locals.size = c.maxLocals) {argsL rest : List Value} {ps : List FieldType} {rt : Option FieldType} (hpd : parseMethodDescriptor y.desc = some ⟨ps, rt⟩) (hlen : argsL.length = ps.length)
    (hs : g.stack = argsL.reverse ++ .ref b :: rest) (has : as' = (Value.ref b :: argsL).toArray) {W : Nat} (hW : 2 * g.monitorRoom + (rest.map fun v => v.category).sum ≤ W) (hd : decode c.code g.pc = .ok (.invokevirtual index, 3))
    (hf : rm.frames + 1 ≤ R.frames) (hl : W + (maxL + 11) + rm.locals ≤ R.locals) (hc : cells + rm.cells ≤ R.cells) (hsl : slots + rm.slots ≤ R.slots) :
    ∃ (v : Option Value) (T' : State) (L : List Loc), Stand p l e R s m args below meth c T' (locs ++ L) (cells + rm.cells) (slots + rm.slots) ∧ Q v T'.heap L ∧
      ∀ target, Steps p.tables e below (T'.setTop { g with pc := g.pc + 3, stack := v.toList ++ rest }) target → Steps p.tables e below (T.setTop g) target := by
  obtain ⟨cell, k, h1, h2, h3, h4, -⟩ := E
  obtain ⟨v, vm₁, ⟨T', L', k', n'⟩, -, X', ⟨L, hQ, l1, l2, l3⟩, st⟩ := Jvm.LawKit.callV X hx hown (mvT hZ w1) (mvT hZ w2) (mvT hZ w3) (mvT hZ w4) hy (backOf (W := W) hM hZ w4 w5 hf hl) (b := b) (cellB := cell) (by rw [eT]; exact h1) h4 (by rw [hZ.alike.findClass]; exact h2) hg hsize (lenOf hpd hlen) hs hW hd (fun _ _ => ⟨has.symm, eT, hc, hsl⟩)
  dsimp only [Pt.U, Pt.locs, Pt.cells, Pt.slots] at X' l1 l2 l3 st hQ
  subst l1 l2 l3
  exact ⟨v, T', L, X', hQ, st⟩
theorem own_callVU (X : Stand p l e R s m args below meth c T locs cells slots) (hx : p.tables.exec = Jvm.exec) (hZ : Z.Warmed39 s.vm) {own C owner : String} {index : Nat} {x y : MethodName} {bytes : ByteArray} {maxL : Nat} {ret : Option FieldType}
    (hown : s.vm.findClass own = some m.cls) (w1 : (Jvm.Cond.methodLink own index x).before a0 Z = true) (w1' : (Jvm.Cond.sameMethod x.cls owner x.name x.desc).before a0 Z = true) (w1'' : (Jvm.Cond.declares ⟨owner, x.name, x.desc⟩).before a0 Z = true) (w2 : (Jvm.Cond.instanceMethod y).before a0 Z = true) (w3 : (Jvm.Cond.selects C x y).before a0 Z = true)
    (w4 : (Jvm.Cond.code y bytes maxL ret).before a0 Z = true) (w5 : (Jvm.Cond.initialized y.cls).before a0 Z = true) (hy : owner ≠ "java/lang/invoke/MethodHandle" ∧ owner ≠ "java/lang/invoke/VarHandle")
    (eT : T.heap = h) {rm : Room} {as' : Array Value} {Q : Option Value → Heap → List Loc → Prop} (hM : OwnCtr l y bytes maxL ret [] rm Z as' h Q)
    {b : Addr} (E : Exa Z h b C) {g : JFrame} (hg : g.method = m) (hsize : g.locals.size = c.maxLocals) {argsL rest : List Value} {ps : List FieldType} {rt : Option FieldType} (hpd : parseMethodDescriptor x.desc = some ⟨ps, rt⟩) (hlen : argsL.length = ps.length)
    (hs : g.stack = argsL.reverse ++ .ref b :: rest) (has : as' = (Value.ref b :: argsL).toArray) {W : Nat} (hW : 2 * g.monitorRoom + (rest.map fun v => v.category).sum ≤ W) (hd : decode c.code g.pc = .ok (.invokevirtual index, 3))
    (hf : rm.frames + 1 ≤ R.frames) (hl : W + (maxL + 11) + rm.locals ≤ R.locals) (hc : cells + rm.cells ≤ R.cells) (hsl : slots + rm.slots ≤ R.slots) :
    ∃ (v : Option Value) (T' : State) (L : List Loc), Stand p l e R s m args below meth c T' (locs ++ L) (cells + rm.cells) (slots + rm.slots) ∧ Q v T'.heap L ∧
      ∀ target, Steps p.tables e below (T'.setTop { g with pc := g.pc + 3, stack := v.toList ++ rest }) target → Steps p.tables e below (T.setTop g) target := by
  obtain ⟨cB, kB, q1, q2, q3⟩ := isOf hZ eT E
  obtain ⟨v, vm₁, ⟨T', L', k', n'⟩, -, X', ⟨L, hQ, l1, l2, l3⟩, st⟩ := X.virtualBackUp hx hown (mvT hZ w1) (mvT hZ w1') (mvT hZ w1'') hy (mvT hZ w3) (mvT hZ w2) (backOf (W := W) hM hZ w4 w5 hf hl) q1 q3 hg hsize (Steps.refl _) (lenOf hpd hlen) hs hW hd (fun _ _ => ⟨has.symm, eT, hc, hsl⟩)
  dsimp only [Pt.U, Pt.locs, Pt.cells, Pt.slots] at X' l1 l2 l3 st hQ
  subst l1 l2 l3
  exact ⟨v, T', L, X', hQ, fun _ k => st.trans k⟩
theorem own_callS (X : Stand p l e R s m args below meth c T locs cells slots) (hx : p.tables.exec = Jvm.exec) (hZ : Z.Warmed39 s.vm) {own : String} {index : Nat} {y : MethodName} {bytes : ByteArray} {maxL : Nat} {ret : Option FieldType}
    (hown : s.vm.findClass own = some m.cls) (w1 : (Jvm.Cond.methodLink own index y).before a0 Z = true) (w2 : (Jvm.Cond.static y).before a0 Z = true)
    (w4 : (Jvm.Cond.code y bytes maxL ret).before a0 Z = true) (w5 : (Jvm.Cond.initialized y.cls).before a0 Z = true) (hy : y.cls ≠ "java/lang/invoke/MethodHandle" ∧ y.cls ≠ "java/lang/invoke/VarHandle")
    (eT : T.heap = h) {rm : Room} {as' : Array Value} {Q : Option Value → Heap → List Loc → Prop} (hM : OwnCtr l y bytes maxL ret [] rm Z as' h Q)
    {g : JFrame} (hg : g.method = m) (hsize : g.locals.size = c.maxLocals) {argsL rest : List Value} {ps : List FieldType} {rt : Option FieldType} (hpd : parseMethodDescriptor y.desc = some ⟨ps, rt⟩) (hlen : argsL.length = ps.length)
    (hs : g.stack = argsL.reverse ++ rest) (has : as' = argsL.toArray) {W : Nat} (hW : 2 * g.monitorRoom + (rest.map fun v => v.category).sum ≤ W) (hd : decode c.code g.pc = .ok (.invokestatic index, 3))
    (hf : rm.frames + 1 ≤ R.frames) (hl : W + (maxL + 11) + rm.locals ≤ R.locals) (hc : cells + rm.cells ≤ R.cells) (hsl : slots + rm.slots ≤ R.slots) :
    ∃ (v : Option Value) (T' : State) (L : List Loc), Stand p l e R s m args below meth c T' (locs ++ L) (cells + rm.cells) (slots + rm.slots) ∧ Q v T'.heap L ∧
      ∀ target, Steps p.tables e below (T'.setTop { g with pc := g.pc + 3, stack := v.toList ++ rest }) target → Steps p.tables e below (T.setTop g) target := by
  obtain ⟨v, vm₁, ⟨T', L', k', n'⟩, -, X', ⟨L, hQ, l1, l2, l3⟩, st⟩ := Jvm.LawKit.callS X hx hown (mvT hZ w1) (mvT hZ w2) (mvT hZ w5) (mvT hZ w4) hy (backOf (W := W) hM hZ w4 w5 hf hl) hg hsize (lenOf hpd hlen) hs hW hd (fun _ _ => ⟨has.symm, eT, hc, hsl⟩)
  dsimp only [Pt.U, Pt.locs, Pt.cells, Pt.slots] at X' l1 l2 l3 st hQ
  subst l1 l2 l3
  exact ⟨v, T', L, X', hQ, st⟩
theorem own_callI (X : Stand p l e R s m args below meth c T locs cells slots) (hx : p.tables.exec = Jvm.exec) (hZ : Z.Warmed39 s.vm) {own : String} {index : Nat} {y : MethodName} {bytes : ByteArray} {maxL : Nat}
    (hown : s.vm.findClass own = some m.cls) (hy1 : y.name = "<init>") (w1 : (Jvm.Cond.methodLink own index y).before a0 Z = true) (w2 : (Jvm.Cond.instanceMethod y).before a0 Z = true)
    (w4 : (Jvm.Cond.code y bytes maxL none).before a0 Z = true) (w5 : (Jvm.Cond.initialized y.cls).before a0 Z = true) (hy : y.cls ≠ "java/lang/invoke/MethodHandle" ∧ y.cls ≠ "java/lang/invoke/VarHandle")
    (eT : T.heap = h) {rm : Room} {as' : Array Value} {Q : Option Value → Heap → List Loc → Prop} (hM : OwnCtr l y bytes maxL none [] rm Z as' h Q)
    {b : Addr} {g : JFrame} (hg : g.method = m) (hsize : g.locals.size = c.maxLocals) {argsL rest : List Value} {ps : List FieldType} {rt : Option FieldType} (hpd : parseMethodDescriptor y.desc = some ⟨ps, rt⟩) (hlen : argsL.length = ps.length)
    (hs : g.stack = argsL.reverse ++ .ref b :: rest) (has : as' = (Value.ref b :: argsL).toArray) {W : Nat} (hW : 2 * g.monitorRoom + (rest.map fun v => v.category).sum ≤ W) (hd : decode c.code g.pc = .ok (.invokespecial index, 3))
    (hf : rm.frames + 1 ≤ R.frames) (hl : W + (maxL + 11) + rm.locals ≤ R.locals) (hc : cells + rm.cells ≤ R.cells) (hsl : slots + rm.slots ≤ R.slots) :
    ∃ (v : Option Value) (T' : State) (L : List Loc), Stand p l e R s m args below meth c T' (locs ++ L) (cells + rm.cells) (slots + rm.slots) ∧ Q v T'.heap L ∧
      ∀ target, Steps p.tables e below (T'.setTop { g with pc := g.pc + 3, stack := v.toList ++ rest }) target → Steps p.tables e below (T.setTop g) target := by
  obtain ⟨v, vm₁, ⟨T', L', k', n'⟩, -, X', ⟨L, hQ, l1, l2, l3⟩, st⟩ := Jvm.LawKit.callI X hx hown hy1 (mvT hZ w1) (mvT hZ w2) (mvT hZ w4) hy (backOf (W := W) hM hZ w4 w5 hf hl) hg hsize (a := b) (lenOf hpd hlen) hs hW hd (fun _ _ => ⟨has.symm, eT, hc, hsl⟩)
  dsimp only [Pt.U, Pt.locs, Pt.cells, Pt.slots] at X' l1 l2 l3 st hQ
  subst l1 l2 l3
  exact ⟨v, T', L, X', hQ, st⟩
theorem own_fld {t : Term} {u : Addr} {C n d : String} {k : Int32} (ev : t.eval args s none [] s = some (.ref u)) (w : (Jvm.Cond.eq (.field t C n d) (.int k)).value args s none s [] = some true) : Fld s s.heap u C n d (.int k) :=
  Fld.start (by rw [← fld_at (args := args) (first := s) (o := none) (idx := []) ev]; exact Cond.eq_int (beq_iff_eq.mpr w) (Term.int_eval k))
theorem own_rne {a b : Addr} (q : a ≠ b) : ¬ Value.ref a = .ref b := fun w => q (Value.ref.inj w)
end Own
section Own2
variable {p : Program} {l : Launch} {e : Env} {R : Room} {s : State} {m : MethodId} {args : Array Value} {below : List Frame} {meth : Method} {c : Code} {T : State} {locs : List Loc} {cells slots : Nat} {Z : State} {a0 : Array Value} {h : Heap}
theorem own_extwr {h0 h h' : Heap} {a : Addr} {sl : Nat} {v : Value} (E : Ext h0 h) (W : Wr h h' a sl v) (q : h0.size ≤ a) : Ext h0 h' := by
  refine ⟨by rw [W.size]; exact E.1, fun b c hb => ?_⟩
  have hlt : b < h0.size := (Array.getElem?_eq_some_iff.mp hb).1
  obtain ⟨c', e1, -, -, -, e5, -⟩ := wr_at W (E.2 _ _ hb)
  rw [e1, e5 (Nat.ne_of_lt (Nat.lt_of_lt_of_le hlt q))]
theorem own_exttr {h0 h h' : Heap} (E : Ext h0 h) (E' : Ext h h') : Ext h0 h' := ⟨Nat.le_trans E.1 E'.1, fun a c q => E'.2 _ _ (E.2 _ _ q)⟩
theorem own_extrf (h : Heap) : Ext h h := ⟨Nat.le_refl _, fun _ _ q => q⟩
theorem own_stR (X : Stand p l e R s m args below meth c T locs cells slots) (hx : p.tables.exec = Jvm.exec) (hZ : Z.Warmed39 s.vm) (eT : T.heap = h) {a : Addr} {k : ClassId} {ty : FieldType} {z : Int32} {vs : List Value} (V : Arv Z h a k ty z vs .null) (hty : ty.isReference = true)
    {j : Int32} (hj : ¬ j < 0 ∧ j < z) (i : Nat) (hi : j.toNatClampNeg = i) (hl : i < vs.length) {C : String} {y : Addr} (O : Ovr Z k C) (I : Exa Z h y C) (hv : fits ty (.ref y) = true) {h0 : Heap} (E : Ext h0 h) (ge : h0.size ≤ a) {n0 : Nat} (N : Fr n0 locs) (ge0 : n0 ≤ a)
    {g : JFrame} (hg : g.method = m) {rest : List Value} (hs : g.stack = .ref y :: .int j :: .ref a :: rest) (hd : decode c.code g.pc = .ok (.aastore, 1)) :
    ∃ (T' : State) (h' : Heap) (L : List Loc), Stand p l e R s m args below meth c T' L cells slots ∧ T'.heap = h' ∧ Ext h0 h' ∧ Arv Z h' a k ty z (vs.set i (.ref y)) .null ∧ Fr n0 L ∧
      ∀ target, Steps p.tables e below (T'.setTop { g with pc := g.pc + 1, stack := rest }) target → Steps p.tables e below (T.setTop g) target := by
  obtain ⟨cl, A, q1, S, q3, H, G⟩ := V
  obtain ⟨T', h', X', e', W, st⟩ := stR X hx hZ eT A (inb_of S hj) hty (Sto.ofV A q1 O (Ins.self I)) hg hs hd
  exact ⟨T', h', _, X', e', own_extwr E W ge, Arv.set A q1 S q3 H G hv W i hi hl, Fr.snoc X' N ge0, st⟩
theorem own_aaload (X : Stand p l e R s m args below meth c T locs cells slots) (hx : p.tables.exec = Jvm.exec) (hZ : Z.Warmed39 s.vm) (eT : T.heap = h) {a : Addr} {k : ClassId} {ty : FieldType} {z : Int32} {vs : List Value} {dv : Value} (V : Arv Z h a k ty z vs dv) (hty : ty.isReference = true)
    {j : Int32} (hj : ¬ j < 0 ∧ j < z) {v : Value} (u : vs.getD j.toNatClampNeg dv = v)
    {g : JFrame} (hg : g.method = m) {rest : List Value} (hs : g.stack = .int j :: .ref a :: rest) (hd : decode c.code g.pc = .ok (.aaload, 1)) :
    ∀ target, Steps p.tables e below (T.setTop { g with pc := g.pc + 1, stack := v :: rest }) target → Steps p.tables e below (T.setTop g) target := by
  obtain ⟨cl, A, q1, S, q3, H, G⟩ := V
  exact X.aaload hx (j := j) (v := v) (by rw [eT]; exact A.1) (State.isArrayOf_alike hZ.alike A.2.1) hty A.2.2 (inb_of S hj) (Has.at H (inb_of S hj) u) hg hs hd
theorem own_alen (X : Stand p l e R s m args below meth c T locs cells slots) (hx : p.tables.exec = Jvm.exec) (hZ : Z.Warmed39 s.vm) (eT : T.heap = h) {a : Addr} {k : ClassId} {ty : FieldType} {z : Int32} {vs : List Value} {dv : Value} (V : Arv Z h a k ty z vs dv)
    {g : JFrame} (hg : g.method = m) {rest : List Value} (hs : g.stack = .ref a :: rest) (hd : decode c.code g.pc = .ok (.arraylength, 1)) :
    ∀ target, Steps p.tables e below (T.setTop { g with pc := g.pc + 1, stack := .int z :: rest }) target → Steps p.tables e below (T.setTop g) target := by
  obtain ⟨cl, A, q1, S, q3, H, G⟩ := V
  rw [← len_of S q3]
  exact X.arraylength hx (by rw [eT]; exact A.1) (State.isArrayOf_alike hZ.alike A.2.1) hg hs hd
end Own2

theorem d1_0 : decode method_3_code 0 = .ok (.iload_n 0, 1) := by decide +kernel
theorem d1_1 : decode method_3_code 1 = .ok (.bipush 9, 2) := by decide +kernel
theorem d1_3 : decode method_3_code 3 = .ok (.if_icmp .gt 5, 3) := by decide +kernel
theorem d1_6 : decode method_3_code 6 = .ok (.iconst 0, 1) := by decide +kernel
theorem d1_7 : decode method_3_code 7 = .ok (.ireturn, 1) := by decide +kernel
theorem d1_8 : decode method_3_code 8 = .ok (.iload_n 0, 1) := by decide +kernel
theorem d1_9 : decode method_3_code 9 = .ok (.bipush 11, 2) := by decide +kernel
theorem d1_11 : decode method_3_code 11 = .ok (.if_icmp .gt 5, 3) := by decide +kernel
theorem d1_14 : decode method_3_code 14 = .ok (.iconst 1, 1) := by decide +kernel
theorem d1_15 : decode method_3_code 15 = .ok (.ireturn, 1) := by decide +kernel
theorem d1_16 : decode method_3_code 16 = .ok (.iload_n 0, 1) := by decide +kernel
theorem d1_17 : decode method_3_code 17 = .ok (.bipush 12, 2) := by decide +kernel
theorem d1_19 : decode method_3_code 19 = .ok (.if_icmp .ne 14, 3) := by decide +kernel
theorem d1_22 : decode method_3_code 22 = .ok (.iload_n 1, 1) := by decide +kernel
theorem d1_23 : decode method_3_code 23 = .ok (.ifCond .eq 8, 3) := by decide +kernel
theorem d1_26 : decode method_3_code 26 = .ok (.bipush 6, 2) := by decide +kernel
theorem d1_28 : decode method_3_code 28 = .ok (.goto 4, 3) := by decide +kernel
theorem d1_31 : decode method_3_code 31 = .ok (.iconst 2, 1) := by decide +kernel
theorem d1_32 : decode method_3_code 32 = .ok (.ireturn, 1) := by decide +kernel
theorem d1_33 : decode method_3_code 33 = .ok (.iload_n 0, 1) := by decide +kernel
theorem d1_34 : decode method_3_code 34 = .ok (.bipush 13, 2) := by decide +kernel
theorem d1_36 : decode method_3_code 36 = .ok (.if_icmp .ne 14, 3) := by decide +kernel
theorem d1_39 : decode method_3_code 39 = .ok (.iload_n 1, 1) := by decide +kernel
theorem d1_40 : decode method_3_code 40 = .ok (.ifCond .eq 8, 3) := by decide +kernel
theorem d1_43 : decode method_3_code 43 = .ok (.bipush 7, 2) := by decide +kernel
theorem d1_45 : decode method_3_code 45 = .ok (.goto 4, 3) := by decide +kernel
theorem d1_48 : decode method_3_code 48 = .ok (.iconst 3, 1) := by decide +kernel
theorem d1_49 : decode method_3_code 49 = .ok (.ireturn, 1) := by decide +kernel
theorem d1_50 : decode method_3_code 50 = .ok (.iload_n 0, 1) := by decide +kernel
theorem d1_51 : decode method_3_code 51 = .ok (.bipush 17, 2) := by decide +kernel
theorem d1_53 : decode method_3_code 53 = .ok (.if_icmp .gt 5, 3) := by decide +kernel
theorem d1_56 : decode method_3_code 56 = .ok (.iconst 4, 1) := by decide +kernel
theorem d1_57 : decode method_3_code 57 = .ok (.ireturn, 1) := by decide +kernel
theorem d1_58 : decode method_3_code 58 = .ok (.iload_n 0, 1) := by decide +kernel
theorem d1_59 : decode method_3_code 59 = .ok (.bipush 18, 2) := by decide +kernel
theorem d1_61 : decode method_3_code 61 = .ok (.if_icmp .ne 5, 3) := by decide +kernel
theorem d1_64 : decode method_3_code 64 = .ok (.iconst 5, 1) := by decide +kernel
theorem d1_65 : decode method_3_code 65 = .ok (.ireturn, 1) := by decide +kernel
theorem d1_66 : decode method_3_code 66 = .ok (.iload_n 0, 1) := by decide +kernel
theorem d1_67 : decode method_3_code 67 = .ok (.bipush 19, 2) := by decide +kernel
theorem d1_69 : decode method_3_code 69 = .ok (.if_icmp .ne 6, 3) := by decide +kernel
theorem d1_72 : decode method_3_code 72 = .ok (.bipush 8, 2) := by decide +kernel
theorem d1_74 : decode method_3_code 74 = .ok (.ireturn, 1) := by decide +kernel
theorem d1_75 : decode method_3_code 75 = .ok (.bipush 9, 2) := by decide +kernel
theorem d1_77 : decode method_3_code 77 = .ok (.ireturn, 1) := by decide +kernel
theorem d2_0 : decode prog_2_method_6_code 0 = .ok (.iload_n 1, 1) := by decide +kernel
theorem d2_1 : decode prog_2_method_6_code 1 = .ok (.ifCond .eq 10, 3) := by decide +kernel
theorem d2_4 : decode prog_2_method_6_code 4 = .ok (.aload_n 0, 1) := by decide +kernel
theorem d2_5 : decode prog_2_method_6_code 5 = .ok (.getfield 93, 3) := by decide +kernel
theorem d2_8 : decode prog_2_method_6_code 8 = .ok (.goto 7, 3) := by decide +kernel
theorem d2_11 : decode prog_2_method_6_code 11 = .ok (.aload_n 0, 1) := by decide +kernel
theorem d2_12 : decode prog_2_method_6_code 12 = .ok (.getfield 89, 3) := by decide +kernel
theorem d2_15 : decode prog_2_method_6_code 15 = .ok (.ireturn, 1) := by decide +kernel
theorem d3_0 : decode prog_2_method_5_code 0 = .ok (.aload_n 0, 1) := by decide +kernel
theorem d3_1 : decode prog_2_method_5_code 1 = .ok (.getfield 89, 3) := by decide +kernel
theorem d3_4 : decode prog_2_method_5_code 4 = .ok (.ireturn, 1) := by decide +kernel
theorem own_pn0 : plainName "com/example/regnitz/regnitz/KindLoosenessPinLaw" = true := by first | (simp [plainName, overriddenIn]; done) | decide +kernel
theorem own_pn2 : plainName "com/example/regnitz/regnitz/Formula$Kind" = true := by first | (simp [plainName, overriddenIn]; done) | decide +kernel
theorem own_pd1 : parseMethodDescriptor "(IZ)I" = some ⟨[.int, .boolean], some .int⟩ := by decide +kernel
theorem own_pd2 : parseMethodDescriptor "(Z)I" = some ⟨[.boolean], some .int⟩ := by decide +kernel
theorem own_pd3 : parseMethodDescriptor "()I" = some ⟨[], some .int⟩ := by decide +kernel
theorem ef_0 (m : MethodId) (x0 x1 : Int32) : entryFrame m #[(.int x0), (.int x1)] maxLocals = mkF m 0 #[.val (.int x0), .val (.int x1), .unset, .unset, .unset, .unset, .unset] [] := by first | (simp [entryFrame, mkF, argsToLocals, Value.category, maxLocals]; done) | rfl
theorem ef_1 (m : MethodId) (x0 x1 : Int32) : entryFrame m #[(.int x0), (.int x1)] 2 = mkF m 0 #[.val (.int x0), .val (.int x1)] [] := by first | (simp [entryFrame, mkF, argsToLocals, Value.category]; done) | rfl
theorem ef_2 (m : MethodId) (x0 : Addr) (x1 : Int32) : entryFrame m #[(.ref x0), (.int x1)] 2 = mkF m 0 #[.val (.ref x0), .val (.int x1)] [] := by first | (simp [entryFrame, mkF, argsToLocals, Value.category]; done) | rfl
theorem ef_3 (m : MethodId) (x0 : Addr) : entryFrame m #[(.ref x0)] 1 = mkF m 0 #[.val (.ref x0)] [] := by first | (simp [entryFrame, mkF, argsToLocals, Value.category]; done) | rfl
def own_exp (i b : Int32) : Int32 := if 9 < i then (if 11 < i then (if i = 12 then (if b = 0 then 2 else 6) else if i = 13 then (if b = 0 then 3 else 7) else if 17 < i then (if i = 18 then 5 else if i = 19 then 8 else 9) else 4) else 1) else 0
theorem own_21 (i : Int32) (h1 : 0 ≤ i.toInt) (h2 : i.toInt < 21) : i = 0 ∨ i = 1 ∨ i = 2 ∨ i = 3 ∨ i = 4 ∨ i = 5 ∨ i = 6 ∨ i = 7 ∨ i = 8 ∨ i = 9 ∨ i = 10 ∨ i = 11 ∨ i = 12 ∨ i = 13 ∨ i = 14 ∨ i = 15 ∨ i = 16 ∨ i = 17 ∨ i = 18 ∨ i = 19 ∨ i = 20 := by
  have e : i.toInt = 0 ∨ i.toInt = 1 ∨ i.toInt = 2 ∨ i.toInt = 3 ∨ i.toInt = 4 ∨ i.toInt = 5 ∨ i.toInt = 6 ∨ i.toInt = 7 ∨ i.toInt = 8 ∨ i.toInt = 9 ∨ i.toInt = 10 ∨ i.toInt = 11 ∨ i.toInt = 12 ∨ i.toInt = 13 ∨ i.toInt = 14 ∨ i.toInt = 15 ∨ i.toInt = 16 ∨ i.toInt = 17 ∨ i.toInt = 18 ∨ i.toInt = 19 ∨ i.toInt = 20 := by omega
  rcases e with e | e | e | e | e | e | e | e | e | e | e | e | e | e | e | e | e | e | e | e | e
  · exact Or.inl (Int32.toInt_inj.mp (e.trans rfl))
  · exact Or.inr (Or.inl (Int32.toInt_inj.mp (e.trans rfl)))
  · exact Or.inr (Or.inr (Or.inl (Int32.toInt_inj.mp (e.trans rfl))))
  · exact Or.inr (Or.inr (Or.inr (Or.inl (Int32.toInt_inj.mp (e.trans rfl)))))
  · exact Or.inr (Or.inr (Or.inr (Or.inr (Or.inl (Int32.toInt_inj.mp (e.trans rfl))))))
  · exact Or.inr (Or.inr (Or.inr (Or.inr (Or.inr (Or.inl (Int32.toInt_inj.mp (e.trans rfl)))))))
  · exact Or.inr (Or.inr (Or.inr (Or.inr (Or.inr (Or.inr (Or.inl (Int32.toInt_inj.mp (e.trans rfl))))))))
  · exact Or.inr (Or.inr (Or.inr (Or.inr (Or.inr (Or.inr (Or.inr (Or.inl (Int32.toInt_inj.mp (e.trans rfl)))))))))
  · exact Or.inr (Or.inr (Or.inr (Or.inr (Or.inr (Or.inr (Or.inr (Or.inr (Or.inl (Int32.toInt_inj.mp (e.trans rfl))))))))))
  · exact Or.inr (Or.inr (Or.inr (Or.inr (Or.inr (Or.inr (Or.inr (Or.inr (Or.inr (Or.inl (Int32.toInt_inj.mp (e.trans rfl)))))))))))
  · exact Or.inr (Or.inr (Or.inr (Or.inr (Or.inr (Or.inr (Or.inr (Or.inr (Or.inr (Or.inr (Or.inl (Int32.toInt_inj.mp (e.trans rfl))))))))))))
  · exact Or.inr (Or.inr (Or.inr (Or.inr (Or.inr (Or.inr (Or.inr (Or.inr (Or.inr (Or.inr (Or.inr (Or.inl (Int32.toInt_inj.mp (e.trans rfl)))))))))))))
  · exact Or.inr (Or.inr (Or.inr (Or.inr (Or.inr (Or.inr (Or.inr (Or.inr (Or.inr (Or.inr (Or.inr (Or.inr (Or.inl (Int32.toInt_inj.mp (e.trans rfl))))))))))))))
  · exact Or.inr (Or.inr (Or.inr (Or.inr (Or.inr (Or.inr (Or.inr (Or.inr (Or.inr (Or.inr (Or.inr (Or.inr (Or.inr (Or.inl (Int32.toInt_inj.mp (e.trans rfl)))))))))))))))
  · exact Or.inr (Or.inr (Or.inr (Or.inr (Or.inr (Or.inr (Or.inr (Or.inr (Or.inr (Or.inr (Or.inr (Or.inr (Or.inr (Or.inr (Or.inl (Int32.toInt_inj.mp (e.trans rfl))))))))))))))))
  · exact Or.inr (Or.inr (Or.inr (Or.inr (Or.inr (Or.inr (Or.inr (Or.inr (Or.inr (Or.inr (Or.inr (Or.inr (Or.inr (Or.inr (Or.inr (Or.inl (Int32.toInt_inj.mp (e.trans rfl)))))))))))))))))
  · exact Or.inr (Or.inr (Or.inr (Or.inr (Or.inr (Or.inr (Or.inr (Or.inr (Or.inr (Or.inr (Or.inr (Or.inr (Or.inr (Or.inr (Or.inr (Or.inr (Or.inl (Int32.toInt_inj.mp (e.trans rfl))))))))))))))))))
  · exact Or.inr (Or.inr (Or.inr (Or.inr (Or.inr (Or.inr (Or.inr (Or.inr (Or.inr (Or.inr (Or.inr (Or.inr (Or.inr (Or.inr (Or.inr (Or.inr (Or.inr (Or.inl (Int32.toInt_inj.mp (e.trans rfl)))))))))))))))))))
  · exact Or.inr (Or.inr (Or.inr (Or.inr (Or.inr (Or.inr (Or.inr (Or.inr (Or.inr (Or.inr (Or.inr (Or.inr (Or.inr (Or.inr (Or.inr (Or.inr (Or.inr (Or.inr (Or.inl (Int32.toInt_inj.mp (e.trans rfl))))))))))))))))))))
  · exact Or.inr (Or.inr (Or.inr (Or.inr (Or.inr (Or.inr (Or.inr (Or.inr (Or.inr (Or.inr (Or.inr (Or.inr (Or.inr (Or.inr (Or.inr (Or.inr (Or.inr (Or.inr (Or.inr (Or.inl (Int32.toInt_inj.mp (e.trans rfl)))))))))))))))))))))
  · exact Or.inr (Or.inr (Or.inr (Or.inr (Or.inr (Or.inr (Or.inr (Or.inr (Or.inr (Or.inr (Or.inr (Or.inr (Or.inr (Or.inr (Or.inr (Or.inr (Or.inr (Or.inr (Or.inr (Or.inr ((Int32.toInt_inj.mp (e.trans rfl))))))))))))))))))))))
theorem own_rem (x : Int32) : 0 ≤ ((x &&& (2147483647 : Int32)) % (21 : Int32)).toInt ∧ ((x &&& (2147483647 : Int32)) % (21 : Int32)).toInt < 21 := by
  have h1 : (x &&& (2147483647 : Int32)).toInt = x.toInt % 2147483648 := c_mask x 2147483647 31 (by decide) (by decide)
  have h2 := (c_irem (x &&& (2147483647 : Int32)) 21 21 rfl).1 (by omega)
  rw [h2]
  omega
abbrev own_R0 : Room := { frames := 0, cells := 0, slots := 0, locals := 0 }
set_option maxRecDepth 65536 in
set_option maxHeartbeats 40000000 in
theorem rm1 (l : Launch) (Z : State) (a0 : Array Value) (hw : ∀ d ∈ tables_1, d.before a0 Z = true) (ws : List Jvm.Cond) (i b : Int32) (h0 : Heap) :
    OwnCtr l (⟨"com/example/regnitz/regnitz/KindLoosenessPinLaw", "expectedLooseness", "(IZ)I"⟩ : MethodName) method_3_code 2 (some .int) ws own_R0 Z #[(.int i), (.int b)] h0 (fun v h L => v = some (.int (own_exp i b)) ∧ h = h0 ∧ L = []) := by
  refine own_body own_pn0 ?_
  intro p e s m below meth c s₁ X0 hx hby hml hown hnm hret hlk hZ e0
  refine own_go (fun _ k => castTop (ef_1 m i b) k) ?_
  show Run p.tables e below (s₁.setTop (mkF m 0 #[.val (.int i), .val (.int b)] [])) _
  refine own_go (fun _ => XS.iloadN X0.here hx rfl (hb hby d1_0) rfl) ?_
  show Run p.tables e below (s₁.setTop (mkF m 1 #[.val (.int i), .val (.int b)] [(.int i)])) _
  refine own_go (fun _ => XS.bipush X0.here hx rfl (hb hby d1_1)) ?_
  show Run p.tables e below (s₁.setTop (mkF m 3 #[.val (.int i), .val (.int b)] [(.int (9 : Int32)), (.int i)])) _
  by_cases q1 : (9 : Int32) < i
  · show Run p.tables e below (s₁.setTop (mkF m 3 #[.val (.int i), .val (.int b)] [(.int (9 : Int32)), (.int i)])) _
    refine own_go (fun _ => XS.icmpYes X0.here hx rfl (pc0 := 3) (pc' := 8) rfl (hb hby d1_3) rfl (XT.ii_gt_t q1) (by decide) (by decide)) ?_
    show Run p.tables e below (s₁.setTop (mkF m 8 #[.val (.int i), .val (.int b)] [])) _
    refine own_go (fun _ => XS.iloadN X0.here hx rfl (hb hby d1_8) rfl) ?_
    show Run p.tables e below (s₁.setTop (mkF m 9 #[.val (.int i), .val (.int b)] [(.int i)])) _
    refine own_go (fun _ => XS.bipush X0.here hx rfl (hb hby d1_9)) ?_
    show Run p.tables e below (s₁.setTop (mkF m 11 #[.val (.int i), .val (.int b)] [(.int (11 : Int32)), (.int i)])) _
    by_cases q2 : (11 : Int32) < i
    · show Run p.tables e below (s₁.setTop (mkF m 11 #[.val (.int i), .val (.int b)] [(.int (11 : Int32)), (.int i)])) _
      refine own_go (fun _ => XS.icmpYes X0.here hx rfl (pc0 := 11) (pc' := 16) rfl (hb hby d1_11) rfl (XT.ii_gt_t q2) (by decide) (by decide)) ?_
      show Run p.tables e below (s₁.setTop (mkF m 16 #[.val (.int i), .val (.int b)] [])) _
      refine own_go (fun _ => XS.iloadN X0.here hx rfl (hb hby d1_16) rfl) ?_
      show Run p.tables e below (s₁.setTop (mkF m 17 #[.val (.int i), .val (.int b)] [(.int i)])) _
      refine own_go (fun _ => XS.bipush X0.here hx rfl (hb hby d1_17)) ?_
      show Run p.tables e below (s₁.setTop (mkF m 19 #[.val (.int i), .val (.int b)] [(.int (12 : Int32)), (.int i)])) _
      by_cases q3 : i = (12 : Int32)
      · show Run p.tables e below (s₁.setTop (mkF m 19 #[.val (.int i), .val (.int b)] [(.int (12 : Int32)), (.int i)])) _
        refine own_go (fun _ => XS.icmpNo X0.here hx rfl (hb hby d1_19) rfl (XT.ii_ne_f q3)) ?_
        show Run p.tables e below (s₁.setTop (mkF m 22 #[.val (.int i), .val (.int b)] [])) _
        refine own_go (fun _ => XS.iloadN X0.here hx rfl (hb hby d1_22) rfl) ?_
        show Run p.tables e below (s₁.setTop (mkF m 23 #[.val (.int i), .val (.int b)] [(.int b)])) _
        by_cases q4 : b = 0
        · show Run p.tables e below (s₁.setTop (mkF m 23 #[.val (.int i), .val (.int b)] [(.int b)])) _
          refine own_go (fun _ => XS.ifYes X0.here hx rfl (pc0 := 23) (pc' := 31) rfl (hb hby d1_23) rfl (XT.i0_eq_t q4) (by decide) (by decide)) ?_
          show Run p.tables e below (s₁.setTop (mkF m 31 #[.val (.int i), .val (.int b)] [])) _
          refine own_go (fun _ => XS.iconst X0.here hx rfl (hb hby d1_31)) ?_
          show Run p.tables e below (s₁.setTop (mkF m 32 #[.val (.int i), .val (.int b)] [(.int (2 : Int32))])) _
          exact own_out X0 (v := some (.int (2 : Int32))) (fun q => by rw [hret] at q; cases q) hlk (fun fs hr => retI X0 hx hret (hb hby d1_32) hr) ⟨(by rw [own_exp, if_pos q1, if_pos q2, if_pos q3, if_pos q4]), e0, rfl⟩ (by decide) (by decide)
        · show Run p.tables e below (s₁.setTop (mkF m 23 #[.val (.int i), .val (.int b)] [(.int b)])) _
          refine own_go (fun _ => XS.ifNo X0.here hx rfl (hb hby d1_23) rfl (XT.i0_eq_f q4)) ?_
          show Run p.tables e below (s₁.setTop (mkF m 26 #[.val (.int i), .val (.int b)] [])) _
          refine own_go (fun _ => XS.bipush X0.here hx rfl (hb hby d1_26)) ?_
          show Run p.tables e below (s₁.setTop (mkF m 28 #[.val (.int i), .val (.int b)] [(.int (6 : Int32))])) _
          refine own_go (fun _ => XS.goto X0.here hx rfl (pc0 := 28) (pc' := 32) rfl (hb hby d1_28) (by decide) (by decide)) ?_
          show Run p.tables e below (s₁.setTop (mkF m 32 #[.val (.int i), .val (.int b)] [(.int (6 : Int32))])) _
          exact own_out X0 (v := some (.int (6 : Int32))) (fun q => by rw [hret] at q; cases q) hlk (fun fs hr => retI X0 hx hret (hb hby d1_32) hr) ⟨(by rw [own_exp, if_pos q1, if_pos q2, if_pos q3, if_neg q4]), e0, rfl⟩ (by decide) (by decide)
      · show Run p.tables e below (s₁.setTop (mkF m 19 #[.val (.int i), .val (.int b)] [(.int (12 : Int32)), (.int i)])) _
        refine own_go (fun _ => XS.icmpYes X0.here hx rfl (pc0 := 19) (pc' := 33) rfl (hb hby d1_19) rfl (XT.ii_ne_t q3) (by decide) (by decide)) ?_
        show Run p.tables e below (s₁.setTop (mkF m 33 #[.val (.int i), .val (.int b)] [])) _
        refine own_go (fun _ => XS.iloadN X0.here hx rfl (hb hby d1_33) rfl) ?_
        show Run p.tables e below (s₁.setTop (mkF m 34 #[.val (.int i), .val (.int b)] [(.int i)])) _
        refine own_go (fun _ => XS.bipush X0.here hx rfl (hb hby d1_34)) ?_
        show Run p.tables e below (s₁.setTop (mkF m 36 #[.val (.int i), .val (.int b)] [(.int (13 : Int32)), (.int i)])) _
        by_cases q5 : i = (13 : Int32)
        · show Run p.tables e below (s₁.setTop (mkF m 36 #[.val (.int i), .val (.int b)] [(.int (13 : Int32)), (.int i)])) _
          refine own_go (fun _ => XS.icmpNo X0.here hx rfl (hb hby d1_36) rfl (XT.ii_ne_f q5)) ?_
          show Run p.tables e below (s₁.setTop (mkF m 39 #[.val (.int i), .val (.int b)] [])) _
          refine own_go (fun _ => XS.iloadN X0.here hx rfl (hb hby d1_39) rfl) ?_
          show Run p.tables e below (s₁.setTop (mkF m 40 #[.val (.int i), .val (.int b)] [(.int b)])) _
          by_cases q6 : b = 0
          · show Run p.tables e below (s₁.setTop (mkF m 40 #[.val (.int i), .val (.int b)] [(.int b)])) _
            refine own_go (fun _ => XS.ifYes X0.here hx rfl (pc0 := 40) (pc' := 48) rfl (hb hby d1_40) rfl (XT.i0_eq_t q6) (by decide) (by decide)) ?_
            show Run p.tables e below (s₁.setTop (mkF m 48 #[.val (.int i), .val (.int b)] [])) _
            refine own_go (fun _ => XS.iconst X0.here hx rfl (hb hby d1_48)) ?_
            show Run p.tables e below (s₁.setTop (mkF m 49 #[.val (.int i), .val (.int b)] [(.int (3 : Int32))])) _
            exact own_out X0 (v := some (.int (3 : Int32))) (fun q => by rw [hret] at q; cases q) hlk (fun fs hr => retI X0 hx hret (hb hby d1_49) hr) ⟨(by rw [own_exp, if_pos q1, if_pos q2, if_neg q3, if_pos q5, if_pos q6]), e0, rfl⟩ (by decide) (by decide)
          · show Run p.tables e below (s₁.setTop (mkF m 40 #[.val (.int i), .val (.int b)] [(.int b)])) _
            refine own_go (fun _ => XS.ifNo X0.here hx rfl (hb hby d1_40) rfl (XT.i0_eq_f q6)) ?_
            show Run p.tables e below (s₁.setTop (mkF m 43 #[.val (.int i), .val (.int b)] [])) _
            refine own_go (fun _ => XS.bipush X0.here hx rfl (hb hby d1_43)) ?_
            show Run p.tables e below (s₁.setTop (mkF m 45 #[.val (.int i), .val (.int b)] [(.int (7 : Int32))])) _
            refine own_go (fun _ => XS.goto X0.here hx rfl (pc0 := 45) (pc' := 49) rfl (hb hby d1_45) (by decide) (by decide)) ?_
            show Run p.tables e below (s₁.setTop (mkF m 49 #[.val (.int i), .val (.int b)] [(.int (7 : Int32))])) _
            exact own_out X0 (v := some (.int (7 : Int32))) (fun q => by rw [hret] at q; cases q) hlk (fun fs hr => retI X0 hx hret (hb hby d1_49) hr) ⟨(by rw [own_exp, if_pos q1, if_pos q2, if_neg q3, if_pos q5, if_neg q6]), e0, rfl⟩ (by decide) (by decide)
        · show Run p.tables e below (s₁.setTop (mkF m 36 #[.val (.int i), .val (.int b)] [(.int (13 : Int32)), (.int i)])) _
          refine own_go (fun _ => XS.icmpYes X0.here hx rfl (pc0 := 36) (pc' := 50) rfl (hb hby d1_36) rfl (XT.ii_ne_t q5) (by decide) (by decide)) ?_
          show Run p.tables e below (s₁.setTop (mkF m 50 #[.val (.int i), .val (.int b)] [])) _
          refine own_go (fun _ => XS.iloadN X0.here hx rfl (hb hby d1_50) rfl) ?_
          show Run p.tables e below (s₁.setTop (mkF m 51 #[.val (.int i), .val (.int b)] [(.int i)])) _
          refine own_go (fun _ => XS.bipush X0.here hx rfl (hb hby d1_51)) ?_
          show Run p.tables e below (s₁.setTop (mkF m 53 #[.val (.int i), .val (.int b)] [(.int (17 : Int32)), (.int i)])) _
          by_cases q7 : (17 : Int32) < i
          · show Run p.tables e below (s₁.setTop (mkF m 53 #[.val (.int i), .val (.int b)] [(.int (17 : Int32)), (.int i)])) _
            refine own_go (fun _ => XS.icmpYes X0.here hx rfl (pc0 := 53) (pc' := 58) rfl (hb hby d1_53) rfl (XT.ii_gt_t q7) (by decide) (by decide)) ?_
            show Run p.tables e below (s₁.setTop (mkF m 58 #[.val (.int i), .val (.int b)] [])) _
            refine own_go (fun _ => XS.iloadN X0.here hx rfl (hb hby d1_58) rfl) ?_
            show Run p.tables e below (s₁.setTop (mkF m 59 #[.val (.int i), .val (.int b)] [(.int i)])) _
            refine own_go (fun _ => XS.bipush X0.here hx rfl (hb hby d1_59)) ?_
            show Run p.tables e below (s₁.setTop (mkF m 61 #[.val (.int i), .val (.int b)] [(.int (18 : Int32)), (.int i)])) _
            by_cases q8 : i = (18 : Int32)
            · show Run p.tables e below (s₁.setTop (mkF m 61 #[.val (.int i), .val (.int b)] [(.int (18 : Int32)), (.int i)])) _
              refine own_go (fun _ => XS.icmpNo X0.here hx rfl (hb hby d1_61) rfl (XT.ii_ne_f q8)) ?_
              show Run p.tables e below (s₁.setTop (mkF m 64 #[.val (.int i), .val (.int b)] [])) _
              refine own_go (fun _ => XS.iconst X0.here hx rfl (hb hby d1_64)) ?_
              show Run p.tables e below (s₁.setTop (mkF m 65 #[.val (.int i), .val (.int b)] [(.int (5 : Int32))])) _
              exact own_out X0 (v := some (.int (5 : Int32))) (fun q => by rw [hret] at q; cases q) hlk (fun fs hr => retI X0 hx hret (hb hby d1_65) hr) ⟨(by rw [own_exp, if_pos q1, if_pos q2, if_neg q3, if_neg q5, if_pos q7, if_pos q8]), e0, rfl⟩ (by decide) (by decide)
            · show Run p.tables e below (s₁.setTop (mkF m 61 #[.val (.int i), .val (.int b)] [(.int (18 : Int32)), (.int i)])) _
              refine own_go (fun _ => XS.icmpYes X0.here hx rfl (pc0 := 61) (pc' := 66) rfl (hb hby d1_61) rfl (XT.ii_ne_t q8) (by decide) (by decide)) ?_
              show Run p.tables e below (s₁.setTop (mkF m 66 #[.val (.int i), .val (.int b)] [])) _
              refine own_go (fun _ => XS.iloadN X0.here hx rfl (hb hby d1_66) rfl) ?_
              show Run p.tables e below (s₁.setTop (mkF m 67 #[.val (.int i), .val (.int b)] [(.int i)])) _
              refine own_go (fun _ => XS.bipush X0.here hx rfl (hb hby d1_67)) ?_
              show Run p.tables e below (s₁.setTop (mkF m 69 #[.val (.int i), .val (.int b)] [(.int (19 : Int32)), (.int i)])) _
              by_cases q9 : i = (19 : Int32)
              · show Run p.tables e below (s₁.setTop (mkF m 69 #[.val (.int i), .val (.int b)] [(.int (19 : Int32)), (.int i)])) _
                refine own_go (fun _ => XS.icmpNo X0.here hx rfl (hb hby d1_69) rfl (XT.ii_ne_f q9)) ?_
                show Run p.tables e below (s₁.setTop (mkF m 72 #[.val (.int i), .val (.int b)] [])) _
                refine own_go (fun _ => XS.bipush X0.here hx rfl (hb hby d1_72)) ?_
                show Run p.tables e below (s₁.setTop (mkF m 74 #[.val (.int i), .val (.int b)] [(.int (8 : Int32))])) _
                exact own_out X0 (v := some (.int (8 : Int32))) (fun q => by rw [hret] at q; cases q) hlk (fun fs hr => retI X0 hx hret (hb hby d1_74) hr) ⟨(by rw [own_exp, if_pos q1, if_pos q2, if_neg q3, if_neg q5, if_pos q7, if_neg q8, if_pos q9]), e0, rfl⟩ (by decide) (by decide)
              · show Run p.tables e below (s₁.setTop (mkF m 69 #[.val (.int i), .val (.int b)] [(.int (19 : Int32)), (.int i)])) _
                refine own_go (fun _ => XS.icmpYes X0.here hx rfl (pc0 := 69) (pc' := 75) rfl (hb hby d1_69) rfl (XT.ii_ne_t q9) (by decide) (by decide)) ?_
                show Run p.tables e below (s₁.setTop (mkF m 75 #[.val (.int i), .val (.int b)] [])) _
                refine own_go (fun _ => XS.bipush X0.here hx rfl (hb hby d1_75)) ?_
                show Run p.tables e below (s₁.setTop (mkF m 77 #[.val (.int i), .val (.int b)] [(.int (9 : Int32))])) _
                exact own_out X0 (v := some (.int (9 : Int32))) (fun q => by rw [hret] at q; cases q) hlk (fun fs hr => retI X0 hx hret (hb hby d1_77) hr) ⟨(by rw [own_exp, if_pos q1, if_pos q2, if_neg q3, if_neg q5, if_pos q7, if_neg q8, if_neg q9]), e0, rfl⟩ (by decide) (by decide)
          · show Run p.tables e below (s₁.setTop (mkF m 53 #[.val (.int i), .val (.int b)] [(.int (17 : Int32)), (.int i)])) _
            refine own_go (fun _ => XS.icmpNo X0.here hx rfl (hb hby d1_53) rfl (XT.ii_gt_f q7)) ?_
            show Run p.tables e below (s₁.setTop (mkF m 56 #[.val (.int i), .val (.int b)] [])) _
            refine own_go (fun _ => XS.iconst X0.here hx rfl (hb hby d1_56)) ?_
            show Run p.tables e below (s₁.setTop (mkF m 57 #[.val (.int i), .val (.int b)] [(.int (4 : Int32))])) _
            exact own_out X0 (v := some (.int (4 : Int32))) (fun q => by rw [hret] at q; cases q) hlk (fun fs hr => retI X0 hx hret (hb hby d1_57) hr) ⟨(by rw [own_exp, if_pos q1, if_pos q2, if_neg q3, if_neg q5, if_neg q7]), e0, rfl⟩ (by decide) (by decide)
    · show Run p.tables e below (s₁.setTop (mkF m 11 #[.val (.int i), .val (.int b)] [(.int (11 : Int32)), (.int i)])) _
      refine own_go (fun _ => XS.icmpNo X0.here hx rfl (hb hby d1_11) rfl (XT.ii_gt_f q2)) ?_
      show Run p.tables e below (s₁.setTop (mkF m 14 #[.val (.int i), .val (.int b)] [])) _
      refine own_go (fun _ => XS.iconst X0.here hx rfl (hb hby d1_14)) ?_
      show Run p.tables e below (s₁.setTop (mkF m 15 #[.val (.int i), .val (.int b)] [(.int (1 : Int32))])) _
      exact own_out X0 (v := some (.int (1 : Int32))) (fun q => by rw [hret] at q; cases q) hlk (fun fs hr => retI X0 hx hret (hb hby d1_15) hr) ⟨(by rw [own_exp, if_pos q1, if_neg q2]), e0, rfl⟩ (by decide) (by decide)
  · show Run p.tables e below (s₁.setTop (mkF m 3 #[.val (.int i), .val (.int b)] [(.int (9 : Int32)), (.int i)])) _
    refine own_go (fun _ => XS.icmpNo X0.here hx rfl (hb hby d1_3) rfl (XT.ii_gt_f q1)) ?_
    show Run p.tables e below (s₁.setTop (mkF m 6 #[.val (.int i), .val (.int b)] [])) _
    refine own_go (fun _ => XS.iconst X0.here hx rfl (hb hby d1_6)) ?_
    show Run p.tables e below (s₁.setTop (mkF m 7 #[.val (.int i), .val (.int b)] [(.int (0 : Int32))])) _
    exact own_out X0 (v := some (.int (0 : Int32))) (fun q => by rw [hret] at q; cases q) hlk (fun fs hr => retI X0 hx hret (hb hby d1_7) hr) ⟨(by rw [own_exp, if_neg q1]), e0, rfl⟩ (by decide) (by decide)
set_option maxRecDepth 65536 in
set_option maxHeartbeats 40000000 in
theorem rm2 (l : Launch) (Z : State) (a0 : Array Value) (hw : ∀ d ∈ tables_1, d.before a0 Z = true) (ws : List Jvm.Cond) (a : Addr) (b ls lb : Int32) (h0 : Heap) (Fls : Fld Z h0 a "com/example/regnitz/regnitz/Formula$Kind" "looseness" "I" (.int ls)) (Flb : Fld Z h0 a "com/example/regnitz/regnitz/Formula$Kind" "loosenessBetweenStatements" "I" (.int lb)) :
    OwnCtr l (⟨"com/example/regnitz/regnitz/Formula$Kind", "looseness", "(Z)I"⟩ : MethodName) prog_2_method_6_code 2 (some .int) ws own_R0 Z #[(.ref a), (.int b)] h0 (fun v h L => v = some (.int (if b = 0 then ls else lb)) ∧ h = h0 ∧ L = []) := by
  refine own_body own_pn2 ?_
  intro p e s m below meth c s₁ X0 hx hby hml hown hnm hret hlk hZ e0
  refine own_go (fun _ k => castTop (ef_2 m a b) k) ?_
  show Run p.tables e below (s₁.setTop (mkF m 0 #[.val (.ref a), .val (.int b)] [])) _
  refine own_go (fun _ => XS.iloadN X0.here hx rfl (hb hby d2_0) rfl) ?_
  show Run p.tables e below (s₁.setTop (mkF m 1 #[.val (.ref a), .val (.int b)] [(.int b)])) _
  by_cases q : b = 0
  · show Run p.tables e below (s₁.setTop (mkF m 1 #[.val (.ref a), .val (.int b)] [(.int b)])) _
    refine own_go (fun _ => XS.ifYes X0.here hx rfl (pc0 := 1) (pc' := 11) rfl (hb hby d2_1) rfl (XT.i0_eq_t q) (by decide) (by decide)) ?_
    show Run p.tables e below (s₁.setTop (mkF m 11 #[.val (.ref a), .val (.int b)] [])) _
    refine own_go (fun _ => XS.aloadN X0.here hx rfl (hb hby d2_11) rfl rfl) ?_
    show Run p.tables e below (s₁.setTop (mkF m 12 #[.val (.ref a), .val (.int b)] [(.ref a)])) _
    obtain ⟨Tk1, Xk1, ek1, stk1⟩ := getF X0 hx hZ hown (host := "") (Or.inl (hw _ (List.mem_of_getElem? (i := 58) rfl))) Via.refl e0 Fls (g := (mkF m 12 #[.val (.ref a), .val (.int b)] [(.ref a)])) rfl rfl (hb hby d2_12)
    refine own_go stk1 ?_
    show Run p.tables e below (Tk1.setTop (mkF m 15 #[.val (.ref a), .val (.int b)] [(.int ls)])) _
    exact own_out Xk1 (v := some (.int ls)) (fun q => by rw [hret] at q; cases q) hlk (fun fs hr => retI Xk1 hx hret (hb hby d2_15) hr) ⟨(by rw [if_pos q]), ek1, rfl⟩ (by decide) (by decide)
  · show Run p.tables e below (s₁.setTop (mkF m 1 #[.val (.ref a), .val (.int b)] [(.int b)])) _
    refine own_go (fun _ => XS.ifNo X0.here hx rfl (hb hby d2_1) rfl (XT.i0_eq_f q)) ?_
    show Run p.tables e below (s₁.setTop (mkF m 4 #[.val (.ref a), .val (.int b)] [])) _
    refine own_go (fun _ => XS.aloadN X0.here hx rfl (hb hby d2_4) rfl rfl) ?_
    show Run p.tables e below (s₁.setTop (mkF m 5 #[.val (.ref a), .val (.int b)] [(.ref a)])) _
    obtain ⟨Tk2, Xk2, ek2, stk2⟩ := getF X0 hx hZ hown (host := "") (Or.inl (hw _ (List.mem_of_getElem? (i := 56) rfl))) Via.refl e0 Flb (g := (mkF m 5 #[.val (.ref a), .val (.int b)] [(.ref a)])) rfl rfl (hb hby d2_5)
    refine own_go stk2 ?_
    show Run p.tables e below (Tk2.setTop (mkF m 8 #[.val (.ref a), .val (.int b)] [(.int lb)])) _
    refine own_go (fun _ => XS.goto Xk2.here hx rfl (pc0 := 8) (pc' := 15) rfl (hb hby d2_8) (by decide) (by decide)) ?_
    show Run p.tables e below (Tk2.setTop (mkF m 15 #[.val (.ref a), .val (.int b)] [(.int lb)])) _
    exact own_out Xk2 (v := some (.int lb)) (fun q => by rw [hret] at q; cases q) hlk (fun fs hr => retI Xk2 hx hret (hb hby d2_15) hr) ⟨(by rw [if_neg q]), ek2, rfl⟩ (by decide) (by decide)
set_option maxRecDepth 65536 in
set_option maxHeartbeats 40000000 in
theorem rm3 (l : Launch) (Z : State) (a0 : Array Value) (hw : ∀ d ∈ tables_1, d.before a0 Z = true) (ws : List Jvm.Cond) (a : Addr) (ls : Int32) (h0 : Heap) (Fls : Fld Z h0 a "com/example/regnitz/regnitz/Formula$Kind" "looseness" "I" (.int ls)) :
    OwnCtr l (⟨"com/example/regnitz/regnitz/Formula$Kind", "looseness", "()I"⟩ : MethodName) prog_2_method_5_code 1 (some .int) ws own_R0 Z #[(.ref a)] h0 (fun v h L => v = some (.int ls) ∧ h = h0 ∧ L = []) := by
  refine own_body own_pn2 ?_
  intro p e s m below meth c s₁ X0 hx hby hml hown hnm hret hlk hZ e0
  refine own_go (fun _ k => castTop (ef_3 m a) k) ?_
  show Run p.tables e below (s₁.setTop (mkF m 0 #[.val (.ref a)] [])) _
  refine own_go (fun _ => XS.aloadN X0.here hx rfl (hb hby d3_0) rfl rfl) ?_
  show Run p.tables e below (s₁.setTop (mkF m 1 #[.val (.ref a)] [(.ref a)])) _
  obtain ⟨Tk1, Xk1, ek1, stk1⟩ := getF X0 hx hZ hown (host := "") (Or.inl (hw _ (List.mem_of_getElem? (i := 58) rfl))) Via.refl e0 Fls (g := (mkF m 1 #[.val (.ref a)] [(.ref a)])) rfl rfl (hb hby d3_1)
  refine own_go stk1 ?_
  show Run p.tables e below (Tk1.setTop (mkF m 4 #[.val (.ref a)] [(.int ls)])) _
  exact own_out Xk1 (v := some (.int ls)) (fun q => by rw [hret] at q; cases q) hlk (fun fs hr => retI Xk1 hx hret (hb hby d3_4) hr) ⟨rfl, ek1, rfl⟩ (by decide) (by decide)
def own_Q0 (n0 : Nat) (v : Option Value) (h : Heap) (L : List Loc) : Prop := v = some (.int 1) ∧ Fr n0 L
def own_xs (x0 x1 x2 x3 x4 x5 x6 x7 x8 x9 x10 x11 x12 x13 x14 x15 x16 x17 x18 x19 x20 : Addr) : List Value := [.ref x0, .ref x1, .ref x2, .ref x3, .ref x4, .ref x5, .ref x6, .ref x7, .ref x8, .ref x9, .ref x10, .ref x11, .ref x12, .ref x13, .ref x14, .ref x15, .ref x16, .ref x17, .ref x18, .ref x19, .ref x20]
def own_Kd (Z : State) (h : Heap) (a : Addr) (ls lb : Int32) : Prop := Exa Z h a "com/example/regnitz/regnitz/Formula$Kind" ∧ Fld Z h a "com/example/regnitz/regnitz/Formula$Kind" "looseness" "I" (.int ls) ∧ Fld Z h a "com/example/regnitz/regnitz/Formula$Kind" "loosenessBetweenStatements" "I" (.int lb)
set_option maxRecDepth 65536 in
set_option maxHeartbeats 40000000 in
theorem rm0 (l : Launch) (Z : State) (a0 : Array Value) (hw : ∀ d ∈ tables_1, d.before a0 Z = true) (ws : List Jvm.Cond) (p0 p1 : Int32) (x0 x1 x2 x3 x4 x5 x6 x7 x8 x9 x10 x11 x12 x13 x14 x15 x16 x17 x18 x19 x20 : Addr) (h0 : Heap) (n0 : Nat) (Z0 : n0 ≤ h0.size) (S_ATOM : Sta Z h0 "com/example/regnitz/regnitz/Formula$Kind" "ATOM" "Lcom/example/regnitz/regnitz/Formula$Kind;" (.ref x0)) (S_TRUE : Sta Z h0 "com/example/regnitz/regnitz/Formula$Kind" "TRUE" "Lcom/example/regnitz/regnitz/Formula$Kind;" (.ref x1)) (S_FALSE : Sta Z h0 "com/example/regnitz/regnitz/Formula$Kind" "FALSE" "Lcom/example/regnitz/regnitz/Formula$Kind;" (.ref x2)) (S_NOT : Sta Z h0 "com/example/regnitz/regnitz/Formula$Kind" "NOT" "Lcom/example/regnitz/regnitz/Formula$Kind;" (.ref x3)) (S_BOX : Sta Z h0 "com/example/regnitz/regnitz/Formula$Kind" "BOX" "Lcom/example/regnitz/regnitz/Formula$Kind;" (.ref x4)) (S_DIAMOND : Sta Z h0 "com/example/regnitz/regnitz/Formula$Kind" "DIAMOND" "Lcom/example/regnitz/regnitz/Formula$Kind;" (.ref x5)) (S_PROBABILITY : Sta Z h0 "com/example/regnitz/regnitz/Formula$Kind" "PROBABILITY" "Lcom/example/regnitz/regnitz/Formula$Kind;" (.ref x6)) (S_COALITION : Sta Z h0 "com/example/regnitz/regnitz/Formula$Kind" "COALITION" "Lcom/example/regnitz/regnitz/Formula$Kind;" (.ref x7)) (S_GENERALLY : Sta Z h0 "com/example/regnitz/regnitz/Formula$Kind" "GENERALLY" "Lcom/example/regnitz/regnitz/Formula$Kind;" (.ref x8)) (S_DEGREE : Sta Z h0 "com/example/regnitz/regnitz/Formula$Kind" "DEGREE" "Lcom/example/regnitz/regnitz/Formula$Kind;" (.ref x9)) (S_MINUS : Sta Z h0 "com/example/regnitz/regnitz/Formula$Kind" "MINUS" "Lcom/example/regnitz/regnitz/Formula$Kind;" (.ref x10)) (S_PLUS : Sta Z h0 "com/example/regnitz/regnitz/Formula$Kind" "PLUS" "Lcom/example/regnitz/regnitz/Formula$Kind;" (.ref x11)) (S_AND : Sta Z h0 "com/example/regnitz/regnitz/Formula$Kind" "AND" "Lcom/example/regnitz/regnitz/Formula$Kind;" (.ref x12)) (S_OR : Sta Z h0 "com/example/regnitz/regnitz/Formula$Kind" "OR" "Lcom/example/regnitz/regnitz/Formula$Kind;" (.ref x13)) (S_AT_LEAST : Sta Z h0 "com/example/regnitz/regnitz/Formula$Kind" "AT_LEAST" "Lcom/example/regnitz/regnitz/Formula$Kind;" (.ref x14)) (S_ABOVE : Sta Z h0 "com/example/regnitz/regnitz/Formula$Kind" "ABOVE" "Lcom/example/regnitz/regnitz/Formula$Kind;" (.ref x15)) (S_AT_MOST : Sta Z h0 "com/example/regnitz/regnitz/Formula$Kind" "AT_MOST" "Lcom/example/regnitz/regnitz/Formula$Kind;" (.ref x16)) (S_BELOW : Sta Z h0 "com/example/regnitz/regnitz/Formula$Kind" "BELOW" "Lcom/example/regnitz/regnitz/Formula$Kind;" (.ref x17)) (S_CONDITIONAL : Sta Z h0 "com/example/regnitz/regnitz/Formula$Kind" "CONDITIONAL" "Lcom/example/regnitz/regnitz/Formula$Kind;" (.ref x18)) (S_IMPLIES : Sta Z h0 "com/example/regnitz/regnitz/Formula$Kind" "IMPLIES" "Lcom/example/regnitz/regnitz/Formula$Kind;" (.ref x19)) (S_IFF : Sta Z h0 "com/example/regnitz/regnitz/Formula$Kind" "IFF" "Lcom/example/regnitz/regnitz/Formula$Kind;" (.ref x20)) (K_ATOM : own_Kd Z h0 x0 0 0) (K_TRUE : own_Kd Z h0 x1 0 0) (K_FALSE : own_Kd Z h0 x2 0 0) (K_NOT : own_Kd Z h0 x3 0 0) (K_BOX : own_Kd Z h0 x4 0 0) (K_DIAMOND : own_Kd Z h0 x5 0 0) (K_PROBABILITY : own_Kd Z h0 x6 0 0) (K_COALITION : own_Kd Z h0 x7 0 0) (K_GENERALLY : own_Kd Z h0 x8 0 0) (K_DEGREE : own_Kd Z h0 x9 0 0) (K_MINUS : own_Kd Z h0 x10 1 1) (K_PLUS : own_Kd Z h0 x11 1 1) (K_AND : own_Kd Z h0 x12 2 6) (K_OR : own_Kd Z h0 x13 3 7) (K_AT_LEAST : own_Kd Z h0 x14 4 4) (K_ABOVE : own_Kd Z h0 x15 4 4) (K_AT_MOST : own_Kd Z h0 x16 4 4) (K_BELOW : own_Kd Z h0 x17 4 4) (K_CONDITIONAL : own_Kd Z h0 x18 5 5) (K_IMPLIES : own_Kd Z h0 x19 8 8) (K_IFF : own_Kd Z h0 x20 9 9) :
    OwnCtr l x code maxLocals ret ws room_1 Z #[(.int p0), (.int p1)] h0 (own_Q0 n0) := by
  refine own_body own_pn0 ?_
  intro p e s m below meth c s₁ X0 hx hby hml hown hnm hret hlk hZ e0
  refine own_go (fun _ k => castTop (ef_0 m p0 p1) k) ?_
  show Run p.tables e below (s₁.setTop (mkF m 0 #[.val (.int p0), .val (.int p1), .unset, .unset, .unset, .unset, .unset] [])) _
  refine own_go (fun _ => XS.bipush X0.here hx rfl (hb hby at_0)) ?_
  show Run p.tables e below (s₁.setTop (mkF m 2 #[.val (.int p0), .val (.int p1), .unset, .unset, .unset, .unset, .unset] [(.int (21 : Int32))])) _
  obtain ⟨TA, hA, cA, XA, eA, EA, AA, OA, stA⟩ := newR X0 hx hZ hown (hw _ (List.mem_of_getElem? (i := 0) rfl)) (hw _ (List.mem_of_getElem? (i := 1) rfl)) e0 (g := (mkF m 2 #[.val (.int p0), .val (.int p1), .unset, .unset, .unset, .unset, .unset] [(.int (21 : Int32))])) rfl (hb hby at_2) rfl (by decide) (cap := 21) (by decide) (by decide) (by decide) (by decide)
  obtain ⟨a, ga⟩ : ∃ z, z = h0.size := ⟨_, rfl⟩
  rw [← ga] at AA stA
  have ge : h0.size ≤ a := Nat.le_of_eq ga.symm
  have ge0 : n0 ≤ a := Nat.le_trans Z0 ge
  have VA : Arv Z hA a cA (.object "com/example/regnitz/regnitz/Formula$Kind") 21 [.null, .null, .null, .null, .null, .null, .null, .null, .null, .null, .null, .null, .null, .null, .null, .null, .null, .null, .null, .null, .null] .null := (Arv.new AA (by decide)).pad (pad_rep [] .null 21)
  have NA := Fr.nil n0
  refine own_go stA ?_
  show Run p.tables e below (TA.setTop (mkF m 5 #[.val (.int p0), .val (.int p1), .unset, .unset, .unset, .unset, .unset] [(.ref a)])) _
  refine own_go (fun _ => XS.dup XA.here hx rfl (hb hby at_5) rfl rfl) ?_
  show Run p.tables e below (TA.setTop (mkF m 6 #[.val (.int p0), .val (.int p1), .unset, .unset, .unset, .unset, .unset] [(.ref a), (.ref a)])) _
  refine own_go (fun _ => XS.iconst XA.here hx rfl (hb hby at_6)) ?_
  show Run p.tables e below (TA.setTop (mkF m 7 #[.val (.int p0), .val (.int p1), .unset, .unset, .unset, .unset, .unset] [(.int (0 : Int32)), (.ref a), (.ref a)])) _
  obtain ⟨Tk1, Xk1, ek1, stk1⟩ := getS XA hx hZ hown (host := "") (hw _ (List.mem_of_getElem? (i := 2) rfl)) Via.refl eA (S_ATOM.ext EA) (g := (mkF m 7 #[.val (.int p0), .val (.int p1), .unset, .unset, .unset, .unset, .unset] [(.int (0 : Int32)), (.ref a), (.ref a)])) rfl (hb hby at_7)
  refine own_go stk1 ?_
  show Run p.tables e below (Tk1.setTop (mkF m 10 #[.val (.int p0), .val (.int p1), .unset, .unset, .unset, .unset, .unset] [(.ref x0), (.int (0 : Int32)), (.ref a), (.ref a)])) _
  obtain ⟨Ts2, hs2, Ls2, Xs2, es2, Es2, Vs2, Ns2, sts2⟩ := own_stR Xk1 hx hZ ek1 VA rfl (j := (0 : Int32)) ⟨by decide, by decide⟩ 0 rfl (Nat.lt_of_lt_of_eq (by decide : 0 < 21) rfl) OA (K_ATOM.1.ext EA) rfl EA ge NA ge0 (g := (mkF m 10 #[.val (.int p0), .val (.int p1), .unset, .unset, .unset, .unset, .unset] [(.ref x0), (.int (0 : Int32)), (.ref a), (.ref a)])) rfl rfl (hb hby at_10)
  replace Vs2 : Arv Z hs2 a cA (.object "com/example/regnitz/regnitz/Formula$Kind") 21 [.ref x0, .null, .null, .null, .null, .null, .null, .null, .null, .null, .null, .null, .null, .null, .null, .null, .null, .null, .null, .null, .null] .null := Vs2
  refine own_go sts2 ?_
  show Run p.tables e below (Ts2.setTop (mkF m 11 #[.val (.int p0), .val (.int p1), .unset, .unset, .unset, .unset, .unset] [(.ref a)])) _
  refine own_go (fun _ => XS.dup Xs2.here hx rfl (hb hby at_11) rfl rfl) ?_
  show Run p.tables e below (Ts2.setTop (mkF m 12 #[.val (.int p0), .val (.int p1), .unset, .unset, .unset, .unset, .unset] [(.ref a), (.ref a)])) _
  refine own_go (fun _ => XS.iconst Xs2.here hx rfl (hb hby at_12)) ?_
  show Run p.tables e below (Ts2.setTop (mkF m 13 #[.val (.int p0), .val (.int p1), .unset, .unset, .unset, .unset, .unset] [(.int (1 : Int32)), (.ref a), (.ref a)])) _
  obtain ⟨Tk3, Xk3, ek3, stk3⟩ := getS Xs2 hx hZ hown (host := "") (hw _ (List.mem_of_getElem? (i := 6) rfl)) Via.refl es2 (S_TRUE.ext Es2) (g := (mkF m 13 #[.val (.int p0), .val (.int p1), .unset, .unset, .unset, .unset, .unset] [(.int (1 : Int32)), (.ref a), (.ref a)])) rfl (hb hby at_13)
  refine own_go stk3 ?_
  show Run p.tables e below (Tk3.setTop (mkF m 16 #[.val (.int p0), .val (.int p1), .unset, .unset, .unset, .unset, .unset] [(.ref x1), (.int (1 : Int32)), (.ref a), (.ref a)])) _
  obtain ⟨Ts4, hs4, Ls4, Xs4, es4, Es4, Vs4, Ns4, sts4⟩ := own_stR Xk3 hx hZ ek3 Vs2 rfl (j := (1 : Int32)) ⟨by decide, by decide⟩ 1 rfl (Nat.lt_of_lt_of_eq (by decide : 1 < 21) rfl) OA (K_TRUE.1.ext Es2) rfl Es2 ge Ns2 ge0 (g := (mkF m 16 #[.val (.int p0), .val (.int p1), .unset, .unset, .unset, .unset, .unset] [(.ref x1), (.int (1 : Int32)), (.ref a), (.ref a)])) rfl rfl (hb hby at_16)
  replace Vs4 : Arv Z hs4 a cA (.object "com/example/regnitz/regnitz/Formula$Kind") 21 [.ref x0, .ref x1, .null, .null, .null, .null, .null, .null, .null, .null, .null, .null, .null, .null, .null, .null, .null, .null, .null, .null, .null] .null := Vs4
  refine own_go sts4 ?_
  show Run p.tables e below (Ts4.setTop (mkF m 17 #[.val (.int p0), .val (.int p1), .unset, .unset, .unset, .unset, .unset] [(.ref a)])) _
  refine own_go (fun _ => XS.dup Xs4.here hx rfl (hb hby at_17) rfl rfl) ?_
  show Run p.tables e below (Ts4.setTop (mkF m 18 #[.val (.int p0), .val (.int p1), .unset, .unset, .unset, .unset, .unset] [(.ref a), (.ref a)])) _
  refine own_go (fun _ => XS.iconst Xs4.here hx rfl (hb hby at_18)) ?_
  show Run p.tables e below (Ts4.setTop (mkF m 19 #[.val (.int p0), .val (.int p1), .unset, .unset, .unset, .unset, .unset] [(.int (2 : Int32)), (.ref a), (.ref a)])) _
  obtain ⟨Tk5, Xk5, ek5, stk5⟩ := getS Xs4 hx hZ hown (host := "") (hw _ (List.mem_of_getElem? (i := 8) rfl)) Via.refl es4 (S_FALSE.ext Es4) (g := (mkF m 19 #[.val (.int p0), .val (.int p1), .unset, .unset, .unset, .unset, .unset] [(.int (2 : Int32)), (.ref a), (.ref a)])) rfl (hb hby at_19)
  refine own_go stk5 ?_
  show Run p.tables e below (Tk5.setTop (mkF m 22 #[.val (.int p0), .val (.int p1), .unset, .unset, .unset, .unset, .unset] [(.ref x2), (.int (2 : Int32)), (.ref a), (.ref a)])) _
  obtain ⟨Ts6, hs6, Ls6, Xs6, es6, Es6, Vs6, Ns6, sts6⟩ := own_stR Xk5 hx hZ ek5 Vs4 rfl (j := (2 : Int32)) ⟨by decide, by decide⟩ 2 rfl (Nat.lt_of_lt_of_eq (by decide : 2 < 21) rfl) OA (K_FALSE.1.ext Es4) rfl Es4 ge Ns4 ge0 (g := (mkF m 22 #[.val (.int p0), .val (.int p1), .unset, .unset, .unset, .unset, .unset] [(.ref x2), (.int (2 : Int32)), (.ref a), (.ref a)])) rfl rfl (hb hby at_22)
  replace Vs6 : Arv Z hs6 a cA (.object "com/example/regnitz/regnitz/Formula$Kind") 21 [.ref x0, .ref x1, .ref x2, .null, .null, .null, .null, .null, .null, .null, .null, .null, .null, .null, .null, .null, .null, .null, .null, .null, .null] .null := Vs6
  refine own_go sts6 ?_
  show Run p.tables e below (Ts6.setTop (mkF m 23 #[.val (.int p0), .val (.int p1), .unset, .unset, .unset, .unset, .unset] [(.ref a)])) _
  refine own_go (fun _ => XS.dup Xs6.here hx rfl (hb hby at_23) rfl rfl) ?_
  show Run p.tables e below (Ts6.setTop (mkF m 24 #[.val (.int p0), .val (.int p1), .unset, .unset, .unset, .unset, .unset] [(.ref a), (.ref a)])) _
  refine own_go (fun _ => XS.iconst Xs6.here hx rfl (hb hby at_24)) ?_
  show Run p.tables e below (Ts6.setTop (mkF m 25 #[.val (.int p0), .val (.int p1), .unset, .unset, .unset, .unset, .unset] [(.int (3 : Int32)), (.ref a), (.ref a)])) _
  obtain ⟨Tk7, Xk7, ek7, stk7⟩ := getS Xs6 hx hZ hown (host := "") (hw _ (List.mem_of_getElem? (i := 10) rfl)) Via.refl es6 (S_NOT.ext Es6) (g := (mkF m 25 #[.val (.int p0), .val (.int p1), .unset, .unset, .unset, .unset, .unset] [(.int (3 : Int32)), (.ref a), (.ref a)])) rfl (hb hby at_25)
  refine own_go stk7 ?_
  show Run p.tables e below (Tk7.setTop (mkF m 28 #[.val (.int p0), .val (.int p1), .unset, .unset, .unset, .unset, .unset] [(.ref x3), (.int (3 : Int32)), (.ref a), (.ref a)])) _
  obtain ⟨Ts8, hs8, Ls8, Xs8, es8, Es8, Vs8, Ns8, sts8⟩ := own_stR Xk7 hx hZ ek7 Vs6 rfl (j := (3 : Int32)) ⟨by decide, by decide⟩ 3 rfl (Nat.lt_of_lt_of_eq (by decide : 3 < 21) rfl) OA (K_NOT.1.ext Es6) rfl Es6 ge Ns6 ge0 (g := (mkF m 28 #[.val (.int p0), .val (.int p1), .unset, .unset, .unset, .unset, .unset] [(.ref x3), (.int (3 : Int32)), (.ref a), (.ref a)])) rfl rfl (hb hby at_28)
  replace Vs8 : Arv Z hs8 a cA (.object "com/example/regnitz/regnitz/Formula$Kind") 21 [.ref x0, .ref x1, .ref x2, .ref x3, .null, .null, .null, .null, .null, .null, .null, .null, .null, .null, .null, .null, .null, .null, .null, .null, .null] .null := Vs8
  refine own_go sts8 ?_
  show Run p.tables e below (Ts8.setTop (mkF m 29 #[.val (.int p0), .val (.int p1), .unset, .unset, .unset, .unset, .unset] [(.ref a)])) _
  refine own_go (fun _ => XS.dup Xs8.here hx rfl (hb hby at_29) rfl rfl) ?_
  show Run p.tables e below (Ts8.setTop (mkF m 30 #[.val (.int p0), .val (.int p1), .unset, .unset, .unset, .unset, .unset] [(.ref a), (.ref a)])) _
  refine own_go (fun _ => XS.iconst Xs8.here hx rfl (hb hby at_30)) ?_
  show Run p.tables e below (Ts8.setTop (mkF m 31 #[.val (.int p0), .val (.int p1), .unset, .unset, .unset, .unset, .unset] [(.int (4 : Int32)), (.ref a), (.ref a)])) _
  obtain ⟨Tk9, Xk9, ek9, stk9⟩ := getS Xs8 hx hZ hown (host := "") (hw _ (List.mem_of_getElem? (i := 12) rfl)) Via.refl es8 (S_BOX.ext Es8) (g := (mkF m 31 #[.val (.int p0), .val (.int p1), .unset, .unset, .unset, .unset, .unset] [(.int (4 : Int32)), (.ref a), (.ref a)])) rfl (hb hby at_31)
  refine own_go stk9 ?_
  show Run p.tables e below (Tk9.setTop (mkF m 34 #[.val (.int p0), .val (.int p1), .unset, .unset, .unset, .unset, .unset] [(.ref x4), (.int (4 : Int32)), (.ref a), (.ref a)])) _
  obtain ⟨Ts10, hs10, Ls10, Xs10, es10, Es10, Vs10, Ns10, sts10⟩ := own_stR Xk9 hx hZ ek9 Vs8 rfl (j := (4 : Int32)) ⟨by decide, by decide⟩ 4 rfl (Nat.lt_of_lt_of_eq (by decide : 4 < 21) rfl) OA (K_BOX.1.ext Es8) rfl Es8 ge Ns8 ge0 (g := (mkF m 34 #[.val (.int p0), .val (.int p1), .unset, .unset, .unset, .unset, .unset] [(.ref x4), (.int (4 : Int32)), (.ref a), (.ref a)])) rfl rfl (hb hby at_34)
  replace Vs10 : Arv Z hs10 a cA (.object "com/example/regnitz/regnitz/Formula$Kind") 21 [.ref x0, .ref x1, .ref x2, .ref x3, .ref x4, .null, .null, .null, .null, .null, .null, .null, .null, .null, .null, .null, .null, .null, .null, .null, .null] .null := Vs10
  refine own_go sts10 ?_
  show Run p.tables e below (Ts10.setTop (mkF m 35 #[.val (.int p0), .val (.int p1), .unset, .unset, .unset, .unset, .unset] [(.ref a)])) _
  refine own_go (fun _ => XS.dup Xs10.here hx rfl (hb hby at_35) rfl rfl) ?_
  show Run p.tables e below (Ts10.setTop (mkF m 36 #[.val (.int p0), .val (.int p1), .unset, .unset, .unset, .unset, .unset] [(.ref a), (.ref a)])) _
  refine own_go (fun _ => XS.iconst Xs10.here hx rfl (hb hby at_36)) ?_
  show Run p.tables e below (Ts10.setTop (mkF m 37 #[.val (.int p0), .val (.int p1), .unset, .unset, .unset, .unset, .unset] [(.int (5 : Int32)), (.ref a), (.ref a)])) _
  obtain ⟨Tk11, Xk11, ek11, stk11⟩ := getS Xs10 hx hZ hown (host := "") (hw _ (List.mem_of_getElem? (i := 14) rfl)) Via.refl es10 (S_DIAMOND.ext Es10) (g := (mkF m 37 #[.val (.int p0), .val (.int p1), .unset, .unset, .unset, .unset, .unset] [(.int (5 : Int32)), (.ref a), (.ref a)])) rfl (hb hby at_37)
  refine own_go stk11 ?_
  show Run p.tables e below (Tk11.setTop (mkF m 40 #[.val (.int p0), .val (.int p1), .unset, .unset, .unset, .unset, .unset] [(.ref x5), (.int (5 : Int32)), (.ref a), (.ref a)])) _
  obtain ⟨Ts12, hs12, Ls12, Xs12, es12, Es12, Vs12, Ns12, sts12⟩ := own_stR Xk11 hx hZ ek11 Vs10 rfl (j := (5 : Int32)) ⟨by decide, by decide⟩ 5 rfl (Nat.lt_of_lt_of_eq (by decide : 5 < 21) rfl) OA (K_DIAMOND.1.ext Es10) rfl Es10 ge Ns10 ge0 (g := (mkF m 40 #[.val (.int p0), .val (.int p1), .unset, .unset, .unset, .unset, .unset] [(.ref x5), (.int (5 : Int32)), (.ref a), (.ref a)])) rfl rfl (hb hby at_40)
  replace Vs12 : Arv Z hs12 a cA (.object "com/example/regnitz/regnitz/Formula$Kind") 21 [.ref x0, .ref x1, .ref x2, .ref x3, .ref x4, .ref x5, .null, .null, .null, .null, .null, .null, .null, .null, .null, .null, .null, .null, .null, .null, .null] .null := Vs12
  refine own_go sts12 ?_
  show Run p.tables e below (Ts12.setTop (mkF m 41 #[.val (.int p0), .val (.int p1), .unset, .unset, .unset, .unset, .unset] [(.ref a)])) _
  refine own_go (fun _ => XS.dup Xs12.here hx rfl (hb hby at_41) rfl rfl) ?_
  show Run p.tables e below (Ts12.setTop (mkF m 42 #[.val (.int p0), .val (.int p1), .unset, .unset, .unset, .unset, .unset] [(.ref a), (.ref a)])) _
  refine own_go (fun _ => XS.bipush Xs12.here hx rfl (hb hby at_42)) ?_
  show Run p.tables e below (Ts12.setTop (mkF m 44 #[.val (.int p0), .val (.int p1), .unset, .unset, .unset, .unset, .unset] [(.int (6 : Int32)), (.ref a), (.ref a)])) _
  obtain ⟨Tk13, Xk13, ek13, stk13⟩ := getS Xs12 hx hZ hown (host := "") (hw _ (List.mem_of_getElem? (i := 16) rfl)) Via.refl es12 (S_PROBABILITY.ext Es12) (g := (mkF m 44 #[.val (.int p0), .val (.int p1), .unset, .unset, .unset, .unset, .unset] [(.int (6 : Int32)), (.ref a), (.ref a)])) rfl (hb hby at_44)
  refine own_go stk13 ?_
  show Run p.tables e below (Tk13.setTop (mkF m 47 #[.val (.int p0), .val (.int p1), .unset, .unset, .unset, .unset, .unset] [(.ref x6), (.int (6 : Int32)), (.ref a), (.ref a)])) _
  obtain ⟨Ts14, hs14, Ls14, Xs14, es14, Es14, Vs14, Ns14, sts14⟩ := own_stR Xk13 hx hZ ek13 Vs12 rfl (j := (6 : Int32)) ⟨by decide, by decide⟩ 6 rfl (Nat.lt_of_lt_of_eq (by decide : 6 < 21) rfl) OA (K_PROBABILITY.1.ext Es12) rfl Es12 ge Ns12 ge0 (g := (mkF m 47 #[.val (.int p0), .val (.int p1), .unset, .unset, .unset, .unset, .unset] [(.ref x6), (.int (6 : Int32)), (.ref a), (.ref a)])) rfl rfl (hb hby at_47)
  replace Vs14 : Arv Z hs14 a cA (.object "com/example/regnitz/regnitz/Formula$Kind") 21 [.ref x0, .ref x1, .ref x2, .ref x3, .ref x4, .ref x5, .ref x6, .null, .null, .null, .null, .null, .null, .null, .null, .null, .null, .null, .null, .null, .null] .null := Vs14
  refine own_go sts14 ?_
  show Run p.tables e below (Ts14.setTop (mkF m 48 #[.val (.int p0), .val (.int p1), .unset, .unset, .unset, .unset, .unset] [(.ref a)])) _
  refine own_go (fun _ => XS.dup Xs14.here hx rfl (hb hby at_48) rfl rfl) ?_
  show Run p.tables e below (Ts14.setTop (mkF m 49 #[.val (.int p0), .val (.int p1), .unset, .unset, .unset, .unset, .unset] [(.ref a), (.ref a)])) _
  refine own_go (fun _ => XS.bipush Xs14.here hx rfl (hb hby at_49)) ?_
  show Run p.tables e below (Ts14.setTop (mkF m 51 #[.val (.int p0), .val (.int p1), .unset, .unset, .unset, .unset, .unset] [(.int (7 : Int32)), (.ref a), (.ref a)])) _
  obtain ⟨Tk15, Xk15, ek15, stk15⟩ := getS Xs14 hx hZ hown (host := "") (hw _ (List.mem_of_getElem? (i := 18) rfl)) Via.refl es14 (S_COALITION.ext Es14) (g := (mkF m 51 #[.val (.int p0), .val (.int p1), .unset, .unset, .unset, .unset, .unset] [(.int (7 : Int32)), (.ref a), (.ref a)])) rfl (hb hby at_51)
  refine own_go stk15 ?_
  show Run p.tables e below (Tk15.setTop (mkF m 54 #[.val (.int p0), .val (.int p1), .unset, .unset, .unset, .unset, .unset] [(.ref x7), (.int (7 : Int32)), (.ref a), (.ref a)])) _
  obtain ⟨Ts16, hs16, Ls16, Xs16, es16, Es16, Vs16, Ns16, sts16⟩ := own_stR Xk15 hx hZ ek15 Vs14 rfl (j := (7 : Int32)) ⟨by decide, by decide⟩ 7 rfl (Nat.lt_of_lt_of_eq (by decide : 7 < 21) rfl) OA (K_COALITION.1.ext Es14) rfl Es14 ge Ns14 ge0 (g := (mkF m 54 #[.val (.int p0), .val (.int p1), .unset, .unset, .unset, .unset, .unset] [(.ref x7), (.int (7 : Int32)), (.ref a), (.ref a)])) rfl rfl (hb hby at_54)
  replace Vs16 : Arv Z hs16 a cA (.object "com/example/regnitz/regnitz/Formula$Kind") 21 [.ref x0, .ref x1, .ref x2, .ref x3, .ref x4, .ref x5, .ref x6, .ref x7, .null, .null, .null, .null, .null, .null, .null, .null, .null, .null, .null, .null, .null] .null := Vs16
  refine own_go sts16 ?_
  show Run p.tables e below (Ts16.setTop (mkF m 55 #[.val (.int p0), .val (.int p1), .unset, .unset, .unset, .unset, .unset] [(.ref a)])) _
  refine own_go (fun _ => XS.dup Xs16.here hx rfl (hb hby at_55) rfl rfl) ?_
  show Run p.tables e below (Ts16.setTop (mkF m 56 #[.val (.int p0), .val (.int p1), .unset, .unset, .unset, .unset, .unset] [(.ref a), (.ref a)])) _
  refine own_go (fun _ => XS.bipush Xs16.here hx rfl (hb hby at_56)) ?_
  show Run p.tables e below (Ts16.setTop (mkF m 58 #[.val (.int p0), .val (.int p1), .unset, .unset, .unset, .unset, .unset] [(.int (8 : Int32)), (.ref a), (.ref a)])) _
  obtain ⟨Tk17, Xk17, ek17, stk17⟩ := getS Xs16 hx hZ hown (host := "") (hw _ (List.mem_of_getElem? (i := 20) rfl)) Via.refl es16 (S_GENERALLY.ext Es16) (g := (mkF m 58 #[.val (.int p0), .val (.int p1), .unset, .unset, .unset, .unset, .unset] [(.int (8 : Int32)), (.ref a), (.ref a)])) rfl (hb hby at_58)
  refine own_go stk17 ?_
  show Run p.tables e below (Tk17.setTop (mkF m 61 #[.val (.int p0), .val (.int p1), .unset, .unset, .unset, .unset, .unset] [(.ref x8), (.int (8 : Int32)), (.ref a), (.ref a)])) _
  obtain ⟨Ts18, hs18, Ls18, Xs18, es18, Es18, Vs18, Ns18, sts18⟩ := own_stR Xk17 hx hZ ek17 Vs16 rfl (j := (8 : Int32)) ⟨by decide, by decide⟩ 8 rfl (Nat.lt_of_lt_of_eq (by decide : 8 < 21) rfl) OA (K_GENERALLY.1.ext Es16) rfl Es16 ge Ns16 ge0 (g := (mkF m 61 #[.val (.int p0), .val (.int p1), .unset, .unset, .unset, .unset, .unset] [(.ref x8), (.int (8 : Int32)), (.ref a), (.ref a)])) rfl rfl (hb hby at_61)
  replace Vs18 : Arv Z hs18 a cA (.object "com/example/regnitz/regnitz/Formula$Kind") 21 [.ref x0, .ref x1, .ref x2, .ref x3, .ref x4, .ref x5, .ref x6, .ref x7, .ref x8, .null, .null, .null, .null, .null, .null, .null, .null, .null, .null, .null, .null] .null := Vs18
  refine own_go sts18 ?_
  show Run p.tables e below (Ts18.setTop (mkF m 62 #[.val (.int p0), .val (.int p1), .unset, .unset, .unset, .unset, .unset] [(.ref a)])) _
  refine own_go (fun _ => XS.dup Xs18.here hx rfl (hb hby at_62) rfl rfl) ?_
  show Run p.tables e below (Ts18.setTop (mkF m 63 #[.val (.int p0), .val (.int p1), .unset, .unset, .unset, .unset, .unset] [(.ref a), (.ref a)])) _
  refine own_go (fun _ => XS.bipush Xs18.here hx rfl (hb hby at_63)) ?_
  show Run p.tables e below (Ts18.setTop (mkF m 65 #[.val (.int p0), .val (.int p1), .unset, .unset, .unset, .unset, .unset] [(.int (9 : Int32)), (.ref a), (.ref a)])) _
  obtain ⟨Tk19, Xk19, ek19, stk19⟩ := getS Xs18 hx hZ hown (host := "") (hw _ (List.mem_of_getElem? (i := 22) rfl)) Via.refl es18 (S_DEGREE.ext Es18) (g := (mkF m 65 #[.val (.int p0), .val (.int p1), .unset, .unset, .unset, .unset, .unset] [(.int (9 : Int32)), (.ref a), (.ref a)])) rfl (hb hby at_65)
  refine own_go stk19 ?_
  show Run p.tables e below (Tk19.setTop (mkF m 68 #[.val (.int p0), .val (.int p1), .unset, .unset, .unset, .unset, .unset] [(.ref x9), (.int (9 : Int32)), (.ref a), (.ref a)])) _
  obtain ⟨Ts20, hs20, Ls20, Xs20, es20, Es20, Vs20, Ns20, sts20⟩ := own_stR Xk19 hx hZ ek19 Vs18 rfl (j := (9 : Int32)) ⟨by decide, by decide⟩ 9 rfl (Nat.lt_of_lt_of_eq (by decide : 9 < 21) rfl) OA (K_DEGREE.1.ext Es18) rfl Es18 ge Ns18 ge0 (g := (mkF m 68 #[.val (.int p0), .val (.int p1), .unset, .unset, .unset, .unset, .unset] [(.ref x9), (.int (9 : Int32)), (.ref a), (.ref a)])) rfl rfl (hb hby at_68)
  replace Vs20 : Arv Z hs20 a cA (.object "com/example/regnitz/regnitz/Formula$Kind") 21 [.ref x0, .ref x1, .ref x2, .ref x3, .ref x4, .ref x5, .ref x6, .ref x7, .ref x8, .ref x9, .null, .null, .null, .null, .null, .null, .null, .null, .null, .null, .null] .null := Vs20
  refine own_go sts20 ?_
  show Run p.tables e below (Ts20.setTop (mkF m 69 #[.val (.int p0), .val (.int p1), .unset, .unset, .unset, .unset, .unset] [(.ref a)])) _
  refine own_go (fun _ => XS.dup Xs20.here hx rfl (hb hby at_69) rfl rfl) ?_
  show Run p.tables e below (Ts20.setTop (mkF m 70 #[.val (.int p0), .val (.int p1), .unset, .unset, .unset, .unset, .unset] [(.ref a), (.ref a)])) _
  refine own_go (fun _ => XS.bipush Xs20.here hx rfl (hb hby at_70)) ?_
  show Run p.tables e below (Ts20.setTop (mkF m 72 #[.val (.int p0), .val (.int p1), .unset, .unset, .unset, .unset, .unset] [(.int (10 : Int32)), (.ref a), (.ref a)])) _
  obtain ⟨Tk21, Xk21, ek21, stk21⟩ := getS Xs20 hx hZ hown (host := "") (hw _ (List.mem_of_getElem? (i := 24) rfl)) Via.refl es20 (S_MINUS.ext Es20) (g := (mkF m 72 #[.val (.int p0), .val (.int p1), .unset, .unset, .unset, .unset, .unset] [(.int (10 : Int32)), (.ref a), (.ref a)])) rfl (hb hby at_72)
  refine own_go stk21 ?_
  show Run p.tables e below (Tk21.setTop (mkF m 75 #[.val (.int p0), .val (.int p1), .unset, .unset, .unset, .unset, .unset] [(.ref x10), (.int (10 : Int32)), (.ref a), (.ref a)])) _
  obtain ⟨Ts22, hs22, Ls22, Xs22, es22, Es22, Vs22, Ns22, sts22⟩ := own_stR Xk21 hx hZ ek21 Vs20 rfl (j := (10 : Int32)) ⟨by decide, by decide⟩ 10 rfl (Nat.lt_of_lt_of_eq (by decide : 10 < 21) rfl) OA (K_MINUS.1.ext Es20) rfl Es20 ge Ns20 ge0 (g := (mkF m 75 #[.val (.int p0), .val (.int p1), .unset, .unset, .unset, .unset, .unset] [(.ref x10), (.int (10 : Int32)), (.ref a), (.ref a)])) rfl rfl (hb hby at_75)
  replace Vs22 : Arv Z hs22 a cA (.object "com/example/regnitz/regnitz/Formula$Kind") 21 [.ref x0, .ref x1, .ref x2, .ref x3, .ref x4, .ref x5, .ref x6, .ref x7, .ref x8, .ref x9, .ref x10, .null, .null, .null, .null, .null, .null, .null, .null, .null, .null] .null := Vs22
  refine own_go sts22 ?_
  show Run p.tables e below (Ts22.setTop (mkF m 76 #[.val (.int p0), .val (.int p1), .unset, .unset, .unset, .unset, .unset] [(.ref a)])) _
  refine own_go (fun _ => XS.dup Xs22.here hx rfl (hb hby at_76) rfl rfl) ?_
  show Run p.tables e below (Ts22.setTop (mkF m 77 #[.val (.int p0), .val (.int p1), .unset, .unset, .unset, .unset, .unset] [(.ref a), (.ref a)])) _
  refine own_go (fun _ => XS.bipush Xs22.here hx rfl (hb hby at_77)) ?_
  show Run p.tables e below (Ts22.setTop (mkF m 79 #[.val (.int p0), .val (.int p1), .unset, .unset, .unset, .unset, .unset] [(.int (11 : Int32)), (.ref a), (.ref a)])) _
  obtain ⟨Tk23, Xk23, ek23, stk23⟩ := getS Xs22 hx hZ hown (host := "") (hw _ (List.mem_of_getElem? (i := 26) rfl)) Via.refl es22 (S_PLUS.ext Es22) (g := (mkF m 79 #[.val (.int p0), .val (.int p1), .unset, .unset, .unset, .unset, .unset] [(.int (11 : Int32)), (.ref a), (.ref a)])) rfl (hb hby at_79)
  refine own_go stk23 ?_
  show Run p.tables e below (Tk23.setTop (mkF m 82 #[.val (.int p0), .val (.int p1), .unset, .unset, .unset, .unset, .unset] [(.ref x11), (.int (11 : Int32)), (.ref a), (.ref a)])) _
  obtain ⟨Ts24, hs24, Ls24, Xs24, es24, Es24, Vs24, Ns24, sts24⟩ := own_stR Xk23 hx hZ ek23 Vs22 rfl (j := (11 : Int32)) ⟨by decide, by decide⟩ 11 rfl (Nat.lt_of_lt_of_eq (by decide : 11 < 21) rfl) OA (K_PLUS.1.ext Es22) rfl Es22 ge Ns22 ge0 (g := (mkF m 82 #[.val (.int p0), .val (.int p1), .unset, .unset, .unset, .unset, .unset] [(.ref x11), (.int (11 : Int32)), (.ref a), (.ref a)])) rfl rfl (hb hby at_82)
  replace Vs24 : Arv Z hs24 a cA (.object "com/example/regnitz/regnitz/Formula$Kind") 21 [.ref x0, .ref x1, .ref x2, .ref x3, .ref x4, .ref x5, .ref x6, .ref x7, .ref x8, .ref x9, .ref x10, .ref x11, .null, .null, .null, .null, .null, .null, .null, .null, .null] .null := Vs24
  refine own_go sts24 ?_
  show Run p.tables e below (Ts24.setTop (mkF m 83 #[.val (.int p0), .val (.int p1), .unset, .unset, .unset, .unset, .unset] [(.ref a)])) _
  refine own_go (fun _ => XS.dup Xs24.here hx rfl (hb hby at_83) rfl rfl) ?_
  show Run p.tables e below (Ts24.setTop (mkF m 84 #[.val (.int p0), .val (.int p1), .unset, .unset, .unset, .unset, .unset] [(.ref a), (.ref a)])) _
  refine own_go (fun _ => XS.bipush Xs24.here hx rfl (hb hby at_84)) ?_
  show Run p.tables e below (Ts24.setTop (mkF m 86 #[.val (.int p0), .val (.int p1), .unset, .unset, .unset, .unset, .unset] [(.int (12 : Int32)), (.ref a), (.ref a)])) _
  obtain ⟨Tk25, Xk25, ek25, stk25⟩ := getS Xs24 hx hZ hown (host := "") (hw _ (List.mem_of_getElem? (i := 28) rfl)) Via.refl es24 (S_AND.ext Es24) (g := (mkF m 86 #[.val (.int p0), .val (.int p1), .unset, .unset, .unset, .unset, .unset] [(.int (12 : Int32)), (.ref a), (.ref a)])) rfl (hb hby at_86)
  refine own_go stk25 ?_
  show Run p.tables e below (Tk25.setTop (mkF m 89 #[.val (.int p0), .val (.int p1), .unset, .unset, .unset, .unset, .unset] [(.ref x12), (.int (12 : Int32)), (.ref a), (.ref a)])) _
  obtain ⟨Ts26, hs26, Ls26, Xs26, es26, Es26, Vs26, Ns26, sts26⟩ := own_stR Xk25 hx hZ ek25 Vs24 rfl (j := (12 : Int32)) ⟨by decide, by decide⟩ 12 rfl (Nat.lt_of_lt_of_eq (by decide : 12 < 21) rfl) OA (K_AND.1.ext Es24) rfl Es24 ge Ns24 ge0 (g := (mkF m 89 #[.val (.int p0), .val (.int p1), .unset, .unset, .unset, .unset, .unset] [(.ref x12), (.int (12 : Int32)), (.ref a), (.ref a)])) rfl rfl (hb hby at_89)
  replace Vs26 : Arv Z hs26 a cA (.object "com/example/regnitz/regnitz/Formula$Kind") 21 [.ref x0, .ref x1, .ref x2, .ref x3, .ref x4, .ref x5, .ref x6, .ref x7, .ref x8, .ref x9, .ref x10, .ref x11, .ref x12, .null, .null, .null, .null, .null, .null, .null, .null] .null := Vs26
  refine own_go sts26 ?_
  show Run p.tables e below (Ts26.setTop (mkF m 90 #[.val (.int p0), .val (.int p1), .unset, .unset, .unset, .unset, .unset] [(.ref a)])) _
  refine own_go (fun _ => XS.dup Xs26.here hx rfl (hb hby at_90) rfl rfl) ?_
  show Run p.tables e below (Ts26.setTop (mkF m 91 #[.val (.int p0), .val (.int p1), .unset, .unset, .unset, .unset, .unset] [(.ref a), (.ref a)])) _
  refine own_go (fun _ => XS.bipush Xs26.here hx rfl (hb hby at_91)) ?_
  show Run p.tables e below (Ts26.setTop (mkF m 93 #[.val (.int p0), .val (.int p1), .unset, .unset, .unset, .unset, .unset] [(.int (13 : Int32)), (.ref a), (.ref a)])) _
  obtain ⟨Tk27, Xk27, ek27, stk27⟩ := getS Xs26 hx hZ hown (host := "") (hw _ (List.mem_of_getElem? (i := 30) rfl)) Via.refl es26 (S_OR.ext Es26) (g := (mkF m 93 #[.val (.int p0), .val (.int p1), .unset, .unset, .unset, .unset, .unset] [(.int (13 : Int32)), (.ref a), (.ref a)])) rfl (hb hby at_93)
  refine own_go stk27 ?_
  show Run p.tables e below (Tk27.setTop (mkF m 96 #[.val (.int p0), .val (.int p1), .unset, .unset, .unset, .unset, .unset] [(.ref x13), (.int (13 : Int32)), (.ref a), (.ref a)])) _
  obtain ⟨Ts28, hs28, Ls28, Xs28, es28, Es28, Vs28, Ns28, sts28⟩ := own_stR Xk27 hx hZ ek27 Vs26 rfl (j := (13 : Int32)) ⟨by decide, by decide⟩ 13 rfl (Nat.lt_of_lt_of_eq (by decide : 13 < 21) rfl) OA (K_OR.1.ext Es26) rfl Es26 ge Ns26 ge0 (g := (mkF m 96 #[.val (.int p0), .val (.int p1), .unset, .unset, .unset, .unset, .unset] [(.ref x13), (.int (13 : Int32)), (.ref a), (.ref a)])) rfl rfl (hb hby at_96)
  replace Vs28 : Arv Z hs28 a cA (.object "com/example/regnitz/regnitz/Formula$Kind") 21 [.ref x0, .ref x1, .ref x2, .ref x3, .ref x4, .ref x5, .ref x6, .ref x7, .ref x8, .ref x9, .ref x10, .ref x11, .ref x12, .ref x13, .null, .null, .null, .null, .null, .null, .null] .null := Vs28
  refine own_go sts28 ?_
  show Run p.tables e below (Ts28.setTop (mkF m 97 #[.val (.int p0), .val (.int p1), .unset, .unset, .unset, .unset, .unset] [(.ref a)])) _
  refine own_go (fun _ => XS.dup Xs28.here hx rfl (hb hby at_97) rfl rfl) ?_
  show Run p.tables e below (Ts28.setTop (mkF m 98 #[.val (.int p0), .val (.int p1), .unset, .unset, .unset, .unset, .unset] [(.ref a), (.ref a)])) _
  refine own_go (fun _ => XS.bipush Xs28.here hx rfl (hb hby at_98)) ?_
  show Run p.tables e below (Ts28.setTop (mkF m 100 #[.val (.int p0), .val (.int p1), .unset, .unset, .unset, .unset, .unset] [(.int (14 : Int32)), (.ref a), (.ref a)])) _
  obtain ⟨Tk29, Xk29, ek29, stk29⟩ := getS Xs28 hx hZ hown (host := "") (hw _ (List.mem_of_getElem? (i := 32) rfl)) Via.refl es28 (S_AT_LEAST.ext Es28) (g := (mkF m 100 #[.val (.int p0), .val (.int p1), .unset, .unset, .unset, .unset, .unset] [(.int (14 : Int32)), (.ref a), (.ref a)])) rfl (hb hby at_100)
  refine own_go stk29 ?_
  show Run p.tables e below (Tk29.setTop (mkF m 103 #[.val (.int p0), .val (.int p1), .unset, .unset, .unset, .unset, .unset] [(.ref x14), (.int (14 : Int32)), (.ref a), (.ref a)])) _
  obtain ⟨Ts30, hs30, Ls30, Xs30, es30, Es30, Vs30, Ns30, sts30⟩ := own_stR Xk29 hx hZ ek29 Vs28 rfl (j := (14 : Int32)) ⟨by decide, by decide⟩ 14 rfl (Nat.lt_of_lt_of_eq (by decide : 14 < 21) rfl) OA (K_AT_LEAST.1.ext Es28) rfl Es28 ge Ns28 ge0 (g := (mkF m 103 #[.val (.int p0), .val (.int p1), .unset, .unset, .unset, .unset, .unset] [(.ref x14), (.int (14 : Int32)), (.ref a), (.ref a)])) rfl rfl (hb hby at_103)
  replace Vs30 : Arv Z hs30 a cA (.object "com/example/regnitz/regnitz/Formula$Kind") 21 [.ref x0, .ref x1, .ref x2, .ref x3, .ref x4, .ref x5, .ref x6, .ref x7, .ref x8, .ref x9, .ref x10, .ref x11, .ref x12, .ref x13, .ref x14, .null, .null, .null, .null, .null, .null] .null := Vs30
  refine own_go sts30 ?_
  show Run p.tables e below (Ts30.setTop (mkF m 104 #[.val (.int p0), .val (.int p1), .unset, .unset, .unset, .unset, .unset] [(.ref a)])) _
  refine own_go (fun _ => XS.dup Xs30.here hx rfl (hb hby at_104) rfl rfl) ?_
  show Run p.tables e below (Ts30.setTop (mkF m 105 #[.val (.int p0), .val (.int p1), .unset, .unset, .unset, .unset, .unset] [(.ref a), (.ref a)])) _
  refine own_go (fun _ => XS.bipush Xs30.here hx rfl (hb hby at_105)) ?_
  show Run p.tables e below (Ts30.setTop (mkF m 107 #[.val (.int p0), .val (.int p1), .unset, .unset, .unset, .unset, .unset] [(.int (15 : Int32)), (.ref a), (.ref a)])) _
  obtain ⟨Tk31, Xk31, ek31, stk31⟩ := getS Xs30 hx hZ hown (host := "") (hw _ (List.mem_of_getElem? (i := 34) rfl)) Via.refl es30 (S_ABOVE.ext Es30) (g := (mkF m 107 #[.val (.int p0), .val (.int p1), .unset, .unset, .unset, .unset, .unset] [(.int (15 : Int32)), (.ref a), (.ref a)])) rfl (hb hby at_107)
  refine own_go stk31 ?_
  show Run p.tables e below (Tk31.setTop (mkF m 110 #[.val (.int p0), .val (.int p1), .unset, .unset, .unset, .unset, .unset] [(.ref x15), (.int (15 : Int32)), (.ref a), (.ref a)])) _
  obtain ⟨Ts32, hs32, Ls32, Xs32, es32, Es32, Vs32, Ns32, sts32⟩ := own_stR Xk31 hx hZ ek31 Vs30 rfl (j := (15 : Int32)) ⟨by decide, by decide⟩ 15 rfl (Nat.lt_of_lt_of_eq (by decide : 15 < 21) rfl) OA (K_ABOVE.1.ext Es30) rfl Es30 ge Ns30 ge0 (g := (mkF m 110 #[.val (.int p0), .val (.int p1), .unset, .unset, .unset, .unset, .unset] [(.ref x15), (.int (15 : Int32)), (.ref a), (.ref a)])) rfl rfl (hb hby at_110)
  replace Vs32 : Arv Z hs32 a cA (.object "com/example/regnitz/regnitz/Formula$Kind") 21 [.ref x0, .ref x1, .ref x2, .ref x3, .ref x4, .ref x5, .ref x6, .ref x7, .ref x8, .ref x9, .ref x10, .ref x11, .ref x12, .ref x13, .ref x14, .ref x15, .null, .null, .null, .null, .null] .null := Vs32
  refine own_go sts32 ?_
  show Run p.tables e below (Ts32.setTop (mkF m 111 #[.val (.int p0), .val (.int p1), .unset, .unset, .unset, .unset, .unset] [(.ref a)])) _
  refine own_go (fun _ => XS.dup Xs32.here hx rfl (hb hby at_111) rfl rfl) ?_
  show Run p.tables e below (Ts32.setTop (mkF m 112 #[.val (.int p0), .val (.int p1), .unset, .unset, .unset, .unset, .unset] [(.ref a), (.ref a)])) _
  refine own_go (fun _ => XS.bipush Xs32.here hx rfl (hb hby at_112)) ?_
  show Run p.tables e below (Ts32.setTop (mkF m 114 #[.val (.int p0), .val (.int p1), .unset, .unset, .unset, .unset, .unset] [(.int (16 : Int32)), (.ref a), (.ref a)])) _
  obtain ⟨Tk33, Xk33, ek33, stk33⟩ := getS Xs32 hx hZ hown (host := "") (hw _ (List.mem_of_getElem? (i := 36) rfl)) Via.refl es32 (S_AT_MOST.ext Es32) (g := (mkF m 114 #[.val (.int p0), .val (.int p1), .unset, .unset, .unset, .unset, .unset] [(.int (16 : Int32)), (.ref a), (.ref a)])) rfl (hb hby at_114)
  refine own_go stk33 ?_
  show Run p.tables e below (Tk33.setTop (mkF m 117 #[.val (.int p0), .val (.int p1), .unset, .unset, .unset, .unset, .unset] [(.ref x16), (.int (16 : Int32)), (.ref a), (.ref a)])) _
  obtain ⟨Ts34, hs34, Ls34, Xs34, es34, Es34, Vs34, Ns34, sts34⟩ := own_stR Xk33 hx hZ ek33 Vs32 rfl (j := (16 : Int32)) ⟨by decide, by decide⟩ 16 rfl (Nat.lt_of_lt_of_eq (by decide : 16 < 21) rfl) OA (K_AT_MOST.1.ext Es32) rfl Es32 ge Ns32 ge0 (g := (mkF m 117 #[.val (.int p0), .val (.int p1), .unset, .unset, .unset, .unset, .unset] [(.ref x16), (.int (16 : Int32)), (.ref a), (.ref a)])) rfl rfl (hb hby at_117)
  replace Vs34 : Arv Z hs34 a cA (.object "com/example/regnitz/regnitz/Formula$Kind") 21 [.ref x0, .ref x1, .ref x2, .ref x3, .ref x4, .ref x5, .ref x6, .ref x7, .ref x8, .ref x9, .ref x10, .ref x11, .ref x12, .ref x13, .ref x14, .ref x15, .ref x16, .null, .null, .null, .null] .null := Vs34
  refine own_go sts34 ?_
  show Run p.tables e below (Ts34.setTop (mkF m 118 #[.val (.int p0), .val (.int p1), .unset, .unset, .unset, .unset, .unset] [(.ref a)])) _
  refine own_go (fun _ => XS.dup Xs34.here hx rfl (hb hby at_118) rfl rfl) ?_
  show Run p.tables e below (Ts34.setTop (mkF m 119 #[.val (.int p0), .val (.int p1), .unset, .unset, .unset, .unset, .unset] [(.ref a), (.ref a)])) _
  refine own_go (fun _ => XS.bipush Xs34.here hx rfl (hb hby at_119)) ?_
  show Run p.tables e below (Ts34.setTop (mkF m 121 #[.val (.int p0), .val (.int p1), .unset, .unset, .unset, .unset, .unset] [(.int (17 : Int32)), (.ref a), (.ref a)])) _
  obtain ⟨Tk35, Xk35, ek35, stk35⟩ := getS Xs34 hx hZ hown (host := "") (hw _ (List.mem_of_getElem? (i := 38) rfl)) Via.refl es34 (S_BELOW.ext Es34) (g := (mkF m 121 #[.val (.int p0), .val (.int p1), .unset, .unset, .unset, .unset, .unset] [(.int (17 : Int32)), (.ref a), (.ref a)])) rfl (hb hby at_121)
  refine own_go stk35 ?_
  show Run p.tables e below (Tk35.setTop (mkF m 124 #[.val (.int p0), .val (.int p1), .unset, .unset, .unset, .unset, .unset] [(.ref x17), (.int (17 : Int32)), (.ref a), (.ref a)])) _
  obtain ⟨Ts36, hs36, Ls36, Xs36, es36, Es36, Vs36, Ns36, sts36⟩ := own_stR Xk35 hx hZ ek35 Vs34 rfl (j := (17 : Int32)) ⟨by decide, by decide⟩ 17 rfl (Nat.lt_of_lt_of_eq (by decide : 17 < 21) rfl) OA (K_BELOW.1.ext Es34) rfl Es34 ge Ns34 ge0 (g := (mkF m 124 #[.val (.int p0), .val (.int p1), .unset, .unset, .unset, .unset, .unset] [(.ref x17), (.int (17 : Int32)), (.ref a), (.ref a)])) rfl rfl (hb hby at_124)
  replace Vs36 : Arv Z hs36 a cA (.object "com/example/regnitz/regnitz/Formula$Kind") 21 [.ref x0, .ref x1, .ref x2, .ref x3, .ref x4, .ref x5, .ref x6, .ref x7, .ref x8, .ref x9, .ref x10, .ref x11, .ref x12, .ref x13, .ref x14, .ref x15, .ref x16, .ref x17, .null, .null, .null] .null := Vs36
  refine own_go sts36 ?_
  show Run p.tables e below (Ts36.setTop (mkF m 125 #[.val (.int p0), .val (.int p1), .unset, .unset, .unset, .unset, .unset] [(.ref a)])) _
  refine own_go (fun _ => XS.dup Xs36.here hx rfl (hb hby at_125) rfl rfl) ?_
  show Run p.tables e below (Ts36.setTop (mkF m 126 #[.val (.int p0), .val (.int p1), .unset, .unset, .unset, .unset, .unset] [(.ref a), (.ref a)])) _
  refine own_go (fun _ => XS.bipush Xs36.here hx rfl (hb hby at_126)) ?_
  show Run p.tables e below (Ts36.setTop (mkF m 128 #[.val (.int p0), .val (.int p1), .unset, .unset, .unset, .unset, .unset] [(.int (18 : Int32)), (.ref a), (.ref a)])) _
  obtain ⟨Tk37, Xk37, ek37, stk37⟩ := getS Xs36 hx hZ hown (host := "") (hw _ (List.mem_of_getElem? (i := 40) rfl)) Via.refl es36 (S_CONDITIONAL.ext Es36) (g := (mkF m 128 #[.val (.int p0), .val (.int p1), .unset, .unset, .unset, .unset, .unset] [(.int (18 : Int32)), (.ref a), (.ref a)])) rfl (hb hby at_128)
  refine own_go stk37 ?_
  show Run p.tables e below (Tk37.setTop (mkF m 131 #[.val (.int p0), .val (.int p1), .unset, .unset, .unset, .unset, .unset] [(.ref x18), (.int (18 : Int32)), (.ref a), (.ref a)])) _
  obtain ⟨Ts38, hs38, Ls38, Xs38, es38, Es38, Vs38, Ns38, sts38⟩ := own_stR Xk37 hx hZ ek37 Vs36 rfl (j := (18 : Int32)) ⟨by decide, by decide⟩ 18 rfl (Nat.lt_of_lt_of_eq (by decide : 18 < 21) rfl) OA (K_CONDITIONAL.1.ext Es36) rfl Es36 ge Ns36 ge0 (g := (mkF m 131 #[.val (.int p0), .val (.int p1), .unset, .unset, .unset, .unset, .unset] [(.ref x18), (.int (18 : Int32)), (.ref a), (.ref a)])) rfl rfl (hb hby at_131)
  replace Vs38 : Arv Z hs38 a cA (.object "com/example/regnitz/regnitz/Formula$Kind") 21 [.ref x0, .ref x1, .ref x2, .ref x3, .ref x4, .ref x5, .ref x6, .ref x7, .ref x8, .ref x9, .ref x10, .ref x11, .ref x12, .ref x13, .ref x14, .ref x15, .ref x16, .ref x17, .ref x18, .null, .null] .null := Vs38
  refine own_go sts38 ?_
  show Run p.tables e below (Ts38.setTop (mkF m 132 #[.val (.int p0), .val (.int p1), .unset, .unset, .unset, .unset, .unset] [(.ref a)])) _
  refine own_go (fun _ => XS.dup Xs38.here hx rfl (hb hby at_132) rfl rfl) ?_
  show Run p.tables e below (Ts38.setTop (mkF m 133 #[.val (.int p0), .val (.int p1), .unset, .unset, .unset, .unset, .unset] [(.ref a), (.ref a)])) _
  refine own_go (fun _ => XS.bipush Xs38.here hx rfl (hb hby at_133)) ?_
  show Run p.tables e below (Ts38.setTop (mkF m 135 #[.val (.int p0), .val (.int p1), .unset, .unset, .unset, .unset, .unset] [(.int (19 : Int32)), (.ref a), (.ref a)])) _
  obtain ⟨Tk39, Xk39, ek39, stk39⟩ := getS Xs38 hx hZ hown (host := "") (hw _ (List.mem_of_getElem? (i := 42) rfl)) Via.refl es38 (S_IMPLIES.ext Es38) (g := (mkF m 135 #[.val (.int p0), .val (.int p1), .unset, .unset, .unset, .unset, .unset] [(.int (19 : Int32)), (.ref a), (.ref a)])) rfl (hb hby at_135)
  refine own_go stk39 ?_
  show Run p.tables e below (Tk39.setTop (mkF m 138 #[.val (.int p0), .val (.int p1), .unset, .unset, .unset, .unset, .unset] [(.ref x19), (.int (19 : Int32)), (.ref a), (.ref a)])) _
  obtain ⟨Ts40, hs40, Ls40, Xs40, es40, Es40, Vs40, Ns40, sts40⟩ := own_stR Xk39 hx hZ ek39 Vs38 rfl (j := (19 : Int32)) ⟨by decide, by decide⟩ 19 rfl (Nat.lt_of_lt_of_eq (by decide : 19 < 21) rfl) OA (K_IMPLIES.1.ext Es38) rfl Es38 ge Ns38 ge0 (g := (mkF m 138 #[.val (.int p0), .val (.int p1), .unset, .unset, .unset, .unset, .unset] [(.ref x19), (.int (19 : Int32)), (.ref a), (.ref a)])) rfl rfl (hb hby at_138)
  replace Vs40 : Arv Z hs40 a cA (.object "com/example/regnitz/regnitz/Formula$Kind") 21 [.ref x0, .ref x1, .ref x2, .ref x3, .ref x4, .ref x5, .ref x6, .ref x7, .ref x8, .ref x9, .ref x10, .ref x11, .ref x12, .ref x13, .ref x14, .ref x15, .ref x16, .ref x17, .ref x18, .ref x19, .null] .null := Vs40
  refine own_go sts40 ?_
  show Run p.tables e below (Ts40.setTop (mkF m 139 #[.val (.int p0), .val (.int p1), .unset, .unset, .unset, .unset, .unset] [(.ref a)])) _
  refine own_go (fun _ => XS.dup Xs40.here hx rfl (hb hby at_139) rfl rfl) ?_
  show Run p.tables e below (Ts40.setTop (mkF m 140 #[.val (.int p0), .val (.int p1), .unset, .unset, .unset, .unset, .unset] [(.ref a), (.ref a)])) _
  refine own_go (fun _ => XS.bipush Xs40.here hx rfl (hb hby at_140)) ?_
  show Run p.tables e below (Ts40.setTop (mkF m 142 #[.val (.int p0), .val (.int p1), .unset, .unset, .unset, .unset, .unset] [(.int (20 : Int32)), (.ref a), (.ref a)])) _
  obtain ⟨Tk41, Xk41, ek41, stk41⟩ := getS Xs40 hx hZ hown (host := "") (hw _ (List.mem_of_getElem? (i := 44) rfl)) Via.refl es40 (S_IFF.ext Es40) (g := (mkF m 142 #[.val (.int p0), .val (.int p1), .unset, .unset, .unset, .unset, .unset] [(.int (20 : Int32)), (.ref a), (.ref a)])) rfl (hb hby at_142)
  refine own_go stk41 ?_
  show Run p.tables e below (Tk41.setTop (mkF m 145 #[.val (.int p0), .val (.int p1), .unset, .unset, .unset, .unset, .unset] [(.ref x20), (.int (20 : Int32)), (.ref a), (.ref a)])) _
  obtain ⟨Ts42, hs42, Ls42, Xs42, es42, Es42, Vs42, Ns42, sts42⟩ := own_stR Xk41 hx hZ ek41 Vs40 rfl (j := (20 : Int32)) ⟨by decide, by decide⟩ 20 rfl (Nat.lt_of_lt_of_eq (by decide : 20 < 21) rfl) OA (K_IFF.1.ext Es40) rfl Es40 ge Ns40 ge0 (g := (mkF m 145 #[.val (.int p0), .val (.int p1), .unset, .unset, .unset, .unset, .unset] [(.ref x20), (.int (20 : Int32)), (.ref a), (.ref a)])) rfl rfl (hb hby at_145)
  replace Vs42 : Arv Z hs42 a cA (.object "com/example/regnitz/regnitz/Formula$Kind") 21 [.ref x0, .ref x1, .ref x2, .ref x3, .ref x4, .ref x5, .ref x6, .ref x7, .ref x8, .ref x9, .ref x10, .ref x11, .ref x12, .ref x13, .ref x14, .ref x15, .ref x16, .ref x17, .ref x18, .ref x19, .ref x20] .null := Vs42
  refine own_go sts42 ?_
  show Run p.tables e below (Ts42.setTop (mkF m 146 #[.val (.int p0), .val (.int p1), .unset, .unset, .unset, .unset, .unset] [(.ref a)])) _
  have VX : Arv Z hs42 a cA (.object "com/example/regnitz/regnitz/Formula$Kind") 21 (own_xs x0 x1 x2 x3 x4 x5 x6 x7 x8 x9 x10 x11 x12 x13 x14 x15 x16 x17 x18 x19 x20) .null := Vs42
  refine own_go (fun _ => XS.astoreN Xs42.here hx rfl (hb hby at_146) rfl rfl (l' := #[.val (.int p0), .val (.int p1), .val (.ref a), .unset, .unset, .unset, .unset]) rfl) ?_
  show Run p.tables e below (Ts42.setTop (mkF m 147 #[.val (.int p0), .val (.int p1), .val (.ref a), .unset, .unset, .unset, .unset] [])) _
  refine own_go (fun _ => XS.iloadN Xs42.here hx rfl (hb hby at_147) rfl) ?_
  show Run p.tables e below (Ts42.setTop (mkF m 148 #[.val (.int p0), .val (.int p1), .val (.ref a), .unset, .unset, .unset, .unset] [(.int p0)])) _
  refine own_go (fun _ => Jvm.Stand.ldcI Xs42 hx hown (mvT hZ (hw _ (List.mem_of_getElem? (i := 46) rfl))) rfl (hb hby at_148)) ?_
  show Run p.tables e below (Ts42.setTop (mkF m 150 #[.val (.int p0), .val (.int p1), .val (.ref a), .unset, .unset, .unset, .unset] [(.int (2147483647 : Int32)), (.int p0)])) _
  refine own_go (fun _ => XS.iand Xs42.here hx rfl (hb hby at_150) rfl) ?_
  show Run p.tables e below (Ts42.setTop (mkF m 151 #[.val (.int p0), .val (.int p1), .val (.ref a), .unset, .unset, .unset, .unset] [(.int (p0 &&& (2147483647 : Int32)))])) _
  refine own_go (fun _ => XS.bipush Xs42.here hx rfl (hb hby at_151)) ?_
  show Run p.tables e below (Ts42.setTop (mkF m 153 #[.val (.int p0), .val (.int p1), .val (.ref a), .unset, .unset, .unset, .unset] [(.int (21 : Int32)), (.int (p0 &&& (2147483647 : Int32)))])) _
  refine own_go (fun _ => iremM Xs42 hx rfl (hb hby at_153) rfl (by decide)) ?_
  show Run p.tables e below (Ts42.setTop (mkF m 154 #[.val (.int p0), .val (.int p1), .val (.ref a), .unset, .unset, .unset, .unset] [(.int ((p0 &&& (2147483647 : Int32)) % (21 : Int32)))])) _
  refine own_go (fun _ => XS.istoreN Xs42.here hx rfl (hb hby at_154) rfl (l' := #[.val (.int p0), .val (.int p1), .val (.ref a), .val (.int ((p0 &&& (2147483647 : Int32)) % (21 : Int32))), .unset, .unset, .unset]) rfl) ?_
  show Run p.tables e below (Ts42.setTop (mkF m 155 #[.val (.int p0), .val (.int p1), .val (.ref a), .val (.int ((p0 &&& (2147483647 : Int32)) % (21 : Int32))), .unset, .unset, .unset] [])) _
  obtain ⟨r1, r2⟩ := own_rem p0
  generalize ((p0 &&& (2147483647 : Int32)) % (21 : Int32)) = i at r1 r2 ⊢
  show Run p.tables e below (Ts42.setTop (mkF m 155 #[.val (.int p0), .val (.int p1), .val (.ref a), .val (.int i), .unset, .unset, .unset] [])) _
  have J : ∀ b : Int32, (b = 0 ∨ b = 1) → Run p.tables e below (Ts42.setTop (mkF m 166 #[.val (.int p0), .val (.int p1), .val (.ref a), .val (.int i), .unset, .unset, .unset] [(.int b)])) (OwnFin s below (own_Q0 n0) room_1.cells room_1.slots) := by
    intro b hb01
    obtain ⟨y, ls, lb, ⟨Ey, Fl, Fb⟩, u, q⟩ : ∃ (y : Addr) (ls lb : Int32), own_Kd Z h0 y ls lb ∧ (own_xs x0 x1 x2 x3 x4 x5 x6 x7 x8 x9 x10 x11 x12 x13 x14 x15 x16 x17 x18 x19 x20).getD i.toNatClampNeg .null = .ref y ∧ own_exp i b = if b = 0 then ls else lb := by
      rcases hb01 with rfl | rfl <;> rcases own_21 i r1 r2 with rfl | rfl | rfl | rfl | rfl | rfl | rfl | rfl | rfl | rfl | rfl | rfl | rfl | rfl | rfl | rfl | rfl | rfl | rfl | rfl | rfl
      · exact ⟨x0, 0, 0, K_ATOM, rfl, by decide⟩
      · exact ⟨x1, 0, 0, K_TRUE, rfl, by decide⟩
      · exact ⟨x2, 0, 0, K_FALSE, rfl, by decide⟩
      · exact ⟨x3, 0, 0, K_NOT, rfl, by decide⟩
      · exact ⟨x4, 0, 0, K_BOX, rfl, by decide⟩
      · exact ⟨x5, 0, 0, K_DIAMOND, rfl, by decide⟩
      · exact ⟨x6, 0, 0, K_PROBABILITY, rfl, by decide⟩
      · exact ⟨x7, 0, 0, K_COALITION, rfl, by decide⟩
      · exact ⟨x8, 0, 0, K_GENERALLY, rfl, by decide⟩
      · exact ⟨x9, 0, 0, K_DEGREE, rfl, by decide⟩
      · exact ⟨x10, 1, 1, K_MINUS, rfl, by decide⟩
      · exact ⟨x11, 1, 1, K_PLUS, rfl, by decide⟩
      · exact ⟨x12, 2, 6, K_AND, rfl, by decide⟩
      · exact ⟨x13, 3, 7, K_OR, rfl, by decide⟩
      · exact ⟨x14, 4, 4, K_AT_LEAST, rfl, by decide⟩
      · exact ⟨x15, 4, 4, K_ABOVE, rfl, by decide⟩
      · exact ⟨x16, 4, 4, K_AT_MOST, rfl, by decide⟩
      · exact ⟨x17, 4, 4, K_BELOW, rfl, by decide⟩
      · exact ⟨x18, 5, 5, K_CONDITIONAL, rfl, by decide⟩
      · exact ⟨x19, 8, 8, K_IMPLIES, rfl, by decide⟩
      · exact ⟨x20, 9, 9, K_IFF, rfl, by decide⟩
      · exact ⟨x0, 0, 0, K_ATOM, rfl, by decide⟩
      · exact ⟨x1, 0, 0, K_TRUE, rfl, by decide⟩
      · exact ⟨x2, 0, 0, K_FALSE, rfl, by decide⟩
      · exact ⟨x3, 0, 0, K_NOT, rfl, by decide⟩
      · exact ⟨x4, 0, 0, K_BOX, rfl, by decide⟩
      · exact ⟨x5, 0, 0, K_DIAMOND, rfl, by decide⟩
      · exact ⟨x6, 0, 0, K_PROBABILITY, rfl, by decide⟩
      · exact ⟨x7, 0, 0, K_COALITION, rfl, by decide⟩
      · exact ⟨x8, 0, 0, K_GENERALLY, rfl, by decide⟩
      · exact ⟨x9, 0, 0, K_DEGREE, rfl, by decide⟩
      · exact ⟨x10, 1, 1, K_MINUS, rfl, by decide⟩
      · exact ⟨x11, 1, 1, K_PLUS, rfl, by decide⟩
      · exact ⟨x12, 2, 6, K_AND, rfl, by decide⟩
      · exact ⟨x13, 3, 7, K_OR, rfl, by decide⟩
      · exact ⟨x14, 4, 4, K_AT_LEAST, rfl, by decide⟩
      · exact ⟨x15, 4, 4, K_ABOVE, rfl, by decide⟩
      · exact ⟨x16, 4, 4, K_AT_MOST, rfl, by decide⟩
      · exact ⟨x17, 4, 4, K_BELOW, rfl, by decide⟩
      · exact ⟨x18, 5, 5, K_CONDITIONAL, rfl, by decide⟩
      · exact ⟨x19, 8, 8, K_IMPLIES, rfl, by decide⟩
      · exact ⟨x20, 9, 9, K_IFF, rfl, by decide⟩
    replace Ey := Ey.ext Es42
    replace Fl := Fl.ext Es42
    replace Fb := Fb.ext Es42
    show Run p.tables e below (Ts42.setTop (mkF m 166 #[.val (.int p0), .val (.int p1), .val (.ref a), .val (.int i), .unset, .unset, .unset] [(.int b)])) _
    refine own_go (fun _ => XS.istore Xs42.here hx rfl (hb hby at_166) rfl (l' := #[.val (.int p0), .val (.int p1), .val (.ref a), .val (.int i), .val (.int b), .unset, .unset]) rfl) ?_
    show Run p.tables e below (Ts42.setTop (mkF m 168 #[.val (.int p0), .val (.int p1), .val (.ref a), .val (.int i), .val (.int b), .unset, .unset] [])) _
    refine own_go (fun _ => XS.aloadN Xs42.here hx rfl (hb hby at_168) rfl rfl) ?_
    show Run p.tables e below (Ts42.setTop (mkF m 169 #[.val (.int p0), .val (.int p1), .val (.ref a), .val (.int i), .val (.int b), .unset, .unset] [(.ref a)])) _
    refine own_go (fun _ => XS.iloadN Xs42.here hx rfl (hb hby at_169) rfl) ?_
    show Run p.tables e below (Ts42.setTop (mkF m 170 #[.val (.int p0), .val (.int p1), .val (.ref a), .val (.int i), .val (.int b), .unset, .unset] [(.int i), (.ref a)])) _
    refine own_go (fun _ => own_aaload Xs42 hx hZ es42 VX rfl (j := i) ⟨Int32.not_lt.mpr (Int32.le_iff_toInt_le.mpr r1), Int32.lt_iff_toInt_lt.mpr r2⟩ u (g := (mkF m 170 #[.val (.int p0), .val (.int p1), .val (.ref a), .val (.int i), .val (.int b), .unset, .unset] [(.int i), (.ref a)])) rfl rfl (hb hby at_170) _) ?_
    show Run p.tables e below (Ts42.setTop (mkF m 171 #[.val (.int p0), .val (.int p1), .val (.ref a), .val (.int i), .val (.int b), .unset, .unset] [(.ref y)])) _
    refine own_go (fun _ => XS.astore Xs42.here hx rfl (hb hby at_171) rfl rfl (l' := #[.val (.int p0), .val (.int p1), .val (.ref a), .val (.int i), .val (.int b), .val (.ref y), .unset]) rfl) ?_
    show Run p.tables e below (Ts42.setTop (mkF m 173 #[.val (.int p0), .val (.int p1), .val (.ref a), .val (.int i), .val (.int b), .val (.ref y), .unset] [])) _
    refine own_go (fun _ => XS.iloadN Xs42.here hx rfl (hb hby at_173) rfl) ?_
    show Run p.tables e below (Ts42.setTop (mkF m 174 #[.val (.int p0), .val (.int p1), .val (.ref a), .val (.int i), .val (.int b), .val (.ref y), .unset] [(.int i)])) _
    refine own_go (fun _ => XS.iload Xs42.here hx rfl (hb hby at_174) rfl) ?_
    show Run p.tables e below (Ts42.setTop (mkF m 176 #[.val (.int p0), .val (.int p1), .val (.ref a), .val (.int i), .val (.int b), .val (.ref y), .unset] [(.int b), (.int i)])) _
    obtain ⟨vk43, Tk43, Lk43, Xk43, ⟨rfl, ek43, rfl⟩, stk43⟩ := own_callS Xs42 hx hZ hown (hw _ (List.mem_of_getElem? (i := 47) rfl)) (hw _ (List.mem_of_getElem? (i := 48) rfl)) (hw _ (List.mem_of_getElem? (i := 50) rfl)) (hw _ (List.mem_of_getElem? (i := 49) rfl)) (by decide) es42 (rm1 l Z a0 hw [] i b hs42) (g := (mkF m 176 #[.val (.int p0), .val (.int p1), .val (.ref a), .val (.int i), .val (.int b), .val (.ref y), .unset] [(.int b), (.int i)])) rfl (by rw [hml]; rfl) (argsL := [(.int i), (.int b)]) (rest := []) own_pd1 rfl rfl rfl (W := 0) (by show 2 * 0 + _ ≤ _; exact Nat.le_of_eq rfl) (hb hby at_176) (by decide) (by decide) (by decide) (by decide)
    refine own_go stk43 ?_
    show Run p.tables e below (Tk43.setTop (mkF m 179 #[.val (.int p0), .val (.int p1), .val (.ref a), .val (.int i), .val (.int b), .val (.ref y), .unset] [(.int (own_exp i b))])) _
    refine own_go (fun _ => XS.istore Xk43.here hx rfl (hb hby at_179) rfl (l' := #[.val (.int p0), .val (.int p1), .val (.ref a), .val (.int i), .val (.int b), .val (.ref y), .val (.int (own_exp i b))]) rfl) ?_
    show Run p.tables e below (Tk43.setTop (mkF m 181 #[.val (.int p0), .val (.int p1), .val (.ref a), .val (.int i), .val (.int b), .val (.ref y), .val (.int (own_exp i b))] [])) _
    refine own_go (fun _ => XS.aload Xk43.here hx rfl (hb hby at_181) rfl rfl) ?_
    show Run p.tables e below (Tk43.setTop (mkF m 183 #[.val (.int p0), .val (.int p1), .val (.ref a), .val (.int i), .val (.int b), .val (.ref y), .val (.int (own_exp i b))] [(.ref y)])) _
    refine own_go (fun _ => XS.iload Xk43.here hx rfl (hb hby at_183) rfl) ?_
    show Run p.tables e below (Tk43.setTop (mkF m 185 #[.val (.int p0), .val (.int p1), .val (.ref a), .val (.int i), .val (.int b), .val (.ref y), .val (.int (own_exp i b))] [(.int b), (.ref y)])) _
    obtain ⟨vk44, Tk44, Lk44, Xk44, ⟨rfl, ek44, rfl⟩, stk44⟩ := own_callV Xk43 hx hZ hown (hw _ (List.mem_of_getElem? (i := 51) rfl)) (hw _ (List.mem_of_getElem? (i := 53) rfl)) (hw _ (List.mem_of_getElem? (i := 54) rfl)) (hw _ (List.mem_of_getElem? (i := 55) rfl)) (hw _ (List.mem_of_getElem? (i := 3) rfl)) (by decide) ek43 (rm2 l Z a0 hw [] y b ls lb hs42 Fl Fb) Ey (g := (mkF m 185 #[.val (.int p0), .val (.int p1), .val (.ref a), .val (.int i), .val (.int b), .val (.ref y), .val (.int (own_exp i b))] [(.int b), (.ref y)])) rfl (by rw [hml]; rfl) (argsL := [(.int b)]) (rest := []) own_pd2 rfl rfl rfl (W := 0) (by show 2 * 0 + _ ≤ _; exact Nat.le_of_eq rfl) (hb hby at_185) (by decide) (by decide) (by decide) (by decide)
    refine own_go stk44 ?_
    show Run p.tables e below (Tk44.setTop (mkF m 188 #[.val (.int p0), .val (.int p1), .val (.ref a), .val (.int i), .val (.int b), .val (.ref y), .val (.int (own_exp i b))] [(.int (if b = 0 then ls else lb))])) _
    refine own_go (fun _ => XS.iload Xk44.here hx rfl (hb hby at_188) rfl) ?_
    show Run p.tables e below (Tk44.setTop (mkF m 190 #[.val (.int p0), .val (.int p1), .val (.ref a), .val (.int i), .val (.int b), .val (.ref y), .val (.int (own_exp i b))] [(.int (own_exp i b)), (.int (if b = 0 then ls else lb))])) _
    refine own_go (fun _ => XS.icmpNo Xk44.here hx rfl (hb hby at_190) rfl (XT.ii_ne_f q.symm)) ?_
    show Run p.tables e below (Tk44.setTop (mkF m 193 #[.val (.int p0), .val (.int p1), .val (.ref a), .val (.int i), .val (.int b), .val (.ref y), .val (.int (own_exp i b))] [])) _
    refine own_go (fun _ => XS.aload Xk44.here hx rfl (hb hby at_193) rfl rfl) ?_
    show Run p.tables e below (Tk44.setTop (mkF m 195 #[.val (.int p0), .val (.int p1), .val (.ref a), .val (.int i), .val (.int b), .val (.ref y), .val (.int (own_exp i b))] [(.ref y)])) _
    refine own_go (fun _ => XS.iconst Xk44.here hx rfl (hb hby at_195)) ?_
    show Run p.tables e below (Tk44.setTop (mkF m 196 #[.val (.int p0), .val (.int p1), .val (.ref a), .val (.int i), .val (.int b), .val (.ref y), .val (.int (own_exp i b))] [(.int (0 : Int32)), (.ref y)])) _
    obtain ⟨vk45, Tk45, Lk45, Xk45, ⟨rfl, ek45, rfl⟩, stk45⟩ := own_callV Xk44 hx hZ hown (hw _ (List.mem_of_getElem? (i := 51) rfl)) (hw _ (List.mem_of_getElem? (i := 53) rfl)) (hw _ (List.mem_of_getElem? (i := 54) rfl)) (hw _ (List.mem_of_getElem? (i := 55) rfl)) (hw _ (List.mem_of_getElem? (i := 3) rfl)) (by decide) ek44 (rm2 l Z a0 hw [] y (0 : Int32) ls lb hs42 Fl Fb) Ey (g := (mkF m 196 #[.val (.int p0), .val (.int p1), .val (.ref a), .val (.int i), .val (.int b), .val (.ref y), .val (.int (own_exp i b))] [(.int (0 : Int32)), (.ref y)])) rfl (by rw [hml]; rfl) (argsL := [(.int (0 : Int32))]) (rest := []) own_pd2 rfl rfl rfl (W := 0) (by show 2 * 0 + _ ≤ _; exact Nat.le_of_eq rfl) (hb hby at_196) (by decide) (by decide) (by decide) (by decide)
    refine own_go stk45 ?_
    show Run p.tables e below (Tk45.setTop (mkF m 199 #[.val (.int p0), .val (.int p1), .val (.ref a), .val (.int i), .val (.int b), .val (.ref y), .val (.int (own_exp i b))] [(.int (if (0 : Int32) = 0 then ls else lb))])) _
    refine own_go (fun _ => XS.aload Xk45.here hx rfl (hb hby at_199) rfl rfl) ?_
    show Run p.tables e below (Tk45.setTop (mkF m 201 #[.val (.int p0), .val (.int p1), .val (.ref a), .val (.int i), .val (.int b), .val (.ref y), .val (.int (own_exp i b))] [(.ref y), (.int (if (0 : Int32) = 0 then ls else lb))])) _
    obtain ⟨vk46, Tk46, Lk46, Xk46, ⟨rfl, ek46, rfl⟩, stk46⟩ := own_callV Xk45 hx hZ hown (hw _ (List.mem_of_getElem? (i := 60) rfl)) (hw _ (List.mem_of_getElem? (i := 62) rfl)) (hw _ (List.mem_of_getElem? (i := 63) rfl)) (hw _ (List.mem_of_getElem? (i := 64) rfl)) (hw _ (List.mem_of_getElem? (i := 3) rfl)) (by decide) ek45 (rm3 l Z a0 hw [] y ls hs42 Fl) Ey (g := (mkF m 201 #[.val (.int p0), .val (.int p1), .val (.ref a), .val (.int i), .val (.int b), .val (.ref y), .val (.int (own_exp i b))] [(.ref y), (.int (if (0 : Int32) = 0 then ls else lb))])) rfl (by rw [hml]; rfl) (argsL := []) (rest := [(.int (if (0 : Int32) = 0 then ls else lb))]) own_pd3 rfl rfl rfl (W := 1) (by show 2 * 0 + _ ≤ _; exact Nat.le_of_eq rfl) (hb hby at_201) (by decide) (by decide) (by decide) (by decide)
    refine own_go stk46 ?_
    show Run p.tables e below (Tk46.setTop (mkF m 204 #[.val (.int p0), .val (.int p1), .val (.ref a), .val (.int i), .val (.int b), .val (.ref y), .val (.int (own_exp i b))] [(.int ls), (.int (if (0 : Int32) = 0 then ls else lb))])) _
    refine own_go (fun _ => XS.icmpNo Xk46.here hx rfl (hb hby at_204) rfl (XT.ii_ne_f (if_pos rfl))) ?_
    show Run p.tables e below (Tk46.setTop (mkF m 207 #[.val (.int p0), .val (.int p1), .val (.ref a), .val (.int i), .val (.int b), .val (.ref y), .val (.int (own_exp i b))] [])) _
    refine own_go (fun _ => XS.iconst Xk46.here hx rfl (hb hby at_207)) ?_
    show Run p.tables e below (Tk46.setTop (mkF m 208 #[.val (.int p0), .val (.int p1), .val (.ref a), .val (.int i), .val (.int b), .val (.ref y), .val (.int (own_exp i b))] [(.int (1 : Int32))])) _
    refine own_go (fun _ => XS.goto Xk46.here hx rfl (pc0 := 208) (pc' := 212) rfl (hb hby at_208) (by decide) (by decide)) ?_
    show Run p.tables e below (Tk46.setTop (mkF m 212 #[.val (.int p0), .val (.int p1), .val (.ref a), .val (.int i), .val (.int b), .val (.ref y), .val (.int (own_exp i b))] [(.int (1 : Int32))])) _
    simp only [List.append_nil] at Xk46
    exact own_out Xk46 (v := some (.int (1 : Int32))) (fun q => by rw [hret] at q; cases q) hlk (fun fs hr => retN Xk46 hx (t := .boolean) hret (by simp) (hb hby at_212) hr) ⟨rfl, Ns42⟩ (by decide) (by decide)
  refine own_go (fun _ => XS.iloadN Xs42.here hx rfl (hb hby at_155) rfl) ?_
  show Run p.tables e below (Ts42.setTop (mkF m 156 #[.val (.int p0), .val (.int p1), .val (.ref a), .val (.int i), .unset, .unset, .unset] [(.int p1)])) _
  refine own_go (fun _ => XS.iconst Xs42.here hx rfl (hb hby at_156)) ?_
  show Run p.tables e below (Ts42.setTop (mkF m 157 #[.val (.int p0), .val (.int p1), .val (.ref a), .val (.int i), .unset, .unset, .unset] [(.int (1 : Int32)), (.int p1)])) _
  refine own_go (fun _ => XS.iand Xs42.here hx rfl (hb hby at_157) rfl) ?_
  show Run p.tables e below (Ts42.setTop (mkF m 158 #[.val (.int p0), .val (.int p1), .val (.ref a), .val (.int i), .unset, .unset, .unset] [(.int (p1 &&& (1 : Int32)))])) _
  by_cases q : (p1 &&& (1 : Int32)) = 0
  · show Run p.tables e below (Ts42.setTop (mkF m 158 #[.val (.int p0), .val (.int p1), .val (.ref a), .val (.int i), .unset, .unset, .unset] [(.int (p1 &&& (1 : Int32)))])) _
    refine own_go (fun _ => XS.ifYes Xs42.here hx rfl (pc0 := 158) (pc' := 165) rfl (hb hby at_158) rfl (XT.i0_eq_t q) (by decide) (by decide)) ?_
    show Run p.tables e below (Ts42.setTop (mkF m 165 #[.val (.int p0), .val (.int p1), .val (.ref a), .val (.int i), .unset, .unset, .unset] [])) _
    refine own_go (fun _ => XS.iconst Xs42.here hx rfl (hb hby at_165)) ?_
    show Run p.tables e below (Ts42.setTop (mkF m 166 #[.val (.int p0), .val (.int p1), .val (.ref a), .val (.int i), .unset, .unset, .unset] [(.int (0 : Int32))])) _
    exact J 0 (Or.inl rfl)
  · show Run p.tables e below (Ts42.setTop (mkF m 158 #[.val (.int p0), .val (.int p1), .val (.ref a), .val (.int i), .unset, .unset, .unset] [(.int (p1 &&& (1 : Int32)))])) _
    refine own_go (fun _ => XS.ifNo Xs42.here hx rfl (hb hby at_158) rfl (XT.i0_eq_f q)) ?_
    show Run p.tables e below (Ts42.setTop (mkF m 161 #[.val (.int p0), .val (.int p1), .val (.ref a), .val (.int i), .unset, .unset, .unset] [])) _
    refine own_go (fun _ => XS.iconst Xs42.here hx rfl (hb hby at_161)) ?_
    show Run p.tables e below (Ts42.setTop (mkF m 162 #[.val (.int p0), .val (.int p1), .val (.ref a), .val (.int i), .unset, .unset, .unset] [(.int (1 : Int32))])) _
    refine own_go (fun _ => XS.goto Xs42.here hx rfl (pc0 := 162) (pc' := 166) rfl (hb hby at_162) (by decide) (by decide)) ?_
    show Run p.tables e below (Ts42.setTop (mkF m 166 #[.val (.int p0), .val (.int p1), .val (.ref a), .val (.int i), .unset, .unset, .unset] [(.int (1 : Int32))])) _
    exact J 1 (Or.inr rfl)
set_option maxRecDepth 65536 in
set_option maxHeartbeats 40000000 in
theorem comes_1 {Post : Tables → Env → Array Value → State → Outcome → State → Prop} (hpost : ∀ tb e args s v u, (limb_1_1.after args s (.returned v) u = true ∧ limb_1_2.after args s (.returned v) u = true ∧ True) → FrameEnd s (.returned v) u (Jvm.fieldLocs frame_1_writes args s ++ Jvm.arrayLocs frame_1_arrays args s ++ Jvm.staticLocs frame_1_statics s) 16 128 → Post tb e args s (.returned v) u) :
    ArmFor flags0 classFile x code maxLocals ret World_1 tables_1 room_1 Calls_1 rest_1 Pre_1 Post := by
  intro l hfl _ _ p e ha hc hk s m args below hf hA hF happ hP
  obtain ⟨hcalls, hrest, hpre⟩ := hP
  obtain ⟨-, -, -, hnamed, -, -, -, hat⟩ := (Spec.applies_iff hf).mp happ
  obtain ⟨hg, hn⟩ := and_e (Cond.before_iff.mp (show (Jvm.Cond.and given_1 narrow_1).before args s = true from hpre))
  obtain ⟨h1, hg⟩ := and_e hg
  obtain ⟨w0, w1, rfl⟩ : ∃ w0 w1 : Value, args = #[w0, w1] := by
    have hs : args.size = 2 := by simpa [Cond.value, given_1] using h1
    obtain ⟨L⟩ := args
    match L, hs with
    | [w0, w1], _ => exact ⟨w0, w1, rfl⟩
  have hw := fun d (hd : d ∈ tables_1) => atoms_spec (ws := Jvm.Cond.code x code maxLocals ret :: tables_1) hat d (List.mem_cons_of_mem _ hd)
  have hfit : Fit s := fun {y c} hc i hi => by
    obtain ⟨ha, rfl⟩ := Array.getElem?_eq_some_iff.mp hc
    have q := List.all_eq_true.mp ((Array.all_eq_true_iff_forall_mem.mp hF) _ (Array.getElem_mem ha)) i (List.mem_range.mpr hi)
    simpa [Array.getElem?_eq_getElem hi] using q
  obtain ⟨g0, hg⟩ := and_e hg
  obtain ⟨i0, q0⟩ := is_v g0
  obtain rfl : w0 = (.int i0) := Option.some.inj q0
  have g1 := hg
  obtain ⟨i1, q1⟩ := is_v g1
  obtain rfl : w1 = (.int i1) := Option.some.inj q1
  obtain ⟨n0, hn⟩ := and_e hn
  obtain ⟨n1, hn⟩ := and_e hn
  obtain ⟨n2, hn⟩ := and_e hn
  obtain ⟨n3, hn⟩ := and_e hn
  obtain ⟨n4, hn⟩ := and_e hn
  obtain ⟨n5, hn⟩ := and_e hn
  obtain ⟨n6, hn⟩ := and_e hn
  obtain ⟨n7, hn⟩ := and_e hn
  obtain ⟨n8, hn⟩ := and_e hn
  obtain ⟨n9, hn⟩ := and_e hn
  obtain ⟨n10, hn⟩ := and_e hn
  obtain ⟨n11, hn⟩ := and_e hn
  obtain ⟨n12, hn⟩ := and_e hn
  obtain ⟨n13, hn⟩ := and_e hn
  obtain ⟨n14, hn⟩ := and_e hn
  obtain ⟨n15, hn⟩ := and_e hn
  obtain ⟨n16, hn⟩ := and_e hn
  obtain ⟨n17, hn⟩ := and_e hn
  obtain ⟨n18, hn⟩ := and_e hn
  obtain ⟨n19, hn⟩ := and_e hn
  obtain ⟨n20, hn⟩ := and_e hn
  obtain ⟨n21, hn⟩ := and_e hn
  obtain ⟨n22, hn⟩ := and_e hn
  obtain ⟨n23, hn⟩ := and_e hn
  obtain ⟨n24, hn⟩ := and_e hn
  obtain ⟨n25, hn⟩ := and_e hn
  obtain ⟨n26, hn⟩ := and_e hn
  obtain ⟨n27, hn⟩ := and_e hn
  obtain ⟨n28, hn⟩ := and_e hn
  obtain ⟨n29, hn⟩ := and_e hn
  obtain ⟨n30, hn⟩ := and_e hn
  obtain ⟨n31, hn⟩ := and_e hn
  obtain ⟨n32, hn⟩ := and_e hn
  obtain ⟨n33, hn⟩ := and_e hn
  obtain ⟨n34, hn⟩ := and_e hn
  obtain ⟨n35, hn⟩ := and_e hn
  obtain ⟨n36, hn⟩ := and_e hn
  obtain ⟨n37, hn⟩ := and_e hn
  obtain ⟨n38, hn⟩ := and_e hn
  obtain ⟨n39, hn⟩ := and_e hn
  obtain ⟨n40, hn⟩ := and_e hn
  obtain ⟨n41, hn⟩ := and_e hn
  obtain ⟨n42, hn⟩ := and_e hn
  obtain ⟨n43, hn⟩ := and_e hn
  obtain ⟨n44, hn⟩ := and_e hn
  obtain ⟨n45, hn⟩ := and_e hn
  obtain ⟨n46, hn⟩ := and_e hn
  obtain ⟨n47, hn⟩ := and_e hn
  obtain ⟨n48, hn⟩ := and_e hn
  obtain ⟨n49, hn⟩ := and_e hn
  obtain ⟨n50, hn⟩ := and_e hn
  obtain ⟨n51, hn⟩ := and_e hn
  obtain ⟨n52, hn⟩ := and_e hn
  obtain ⟨n53, hn⟩ := and_e hn
  obtain ⟨n54, hn⟩ := and_e hn
  obtain ⟨n55, hn⟩ := and_e hn
  obtain ⟨n56, hn⟩ := and_e hn
  obtain ⟨n57, hn⟩ := and_e hn
  obtain ⟨n58, hn⟩ := and_e hn
  obtain ⟨n59, hn⟩ := and_e hn
  obtain ⟨n60, hn⟩ := and_e hn
  obtain ⟨n61, hn⟩ := and_e hn
  have n62 := hn
  obtain ⟨a_ATOM, ev_ATOM⟩ := exa_v n0
  have E_ATOM := Exa.start ev_ATOM n0
  have S_ATOM := Sta.start ev_ATOM (Or.inr ⟨(hw _ (List.mem_of_getElem? (i := 3) rfl)), (hw _ (List.mem_of_getElem? (i := 4) rfl))⟩)
  obtain ⟨a_TRUE, ev_TRUE⟩ := exa_v n1
  have E_TRUE := Exa.start ev_TRUE n1
  have S_TRUE := Sta.start ev_TRUE (Or.inr ⟨(hw _ (List.mem_of_getElem? (i := 3) rfl)), (hw _ (List.mem_of_getElem? (i := 7) rfl))⟩)
  obtain ⟨a_FALSE, ev_FALSE⟩ := exa_v n2
  have E_FALSE := Exa.start ev_FALSE n2
  have S_FALSE := Sta.start ev_FALSE (Or.inr ⟨(hw _ (List.mem_of_getElem? (i := 3) rfl)), (hw _ (List.mem_of_getElem? (i := 9) rfl))⟩)
  obtain ⟨a_NOT, ev_NOT⟩ := exa_v n3
  have E_NOT := Exa.start ev_NOT n3
  have S_NOT := Sta.start ev_NOT (Or.inr ⟨(hw _ (List.mem_of_getElem? (i := 3) rfl)), (hw _ (List.mem_of_getElem? (i := 11) rfl))⟩)
  obtain ⟨a_BOX, ev_BOX⟩ := exa_v n4
  have E_BOX := Exa.start ev_BOX n4
  have S_BOX := Sta.start ev_BOX (Or.inr ⟨(hw _ (List.mem_of_getElem? (i := 3) rfl)), (hw _ (List.mem_of_getElem? (i := 13) rfl))⟩)
  obtain ⟨a_DIAMOND, ev_DIAMOND⟩ := exa_v n5
  have E_DIAMOND := Exa.start ev_DIAMOND n5
  have S_DIAMOND := Sta.start ev_DIAMOND (Or.inr ⟨(hw _ (List.mem_of_getElem? (i := 3) rfl)), (hw _ (List.mem_of_getElem? (i := 15) rfl))⟩)
  obtain ⟨a_PROBABILITY, ev_PROBABILITY⟩ := exa_v n6
  have E_PROBABILITY := Exa.start ev_PROBABILITY n6
  have S_PROBABILITY := Sta.start ev_PROBABILITY (Or.inr ⟨(hw _ (List.mem_of_getElem? (i := 3) rfl)), (hw _ (List.mem_of_getElem? (i := 17) rfl))⟩)
  obtain ⟨a_COALITION, ev_COALITION⟩ := exa_v n7
  have E_COALITION := Exa.start ev_COALITION n7
  have S_COALITION := Sta.start ev_COALITION (Or.inr ⟨(hw _ (List.mem_of_getElem? (i := 3) rfl)), (hw _ (List.mem_of_getElem? (i := 19) rfl))⟩)
  obtain ⟨a_GENERALLY, ev_GENERALLY⟩ := exa_v n8
  have E_GENERALLY := Exa.start ev_GENERALLY n8
  have S_GENERALLY := Sta.start ev_GENERALLY (Or.inr ⟨(hw _ (List.mem_of_getElem? (i := 3) rfl)), (hw _ (List.mem_of_getElem? (i := 21) rfl))⟩)
  obtain ⟨a_DEGREE, ev_DEGREE⟩ := exa_v n9
  have E_DEGREE := Exa.start ev_DEGREE n9
  have S_DEGREE := Sta.start ev_DEGREE (Or.inr ⟨(hw _ (List.mem_of_getElem? (i := 3) rfl)), (hw _ (List.mem_of_getElem? (i := 23) rfl))⟩)
  obtain ⟨a_MINUS, ev_MINUS⟩ := exa_v n10
  have E_MINUS := Exa.start ev_MINUS n10
  have S_MINUS := Sta.start ev_MINUS (Or.inr ⟨(hw _ (List.mem_of_getElem? (i := 3) rfl)), (hw _ (List.mem_of_getElem? (i := 25) rfl))⟩)
  obtain ⟨a_PLUS, ev_PLUS⟩ := exa_v n11
  have E_PLUS := Exa.start ev_PLUS n11
  have S_PLUS := Sta.start ev_PLUS (Or.inr ⟨(hw _ (List.mem_of_getElem? (i := 3) rfl)), (hw _ (List.mem_of_getElem? (i := 27) rfl))⟩)
  obtain ⟨a_AND, ev_AND⟩ := exa_v n12
  have E_AND := Exa.start ev_AND n12
  have S_AND := Sta.start ev_AND (Or.inr ⟨(hw _ (List.mem_of_getElem? (i := 3) rfl)), (hw _ (List.mem_of_getElem? (i := 29) rfl))⟩)
  obtain ⟨a_OR, ev_OR⟩ := exa_v n13
  have E_OR := Exa.start ev_OR n13
  have S_OR := Sta.start ev_OR (Or.inr ⟨(hw _ (List.mem_of_getElem? (i := 3) rfl)), (hw _ (List.mem_of_getElem? (i := 31) rfl))⟩)
  obtain ⟨a_AT_LEAST, ev_AT_LEAST⟩ := exa_v n14
  have E_AT_LEAST := Exa.start ev_AT_LEAST n14
  have S_AT_LEAST := Sta.start ev_AT_LEAST (Or.inr ⟨(hw _ (List.mem_of_getElem? (i := 3) rfl)), (hw _ (List.mem_of_getElem? (i := 33) rfl))⟩)
  obtain ⟨a_ABOVE, ev_ABOVE⟩ := exa_v n15
  have E_ABOVE := Exa.start ev_ABOVE n15
  have S_ABOVE := Sta.start ev_ABOVE (Or.inr ⟨(hw _ (List.mem_of_getElem? (i := 3) rfl)), (hw _ (List.mem_of_getElem? (i := 35) rfl))⟩)
  obtain ⟨a_AT_MOST, ev_AT_MOST⟩ := exa_v n16
  have E_AT_MOST := Exa.start ev_AT_MOST n16
  have S_AT_MOST := Sta.start ev_AT_MOST (Or.inr ⟨(hw _ (List.mem_of_getElem? (i := 3) rfl)), (hw _ (List.mem_of_getElem? (i := 37) rfl))⟩)
  obtain ⟨a_BELOW, ev_BELOW⟩ := exa_v n17
  have E_BELOW := Exa.start ev_BELOW n17
  have S_BELOW := Sta.start ev_BELOW (Or.inr ⟨(hw _ (List.mem_of_getElem? (i := 3) rfl)), (hw _ (List.mem_of_getElem? (i := 39) rfl))⟩)
  obtain ⟨a_CONDITIONAL, ev_CONDITIONAL⟩ := exa_v n18
  have E_CONDITIONAL := Exa.start ev_CONDITIONAL n18
  have S_CONDITIONAL := Sta.start ev_CONDITIONAL (Or.inr ⟨(hw _ (List.mem_of_getElem? (i := 3) rfl)), (hw _ (List.mem_of_getElem? (i := 41) rfl))⟩)
  obtain ⟨a_IMPLIES, ev_IMPLIES⟩ := exa_v n19
  have E_IMPLIES := Exa.start ev_IMPLIES n19
  have S_IMPLIES := Sta.start ev_IMPLIES (Or.inr ⟨(hw _ (List.mem_of_getElem? (i := 3) rfl)), (hw _ (List.mem_of_getElem? (i := 43) rfl))⟩)
  obtain ⟨a_IFF, ev_IFF⟩ := exa_v n20
  have E_IFF := Exa.start ev_IFF n20
  have S_IFF := Sta.start ev_IFF (Or.inr ⟨(hw _ (List.mem_of_getElem? (i := 3) rfl)), (hw _ (List.mem_of_getElem? (i := 45) rfl))⟩)
  have F_ATOM_loosenessBetweenStatements := own_fld ev_ATOM n21
  have F_ATOM_looseness := own_fld ev_ATOM n22
  have F_AT_LEAST_loosenessBetweenStatements := own_fld ev_AT_LEAST n23
  have F_AT_LEAST_looseness := own_fld ev_AT_LEAST n24
  have F_NOT_loosenessBetweenStatements := own_fld ev_NOT n25
  have F_NOT_looseness := own_fld ev_NOT n26
  have F_GENERALLY_looseness := own_fld ev_GENERALLY n27
  have F_BOX_looseness := own_fld ev_BOX n28
  have F_BOX_loosenessBetweenStatements := own_fld ev_BOX n29
  have F_PROBABILITY_looseness := own_fld ev_PROBABILITY n30
  have F_GENERALLY_loosenessBetweenStatements := own_fld ev_GENERALLY n31
  have F_AND_loosenessBetweenStatements := own_fld ev_AND n32
  have F_AND_looseness := own_fld ev_AND n33
  have F_CONDITIONAL_looseness := own_fld ev_CONDITIONAL n34
  have F_TRUE_loosenessBetweenStatements := own_fld ev_TRUE n35
  have F_TRUE_looseness := own_fld ev_TRUE n36
  have F_ABOVE_loosenessBetweenStatements := own_fld ev_ABOVE n37
  have F_ABOVE_looseness := own_fld ev_ABOVE n38
  have F_FALSE_looseness := own_fld ev_FALSE n39
  have F_IMPLIES_looseness := own_fld ev_IMPLIES n40
  have F_MINUS_loosenessBetweenStatements := own_fld ev_MINUS n41
  have F_MINUS_looseness := own_fld ev_MINUS n42
  have F_IFF_looseness := own_fld ev_IFF n43
  have F_PLUS_looseness := own_fld ev_PLUS n44
  have F_COALITION_looseness := own_fld ev_COALITION n45
  have F_DIAMOND_loosenessBetweenStatements := own_fld ev_DIAMOND n46
  have F_DIAMOND_looseness := own_fld ev_DIAMOND n47
  have F_PROBABILITY_loosenessBetweenStatements := own_fld ev_PROBABILITY n48
  have F_DEGREE_loosenessBetweenStatements := own_fld ev_DEGREE n49
  have F_DEGREE_looseness := own_fld ev_DEGREE n50
  have F_AT_MOST_looseness := own_fld ev_AT_MOST n51
  have F_BELOW_loosenessBetweenStatements := own_fld ev_BELOW n52
  have F_BELOW_looseness := own_fld ev_BELOW n53
  have F_CONDITIONAL_loosenessBetweenStatements := own_fld ev_CONDITIONAL n54
  have F_FALSE_loosenessBetweenStatements := own_fld ev_FALSE n55
  have F_PLUS_loosenessBetweenStatements := own_fld ev_PLUS n56
  have F_COALITION_loosenessBetweenStatements := own_fld ev_COALITION n57
  have F_AT_MOST_loosenessBetweenStatements := own_fld ev_AT_MOST n58
  have F_OR_looseness := own_fld ev_OR n59
  have F_IFF_loosenessBetweenStatements := own_fld ev_IFF n60
  have F_IMPLIES_loosenessBetweenStatements := own_fld ev_IMPLIES n61
  have F_OR_loosenessBetweenStatements := own_fld ev_OR n62
  obtain ⟨n, o, h1, h2, h3, _, L, rfl, ⟨rfl, N⟩, hq⟩ := rm0 l s _ hw tables_1 i0 i1 a_ATOM a_TRUE a_FALSE a_NOT a_BOX a_DIAMOND a_PROBABILITY a_COALITION a_GENERALLY a_DEGREE a_MINUS a_PLUS a_AND a_OR a_AT_LEAST a_ABOVE a_AT_MOST a_BELOW a_CONDITIONAL a_IMPLIES a_IFF s.heap s.heap.size (Nat.le_refl _) S_ATOM S_TRUE S_FALSE S_NOT S_BOX S_DIAMOND S_PROBABILITY S_COALITION S_GENERALLY S_DEGREE S_MINUS S_PLUS S_AND S_OR S_AT_LEAST S_ABOVE S_AT_MOST S_BELOW S_CONDITIONAL S_IMPLIES S_IFF ⟨E_ATOM, F_ATOM_looseness, F_ATOM_loosenessBetweenStatements⟩ ⟨E_TRUE, F_TRUE_looseness, F_TRUE_loosenessBetweenStatements⟩ ⟨E_FALSE, F_FALSE_looseness, F_FALSE_loosenessBetweenStatements⟩ ⟨E_NOT, F_NOT_looseness, F_NOT_loosenessBetweenStatements⟩ ⟨E_BOX, F_BOX_looseness, F_BOX_loosenessBetweenStatements⟩ ⟨E_DIAMOND, F_DIAMOND_looseness, F_DIAMOND_loosenessBetweenStatements⟩ ⟨E_PROBABILITY, F_PROBABILITY_looseness, F_PROBABILITY_loosenessBetweenStatements⟩ ⟨E_COALITION, F_COALITION_looseness, F_COALITION_loosenessBetweenStatements⟩ ⟨E_GENERALLY, F_GENERALLY_looseness, F_GENERALLY_loosenessBetweenStatements⟩ ⟨E_DEGREE, F_DEGREE_looseness, F_DEGREE_loosenessBetweenStatements⟩ ⟨E_MINUS, F_MINUS_looseness, F_MINUS_loosenessBetweenStatements⟩ ⟨E_PLUS, F_PLUS_looseness, F_PLUS_loosenessBetweenStatements⟩ ⟨E_AND, F_AND_looseness, F_AND_loosenessBetweenStatements⟩ ⟨E_OR, F_OR_looseness, F_OR_loosenessBetweenStatements⟩ ⟨E_AT_LEAST, F_AT_LEAST_looseness, F_AT_LEAST_loosenessBetweenStatements⟩ ⟨E_ABOVE, F_ABOVE_looseness, F_ABOVE_loosenessBetweenStatements⟩ ⟨E_AT_MOST, F_AT_MOST_looseness, F_AT_MOST_loosenessBetweenStatements⟩ ⟨E_BELOW, F_BELOW_looseness, F_BELOW_loosenessBetweenStatements⟩ ⟨E_CONDITIONAL, F_CONDITIONAL_looseness, F_CONDITIONAL_loosenessBetweenStatements⟩ ⟨E_IMPLIES, F_IMPLIES_looseness, F_IMPLIES_loosenessBetweenStatements⟩ ⟨E_IFF, F_IFF_looseness, F_IFF_loosenessBetweenStatements⟩ p e ha hc hk s m _ below hf ((Spec.applies_iff_loose hf).mp happ).1 ⟨rfl, State.Warmed39.refl s, rfl⟩ trivial
  refine ⟨n, _, h1, h2, h3, hpost _ _ _ _ _ _ ⟨Cond.after_iff.mpr rfl, Cond.after_iff.mpr (eq_i res_at (Term.int_eval (1)) rfl), trivial⟩ ⟨hq.1, hq.2.1, (hq.2.2.sift fun y hy => Or.inr (N y hy)).mono (by decide) (by decide)⟩⟩
theorem main_1_1 : Claimed_1_1 := comes_1 fun _ _ _ _ _ _ h hF => ⟨h.1, hF⟩
theorem main_1_2 : Claimed_1_2 := comes_1 fun _ _ _ _ _ _ h hF => ⟨h.2.1, hF⟩
end Jvm.Pilot.@@N@@
namespace Jvm.Pilot.@@N@@
open Jvm Jvm.ClassFile Sem Op Lib Jvm.Free Jvm.Stand Jvm.Pilot.@@N@@.Jvm.D
/-! MADE BY PROGRAM (witnessworld.py) out of the Statement's table words and the real class files: 13 classes; the members and pool entries that the words name. The judged class is class 1, her method 1. -/
namespace start1
open Jvm.ClassFile
def u (s : String) : CpInfo := .utf8 (stringToUtf16 s)
/-- a pool by its gaps: so many unusable entries, then the entry; so many at the end -/
def gap : Nat → List CpInfo → List CpInfo
  | 0, r => r
  | n + 1, r => .unusable :: gap n r
def poolList (es : List (Nat × CpInfo)) (last : Nat) : List CpInfo := es.foldr (fun e r => gap e.1 (e.2 :: r)) (gap last [])
def pool (es : List (Nat × CpInfo)) (last : Nat) : Array CpInfo := ⟨poolList es last⟩
def fileOf (pool : Array CpInfo) (this : Nat) (attrs : Array Attribute := #[]) (ms : Array MethodInfo := #[]) (fl : Nat := 33) (sup : Nat := 0) (ifs : Array Nat := #[]) (fds : Array FieldInfo := #[]) : ClassFile where
  minorVersion := 0
  majorVersion := 65
  constantPool := pool
  accessFlags := fl
  thisClass := this
  superClass := sup
  interfaces := ifs
  fields := fds
  methods := ms
  attributes := attrs
def plain (name : String) (sup : Option ClassId) : Class where
  name := name
  kind := .ordinary
  loader := none
  accessFlags := 33
  super := sup
  interfaces := #[]
  cf := none
  fields := #[]
  methods := #[]
  instanceTypes := #[]
  staticTypes := #[]
  resolved := #[]
  callSites := []
  init := .initialized
  statics := none
  mirror := none

def pool0 : Array CpInfo := pool [(5, u "<init>"), (0, u "()V"), (1, .class_ 10), (1, u "java/lang/Object")] 113

def k0m0 : Method := { name := "<init>", desc := "()V", sig := { parameters := [], returnType := none }, accessFlags := 1, code := none }
/-- java/lang/Object -/
def k0 : Class := { plain "java/lang/Object" none with
  accessFlags := 33
  interfaces := #[]
  cf := some (fileOf pool0 8 #[] #[{ accessFlags := 1, nameIndex := 5, descriptorIndex := 6, attributes := #[] }] 33 0 #[] #[])
  fields := #[]
  methods := #[k0m0]
  instanceTypes := #[]
  staticTypes := #[]
  resolved := Array.replicate 124 none
  statics := none }

def pool1 : Array CpInfo := pool [(2, .class_ 4), (1, u "java/lang/Object"), (0, u "<init>"), (0, u "()V"), (0, .class_ 8), (0, u "com/example/regnitz/regnitz/Formula$Kind"), (0, .fieldref 7 10), (0, .nameAndType 11 12), (0, u "ATOM"), (0, u "Lcom/example/regnitz/regnitz/Formula$Kind;"), (0, .fieldref 7 14), (0, .nameAndType 15 12), (0, u "TRUE"), (0, .fieldref 7 17), (0, .nameAndType 18 12), (0, u "FALSE"), (0, .fieldref 7 20), (0, .nameAndType 21 12), (0, u "NOT"), (0, .fieldref 7 23), (0, .nameAndType 24 12), (0, u "BOX"), (0, .fieldref 7 26), (0, .nameAndType 27 12), (0, u "DIAMOND"), (0, .fieldref 7 29), (0, .nameAndType 30 12), (0, u "PROBABILITY"), (0, .fieldref 7 32), (0, .nameAndType 33 12), (0, u "COALITION"), (0, .fieldref 7 35), (0, .nameAndType 36 12), (0, u "GENERALLY"), (0, .fieldref 7 38), (0, .nameAndType 39 12), (0, u "DEGREE"), (0, .fieldref 7 41), (0, .nameAndType 42 12), (0, u "MINUS"), (0, .fieldref 7 44), (0, .nameAndType 45 12), (0, u "PLUS"), (0, .fieldref 7 47), (0, .nameAndType 48 12), (0, u "AND"), (0, .fieldref 7 50), (0, .nameAndType 51 12), (0, u "OR"), (0, .fieldref 7 53), (0, .nameAndType 54 12), (0, u "AT_LEAST"), (0, .fieldref 7 56), (0, .nameAndType 57 12), (0, u "ABOVE"), (0, .fieldref 7 59), (0, .nameAndType 60 12), (0, u "AT_MOST"), (0, .fieldref 7 62), (0, .nameAndType 63 12), (0, u "BELOW"), (0, .fieldref 7 65), (0, .nameAndType 66 12), (0, u "CONDITIONAL"), (0, .fieldref 7 68), (0, .nameAndType 69 12), (0, u "IMPLIES"), (0, .fieldref 7 71), (0, .nameAndType 72 12), (0, u "IFF"), (0, .integer 2147483647), (0, .methodref 75 76), (0, .class_ 77), (0, .nameAndType 78 79), (0, u "com/example/regnitz/regnitz/KindLoosenessPinLaw"), (0, u "expectedLooseness"), (0, u "(IZ)I"), (0, .methodref 7 81), (0, .nameAndType 82 83), (0, u "looseness"), (0, u "(Z)I"), (0, .methodref 7 85), (0, .nameAndType 82 86), (0, u "()I"), (2, u "law"), (0, u "(II)Z")] 9

def k1m0 : Method := { name := "<init>", desc := "()V", sig := { parameters := [], returnType := none }, accessFlags := 1, code := none }
def k1c1 : Code := { maxStack := 4, maxLocals := 7, code := code, exceptionTable := #[], attributes := #[] }
def k1m1 : Method := { name := "law", desc := "(II)Z", sig := { parameters := [.int, .int], returnType := some .boolean }, accessFlags := 9, code := some k1c1 }
def k1c2 : Code := { maxStack := 2, maxLocals := 2, code := method_3_code, exceptionTable := #[], attributes := #[] }
def k1m2 : Method := { name := "expectedLooseness", desc := "(IZ)I", sig := { parameters := [.int, .boolean], returnType := some .int }, accessFlags := 10, code := some k1c2 }
/-- com/example/regnitz/regnitz/KindLoosenessPinLaw -/
def k1 : Class := { plain "com/example/regnitz/regnitz/KindLoosenessPinLaw" (some 0) with
  accessFlags := 49
  interfaces := #[]
  cf := some (fileOf pool1 75 #[] #[{ accessFlags := 1, nameIndex := 5, descriptorIndex := 6, attributes := #[] }, { accessFlags := 9, nameIndex := 89, descriptorIndex := 90, attributes := #[] }, { accessFlags := 10, nameIndex := 78, descriptorIndex := 79, attributes := #[] }] 49 2 #[] #[])
  fields := #[]
  methods := #[k1m0, k1m1, k1m2]
  instanceTypes := #[]
  staticTypes := #[]
  resolved := Array.replicate 100 none
  statics := none }

def pool2 : Array CpInfo := pool [(1, .class_ 2), (0, u "java/lang/constant/Constable"), (0, .class_ 4), (0, u "java/lang/Object")] 6

/-- java/lang/constant/Constable -/
def k2 : Class := { plain "java/lang/constant/Constable" (some 0) with
  accessFlags := 1537
  interfaces := #[]
  cf := some (fileOf pool2 1 #[] #[] 1537 3 #[] #[])
  fields := #[]
  methods := #[]
  instanceTypes := #[]
  staticTypes := #[]
  resolved := Array.replicate 11 none
  statics := none }

def pool3 : Array CpInfo := pool [(1, .class_ 2), (0, u "java/lang/Comparable"), (0, .class_ 4), (0, u "java/lang/Object")] 7

/-- java/lang/Comparable -/
def k3 : Class := { plain "java/lang/Comparable" (some 0) with
  accessFlags := 1537
  interfaces := #[]
  cf := some (fileOf pool3 1 #[] #[] 1537 3 #[] #[])
  fields := #[]
  methods := #[]
  instanceTypes := #[]
  staticTypes := #[]
  resolved := Array.replicate 12 none
  statics := none }

def pool4 : Array CpInfo := pool [(1, .class_ 2), (0, u "java/io/Serializable"), (0, .class_ 4), (0, u "java/lang/Object")] 2

/-- java/io/Serializable -/
def k4 : Class := { plain "java/io/Serializable" (some 0) with
  accessFlags := 1537
  interfaces := #[]
  cf := some (fileOf pool4 1 #[] #[] 1537 3 #[] #[])
  fields := #[]
  methods := #[]
  instanceTypes := #[]
  staticTypes := #[]
  resolved := Array.replicate 7 none
  statics := none }

def pool5 : Array CpInfo := pool [(2, .class_ 4), (1, u "java/lang/Enum"), (0, u "name"), (0, u "Ljava/lang/String;"), (2, u "ordinal"), (0, u "I"), (1, .class_ 14), (1, u "java/lang/Object"), (4, u "hash"), (86, .class_ 108), (1, u "java/lang/Enum$EnumDesc"), (2, .class_ 112), (0, u "java/lang/constant/Constable"), (0, .class_ 114), (0, u "java/lang/Comparable"), (0, .class_ 116), (0, u "java/io/Serializable")] 87

/-- java/lang/Enum -/
def k5 : Class := { plain "java/lang/Enum" (some 0) with
  accessFlags := 1057
  interfaces := #[2, 3, 4]
  cf := some (fileOf pool5 2 #[.nestMembers #[106]] #[] 1057 12 #[111, 113, 115] #[{ accessFlags := 18, nameIndex := 5, descriptorIndex := 6, attributes := #[] }, { accessFlags := 18, nameIndex := 9, descriptorIndex := 10, attributes := #[] }, { accessFlags := 2, nameIndex := 19, descriptorIndex := 10, attributes := #[] }])
  fields := #[{ name := "name", type := (.object "java/lang/String"), accessFlags := 18, slot := 0, constantValue := 0 }, { name := "ordinal", type := .int, accessFlags := 18, slot := 1, constantValue := 0 }, { name := "hash", type := .int, accessFlags := 2, slot := 2, constantValue := 0 }]
  methods := #[]
  instanceTypes := #[(.object "java/lang/String"), .int, .int]
  staticTypes := #[]
  resolved := Array.replicate 204 none
  statics := none }

def pool6 : Array CpInfo := pool [(1, .class_ 2), (0, u "com/example/regnitz/regnitz/Formula$Kind"), (2, u "ATOM"), (0, u "Lcom/example/regnitz/regnitz/Formula$Kind;"), (2, u "TRUE"), (2, u "FALSE"), (2, u "NOT"), (2, u "BOX"), (2, u "DIAMOND"), (2, u "PROBABILITY"), (2, u "COALITION"), (2, u "GENERALLY"), (2, u "DEGREE"), (2, u "MINUS"), (2, u "PLUS"), (2, u "AND"), (2, u "OR"), (2, u "AT_LEAST"), (2, u "ABOVE"), (2, u "AT_MOST"), (2, u "BELOW"), (2, u "CONDITIONAL"), (2, u "IMPLIES"), (2, u "IFF"), (2, u "$VALUES"), (0, u "[Lcom/example/regnitz/regnitz/Formula$Kind;"), (6, .class_ 79), (1, u "java/lang/Enum"), (9, .fieldref 1 90), (0, .nameAndType 91 92), (0, u "looseness"), (0, u "I"), (0, .fieldref 1 94), (0, .nameAndType 95 92), (0, u "loosenessBetweenStatements"), (36, u "()I"), (0, u "(Z)I"), (7, .class_ 142), (0, u "com/example/regnitz/regnitz/Formula")] 2

def k6c0 : Code := { maxStack := 1, maxLocals := 1, code := prog_2_method_5_code, exceptionTable := #[], attributes := #[] }
def k6m0 : Method := { name := "looseness", desc := "()I", sig := { parameters := [], returnType := some .int }, accessFlags := 0, code := some k6c0 }
def k6c1 : Code := { maxStack := 1, maxLocals := 2, code := prog_2_method_6_code, exceptionTable := #[], attributes := #[] }
def k6m1 : Method := { name := "looseness", desc := "(Z)I", sig := { parameters := [.boolean], returnType := some .int }, accessFlags := 0, code := some k6c1 }
/-- com/example/regnitz/regnitz/Formula$Kind -/
def k6 : Class := { plain "com/example/regnitz/regnitz/Formula$Kind" (some 5) with
  accessFlags := 16433
  interfaces := #[]
  cf := some (fileOf pool6 1 #[.nestHost 141] #[{ accessFlags := 0, nameIndex := 91, descriptorIndex := 132, attributes := #[] }, { accessFlags := 0, nameIndex := 91, descriptorIndex := 133, attributes := #[] }] 16433 77 #[] #[{ accessFlags := 16409, nameIndex := 5, descriptorIndex := 6, attributes := #[] }, { accessFlags := 16409, nameIndex := 9, descriptorIndex := 6, attributes := #[] }, { accessFlags := 16409, nameIndex := 12, descriptorIndex := 6, attributes := #[] }, { accessFlags := 16409, nameIndex := 15, descriptorIndex := 6, attributes := #[] }, { accessFlags := 16409, nameIndex := 18, descriptorIndex := 6, attributes := #[] }, { accessFlags := 16409, nameIndex := 21, descriptorIndex := 6, attributes := #[] }, { accessFlags := 16409, nameIndex := 24, descriptorIndex := 6, attributes := #[] }, { accessFlags := 16409, nameIndex := 27, descriptorIndex := 6, attributes := #[] }, { accessFlags := 16409, nameIndex := 30, descriptorIndex := 6, attributes := #[] }, { accessFlags := 16409, nameIndex := 33, descriptorIndex := 6, attributes := #[] }, { accessFlags := 16409, nameIndex := 36, descriptorIndex := 6, attributes := #[] }, { accessFlags := 16409, nameIndex := 39, descriptorIndex := 6, attributes := #[] }, { accessFlags := 16409, nameIndex := 42, descriptorIndex := 6, attributes := #[] }, { accessFlags := 16409, nameIndex := 45, descriptorIndex := 6, attributes := #[] }, { accessFlags := 16409, nameIndex := 48, descriptorIndex := 6, attributes := #[] }, { accessFlags := 16409, nameIndex := 51, descriptorIndex := 6, attributes := #[] }, { accessFlags := 16409, nameIndex := 54, descriptorIndex := 6, attributes := #[] }, { accessFlags := 16409, nameIndex := 57, descriptorIndex := 6, attributes := #[] }, { accessFlags := 16409, nameIndex := 60, descriptorIndex := 6, attributes := #[] }, { accessFlags := 16409, nameIndex := 63, descriptorIndex := 6, attributes := #[] }, { accessFlags := 16409, nameIndex := 66, descriptorIndex := 6, attributes := #[] }, { accessFlags := 18, nameIndex := 91, descriptorIndex := 92, attributes := #[] }, { accessFlags := 18, nameIndex := 95, descriptorIndex := 92, attributes := #[] }, { accessFlags := 4122, nameIndex := 69, descriptorIndex := 70, attributes := #[] }])
  fields := #[{ name := "ATOM", type := (.object "com/example/regnitz/regnitz/Formula$Kind"), accessFlags := 16409, slot := 0, constantValue := 0 }, { name := "TRUE", type := (.object "com/example/regnitz/regnitz/Formula$Kind"), accessFlags := 16409, slot := 1, constantValue := 0 }, { name := "FALSE", type := (.object "com/example/regnitz/regnitz/Formula$Kind"), accessFlags := 16409, slot := 2, constantValue := 0 }, { name := "NOT", type := (.object "com/example/regnitz/regnitz/Formula$Kind"), accessFlags := 16409, slot := 3, constantValue := 0 }, { name := "BOX", type := (.object "com/example/regnitz/regnitz/Formula$Kind"), accessFlags := 16409, slot := 4, constantValue := 0 }, { name := "DIAMOND", type := (.object "com/example/regnitz/regnitz/Formula$Kind"), accessFlags := 16409, slot := 5, constantValue := 0 }, { name := "PROBABILITY", type := (.object "com/example/regnitz/regnitz/Formula$Kind"), accessFlags := 16409, slot := 6, constantValue := 0 }, { name := "COALITION", type := (.object "com/example/regnitz/regnitz/Formula$Kind"), accessFlags := 16409, slot := 7, constantValue := 0 }, { name := "GENERALLY", type := (.object "com/example/regnitz/regnitz/Formula$Kind"), accessFlags := 16409, slot := 8, constantValue := 0 }, { name := "DEGREE", type := (.object "com/example/regnitz/regnitz/Formula$Kind"), accessFlags := 16409, slot := 9, constantValue := 0 }, { name := "MINUS", type := (.object "com/example/regnitz/regnitz/Formula$Kind"), accessFlags := 16409, slot := 10, constantValue := 0 }, { name := "PLUS", type := (.object "com/example/regnitz/regnitz/Formula$Kind"), accessFlags := 16409, slot := 11, constantValue := 0 }, { name := "AND", type := (.object "com/example/regnitz/regnitz/Formula$Kind"), accessFlags := 16409, slot := 12, constantValue := 0 }, { name := "OR", type := (.object "com/example/regnitz/regnitz/Formula$Kind"), accessFlags := 16409, slot := 13, constantValue := 0 }, { name := "AT_LEAST", type := (.object "com/example/regnitz/regnitz/Formula$Kind"), accessFlags := 16409, slot := 14, constantValue := 0 }, { name := "ABOVE", type := (.object "com/example/regnitz/regnitz/Formula$Kind"), accessFlags := 16409, slot := 15, constantValue := 0 }, { name := "AT_MOST", type := (.object "com/example/regnitz/regnitz/Formula$Kind"), accessFlags := 16409, slot := 16, constantValue := 0 }, { name := "BELOW", type := (.object "com/example/regnitz/regnitz/Formula$Kind"), accessFlags := 16409, slot := 17, constantValue := 0 }, { name := "CONDITIONAL", type := (.object "com/example/regnitz/regnitz/Formula$Kind"), accessFlags := 16409, slot := 18, constantValue := 0 }, { name := "IMPLIES", type := (.object "com/example/regnitz/regnitz/Formula$Kind"), accessFlags := 16409, slot := 19, constantValue := 0 }, { name := "IFF", type := (.object "com/example/regnitz/regnitz/Formula$Kind"), accessFlags := 16409, slot := 20, constantValue := 0 }, { name := "looseness", type := .int, accessFlags := 18, slot := 3, constantValue := 0 }, { name := "loosenessBetweenStatements", type := .int, accessFlags := 18, slot := 4, constantValue := 0 }, { name := "$VALUES", type := (.array (.object "com/example/regnitz/regnitz/Formula$Kind")), accessFlags := 4122, slot := 21, constantValue := 0 }]
  methods := #[k6m0, k6m1]
  instanceTypes := #[(.object "java/lang/String"), .int, .int, .int, .int]
  staticTypes := #[(.object "com/example/regnitz/regnitz/Formula$Kind"), (.object "com/example/regnitz/regnitz/Formula$Kind"), (.object "com/example/regnitz/regnitz/Formula$Kind"), (.object "com/example/regnitz/regnitz/Formula$Kind"), (.object "com/example/regnitz/regnitz/Formula$Kind"), (.object "com/example/regnitz/regnitz/Formula$Kind"), (.object "com/example/regnitz/regnitz/Formula$Kind"), (.object "com/example/regnitz/regnitz/Formula$Kind"), (.object "com/example/regnitz/regnitz/Formula$Kind"), (.object "com/example/regnitz/regnitz/Formula$Kind"), (.object "com/example/regnitz/regnitz/Formula$Kind"), (.object "com/example/regnitz/regnitz/Formula$Kind"), (.object "com/example/regnitz/regnitz/Formula$Kind"), (.object "com/example/regnitz/regnitz/Formula$Kind"), (.object "com/example/regnitz/regnitz/Formula$Kind"), (.object "com/example/regnitz/regnitz/Formula$Kind"), (.object "com/example/regnitz/regnitz/Formula$Kind"), (.object "com/example/regnitz/regnitz/Formula$Kind"), (.object "com/example/regnitz/regnitz/Formula$Kind"), (.object "com/example/regnitz/regnitz/Formula$Kind"), (.object "com/example/regnitz/regnitz/Formula$Kind"), (.array (.object "com/example/regnitz/regnitz/Formula$Kind"))]
  resolved := Array.replicate 145 none
  statics := some 0 }

def pool7 : Array CpInfo := pool [(1, u "java/lang/Cloneable"), (0, .class_ 1), (0, u "java/lang/Object"), (0, .class_ 3)] 3

/-- java/lang/Cloneable -/
def k7 : Class := { plain "java/lang/Cloneable" (some 0) with
  accessFlags := 1537
  interfaces := #[]
  cf := some (fileOf pool7 2 #[] #[] 1537 4 #[] #[])
  fields := #[]
  methods := #[]
  instanceTypes := #[]
  staticTypes := #[]
  resolved := Array.replicate 8 none
  statics := none }

/-- the primitive byte -/
def k8 : Class := { plain "byte" none with kind := .primitive 'B', accessFlags := 0x411 }
/-- [B -/
def k9 : Class := { plain "[B" (some 0) with kind := .array 8 .byte, interfaces := #[7, 4], accessFlags := 1041 }

/-- the primitive int -/
def k10 : Class := { plain "int" none with kind := .primitive 'I', accessFlags := 0x411 }
/-- [I -/
def k11 : Class := { plain "[I" (some 0) with kind := .array 10 .int, interfaces := #[7, 4], accessFlags := 1041 }

/-- [Lcom/example/regnitz/regnitz/Formula$Kind; -/
def k12 : Class := { plain "[Lcom/example/regnitz/regnitz/Formula$Kind;" (some 0) with kind := .array 6 (.object "com/example/regnitz/regnitz/Formula$Kind"), interfaces := #[7, 4], accessFlags := 1041 }

def heap : Heap := #[{ cls := 6, slots := #[.ref 1, .ref 2, .ref 3, .ref 4, .ref 5, .ref 6, .ref 7, .ref 8, .ref 9, .ref 10, .ref 11, .ref 12, .ref 13, .ref 14, .ref 15, .ref 16, .ref 17, .ref 18, .ref 19, .ref 20, .ref 21, .null], vm := .statics 6 },
  { cls := 6, slots := #[.null, .int 0, .int 0, .int 0, .int 0], vm := .none },
  { cls := 6, slots := #[.null, .int 1, .int 0, .int 0, .int 0], vm := .none },
  { cls := 6, slots := #[.null, .int 2, .int 0, .int 0, .int 0], vm := .none },
  { cls := 6, slots := #[.null, .int 3, .int 0, .int 0, .int 0], vm := .none },
  { cls := 6, slots := #[.null, .int 4, .int 0, .int 0, .int 0], vm := .none },
  { cls := 6, slots := #[.null, .int 5, .int 0, .int 0, .int 0], vm := .none },
  { cls := 6, slots := #[.null, .int 6, .int 0, .int 0, .int 0], vm := .none },
  { cls := 6, slots := #[.null, .int 7, .int 0, .int 0, .int 0], vm := .none },
  { cls := 6, slots := #[.null, .int 8, .int 0, .int 0, .int 0], vm := .none },
  { cls := 6, slots := #[.null, .int 9, .int 0, .int 0, .int 0], vm := .none },
  { cls := 6, slots := #[.null, .int 10, .int 0, .int 1, .int 1], vm := .none },
  { cls := 6, slots := #[.null, .int 11, .int 0, .int 1, .int 1], vm := .none },
  { cls := 6, slots := #[.null, .int 12, .int 0, .int 2, .int 6], vm := .none },
  { cls := 6, slots := #[.null, .int 13, .int 0, .int 3, .int 7], vm := .none },
  { cls := 6, slots := #[.null, .int 14, .int 0, .int 4, .int 4], vm := .none },
  { cls := 6, slots := #[.null, .int 15, .int 0, .int 4, .int 4], vm := .none },
  { cls := 6, slots := #[.null, .int 16, .int 0, .int 4, .int 4], vm := .none },
  { cls := 6, slots := #[.null, .int 17, .int 0, .int 4, .int 4], vm := .none },
  { cls := 6, slots := #[.null, .int 18, .int 0, .int 5, .int 5], vm := .none },
  { cls := 6, slots := #[.null, .int 19, .int 0, .int 8, .int 8], vm := .none },
  { cls := 6, slots := #[.null, .int 20, .int 0, .int 9, .int 9], vm := .none }]
def classes : Array Class := #[k0, k1, k2, k3, k4, k5, k6, k7, k8, k9, k10, k11, k12]
def interned : List (Array UInt16 × Addr) := []
def slotsUsed : Nat := 127
def theMethod : MethodId := ⟨1, 1⟩
def args0 : Array Value := #[.int 5, .int 6]
def aboutOver (below : List Frame) : State where
  vm := { classes := classes, interned := interned.toArray }
  heap := heap
  slotsUsed := slotsUsed
  threads := #[{ frames := .invoking theMethod args0 :: below }]
def below0 : List Frame := [.native { method := ⟨0, 0⟩, args := #[] }]
def about1 : State := aboutOver below0
def p0 : Program := .bare "" "" ""
def e0 : Env := launch0.env 0 0 0
theorem w_frames : about1.frames = Frame.invoking theMethod args0 :: below0 := rfl
set_option maxRecDepth 65536 in
theorem w_args : argsFit about1.vm theMethod args0 = true := by decide +kernel
set_option maxRecDepth 65536 in
theorem w_heap : heapFits about1 = true := by decide +kernel
set_option maxRecDepth 65536 in
theorem w_runnable : about1.curStatus? = some .runnable := by decide +kernel
set_option maxRecDepth 65536 in
theorem w_alone : about1.alone = true := by decide +kernel
set_option maxRecDepth 65536 in
theorem w_named : about1.methodNamed? x = some theMethod := by decide +kernel
set_option maxRecDepth 65536 in
theorem w_hears : about1.hears theMethod below0 = true := by decide +kernel
set_option maxRecDepth 65536 in
theorem w_ripe : about1.ripe theMethod args0 below0 = true := by decide +kernel
theorem w_running : about1.status = .running := rfl
set_option maxRecDepth 65536 in
theorem w_room : about1.hasRoom e0.platform room_1 = true :=
  launch0.hasRoom_least _ room_1 (by decide +kernel) (by decide +kernel) (by decide +kernel) (by decide +kernel) (by decide +kernel) (by decide +kernel)
theorem allAtoms_all (ts : List Jvm.Cond) (a : Array Jvm.Value) (st : Jvm.State) : (allAtoms ts).before a st = ts.all (fun c => c.before a st) := by
  induction ts with
  | nil => rfl
  | cons c t ih =>
    show (Jvm.Cond.and c (allAtoms t)).before a st = _
    rw [Jvm.Cond.before_and, ih, List.all_cons]
def words1 : List Jvm.Cond := Jvm.Cond.code x code maxLocals ret :: tables_1
/-- a 'code' word, met by the world's own term for the bytes: nothing is compared byte by byte -/
theorem code_word {y : MethodName} {bytes : ByteArray} {mx : Nat} {rt : Option FieldType} {a : Array Value} {s : State} {m : MethodId} {meth : Method} {c : Code} (h1 : s.methodNamed? y = some m) (h2 : s.vm.method? m = some meth) (h3 : meth.code = some c) (h4 : c.code = bytes)
    (h5 : (c.maxLocals == mx && c.exceptionTable.isEmpty && decide (c.maxStack ≤ mostOperands) && decide (meth.sig.returnType = rt) && !meth.locks && decide (parseMethodDescriptor y.desc = some meth.sig)) = true) : (Jvm.Cond.code y bytes mx rt).before a s = true := by
  simp only [Bool.and_eq_true, beq_iff_eq, Bool.not_eq_true', decide_eq_true_eq] at h5
  obtain ⟨⟨⟨⟨⟨g1, g2⟩, g3⟩, g4⟩, g5⟩, g6⟩ := h5
  simp [Cond.before, Cond.holds, Cond.value, h1, h2, h3, h4, g1, g2, g3, g4, g5, g6]
def isCode : Jvm.Cond → Bool
  | .code _ _ _ _ => true
  | _ => false
theorem all_split {L : List Jvm.Cond} {P : Jvm.Cond → Bool} (h1 : L.all (fun c => isCode c || P c) = true) (h2 : ∀ c ∈ L.filter isCode, P c = true) : L.all P = true := by
  refine List.all_eq_true.mpr fun c hc => ?_
  have h := List.all_eq_true.mp h1 c hc
  rcases Bool.eq_false_or_eq_true (isCode c) with hi | hi
  · exact h2 c (List.mem_filter.mpr ⟨hc, hi⟩)
  · simpa [hi] using h
set_option maxRecDepth 65536 in
theorem w_c0 : (Jvm.Cond.code x code maxLocals ret).before args0 about1 = true := code_word (m := ⟨1, 1⟩) (meth := k1m1) (c := k1c1) (by decide +kernel) rfl rfl rfl (by decide +kernel)
set_option maxRecDepth 65536 in
theorem w_c1 : (Jvm.Cond.code ({ cls := "com/example/regnitz/regnitz/KindLoosenessPinLaw", name := "expectedLooseness", desc := "(IZ)I" } : Jvm.MethodName) method_3_code (2 : Nat) (Option.some Jvm.ClassFile.FieldType.int)).before args0 about1 = true := code_word (m := ⟨1, 2⟩) (meth := k1m2) (c := k1c2) (by decide +kernel) rfl rfl rfl (by decide +kernel)
set_option maxRecDepth 65536 in
theorem w_c2 : (Jvm.Cond.code ({ cls := "com/example/regnitz/regnitz/Formula$Kind", name := "looseness", desc := "(Z)I" } : Jvm.MethodName) prog_2_method_6_code (2 : Nat) (Option.some Jvm.ClassFile.FieldType.int)).before args0 about1 = true := code_word (m := ⟨6, 1⟩) (meth := k6m1) (c := k6c1) (by decide +kernel) rfl rfl rfl (by decide +kernel)
set_option maxRecDepth 65536 in
theorem w_c3 : (Jvm.Cond.code ({ cls := "com/example/regnitz/regnitz/Formula$Kind", name := "looseness", desc := "()I" } : Jvm.MethodName) prog_2_method_5_code (1 : Nat) (Option.some Jvm.ClassFile.FieldType.int)).before args0 about1 = true := code_word (m := ⟨6, 0⟩) (meth := k6m0) (c := k6c0) (by decide +kernel) rfl rfl rfl (by decide +kernel)
def codes1 : List Jvm.Cond := [Jvm.Cond.code x code maxLocals ret, Jvm.Cond.code ({ cls := "com/example/regnitz/regnitz/KindLoosenessPinLaw", name := "expectedLooseness", desc := "(IZ)I" } : Jvm.MethodName) method_3_code (2 : Nat) (Option.some Jvm.ClassFile.FieldType.int), Jvm.Cond.code ({ cls := "com/example/regnitz/regnitz/Formula$Kind", name := "looseness", desc := "(Z)I" } : Jvm.MethodName) prog_2_method_6_code (2 : Nat) (Option.some Jvm.ClassFile.FieldType.int), Jvm.Cond.code ({ cls := "com/example/regnitz/regnitz/Formula$Kind", name := "looseness", desc := "()I" } : Jvm.MethodName) prog_2_method_5_code (1 : Nat) (Option.some Jvm.ClassFile.FieldType.int)]
set_option maxRecDepth 65536 in
theorem codes_eq : words1.filter isCode = codes1 := rfl
theorem w_codes : ∀ c ∈ words1.filter isCode, c.before args0 about1 = true := by
  rw [codes_eq]
  intro c hc
  simp only [codes1, List.mem_cons, List.not_mem_nil, or_false] at hc
  rcases hc with rfl | rfl | rfl | rfl
  · exact w_c0
  · exact w_c1
  · exact w_c2
  · exact w_c3
set_option maxRecDepth 65536 in
theorem w_t1 : (words1.take 24).all (fun c => isCode c || c.before args0 about1) = true := by decide +kernel
set_option maxRecDepth 65536 in
theorem w_t2 : ((words1.drop 24).take 24).all (fun c => isCode c || c.before args0 about1) = true := by decide +kernel
set_option maxRecDepth 65536 in
theorem w_t3 : ((words1.drop 24).drop 24).all (fun c => isCode c || c.before args0 about1) = true := by decide +kernel
theorem w_tables : (allAtoms (Jvm.Cond.code x code maxLocals ret :: tables_1)).before args0 about1 = true := by
  rw [allAtoms_all]
  show words1.all (fun c => c.before args0 about1) = true
  refine all_split ?_ w_codes
  rw [← List.take_append_drop 24 words1, List.all_append, w_t1, ← List.take_append_drop 24 (words1.drop 24), List.all_append, w_t2, w_t3]
  rfl
set_option maxRecDepth 65536 in
theorem w_case : (Jvm.Cond.and given_1 narrow_1).before args0 about1 = true := by decide +kernel
theorem w_applies : (headSpec (Jvm.Cond.code x code maxLocals ret :: tables_1) room_1).applies x e0.platform about1 = true :=
  (Spec.applies_iff w_frames).mpr ⟨w_running, w_runnable, w_alone, w_named, w_hears, w_ripe, w_room, w_tables⟩
theorem atStart : AtStart classFile x code maxLocals ret World_1 tables_1 room_1 Calls_1 rest_1 Pre_1 launch0 p0 e0 about1 theMethod args0 below0 :=
  ⟨lists_1, trivial, launch0.admits_env _ _ _, launch0.least_env, fairChoices_fair.cas, fairChoices_fair.clock, w_frames, w_args, w_heap, w_applies, trivial, trivial, w_case⟩
end start1
theorem witness_1 : WitnessClaimed_1 := ⟨start1.p0, start1.e0, start1.about1, start1.theMethod, start1.args0, start1.below0, start1.atStart⟩
end Jvm.Pilot.@@N@@
