import JvmDerived
import JvmDerived.Pilot.@@N@@Statement
import JvmDerived.Pilot.@@N@@Code
set_option linter.unusedVariables false
set_option linter.unusedSimpArgs false
namespace Jvm.RoadKit
open Sem ClassFile Op Lib Jvm.Stand Jvm.Free Jvm.LawKit
section New
variable {p : Program} {l : Launch} {e : Env} {R : Room} {s : State} {m : MethodId} {args : Array Value} {below : List Frame} {meth : Method} {c : Code} {T : State} {locs : List Loc} {cells slots : Nat}
theorem retI (X : Stand p l e R s m args below meth c T locs cells slots) (hx : p.tables.exec = Jvm.exec) {pc : Nat} {Ls : Array Slot} {z : Int32} {rest : List Value} (hret : meth.sig.returnType = some .int) (hd : decode c.code pc = .ok (.ireturn, 1)) {fs : List Frame}
    (hl : ∀ (f : JFrame) (acts : List Action), f.method = m → f.locked = none → f.entered = [] → (doReturn e (T.setTop f) acts (some (.int z))).1 = T.setFrames fs) : Steps p.tables e below (T.setTop (mkF m pc Ls (.int z :: rest))) (T.setFrames fs) := by
  have hm' : T.vm.method? m = some meth := X.method'
  have hn : narrow .int (.int z) = .int z := rfl
  show Steps p.tables e below (T.setTop { method := m, pc := pc, locals := Ls, stack := _ :: rest, locked := none }) _
  jvm_step X.here [X.here.top, hx, hd, hm', hret, hn]
  first | (intro acts; rw [hl _ acts rfl rfl rfl]) | rw [hl _ _ rfl rfl rfl]
  exact Steps.refl _
end New
end Jvm.RoadKit
namespace Jvm.Pilot.@@N@@
open Jvm Jvm.ClassFile Sem Op Lib Jvm.Free Jvm.Stand Jvm.LawKit Jvm.RoadKit Bundle Jvm.Pilot.@@N@@.Jvm.D
/-! own_..: a walk as a goal: from here some run ends as the contract says; steps are taken off its front -/
section Own
variable {p : Program} {l : Launch} {e : Env} {R : Room} {s : State} {m : MethodId} {args : Array Value} {below : List Frame} {meth : Method} {c : Code} {T : State} {locs : List Loc} {cells slots : Nat} {Z : State} {a0 : Array Value} {h : Heap}
def Run (tb : Tables) (e : Env) (below : List Frame) (A : State) (G : State → Outcome → Prop) : Prop := ∃ t o, Steps tb e below A t ∧ G t o
theorem own_go {tb : Tables} {A B : State} {G : State → Outcome → Prop} (st : ∀ t, Steps tb e below B t → Steps tb e below A t) (k : Run tb e below B G) : Run tb e below A G := by
  obtain ⟨t, o, h1, h2⟩ := k
  exact ⟨t, o, st t h1, h2⟩
def OwnFin (s : State) (below : List Frame) (Q : Option Value → Heap → List Loc → Prop) (ck sk : Nat) : State → Outcome → Prop :=
  fun t o => t.status = .running ∧ Ended t below o ∧ ∃ v L, o = .returned v ∧ Q v t.heap L ∧ FrameEnd s o t L ck sk
def OwnCtr (l : Launch) (y : MethodName) (bytes : ByteArray) (maxL : Nat) (ret : Option FieldType) (ws : List Jvm.Cond) (rm : Room) (Z : State) (as' : Array Value) (h : Heap) (Q : Option Value → Heap → List Loc → Prop) : Prop :=
  MetFree l y (head1 (Jvm.Cond.code y bytes maxL ret :: ws) rm) (fun a U => a = as' ∧ Z.Warmed39 U.vm ∧ U.heap = h) (fun _ _ _ _ _ => True) (fun _ U o U' => ∃ v L, o = .returned v ∧ Q v U'.heap L ∧ FrameEnd U o U' L rm.cells rm.slots)
theorem own_bodyF {y : MethodName} {bytes : ByteArray} {maxL : Nat} {ret : Option FieldType} {ws : List Jvm.Cond} {rm : Room} {as' : Array Value} {Q : Option Value → Heap → List Loc → Prop} (pn : plainFor y = true)
    (H : ∀ (p : Program) (e : Env) (s : State) (m : MethodId) (below : List Frame) (meth : Method) (c : Code) (s₁ : State), Stand p l e rm s m as' below meth c s₁ [] 0 0 → p.tables.exec = Jvm.exec → c.code = bytes → c.maxLocals = maxL →
      s.vm.findClass y.cls = some m.cls → meth.name = y.name → meth.sig.returnType = ret → meth.locks = false → Z.Warmed39 s.vm → s₁.heap = h → Run p.tables e below (s₁.setTop (entryFrame m as' maxL)) (OwnFin s below Q rm.cells rm.slots)) :
    OwnCtr l y bytes maxL ret ws rm Z as' h Q := by
  refine MetFree.of_bodySF pn hisR ?_
  intro p e s m args below meth c s₁ Bd hml0 hP hK
  obtain ⟨rfl, hZ, hh⟩ := hP
  exact H p e s m below meth c s₁ (Stand.of_body Bd) Bd.exec Bd.bytes hml0 (findClass_of_methodNamed Bd.named) (name_of_methodNamed Bd.named Bd.method).1 Bd.returns (BodyLoose.notSynchronized Bd) hZ (by rw [← hh, Bd.state]; rfl)
theorem own_body {y : MethodName} {bytes : ByteArray} {maxL : Nat} {ret : Option FieldType} {ws : List Jvm.Cond} {rm : Room} {as' : Array Value} {Q : Option Value → Heap → List Loc → Prop} (pn : plainName y.cls = true)
    (H : ∀ (p : Program) (e : Env) (s : State) (m : MethodId) (below : List Frame) (meth : Method) (c : Code) (s₁ : State), Stand p l e rm s m as' below meth c s₁ [] 0 0 → p.tables.exec = Jvm.exec → c.code = bytes → c.maxLocals = maxL →
      s.vm.findClass y.cls = some m.cls → meth.name = y.name → meth.sig.returnType = ret → meth.locks = false → Z.Warmed39 s.vm → s₁.heap = h → Run p.tables e below (s₁.setTop (entryFrame m as' maxL)) (OwnFin s below Q rm.cells rm.slots)) :
    OwnCtr l y bytes maxL ret ws rm Z as' h Q := own_bodyF (plainFor_of_name pn) H
theorem own_out (X : Stand p l e R s m args below meth c T locs cells slots) {v : Option Value} (hv : meth.sig.returnType = none → v = none) (hlk : meth.locks = false) {g : JFrame} {Q : Option Value → Heap → List Loc → Prop} {ck sk : Nat}
    (hst : ∀ fs, (∀ (f : JFrame) (acts : List Action), f.method = m → f.locked = none → f.entered = [] → (doReturn e (T.setTop f) acts v).1 = T.setFrames fs) → Steps p.tables e below (T.setTop g) (T.setFrames fs))
    (hQ : Q v T.heap locs) (hc : cells ≤ ck) (hs : slots ≤ sk) : Run p.tables e below (T.setTop g) (OwnFin s below Q ck sk) := by
  obtain ⟨fs, hr, hrun, hended, hW, hsame⟩ := X.leave (v := v) hv hlk
  exact ⟨_, _, hst fs hr, hrun, hended, v, locs, rfl, hQ, ⟨_, rfl⟩, hW, hsame.mono hc hs⟩
theorem own_callV (X : Stand p l e R s m args below meth c T locs cells slots) (hx : p.tables.exec = Jvm.exec) (hZ : Z.Warmed39 s.vm) {own C : String} {index : Nat} {y : MethodName} {bytes : ByteArray} {maxL : Nat} {ret : Option FieldType}
    (hown : s.vm.findClass own = some m.cls) (w1 : (Jvm.Cond.methodLink own index y).before a0 Z = true) (w2 : (Jvm.Cond.instanceMethod y).before a0 Z = true) (w3 : (Jvm.Cond.selects C y y).before a0 Z = true)
    (w4 : (Jvm.Cond.code y bytes maxL ret).before a0 Z = true) (w5 : (Jvm.Cond.initialized y.cls).before a0 Z = true) (hy : y.cls ≠ "java/lang/invoke/MethodHandle" ∧ y.cls ≠ "java/lang/invoke/VarHandle")
    (eT : T.heap = h) {rm : Room} {as' : Array Value} {Q : Option Value → Heap → List Loc → Prop} (hM : OwnCtr l y bytes maxL ret [] rm Z as' h Q)
    {b : Addr} (E : Exa Z h b C) {g : JFrame} (hg : g.method = m) (hsize : g.locals.size = c.maxLocals) {argsL rest : List Value} {ps : List FieldType} {rt : Option FieldType} (hpd : parseMethodDescriptor y.desc = some ⟨ps, rt⟩) (hlen : argsL.length = ps.length)
    (hs : g.stack = argsL.reverse ++ .ref b :: rest) (has : as' = (Value.ref b :: argsL).toArray) {W : Nat} (hW : 2 * g.monitorRoom + (rest.map fun v => v.category).sum ≤ W) (hd : decode c.code g.pc = .ok (.invokevirtual index, 3))
    (hf : rm.frames + 1 ≤ R.frames) (hl : W + (maxL + 11) + rm.locals ≤ R.locals) (hc : cells + rm.cells ≤ R.cells) (hsl : slots + rm.slots ≤ R.slots) :
    ∃ (v : Option Value) (T' : State) (L : List Loc), Stand p l e R s m args below meth c T' (locs ++ L) (cells + rm.cells) (slots + rm.slots) ∧ Q v T'.heap L ∧
      ∀ target, Steps p.tables e below (T'.setTop { g with pc := g.pc + 3, stack := v.toList ++ rest }) target → Steps p.tables e below (T.setTop g) target := by
  obtain ⟨cell, k, h1, h2, h3, h4, -⟩ := E
  obtain ⟨v, vm₁, ⟨T', L', k', n'⟩, -, X', ⟨L, hQ, l1, l2, l3⟩, st⟩ := Jvm.LawKit.callV X hx hown (mvT hZ w1) (mvT hZ w2) (mvT hZ w3) (mvT hZ w4) hy (backOf (W := W) hM hZ w4 w5 hf hl) (b := b) (cellB := cell) (by rw [eT]; exact h1) h4 (by rw [hZ.alike.findClass]; exact h2) hg hsize (lenOf hpd hlen) hs hW hd (fun _ _ => ⟨has.symm, eT, hc, hsl⟩)
  dsimp only [Pt.U, Pt.locs, Pt.cells, Pt.slots] at X' l1 l2 l3 st hQ
  subst l1 l2 l3
  exact ⟨v, T', L, X', hQ, st⟩
theorem own_callVU (X : Stand p l e R s m args below meth c T locs cells slots) (hx : p.tables.exec = Jvm.exec) (hZ : Z.Warmed39 s.vm) {own C owner : String} {index : Nat} {x y : MethodName} {bytes : ByteArray} {maxL : Nat} {ret : Option FieldType}
    (hown : s.vm.findClass own = some m.cls) (w1 : (Jvm.Cond.methodLink own index x).before a0 Z = true) (w1' : (Jvm.Cond.sameMethod x.cls owner x.name x.desc).before a0 Z = true) (w1'' : (Jvm.Cond.declares ⟨owner, x.name, x.desc⟩).before a0 Z = true) (w2 : (Jvm.Cond.instanceMethod y).before a0 Z = true) (w3 : (Jvm.Cond.selects C x y).before a0 Z = true)
    (w4 : (Jvm.Cond.code y bytes maxL ret).before a0 Z = true) (w5 : (Jvm.Cond.initialized y.cls).before a0 Z = true) (hy : owner ≠ "java/lang/invoke/MethodHandle" ∧ owner ≠ "java/lang/invoke/VarHandle")
    (eT : T.heap = h) {rm : Room} {as' : Array Value} {Q : Option Value → Heap → List Loc → Prop} (hM : OwnCtr l y bytes maxL ret [] rm Z as' h Q)
    {b : Addr} (E : Exa Z h b C) {g : JFrame} (hg : g.method = m) (hsize : g.locals.size = c.maxLocals) {argsL rest : List Value} {ps : List FieldType} {rt : Option FieldType} (hpd : parseMethodDescriptor x.desc = some ⟨ps, rt⟩) (hlen : argsL.length = ps.length)
    (hs : g.stack = argsL.reverse ++ .ref b :: rest) (has : as' = (Value.ref b :: argsL).toArray) {W : Nat} (hW : 2 * g.monitorRoom + (rest.map fun v => v.category).sum ≤ W) (hd : decode c.code g.pc = .ok (.invokevirtual index, 3))
    (hf : rm.frames + 1 ≤ R.frames) (hl : W + (maxL + 11) + rm.locals ≤ R.locals) (hc : cells + rm.cells ≤ R.cells) (hsl : slots + rm.slots ≤ R.slots) :
    ∃ (v : Option Value) (T' : State) (L : List Loc), Stand p l e R s m args below meth c T' (locs ++ L) (cells + rm.cells) (slots + rm.slots) ∧ Q v T'.heap L ∧
      ∀ target, Steps p.tables e below (T'.setTop { g with pc := g.pc + 3, stack := v.toList ++ rest }) target → Steps p.tables e below (T.setTop g) target := by
  obtain ⟨cB, kB, q1, q2, q3⟩ := isOf hZ eT E
  obtain ⟨v, vm₁, ⟨T', L', k', n'⟩, -, X', ⟨L, hQ, l1, l2, l3⟩, st⟩ := X.virtualBackUp hx hown (mvT hZ w1) (mvT hZ w1') (mvT hZ w1'') hy (mvT hZ w3) (mvT hZ w2) (backOf (W := W) hM hZ w4 w5 hf hl) q1 q3 hg hsize (Steps.refl _) (lenOf hpd hlen) hs hW hd (fun _ _ => ⟨has.symm, eT, hc, hsl⟩)
  dsimp only [Pt.U, Pt.locs, Pt.cells, Pt.slots] at X' l1 l2 l3 st hQ
  subst l1 l2 l3
  exact ⟨v, T', L, X', hQ, fun _ k => st.trans k⟩
theorem own_callS (X : Stand p l e R s m args below meth c T locs cells slots) (hx : p.tables.exec = Jvm.exec) (hZ : Z.Warmed39 s.vm) {own : String} {index : Nat} {y : MethodName} {bytes : ByteArray} {maxL : Nat} {ret : Option FieldType}
    (hown : s.vm.findClass own = some m.cls) (w1 : (Jvm.Cond.methodLink own index y).before a0 Z = true) (w2 : (Jvm.Cond.static y).before a0 Z = true)
    (w4 : (Jvm.Cond.code y bytes maxL ret).before a0 Z = true) (w5 : (Jvm.Cond.initialized y.cls).before a0 Z = true) (hy : y.cls ≠ "java/lang/invoke/MethodHandle" ∧ y.cls ≠ "java/lang/invoke/VarHandle")
    (eT : T.heap = h) {rm : Room} {as' : Array Value} {Q : Option Value → Heap → List Loc → Prop} (hM : OwnCtr l y bytes maxL ret [] rm Z as' h Q)
    {g : JFrame} (hg : g.method = m) (hsize : g.locals.size = c.maxLocals) {argsL rest : List Value} {ps : List FieldType} {rt : Option FieldType} (hpd : parseMethodDescriptor y.desc = some ⟨ps, rt⟩) (hlen : argsL.length = ps.length)
    (hs : g.stack = argsL.reverse ++ rest) (has : as' = argsL.toArray) {W : Nat} (hW : 2 * g.monitorRoom + (rest.map fun v => v.category).sum ≤ W) (hd : decode c.code g.pc = .ok (.invokestatic index, 3))
    (hf : rm.frames + 1 ≤ R.frames) (hl : W + (maxL + 11) + rm.locals ≤ R.locals) (hc : cells + rm.cells ≤ R.cells) (hsl : slots + rm.slots ≤ R.slots) :
    ∃ (v : Option Value) (T' : State) (L : List Loc), Stand p l e R s m args below meth c T' (locs ++ L) (cells + rm.cells) (slots + rm.slots) ∧ Q v T'.heap L ∧
      ∀ target, Steps p.tables e below (T'.setTop { g with pc := g.pc + 3, stack := v.toList ++ rest }) target → Steps p.tables e below (T.setTop g) target := by
  obtain ⟨v, vm₁, ⟨T', L', k', n'⟩, -, X', ⟨L, hQ, l1, l2, l3⟩, st⟩ := Jvm.LawKit.callS X hx hown (mvT hZ w1) (mvT hZ w2) (mvT hZ w5) (mvT hZ w4) hy (backOf (W := W) hM hZ w4 w5 hf hl) hg hsize (lenOf hpd hlen) hs hW hd (fun _ _ => ⟨has.symm, eT, hc, hsl⟩)
  dsimp only [Pt.U, Pt.locs, Pt.cells, Pt.slots] at X' l1 l2 l3 st hQ
  subst l1 l2 l3
  exact ⟨v, T', L, X', hQ, st⟩
theorem own_callI (X : Stand p l e R s m args below meth c T locs cells slots) (hx : p.tables.exec = Jvm.exec) (hZ : Z.Warmed39 s.vm) {own : String} {index : Nat} {y : MethodName} {bytes : ByteArray} {maxL : Nat}
    (hown : s.vm.findClass own = some m.cls) (hy1 : y.name = "<init>") (w1 : (Jvm.Cond.methodLink own index y).before a0 Z = true) (w2 : (Jvm.Cond.instanceMethod y).before a0 Z = true)
    (w4 : (Jvm.Cond.code y bytes maxL none).before a0 Z = true) (w5 : (Jvm.Cond.initialized y.cls).before a0 Z = true) (hy : y.cls ≠ "java/lang/invoke/MethodHandle" ∧ y.cls ≠ "java/lang/invoke/VarHandle")
    (eT : T.heap = h) {rm : Room} {as' : Array Value} {Q : Option Value → Heap → List Loc → Prop} (hM : OwnCtr l y bytes maxL none [] rm Z as' h Q)
    {b : Addr} {g : JFrame} (hg : g.method = m) (hsize : g.locals.size = c.maxLocals) {argsL rest : List Value} {ps : List FieldType} {rt : Option FieldType} (hpd : parseMethodDescriptor y.desc = some ⟨ps, rt⟩) (hlen : argsL.length = ps.length)
    (hs : g.stack = argsL.reverse ++ .ref b :: rest) (has : as' = (Value.ref b :: argsL).toArray) {W : Nat} (hW : 2 * g.monitorRoom + (rest.map fun v => v.category).sum ≤ W) (hd : decode c.code g.pc = .ok (.invokespecial index, 3))
    (hf : rm.frames + 1 ≤ R.frames) (hl : W + (maxL + 11) + rm.locals ≤ R.locals) (hc : cells + rm.cells ≤ R.cells) (hsl : slots + rm.slots ≤ R.slots) :
    ∃ (v : Option Value) (T' : State) (L : List Loc), Stand p l e R s m args below meth c T' (locs ++ L) (cells + rm.cells) (slots + rm.slots) ∧ Q v T'.heap L ∧
      ∀ target, Steps p.tables e below (T'.setTop { g with pc := g.pc + 3, stack := v.toList ++ rest }) target → Steps p.tables e below (T.setTop g) target := by
  obtain ⟨v, vm₁, ⟨T', L', k', n'⟩, -, X', ⟨L, hQ, l1, l2, l3⟩, st⟩ := Jvm.LawKit.callI X hx hown hy1 (mvT hZ w1) (mvT hZ w2) (mvT hZ w4) hy (backOf (W := W) hM hZ w4 w5 hf hl) hg hsize (a := b) (lenOf hpd hlen) hs hW hd (fun _ _ => ⟨has.symm, eT, hc, hsl⟩)
  dsimp only [Pt.U, Pt.locs, Pt.cells, Pt.slots] at X' l1 l2 l3 st hQ
  subst l1 l2 l3
  exact ⟨v, T', L, X', hQ, st⟩
theorem own_fld {t : Term} {u : Addr} {C n d : String} {k : Int32} (ev : t.eval args s none [] s = some (.ref u)) (w : (Jvm.Cond.eq (.field t C n d) (.int k)).value args s none s [] = some true) : Fld s s.heap u C n d (.int k) :=
  Fld.start (by rw [← fld_at (args := args) (first := s) (o := none) (idx := []) ev]; exact Cond.eq_int (beq_iff_eq.mpr w) (Term.int_eval k))
theorem own_rne {a b : Addr} (q : a ≠ b) : ¬ Value.ref a = .ref b := fun w => q (Value.ref.inj w)
end Own
section Own2
variable {p : Program} {l : Launch} {e : Env} {R : Room} {s : State} {m : MethodId} {args : Array Value} {below : List Frame} {meth : Method} {c : Code} {T : State} {locs : List Loc} {cells slots : Nat} {Z : State} {a0 : Array Value} {h : Heap}
theorem own_extwr {h0 h h' : Heap} {a : Addr} {sl : Nat} {v : Value} (E : Ext h0 h) (W : Wr h h' a sl v) (q : h0.size ≤ a) : Ext h0 h' := by
  refine ⟨by rw [W.size]; exact E.1, fun b c hb => ?_⟩
  have hlt : b < h0.size := (Array.getElem?_eq_some_iff.mp hb).1
  obtain ⟨c', e1, -, -, -, e5, -⟩ := wr_at W (E.2 _ _ hb)
  rw [e1, e5 (Nat.ne_of_lt (Nat.lt_of_lt_of_le hlt q))]
theorem own_exttr {h0 h h' : Heap} (E : Ext h0 h) (E' : Ext h h') : Ext h0 h' := ⟨Nat.le_trans E.1 E'.1, fun a c q => E'.2 _ _ (E.2 _ _ q)⟩
theorem own_extrf (h : Heap) : Ext h h := ⟨Nat.le_refl _, fun _ _ q => q⟩
theorem own_stR (X : Stand p l e R s m args below meth c T locs cells slots) (hx : p.tables.exec = Jvm.exec) (hZ : Z.Warmed39 s.vm) (eT : T.heap = h) {a : Addr} {k : ClassId} {ty : FieldType} {z : Int32} {vs : List Value} (V : Arv Z h a k ty z vs .null) (hty : ty.isReference = true)
    {j : Int32} (hj : ¬ j < 0 ∧ j < z) (i : Nat) (hi : j.toNatClampNeg = i) (hl : i < vs.length) {C : String} {y : Addr} (O : Ovr Z k C) (I : Exa Z h y C) (hv : fits ty (.ref y) = true) {h0 : Heap} (E : Ext h0 h) (ge : h0.size ≤ a) {n0 : Nat} (N : Fr n0 locs) (ge0 : n0 ≤ a)
    {g : JFrame} (hg : g.method = m) {rest : List Value} (hs : g.stack = .ref y :: .int j :: .ref a :: rest) (hd : decode c.code g.pc = .ok (.aastore, 1)) :
    ∃ (T' : State) (h' : Heap) (L : List Loc), Stand p l e R s m args below meth c T' L cells slots ∧ T'.heap = h' ∧ Ext h0 h' ∧ Arv Z h' a k ty z (vs.set i (.ref y)) .null ∧ Fr n0 L ∧
      ∀ target, Steps p.tables e below (T'.setTop { g with pc := g.pc + 1, stack := rest }) target → Steps p.tables e below (T.setTop g) target := by
  obtain ⟨cl, A, q1, S, q3, H, G⟩ := V
  obtain ⟨T', h', X', e', W, st⟩ := stR X hx hZ eT A (inb_of S hj) hty (Sto.ofV A q1 O (Ins.self I)) hg hs hd
  exact ⟨T', h', _, X', e', own_extwr E W ge, Arv.set A q1 S q3 H G hv W i hi hl, Fr.snoc X' N ge0, st⟩
theorem own_aaload (X : Stand p l e R s m args below meth c T locs cells slots) (hx : p.tables.exec = Jvm.exec) (hZ : Z.Warmed39 s.vm) (eT : T.heap = h) {a : Addr} {k : ClassId} {ty : FieldType} {z : Int32} {vs : List Value} {dv : Value} (V : Arv Z h a k ty z vs dv) (hty : ty.isReference = true)
    {j : Int32} (hj : ¬ j < 0 ∧ j < z) {v : Value} (u : vs.getD j.toNatClampNeg dv = v)
    {g : JFrame} (hg : g.method = m) {rest : List Value} (hs : g.stack = .int j :: .ref a :: rest) (hd : decode c.code g.pc = .ok (.aaload, 1)) :
    ∀ target, Steps p.tables e below (T.setTop { g with pc := g.pc + 1, stack := v :: rest }) target → Steps p.tables e below (T.setTop g) target := by
  obtain ⟨cl, A, q1, S, q3, H, G⟩ := V
  exact X.aaload hx (j := j) (v := v) (by rw [eT]; exact A.1) (State.isArrayOf_alike hZ.alike A.2.1) hty A.2.2 (inb_of S hj) (Has.at H (inb_of S hj) u) hg hs hd
theorem own_alen (X : Stand p l e R s m args below meth c T locs cells slots) (hx : p.tables.exec = Jvm.exec) (hZ : Z.Warmed39 s.vm) (eT : T.heap = h) {a : Addr} {k : ClassId} {ty : FieldType} {z : Int32} {vs : List Value} {dv : Value} (V : Arv Z h a k ty z vs dv)
    {g : JFrame} (hg : g.method = m) {rest : List Value} (hs : g.stack = .ref a :: rest) (hd : decode c.code g.pc = .ok (.arraylength, 1)) :
    ∀ target, Steps p.tables e below (T.setTop { g with pc := g.pc + 1, stack := .int z :: rest }) target → Steps p.tables e below (T.setTop g) target := by
  obtain ⟨cl, A, q1, S, q3, H, G⟩ := V
  rw [← len_of S q3]
  exact X.arraylength hx (by rw [eT]; exact A.1) (State.isArrayOf_alike hZ.alike A.2.1) hg hs hd
end Own2
section Own4
variable {p : Program} {l : Launch} {e : Env} {R : Room} {s : State} {m : MethodId} {args : Array Value} {below : List Frame} {meth : Method} {c : Code} {T : State} {locs : List Loc} {cells slots : Nat} {Z : State} {a0 : Array Value} {h h' h0 : Heap} {a b : Addr} {k : ClassId} {ty : FieldType} {z j : Int32} {vs : List Value} {dv v : Value} {sl : Nat} {ws : List Addr}
theorem own_extkeep {h1 : Heap} (E : Ext h0 h1) (K : Keep h1 h' ws) (q : ∀ x ∈ ws, h0.size ≤ x) : Ext h0 h' := by
  refine ⟨Nat.le_trans E.1 K.1, fun b c hb => ?_⟩
  refine K.2.1 _ _ (E.2 _ _ hb) fun hm => ?_
  exact absurd (Array.getElem?_eq_some_iff.mp hb).1 (Nat.not_lt.mpr (q b hm))
theorem own_stI (X : Stand p l e R s m args below meth c T locs cells slots) (hx : p.tables.exec = Jvm.exec) (hZ : Z.Warmed39 s.vm) (eT : T.heap = h) (V : Arv Z h a k .int z vs dv)
    {x : Int32} (hj : ¬ j < 0 ∧ j < z) (i : Nat) (hi : j.toNatClampNeg = i) (hl : i < vs.length) {n0 : Nat} (N : Fr n0 locs) (ge0 : n0 ≤ a)
    {g : JFrame} (hg : g.method = m) {rest : List Value} (hs : g.stack = .int x :: .int j :: .ref a :: rest) (hd : decode c.code g.pc = .ok (.iastore, 1)) :
    ∃ (T' : State) (h' : Heap) (L : List Loc), Stand p l e R s m args below meth c T' L cells slots ∧ T'.heap = h' ∧ Wr h h' a j.toNatClampNeg (.int x) ∧ Arv Z h' a k .int z (vs.set i (.int x)) dv ∧ Fr n0 L ∧
      ∀ target, Steps p.tables e below (T'.setTop { g with pc := g.pc + 1, stack := rest }) target → Steps p.tables e below (T.setTop g) target := by
  obtain ⟨cl, A, q1, S, q3, H, G⟩ := V
  obtain ⟨T', h', X', e', W, st⟩ := stI X hx hZ eT A (x := x) (inb_of S hj) hg hs hd
  exact ⟨T', h', _, X', e', W, Arv.set A q1 S q3 H G rfl W i hi hl, Fr.snoc X' N ge0, st⟩
theorem own_stJ (X : Stand p l e R s m args below meth c T locs cells slots) (hx : p.tables.exec = Jvm.exec) (hZ : Z.Warmed39 s.vm) (eT : T.heap = h) (V : Arv Z h a k .long z vs dv)
    {x : Int64} (hj : ¬ j < 0 ∧ j < z) (i : Nat) (hi : j.toNatClampNeg = i) (hl : i < vs.length) {n0 : Nat} (N : Fr n0 locs) (ge0 : n0 ≤ a)
    {g : JFrame} (hg : g.method = m) {rest : List Value} (hs : g.stack = .long x :: .int j :: .ref a :: rest) (hd : decode c.code g.pc = .ok (.lastore, 1)) :
    ∃ (T' : State) (h' : Heap) (L : List Loc), Stand p l e R s m args below meth c T' L cells slots ∧ T'.heap = h' ∧ Wr h h' a j.toNatClampNeg (.long x) ∧ Arv Z h' a k .long z (vs.set i (.long x)) dv ∧ Fr n0 L ∧
      ∀ target, Steps p.tables e below (T'.setTop { g with pc := g.pc + 1, stack := rest }) target → Steps p.tables e below (T.setTop g) target := by
  obtain ⟨cl, A, q1, S, q3, H, G⟩ := V
  obtain ⟨T', h', X', e', W, st⟩ := stJ X hx hZ eT A (x := x) (inb_of S hj) hg hs hd
  exact ⟨T', h', _, X', e', W, Arv.set A q1 S q3 H G rfl W i hi hl, Fr.snoc X' N ge0, st⟩
theorem own_stRA (X : Stand p l e R s m args below meth c T locs cells slots) (hx : p.tables.exec = Jvm.exec) (hZ : Z.Warmed39 s.vm) (eT : T.heap = h) (V : Arv Z h a k (.array .int) z vs .null) (O : OvrA Z k .int "[I") {y : Addr} (I : Exa Z h y "[I")
    (hj : ¬ j < 0 ∧ j < z) (i : Nat) (hi : j.toNatClampNeg = i) (hl : i < vs.length) {n0 : Nat} (N : Fr n0 locs) (ge0 : n0 ≤ a)
    {g : JFrame} (hg : g.method = m) {rest : List Value} (hs : g.stack = .ref y :: .int j :: .ref a :: rest) (hd : decode c.code g.pc = .ok (.aastore, 1)) :
    ∃ (T' : State) (h' : Heap) (L : List Loc), Stand p l e R s m args below meth c T' L cells slots ∧ T'.heap = h' ∧ Wr h h' a j.toNatClampNeg (.ref y) ∧ Arv Z h' a k (.array .int) z (vs.set i (.ref y)) .null ∧ Fr n0 L ∧
      ∀ target, Steps p.tables e below (T'.setTop { g with pc := g.pc + 1, stack := rest }) target → Steps p.tables e below (T.setTop g) target := by
  obtain ⟨cl, A, q1, S, q3, H, G⟩ := V
  obtain ⟨T', h', X', e', W, st⟩ := stR X hx hZ eT A (inb_of S hj) rfl (Sto.ofVA A q1 O (Ins.self I)) hg hs hd
  exact ⟨T', h', _, X', e', W, Arv.set A q1 S q3 H G rfl W i hi hl, Fr.snoc X' N ge0, st⟩
theorem own_iaload (X : Stand p l e R s m args below meth c T locs cells slots) (hx : p.tables.exec = Jvm.exec) (hZ : Z.Warmed39 s.vm) (eT : T.heap = h) (V : Arv Z h a k .int z vs dv)
    (hj : ¬ j < 0 ∧ j < z) (u : vs.getD j.toNatClampNeg dv = v)
    {g : JFrame} (hg : g.method = m) {rest : List Value} (hs : g.stack = .int j :: .ref a :: rest) (hd : decode c.code g.pc = .ok (.iaload, 1)) :
    ∀ target, Steps p.tables e below (T.setTop { g with pc := g.pc + 1, stack := v :: rest }) target → Steps p.tables e below (T.setTop g) target := by
  obtain ⟨cl, A, q1, S, q3, H, G⟩ := V
  exact X.iaload hx (j := j) (v := v) (by rw [eT]; exact A.1) (State.isArrayOf_alike hZ.alike A.2.1) A.2.2 (inb_of S hj) (Has.at H (inb_of S hj) u) hg hs hd
theorem own_laload (X : Stand p l e R s m args below meth c T locs cells slots) (hx : p.tables.exec = Jvm.exec) (hZ : Z.Warmed39 s.vm) (eT : T.heap = h) (V : Arv Z h a k .long z vs dv)
    (hj : ¬ j < 0 ∧ j < z) (u : vs.getD j.toNatClampNeg dv = v)
    {g : JFrame} (hg : g.method = m) {rest : List Value} (hs : g.stack = .int j :: .ref a :: rest) (hd : decode c.code g.pc = .ok (.laload, 1)) :
    ∀ target, Steps p.tables e below (T.setTop { g with pc := g.pc + 1, stack := v :: rest }) target → Steps p.tables e below (T.setTop g) target := by
  obtain ⟨cl, A, q1, S, q3, H, G⟩ := V
  exact X.laload hx (j := j) (v := v) (by rw [eT]; exact A.1) (State.isArrayOf_alike hZ.alike A.2.1) A.2.2 (inb_of S hj) (Has.at H (inb_of S hj) u) hg hs hd
/-- an int[] of length z, whatever it holds -/
def own_IA (Z : State) (h : Heap) (a : Addr) (z : Int32) : Prop := ∃ (k : ClassId) (vs : List Value), vs.length = z.toNatClampNeg ∧ Arv Z h a k .int z vs (.int 0)
theorem own_IA.ext (F : own_IA Z h a z) (E : Ext h h') : own_IA Z h' a z := by obtain ⟨k, vs, q, V⟩ := F; exact ⟨k, vs, q, V.ext E⟩
theorem own_IA.other (F : own_IA Z h b z) (W : Wr h h' a sl v) (q : b ≠ a) : own_IA Z h' b z := by obtain ⟨k, vs, q1, V⟩ := F; exact ⟨k, vs, q1, V.other W q⟩
theorem own_IA.keep (F : own_IA Z h a z) (K : Keep h h' ws) (q : a ∉ ws) : own_IA Z h' a z := by obtain ⟨k, vs, q1, V⟩ := F; exact ⟨k, vs, q1, V.keep K q⟩
theorem own_IA.lt (F : own_IA Z h a z) : a < h.size := by obtain ⟨k, vs, q, V⟩ := F; exact V.lt
theorem own_IA.new (A : Arr Z h a (newA k .int z) .int) (q : ¬ z < 0) : own_IA Z h a z := ⟨k, [] ++ List.replicate z.toNatClampNeg (.int 0), by simp, (Arv.new A q).pad (pad_rep [] (.int 0) _)⟩
theorem own_IA.ne {C : String} {n : Nat} (F : own_IA Z h a z) (E : Exa Z h b C) (w : (Jvm.Cond.instantiable C n).before a0 Z = true) : b ≠ a := by obtain ⟨k, vs, q, V⟩ := F; exact E.neArv V w
/-- a long[8], whatever it holds -/
def own_JA (Z : State) (h : Heap) (a : Addr) : Prop := ∃ (k : ClassId) (vs : List Value), vs.length = 8 ∧ Arv Z h a k .long 8 vs (.long 0)
theorem own_JA.ext (F : own_JA Z h a) (E : Ext h h') : own_JA Z h' a := by obtain ⟨k, vs, q, V⟩ := F; exact ⟨k, vs, q, V.ext E⟩
theorem own_JA.other (F : own_JA Z h b) (W : Wr h h' a sl v) (q : b ≠ a) : own_JA Z h' b := by obtain ⟨k, vs, q1, V⟩ := F; exact ⟨k, vs, q1, V.other W q⟩
theorem own_JA.keep (F : own_JA Z h a) (K : Keep h h' ws) (q : a ∉ ws) : own_JA Z h' a := by obtain ⟨k, vs, q1, V⟩ := F; exact ⟨k, vs, q1, V.keep K q⟩
theorem own_JA.ne {C : String} {n : Nat} (F : own_JA Z h a) (E : Exa Z h b C) (w : (Jvm.Cond.instantiable C n).before a0 Z = true) : b ≠ a := by obtain ⟨k, vs, q, V⟩ := F; exact E.neArv V w
/-- an int[8][], whatever it holds -/
def own_RA (Z : State) (h : Heap) (a : Addr) : Prop := ∃ (k : ClassId) (vs : List Value), vs.length = 8 ∧ OvrA Z k .int "[I" ∧ Arv Z h a k (.array .int) 8 vs .null
theorem own_RA.ext (F : own_RA Z h a) (E : Ext h h') : own_RA Z h' a := by obtain ⟨k, vs, q, o, V⟩ := F; exact ⟨k, vs, q, o, V.ext E⟩
theorem own_RA.other (F : own_RA Z h b) (W : Wr h h' a sl v) (q : b ≠ a) : own_RA Z h' b := by obtain ⟨k, vs, q1, o, V⟩ := F; exact ⟨k, vs, q1, o, V.other W q⟩
theorem own_RA.keep (F : own_RA Z h a) (K : Keep h h' ws) (q : a ∉ ws) : own_RA Z h' a := by obtain ⟨k, vs, q1, o, V⟩ := F; exact ⟨k, vs, q1, o, V.keep K q⟩
theorem own_RA.ne {C : String} {n : Nat} (F : own_RA Z h a) (E : Exa Z h b C) (w : (Jvm.Cond.instantiable C n).before a0 Z = true) : b ≠ a := by obtain ⟨k, vs, q, o, V⟩ := F; exact E.neArv V w
/-- the long[8] that holds F 0, F 1, F 2 and zeros -/
def own_LA (Z : State) (h : Heap) (a : Addr) (F : Int32 → Int64) : Prop := ∃ k : ClassId, Arv Z h a k .long 8 [.long (F 0), .long (F 1), .long (F 2), .long 0, .long 0, .long 0, .long 0, .long 0] (.long 0)
theorem own_LA.ext {F : Int32 → Int64} (G : own_LA Z h a F) (E : Ext h h') : own_LA Z h' a F := by obtain ⟨k, V⟩ := G; exact ⟨k, V.ext E⟩
theorem own_LA.other {F : Int32 → Int64} (G : own_LA Z h b F) (W : Wr h h' a sl v) (q : b ≠ a) : own_LA Z h' b F := by obtain ⟨k, V⟩ := G; exact ⟨k, V.other W q⟩
theorem own_LA.keep {F : Int32 → Int64} (G : own_LA Z h a F) (K : Keep h h' ws) (q : a ∉ ws) : own_LA Z h' a F := by obtain ⟨k, V⟩ := G; exact ⟨k, V.keep K q⟩
theorem own_LA.ne {F : Int32 → Int64} {C : String} {n : Nat} (G : own_LA Z h a F) (E : Exa Z h b C) (w : (Jvm.Cond.instantiable C n).before a0 Z = true) : b ≠ a := by obtain ⟨k, V⟩ := G; exact E.neArv V w
theorem own_JA.lt (F : own_JA Z h a) : a < h.size := by obtain ⟨k, vs, q, V⟩ := F; exact V.lt
theorem own_RA.lt (F : own_RA Z h a) : a < h.size := by obtain ⟨k, vs, q, o, V⟩ := F; exact V.lt
theorem own_LA.lt {F : Int32 → Int64} (G : own_LA Z h a F) : a < h.size := by obtain ⟨k, V⟩ := G; exact V.lt
theorem own_nin1 {x y : Addr} (q : x ≠ y) : x ∉ [y] := ninS q nin0
theorem own_nin2 {x y w : Addr} (q : x ≠ y) (r : x ≠ w) : x ∉ [y, w] := ninS q (ninS r nin0)
theorem own_nin3 {x y w u : Addr} (q : x ≠ y) (r : x ≠ w) (t : x ≠ u) : x ∉ [y, w, u] := ninS q (ninS r (ninS t nin0))
theorem own_nelt {x y n : Nat} (q : x < n) (r : n ≤ y) : x ≠ y := Nat.ne_of_lt (Nat.lt_of_lt_of_le q r)
end Own4

theorem dARR_0 : decode method_2_code 0 = .ok (.iload_n 0, 1) := by decide +kernel
theorem dARR_1 : decode method_2_code 1 = .ok (.iconst 1, 1) := by decide +kernel
theorem dARR_2 : decode method_2_code 2 = .ok (.iand, 1) := by decide +kernel
theorem dARR_3 : decode method_2_code 3 = .ok (.iload_n 0, 1) := by decide +kernel
theorem dARR_4 : decode method_2_code 4 = .ok (.iconst 1, 1) := by decide +kernel
theorem dARR_5 : decode method_2_code 5 = .ok (.ishr, 1) := by decide +kernel
theorem dARR_6 : decode method_2_code 6 = .ok (.iconst 1, 1) := by decide +kernel
theorem dARR_7 : decode method_2_code 7 = .ok (.iand, 1) := by decide +kernel
theorem dARR_8 : decode method_2_code 8 = .ok (.iadd, 1) := by decide +kernel
theorem dARR_9 : decode method_2_code 9 = .ok (.iload_n 0, 1) := by decide +kernel
theorem dARR_10 : decode method_2_code 10 = .ok (.iconst 2, 1) := by decide +kernel
theorem dARR_11 : decode method_2_code 11 = .ok (.ishr, 1) := by decide +kernel
theorem dARR_12 : decode method_2_code 12 = .ok (.iconst 1, 1) := by decide +kernel
theorem dARR_13 : decode method_2_code 13 = .ok (.iand, 1) := by decide +kernel
theorem dARR_14 : decode method_2_code 14 = .ok (.iadd, 1) := by decide +kernel
theorem dARR_15 : decode method_2_code 15 = .ok (.istore_n 1, 1) := by decide +kernel
theorem dARR_16 : decode method_2_code 16 = .ok (.iload_n 1, 1) := by decide +kernel
theorem dARR_17 : decode method_2_code 17 = .ok (.newarray .int, 2) := by decide +kernel
theorem dARR_19 : decode method_2_code 19 = .ok (.astore_n 2, 1) := by decide +kernel
theorem dARR_20 : decode method_2_code 20 = .ok (.iconst 0, 1) := by decide +kernel
theorem dARR_21 : decode method_2_code 21 = .ok (.istore_n 3, 1) := by decide +kernel
theorem dARR_22 : decode method_2_code 22 = .ok (.iload_n 0, 1) := by decide +kernel
theorem dARR_23 : decode method_2_code 23 = .ok (.iconst 4, 1) := by decide +kernel
theorem dARR_24 : decode method_2_code 24 = .ok (.iand, 1) := by decide +kernel
theorem dARR_25 : decode method_2_code 25 = .ok (.ifCond .eq 10, 3) := by decide +kernel
theorem dARR_28 : decode method_2_code 28 = .ok (.aload_n 2, 1) := by decide +kernel
theorem dARR_29 : decode method_2_code 29 = .ok (.iload_n 3, 1) := by decide +kernel
theorem dARR_30 : decode method_2_code 30 = .ok (.iconst 2, 1) := by decide +kernel
theorem dARR_31 : decode method_2_code 31 = .ok (.iastore, 1) := by decide +kernel
theorem dARR_32 : decode method_2_code 32 = .ok (.iinc 3 1, 3) := by decide +kernel
theorem dARR_35 : decode method_2_code 35 = .ok (.iload_n 0, 1) := by decide +kernel
theorem dARR_36 : decode method_2_code 36 = .ok (.iconst 2, 1) := by decide +kernel
theorem dARR_37 : decode method_2_code 37 = .ok (.iand, 1) := by decide +kernel
theorem dARR_38 : decode method_2_code 38 = .ok (.ifCond .eq 10, 3) := by decide +kernel
theorem dARR_41 : decode method_2_code 41 = .ok (.aload_n 2, 1) := by decide +kernel
theorem dARR_42 : decode method_2_code 42 = .ok (.iload_n 3, 1) := by decide +kernel
theorem dARR_43 : decode method_2_code 43 = .ok (.iconst 1, 1) := by decide +kernel
theorem dARR_44 : decode method_2_code 44 = .ok (.iastore, 1) := by decide +kernel
theorem dARR_45 : decode method_2_code 45 = .ok (.iinc 3 1, 3) := by decide +kernel
theorem dARR_48 : decode method_2_code 48 = .ok (.iload_n 0, 1) := by decide +kernel
theorem dARR_49 : decode method_2_code 49 = .ok (.iconst 1, 1) := by decide +kernel
theorem dARR_50 : decode method_2_code 50 = .ok (.iand, 1) := by decide +kernel
theorem dARR_51 : decode method_2_code 51 = .ok (.ifCond .eq 10, 3) := by decide +kernel
theorem dARR_54 : decode method_2_code 54 = .ok (.aload_n 2, 1) := by decide +kernel
theorem dARR_55 : decode method_2_code 55 = .ok (.iload_n 3, 1) := by decide +kernel
theorem dARR_56 : decode method_2_code 56 = .ok (.iconst 0, 1) := by decide +kernel
theorem dARR_57 : decode method_2_code 57 = .ok (.iastore, 1) := by decide +kernel
theorem dARR_58 : decode method_2_code 58 = .ok (.iinc 3 1, 3) := by decide +kernel
theorem dARR_61 : decode method_2_code 61 = .ok (.aload_n 2, 1) := by decide +kernel
theorem dARR_62 : decode method_2_code 62 = .ok (.areturn, 1) := by decide +kernel
theorem dIXI_0 : decode prog_40_method_1_code 0 = .ok (.aload_n 0, 1) := by decide +kernel
theorem dIXI_1 : decode prog_40_method_1_code 1 = .ok (.invokespecial 1, 3) := by decide +kernel
theorem dIXI_4 : decode prog_40_method_1_code 4 = .ok (.aload_n 0, 1) := by decide +kernel
theorem dIXI_5 : decode prog_40_method_1_code 5 = .ok (.bipush 8, 2) := by decide +kernel
theorem dIXI_7 : decode prog_40_method_1_code 7 = .ok (.newarray .int, 2) := by decide +kernel
theorem dIXI_9 : decode prog_40_method_1_code 9 = .ok (.putfield 7, 3) := by decide +kernel
theorem dIXI_12 : decode prog_40_method_1_code 12 = .ok (.aload_n 0, 1) := by decide +kernel
theorem dIXI_13 : decode prog_40_method_1_code 13 = .ok (.iconst 0, 1) := by decide +kernel
theorem dIXI_14 : decode prog_40_method_1_code 14 = .ok (.newarray .int, 2) := by decide +kernel
theorem dIXI_16 : decode prog_40_method_1_code 16 = .ok (.putfield 13, 3) := by decide +kernel
theorem dIXI_19 : decode prog_40_method_1_code 19 = .ok (.aload_n 0, 1) := by decide +kernel
theorem dIXI_20 : decode prog_40_method_1_code 20 = .ok (.bipush 16, 2) := by decide +kernel
theorem dIXI_22 : decode prog_40_method_1_code 22 = .ok (.newarray .int, 2) := by decide +kernel
theorem dIXI_24 : decode prog_40_method_1_code 24 = .ok (.putfield 16, 3) := by decide +kernel
theorem dIXI_27 : decode prog_40_method_1_code 27 = .ok (.return_, 1) := by decide +kernel
theorem dNTI_0 : decode prog_44_method_2_code 0 = .ok (.aload_n 0, 1) := by decide +kernel
theorem dNTI_1 : decode prog_44_method_2_code 1 = .ok (.invokespecial 12, 3) := by decide +kernel
theorem dNTI_4 : decode prog_44_method_2_code 4 = .ok (.aload_n 0, 1) := by decide +kernel
theorem dNTI_5 : decode prog_44_method_2_code 5 = .ok (.bipush 8, 2) := by decide +kernel
theorem dNTI_7 : decode prog_44_method_2_code 7 = .ok (.anewarray 15, 3) := by decide +kernel
theorem dNTI_10 : decode prog_44_method_2_code 10 = .ok (.putfield 17, 3) := by decide +kernel
theorem dNTI_13 : decode prog_44_method_2_code 13 = .ok (.aload_n 0, 1) := by decide +kernel
theorem dNTI_14 : decode prog_44_method_2_code 14 = .ok (.bipush 8, 2) := by decide +kernel
theorem dNTI_16 : decode prog_44_method_2_code 16 = .ok (.newarray .long, 2) := by decide +kernel
theorem dNTI_18 : decode prog_44_method_2_code 18 = .ok (.putfield 21, 3) := by decide +kernel
theorem dNTI_21 : decode prog_44_method_2_code 21 = .ok (.aload_n 0, 1) := by decide +kernel
theorem dNTI_22 : decode prog_44_method_2_code 22 = .ok (.bipush 8, 2) := by decide +kernel
theorem dNTI_24 : decode prog_44_method_2_code 24 = .ok (.newarray .long, 2) := by decide +kernel
theorem dNTI_26 : decode prog_44_method_2_code 26 = .ok (.putfield 25, 3) := by decide +kernel
theorem dNTI_29 : decode prog_44_method_2_code 29 = .ok (.aload_n 0, 1) := by decide +kernel
theorem dNTI_30 : decode prog_44_method_2_code 30 = .ok (.aload_n 1, 1) := by decide +kernel
theorem dNTI_31 : decode prog_44_method_2_code 31 = .ok (.putfield 28, 3) := by decide +kernel
theorem dNTI_34 : decode prog_44_method_2_code 34 = .ok (.return_, 1) := by decide +kernel
theorem dNTA_0 : decode prog_44_method_6_code 0 = .ok (.aload_n 0, 1) := by decide +kernel
theorem dNTA_1 : decode prog_44_method_6_code 1 = .ok (.getfield 28, 3) := by decide +kernel
theorem dNTA_4 : decode prog_44_method_6_code 4 = .ok (.iload_n 1, 1) := by decide +kernel
theorem dNTA_5 : decode prog_44_method_6_code 5 = .ok (.invokevirtual 43, 3) := by decide +kernel
theorem dNTA_8 : decode prog_44_method_6_code 8 = .ok (.ireturn, 1) := by decide +kernel
theorem dIXA_0 : decode prog_40_method_5_code 0 = .ok (.aload_n 0, 1) := by decide +kernel
theorem dIXA_1 : decode prog_40_method_5_code 1 = .ok (.iload_n 1, 1) := by decide +kernel
theorem dIXA_2 : decode prog_40_method_5_code 2 = .ok (.invokevirtual 36, 3) := by decide +kernel
theorem dIXA_5 : decode prog_40_method_5_code 5 = .ok (.istore_n 2, 1) := by decide +kernel
theorem dIXA_6 : decode prog_40_method_5_code 6 = .ok (.iload_n 2, 1) := by decide +kernel
theorem dIXA_7 : decode prog_40_method_5_code 7 = .ok (.ifCond .lt 5, 3) := by decide +kernel
theorem dIXA_12 : decode prog_40_method_5_code 12 = .ok (.aload_n 0, 1) := by decide +kernel
theorem dIXA_13 : decode prog_40_method_5_code 13 = .ok (.getfield 19, 3) := by decide +kernel
theorem dIXA_16 : decode prog_40_method_5_code 16 = .ok (.aload_n 0, 1) := by decide +kernel
theorem dIXA_17 : decode prog_40_method_5_code 17 = .ok (.getfield 7, 3) := by decide +kernel
theorem dIXA_20 : decode prog_40_method_5_code 20 = .ok (.arraylength, 1) := by decide +kernel
theorem dIXA_21 : decode prog_40_method_5_code 21 = .ok (.if_icmp .ne 20, 3) := by decide +kernel
theorem dIXA_41 : decode prog_40_method_5_code 41 = .ok (.aload_n 0, 1) := by decide +kernel
theorem dIXA_42 : decode prog_40_method_5_code 42 = .ok (.getfield 7, 3) := by decide +kernel
theorem dIXA_45 : decode prog_40_method_5_code 45 = .ok (.aload_n 0, 1) := by decide +kernel
theorem dIXA_46 : decode prog_40_method_5_code 46 = .ok (.getfield 19, 3) := by decide +kernel
theorem dIXA_49 : decode prog_40_method_5_code 49 = .ok (.iload_n 1, 1) := by decide +kernel
theorem dIXA_50 : decode prog_40_method_5_code 50 = .ok (.iastore, 1) := by decide +kernel
theorem dIXA_51 : decode prog_40_method_5_code 51 = .ok (.aload_n 0, 1) := by decide +kernel
theorem dIXA_52 : decode prog_40_method_5_code 52 = .ok (.dup, 1) := by decide +kernel
theorem dIXA_53 : decode prog_40_method_5_code 53 = .ok (.getfield 19, 3) := by decide +kernel
theorem dIXA_56 : decode prog_40_method_5_code 56 = .ok (.iconst 1, 1) := by decide +kernel
theorem dIXA_57 : decode prog_40_method_5_code 57 = .ok (.iadd, 1) := by decide +kernel
theorem dIXA_58 : decode prog_40_method_5_code 58 = .ok (.putfield 19, 3) := by decide +kernel
theorem dIXA_61 : decode prog_40_method_5_code 61 = .ok (.iload_n 1, 1) := by decide +kernel
theorem dIXA_62 : decode prog_40_method_5_code 62 = .ok (.ifCond .lt 62, 3) := by decide +kernel
theorem dIXA_65 : decode prog_40_method_5_code 65 = .ok (.iload_n 1, 1) := by decide +kernel
theorem dIXA_66 : decode prog_40_method_5_code 66 = .ok (.sipush 1024, 3) := by decide +kernel
theorem dIXA_69 : decode prog_40_method_5_code 69 = .ok (.if_icmp .ge 55, 3) := by decide +kernel
theorem dIXA_72 : decode prog_40_method_5_code 72 = .ok (.iload_n 1, 1) := by decide +kernel
theorem dIXA_73 : decode prog_40_method_5_code 73 = .ok (.aload_n 0, 1) := by decide +kernel
theorem dIXA_74 : decode prog_40_method_5_code 74 = .ok (.getfield 13, 3) := by decide +kernel
theorem dIXA_77 : decode prog_40_method_5_code 77 = .ok (.arraylength, 1) := by decide +kernel
theorem dIXA_78 : decode prog_40_method_5_code 78 = .ok (.if_icmp .lt 33, 3) := by decide +kernel
theorem dIXA_81 : decode prog_40_method_5_code 81 = .ok (.aload_n 0, 1) := by decide +kernel
theorem dIXA_82 : decode prog_40_method_5_code 82 = .ok (.aload_n 0, 1) := by decide +kernel
theorem dIXA_83 : decode prog_40_method_5_code 83 = .ok (.getfield 13, 3) := by decide +kernel
theorem dIXA_86 : decode prog_40_method_5_code 86 = .ok (.sipush 1024, 3) := by decide +kernel
theorem dIXA_89 : decode prog_40_method_5_code 89 = .ok (.iconst 2, 1) := by decide +kernel
theorem dIXA_90 : decode prog_40_method_5_code 90 = .ok (.aload_n 0, 1) := by decide +kernel
theorem dIXA_91 : decode prog_40_method_5_code 91 = .ok (.getfield 13, 3) := by decide +kernel
theorem dIXA_94 : decode prog_40_method_5_code 94 = .ok (.arraylength, 1) := by decide +kernel
theorem dIXA_95 : decode prog_40_method_5_code 95 = .ok (.imul, 1) := by decide +kernel
theorem dIXA_96 : decode prog_40_method_5_code 96 = .ok (.iload_n 1, 1) := by decide +kernel
theorem dIXA_97 : decode prog_40_method_5_code 97 = .ok (.iconst 1, 1) := by decide +kernel
theorem dIXA_98 : decode prog_40_method_5_code 98 = .ok (.iadd, 1) := by decide +kernel
theorem dIXA_99 : decode prog_40_method_5_code 99 = .ok (.invokestatic 45, 3) := by decide +kernel
theorem dIXA_102 : decode prog_40_method_5_code 102 = .ok (.invokestatic 51, 3) := by decide +kernel
theorem dIXA_105 : decode prog_40_method_5_code 105 = .ok (.invokestatic 39, 3) := by decide +kernel
theorem dIXA_108 : decode prog_40_method_5_code 108 = .ok (.putfield 13, 3) := by decide +kernel
theorem dIXA_111 : decode prog_40_method_5_code 111 = .ok (.aload_n 0, 1) := by decide +kernel
theorem dIXA_112 : decode prog_40_method_5_code 112 = .ok (.getfield 13, 3) := by decide +kernel
theorem dIXA_115 : decode prog_40_method_5_code 115 = .ok (.iload_n 1, 1) := by decide +kernel
theorem dIXA_116 : decode prog_40_method_5_code 116 = .ok (.aload_n 0, 1) := by decide +kernel
theorem dIXA_117 : decode prog_40_method_5_code 117 = .ok (.getfield 19, 3) := by decide +kernel
theorem dIXA_120 : decode prog_40_method_5_code 120 = .ok (.iastore, 1) := by decide +kernel
theorem dIXA_121 : decode prog_40_method_5_code 121 = .ok (.goto 92, 3) := by decide +kernel
theorem dIXA_213 : decode prog_40_method_5_code 213 = .ok (.aload_n 0, 1) := by decide +kernel
theorem dIXA_214 : decode prog_40_method_5_code 214 = .ok (.getfield 19, 3) := by decide +kernel
theorem dIXA_217 : decode prog_40_method_5_code 217 = .ok (.iconst 1, 1) := by decide +kernel
theorem dIXA_218 : decode prog_40_method_5_code 218 = .ok (.isub, 1) := by decide +kernel
theorem dIXA_219 : decode prog_40_method_5_code 219 = .ok (.ireturn, 1) := by decide +kernel
theorem dFND_0 : decode prog_40_method_4_code 0 = .ok (.iload_n 1, 1) := by decide +kernel
theorem dFND_1 : decode prog_40_method_4_code 1 = .ok (.ifCond .lt 32, 3) := by decide +kernel
theorem dFND_4 : decode prog_40_method_4_code 4 = .ok (.iload_n 1, 1) := by decide +kernel
theorem dFND_5 : decode prog_40_method_4_code 5 = .ok (.sipush 1024, 3) := by decide +kernel
theorem dFND_8 : decode prog_40_method_4_code 8 = .ok (.if_icmp .ge 25, 3) := by decide +kernel
theorem dFND_11 : decode prog_40_method_4_code 11 = .ok (.iload_n 1, 1) := by decide +kernel
theorem dFND_12 : decode prog_40_method_4_code 12 = .ok (.aload_n 0, 1) := by decide +kernel
theorem dFND_13 : decode prog_40_method_4_code 13 = .ok (.getfield 13, 3) := by decide +kernel
theorem dFND_16 : decode prog_40_method_4_code 16 = .ok (.arraylength, 1) := by decide +kernel
theorem dFND_17 : decode prog_40_method_4_code 17 = .ok (.if_icmp .ge 14, 3) := by decide +kernel
theorem dFND_31 : decode prog_40_method_4_code 31 = .ok (.iconst (-1), 1) := by decide +kernel
theorem dFND_32 : decode prog_40_method_4_code 32 = .ok (.ireturn, 1) := by decide +kernel
theorem dMAX_0 : decode jdk_29_method_65_code 0 = .ok (.iload_n 0, 1) := by decide +kernel
theorem dMAX_1 : decode jdk_29_method_65_code 1 = .ok (.iload_n 1, 1) := by decide +kernel
theorem dMAX_2 : decode jdk_29_method_65_code 2 = .ok (.if_icmp .lt 7, 3) := by decide +kernel
theorem dMAX_5 : decode jdk_29_method_65_code 5 = .ok (.iload_n 0, 1) := by decide +kernel
theorem dMAX_6 : decode jdk_29_method_65_code 6 = .ok (.goto 4, 3) := by decide +kernel
theorem dMAX_9 : decode jdk_29_method_65_code 9 = .ok (.iload_n 1, 1) := by decide +kernel
theorem dMAX_10 : decode jdk_29_method_65_code 10 = .ok (.ireturn, 1) := by decide +kernel
theorem dMIN_0 : decode jdk_29_method_69_code 0 = .ok (.iload_n 0, 1) := by decide +kernel
theorem dMIN_1 : decode jdk_29_method_69_code 1 = .ok (.iload_n 1, 1) := by decide +kernel
theorem dMIN_2 : decode jdk_29_method_69_code 2 = .ok (.if_icmp .gt 7, 3) := by decide +kernel
theorem dMIN_5 : decode jdk_29_method_69_code 5 = .ok (.iload_n 0, 1) := by decide +kernel
theorem dMIN_6 : decode jdk_29_method_69_code 6 = .ok (.goto 4, 3) := by decide +kernel
theorem dMIN_9 : decode jdk_29_method_69_code 9 = .ok (.iload_n 1, 1) := by decide +kernel
theorem dMIN_10 : decode jdk_29_method_69_code 10 = .ok (.ireturn, 1) := by decide +kernel
theorem dCPY_0 : decode jdk_65_method_123_code 0 = .ok (.iload_n 1, 1) := by decide +kernel
theorem dCPY_1 : decode jdk_65_method_123_code 1 = .ok (.aload_n 0, 1) := by decide +kernel
theorem dCPY_2 : decode jdk_65_method_123_code 2 = .ok (.arraylength, 1) := by decide +kernel
theorem dCPY_3 : decode jdk_65_method_123_code 3 = .ok (.if_icmp .ne 11, 3) := by decide +kernel
theorem dCPY_14 : decode jdk_65_method_123_code 14 = .ok (.iload_n 1, 1) := by decide +kernel
theorem dCPY_15 : decode jdk_65_method_123_code 15 = .ok (.newarray .int, 2) := by decide +kernel
theorem dCPY_17 : decode jdk_65_method_123_code 17 = .ok (.astore_n 2, 1) := by decide +kernel
theorem dCPY_18 : decode jdk_65_method_123_code 18 = .ok (.aload_n 0, 1) := by decide +kernel
theorem dCPY_19 : decode jdk_65_method_123_code 19 = .ok (.iconst 0, 1) := by decide +kernel
theorem dCPY_20 : decode jdk_65_method_123_code 20 = .ok (.aload_n 2, 1) := by decide +kernel
theorem dCPY_21 : decode jdk_65_method_123_code 21 = .ok (.iconst 0, 1) := by decide +kernel
theorem dCPY_22 : decode jdk_65_method_123_code 22 = .ok (.aload_n 0, 1) := by decide +kernel
theorem dCPY_23 : decode jdk_65_method_123_code 23 = .ok (.arraylength, 1) := by decide +kernel
theorem dCPY_24 : decode jdk_65_method_123_code 24 = .ok (.iload_n 1, 1) := by decide +kernel
theorem dCPY_25 : decode jdk_65_method_123_code 25 = .ok (.invokestatic 304, 3) := by decide +kernel
theorem dCPY_28 : decode jdk_65_method_123_code 28 = .ok (.invokestatic 150, 3) := by decide +kernel
theorem dCPY_31 : decode jdk_65_method_123_code 31 = .ok (.aload_n 2, 1) := by decide +kernel
theorem dCPY_32 : decode jdk_65_method_123_code 32 = .ok (.areturn, 1) := by decide +kernel
theorem dLST_0 : decode prog_44_method_8_code 0 = .ok (.aload_n 0, 1) := by decide +kernel
theorem dLST_1 : decode prog_44_method_8_code 1 = .ok (.invokevirtual 49, 3) := by decide +kernel
theorem dLST_4 : decode prog_44_method_8_code 4 = .ok (.aload_n 0, 1) := by decide +kernel
theorem dLST_5 : decode prog_44_method_8_code 5 = .ok (.getfield 17, 3) := by decide +kernel
theorem dLST_8 : decode prog_44_method_8_code 8 = .ok (.arraylength, 1) := by decide +kernel
theorem dLST_9 : decode prog_44_method_8_code 9 = .ok (.if_icmp .le 57, 3) := by decide +kernel
theorem dLST_66 : decode prog_44_method_8_code 66 = .ok (.aload_n 0, 1) := by decide +kernel
theorem dLST_67 : decode prog_44_method_8_code 67 = .ok (.invokevirtual 66, 3) := by decide +kernel
theorem dLST_70 : decode prog_44_method_8_code 70 = .ok (.ifCond .eq 95, 3) := by decide +kernel
theorem dLST_73 : decode prog_44_method_8_code 73 = .ok (.lconst 0, 1) := by decide +kernel
theorem dLST_74 : decode prog_44_method_8_code 74 = .ok (.lstore_n 3, 1) := by decide +kernel
theorem dLST_75 : decode prog_44_method_8_code 75 = .ok (.aload_n 2, 1) := by decide +kernel
theorem dLST_76 : decode prog_44_method_8_code 76 = .ok (.astore 5, 2) := by decide +kernel
theorem dLST_78 : decode prog_44_method_8_code 78 = .ok (.aload 5, 2) := by decide +kernel
theorem dLST_80 : decode prog_44_method_8_code 80 = .ok (.arraylength, 1) := by decide +kernel
theorem dLST_81 : decode prog_44_method_8_code 81 = .ok (.istore 6, 2) := by decide +kernel
theorem dLST_83 : decode prog_44_method_8_code 83 = .ok (.iconst 0, 1) := by decide +kernel
theorem dLST_84 : decode prog_44_method_8_code 84 = .ok (.istore 7, 2) := by decide +kernel
theorem dLST_86 : decode prog_44_method_8_code 86 = .ok (.iload 7, 2) := by decide +kernel
theorem dLST_88 : decode prog_44_method_8_code 88 = .ok (.iload 6, 2) := by decide +kernel
theorem dLST_90 : decode prog_44_method_8_code 90 = .ok (.if_icmp .ge 23, 3) := by decide +kernel
theorem dLST_93 : decode prog_44_method_8_code 93 = .ok (.aload 5, 2) := by decide +kernel
theorem dLST_95 : decode prog_44_method_8_code 95 = .ok (.iload 7, 2) := by decide +kernel
theorem dLST_97 : decode prog_44_method_8_code 97 = .ok (.iaload, 1) := by decide +kernel
theorem dLST_98 : decode prog_44_method_8_code 98 = .ok (.istore 8, 2) := by decide +kernel
theorem dLST_100 : decode prog_44_method_8_code 100 = .ok (.lload_n 3, 1) := by decide +kernel
theorem dLST_101 : decode prog_44_method_8_code 101 = .ok (.lconst 1, 1) := by decide +kernel
theorem dLST_102 : decode prog_44_method_8_code 102 = .ok (.iload 8, 2) := by decide +kernel
theorem dLST_104 : decode prog_44_method_8_code 104 = .ok (.lshl, 1) := by decide +kernel
theorem dLST_105 : decode prog_44_method_8_code 105 = .ok (.lor, 1) := by decide +kernel
theorem dLST_106 : decode prog_44_method_8_code 106 = .ok (.lstore_n 3, 1) := by decide +kernel
theorem dLST_107 : decode prog_44_method_8_code 107 = .ok (.iinc 7 1, 3) := by decide +kernel
theorem dLST_110 : decode prog_44_method_8_code 110 = .ok (.goto (-24), 3) := by decide +kernel
theorem dLST_113 : decode prog_44_method_8_code 113 = .ok (.lload_n 3, 1) := by decide +kernel
theorem dLST_114 : decode prog_44_method_8_code 114 = .ok (.aload_n 0, 1) := by decide +kernel
theorem dLST_115 : decode prog_44_method_8_code 115 = .ok (.getfield 21, 3) := by decide +kernel
theorem dLST_118 : decode prog_44_method_8_code 118 = .ok (.iload_n 1, 1) := by decide +kernel
theorem dLST_119 : decode prog_44_method_8_code 119 = .ok (.laload, 1) := by decide +kernel
theorem dLST_120 : decode prog_44_method_8_code 120 = .ok (.lxor, 1) := by decide +kernel
theorem dLST_121 : decode prog_44_method_8_code 121 = .ok (.lstore 5, 2) := by decide +kernel
theorem dLST_123 : decode prog_44_method_8_code 123 = .ok (.lload 5, 2) := by decide +kernel
theorem dLST_125 : decode prog_44_method_8_code 125 = .ok (.lconst 0, 1) := by decide +kernel
theorem dLST_126 : decode prog_44_method_8_code 126 = .ok (.lcmp, 1) := by decide +kernel
theorem dLST_127 : decode prog_44_method_8_code 127 = .ok (.ifCond .eq 31, 3) := by decide +kernel
theorem dLST_130 : decode prog_44_method_8_code 130 = .ok (.aload_n 0, 1) := by decide +kernel
theorem dLST_131 : decode prog_44_method_8_code 131 = .ok (.getfield 25, 3) := by decide +kernel
theorem dLST_134 : decode prog_44_method_8_code 134 = .ok (.lload 5, 2) := by decide +kernel
theorem dLST_136 : decode prog_44_method_8_code 136 = .ok (.invokestatic 70, 3) := by decide +kernel
theorem dLST_139 : decode prog_44_method_8_code 139 = .ok (.dup2, 1) := by decide +kernel
theorem dLST_140 : decode prog_44_method_8_code 140 = .ok (.laload, 1) := by decide +kernel
theorem dLST_141 : decode prog_44_method_8_code 141 = .ok (.lconst 1, 1) := by decide +kernel
theorem dLST_142 : decode prog_44_method_8_code 142 = .ok (.iload_n 1, 1) := by decide +kernel
theorem dLST_143 : decode prog_44_method_8_code 143 = .ok (.lshl, 1) := by decide +kernel
theorem dLST_144 : decode prog_44_method_8_code 144 = .ok (.lxor, 1) := by decide +kernel
theorem dLST_145 : decode prog_44_method_8_code 145 = .ok (.lastore, 1) := by decide +kernel
theorem dLST_146 : decode prog_44_method_8_code 146 = .ok (.lload 5, 2) := by decide +kernel
theorem dLST_148 : decode prog_44_method_8_code 148 = .ok (.lload 5, 2) := by decide +kernel
theorem dLST_150 : decode prog_44_method_8_code 150 = .ok (.lconst 1, 1) := by decide +kernel
theorem dLST_151 : decode prog_44_method_8_code 151 = .ok (.lsub, 1) := by decide +kernel
theorem dLST_152 : decode prog_44_method_8_code 152 = .ok (.land, 1) := by decide +kernel
theorem dLST_153 : decode prog_44_method_8_code 153 = .ok (.lstore 5, 2) := by decide +kernel
theorem dLST_155 : decode prog_44_method_8_code 155 = .ok (.goto (-32), 3) := by decide +kernel
theorem dLST_158 : decode prog_44_method_8_code 158 = .ok (.aload_n 0, 1) := by decide +kernel
theorem dLST_159 : decode prog_44_method_8_code 159 = .ok (.getfield 21, 3) := by decide +kernel
theorem dLST_162 : decode prog_44_method_8_code 162 = .ok (.iload_n 1, 1) := by decide +kernel
theorem dLST_163 : decode prog_44_method_8_code 163 = .ok (.lload_n 3, 1) := by decide +kernel
theorem dLST_164 : decode prog_44_method_8_code 164 = .ok (.lastore, 1) := by decide +kernel
theorem dLST_165 : decode prog_44_method_8_code 165 = .ok (.aload_n 0, 1) := by decide +kernel
theorem dLST_166 : decode prog_44_method_8_code 166 = .ok (.getfield 17, 3) := by decide +kernel
theorem dLST_169 : decode prog_44_method_8_code 169 = .ok (.iload_n 1, 1) := by decide +kernel
theorem dLST_170 : decode prog_44_method_8_code 170 = .ok (.aload_n 2, 1) := by decide +kernel
theorem dLST_171 : decode prog_44_method_8_code 171 = .ok (.aastore, 1) := by decide +kernel
theorem dLST_172 : decode prog_44_method_8_code 172 = .ok (.return_, 1) := by decide +kernel
theorem dNTS_0 : decode prog_44_method_3_code 0 = .ok (.aload_n 0, 1) := by decide +kernel
theorem dNTS_1 : decode prog_44_method_3_code 1 = .ok (.getfield 28, 3) := by decide +kernel
theorem dNTS_4 : decode prog_44_method_3_code 4 = .ok (.invokevirtual 32, 3) := by decide +kernel
theorem dNTS_7 : decode prog_44_method_3_code 7 = .ok (.ireturn, 1) := by decide +kernel
theorem dIXS_0 : decode prog_40_method_2_code 0 = .ok (.aload_n 0, 1) := by decide +kernel
theorem dIXS_1 : decode prog_40_method_2_code 1 = .ok (.getfield 19, 3) := by decide +kernel
theorem dIXS_4 : decode prog_40_method_2_code 4 = .ok (.ireturn, 1) := by decide +kernel
theorem dHAS_0 : decode prog_44_method_9_code 0 = .ok (.aload_n 0, 1) := by decide +kernel
theorem dHAS_1 : decode prog_44_method_9_code 1 = .ok (.getfield 28, 3) := by decide +kernel
theorem dHAS_4 : decode prog_44_method_9_code 4 = .ok (.invokevirtual 32, 3) := by decide +kernel
theorem dHAS_7 : decode prog_44_method_9_code 7 = .ok (.bipush 64, 2) := by decide +kernel
theorem dHAS_9 : decode prog_44_method_9_code 9 = .ok (.if_icmp .gt 7, 3) := by decide +kernel
theorem dHAS_12 : decode prog_44_method_9_code 12 = .ok (.iconst 1, 1) := by decide +kernel
theorem dHAS_13 : decode prog_44_method_9_code 13 = .ok (.goto 4, 3) := by decide +kernel
theorem dHAS_17 : decode prog_44_method_9_code 17 = .ok (.ireturn, 1) := by decide +kernel
theorem dLNT_0 : decode jdk_35_method_49_code 0 = .ok (.lload_n 0, 1) := by decide +kernel
theorem dLNT_1 : decode jdk_35_method_49_code 1 = .ok (.l2i, 1) := by decide +kernel
theorem dLNT_2 : decode jdk_35_method_49_code 2 = .ok (.istore_n 2, 1) := by decide +kernel
theorem dLNT_3 : decode jdk_35_method_49_code 3 = .ok (.iload_n 2, 1) := by decide +kernel
theorem dLNT_4 : decode jdk_35_method_49_code 4 = .ok (.ifCond .ne 17, 3) := by decide +kernel
theorem dLNT_21 : decode jdk_35_method_49_code 21 = .ok (.iload_n 2, 1) := by decide +kernel
theorem dLNT_22 : decode jdk_35_method_49_code 22 = .ok (.invokestatic 311, 3) := by decide +kernel
theorem dLNT_25 : decode jdk_35_method_49_code 25 = .ok (.ireturn, 1) := by decide +kernel
theorem dINT_0 : decode jdk_33_method_48_code 0 = .ok (.iload_n 0, 1) := by decide +kernel
theorem dINT_1 : decode jdk_33_method_48_code 1 = .ok (.iconst (-1), 1) := by decide +kernel
theorem dINT_2 : decode jdk_33_method_48_code 2 = .ok (.ixor, 1) := by decide +kernel
theorem dINT_3 : decode jdk_33_method_48_code 3 = .ok (.iload_n 0, 1) := by decide +kernel
theorem dINT_4 : decode jdk_33_method_48_code 4 = .ok (.iconst 1, 1) := by decide +kernel
theorem dINT_5 : decode jdk_33_method_48_code 5 = .ok (.isub, 1) := by decide +kernel
theorem dINT_6 : decode jdk_33_method_48_code 6 = .ok (.iand, 1) := by decide +kernel
theorem dINT_7 : decode jdk_33_method_48_code 7 = .ok (.istore_n 0, 1) := by decide +kernel
theorem dINT_8 : decode jdk_33_method_48_code 8 = .ok (.iload_n 0, 1) := by decide +kernel
theorem dINT_9 : decode jdk_33_method_48_code 9 = .ok (.ifCond .gt 8, 3) := by decide +kernel
theorem dINT_12 : decode jdk_33_method_48_code 12 = .ok (.iload_n 0, 1) := by decide +kernel
theorem dINT_13 : decode jdk_33_method_48_code 13 = .ok (.bipush 32, 2) := by decide +kernel
theorem dINT_15 : decode jdk_33_method_48_code 15 = .ok (.iand, 1) := by decide +kernel
theorem dINT_16 : decode jdk_33_method_48_code 16 = .ok (.ireturn, 1) := by decide +kernel
theorem dINT_17 : decode jdk_33_method_48_code 17 = .ok (.iconst 1, 1) := by decide +kernel
theorem dINT_18 : decode jdk_33_method_48_code 18 = .ok (.istore_n 1, 1) := by decide +kernel
theorem dINT_19 : decode jdk_33_method_48_code 19 = .ok (.iload_n 0, 1) := by decide +kernel
theorem dINT_20 : decode jdk_33_method_48_code 20 = .ok (.ldc_w 264, 3) := by decide +kernel
theorem dINT_23 : decode jdk_33_method_48_code 23 = .ok (.if_icmp .le 11, 3) := by decide +kernel
theorem dINT_34 : decode jdk_33_method_48_code 34 = .ok (.iload_n 0, 1) := by decide +kernel
theorem dINT_35 : decode jdk_33_method_48_code 35 = .ok (.sipush 256, 3) := by decide +kernel
theorem dINT_38 : decode jdk_33_method_48_code 38 = .ok (.if_icmp .le 11, 3) := by decide +kernel
theorem dINT_49 : decode jdk_33_method_48_code 49 = .ok (.iload_n 0, 1) := by decide +kernel
theorem dINT_50 : decode jdk_33_method_48_code 50 = .ok (.bipush 16, 2) := by decide +kernel
theorem dINT_52 : decode jdk_33_method_48_code 52 = .ok (.if_icmp .le 10, 3) := by decide +kernel
theorem dINT_62 : decode jdk_33_method_48_code 62 = .ok (.iload_n 0, 1) := by decide +kernel
theorem dINT_63 : decode jdk_33_method_48_code 63 = .ok (.iconst 4, 1) := by decide +kernel
theorem dINT_64 : decode jdk_33_method_48_code 64 = .ok (.if_icmp .le 10, 3) := by decide +kernel
theorem dINT_74 : decode jdk_33_method_48_code 74 = .ok (.iload_n 1, 1) := by decide +kernel
theorem dINT_75 : decode jdk_33_method_48_code 75 = .ok (.iload_n 0, 1) := by decide +kernel
theorem dINT_76 : decode jdk_33_method_48_code 76 = .ok (.iconst 1, 1) := by decide +kernel
theorem dINT_77 : decode jdk_33_method_48_code 77 = .ok (.iushr, 1) := by decide +kernel
theorem dINT_78 : decode jdk_33_method_48_code 78 = .ok (.iadd, 1) := by decide +kernel
theorem dINT_79 : decode jdk_33_method_48_code 79 = .ok (.ireturn, 1) := by decide +kernel
theorem dLBT_0 : decode prog_44_method_10_code 0 = .ok (.iload_n 1, 1) := by decide +kernel
theorem dLBT_1 : decode prog_44_method_10_code 1 = .ok (.aload_n 0, 1) := by decide +kernel
theorem dLBT_2 : decode prog_44_method_10_code 2 = .ok (.getfield 21, 3) := by decide +kernel
theorem dLBT_5 : decode prog_44_method_10_code 5 = .ok (.arraylength, 1) := by decide +kernel
theorem dLBT_6 : decode prog_44_method_10_code 6 = .ok (.if_icmp .ge 12, 3) := by decide +kernel
theorem dLBT_9 : decode prog_44_method_10_code 9 = .ok (.aload_n 0, 1) := by decide +kernel
theorem dLBT_10 : decode prog_44_method_10_code 10 = .ok (.getfield 21, 3) := by decide +kernel
theorem dLBT_13 : decode prog_44_method_10_code 13 = .ok (.iload_n 1, 1) := by decide +kernel
theorem dLBT_14 : decode prog_44_method_10_code 14 = .ok (.laload, 1) := by decide +kernel
theorem dLBT_15 : decode prog_44_method_10_code 15 = .ok (.goto 4, 3) := by decide +kernel
theorem dLBT_18 : decode prog_44_method_10_code 18 = .ok (.lconst 0, 1) := by decide +kernel
theorem dLBT_19 : decode prog_44_method_10_code 19 = .ok (.lreturn, 1) := by decide +kernel
theorem dEXP_0 : decode method_3_code 0 = .ok (.iload_n 0, 1) := by decide +kernel
theorem dEXP_1 : decode method_3_code 1 = .ok (.iload_n 1, 1) := by decide +kernel
theorem dEXP_2 : decode method_3_code 2 = .ok (.if_icmp .ne 7, 3) := by decide +kernel
theorem dEXP_5 : decode method_3_code 5 = .ok (.iload 4, 2) := by decide +kernel
theorem dEXP_7 : decode method_3_code 7 = .ok (.i2l, 1) := by decide +kernel
theorem dEXP_8 : decode method_3_code 8 = .ok (.lreturn, 1) := by decide +kernel
theorem dEXP_9 : decode method_3_code 9 = .ok (.iload_n 0, 1) := by decide +kernel
theorem dEXP_10 : decode method_3_code 10 = .ok (.iload_n 2, 1) := by decide +kernel
theorem dEXP_11 : decode method_3_code 11 = .ok (.if_icmp .ne 6, 3) := by decide +kernel
theorem dEXP_14 : decode method_3_code 14 = .ok (.iload_n 3, 1) := by decide +kernel
theorem dEXP_15 : decode method_3_code 15 = .ok (.i2l, 1) := by decide +kernel
theorem dEXP_16 : decode method_3_code 16 = .ok (.lreturn, 1) := by decide +kernel
theorem dEXP_17 : decode method_3_code 17 = .ok (.lconst 0, 1) := by decide +kernel
theorem dEXP_18 : decode method_3_code 18 = .ok (.lreturn, 1) := by decide +kernel
theorem own_pnL : plainName "com/example/elect/elect/core/NeighbourTableListedBitsPinLaw" = true := by first | (simp [plainName, overriddenIn]; done) | decide +kernel
theorem own_pnN : plainName "com/example/elect/elect/core/NeighbourTable" = true := by first | (simp [plainName, overriddenIn]; done) | decide +kernel
theorem own_pnI : plainName "com/example/elect/elect/core/IdIndex" = true := by first | (simp [plainName, overriddenIn]; done) | decide +kernel
theorem own_pnA : plainName "java/util/Arrays" = true := by first | (simp [plainName, overriddenIn]; done) | decide +kernel
theorem own_pnJ : plainName "java/lang/Long" = true := by first | (simp [plainName, overriddenIn]; done) | decide +kernel
theorem own_pnG : plainName "java/lang/Integer" = true := by first | (simp [plainName, overriddenIn]; done) | decide +kernel
theorem own_pfMAX : plainFor (⟨"java/lang/Math", "max", "(II)I"⟩ : MethodName) = true := by decide +kernel
theorem own_pfMIN : plainFor (⟨"java/lang/Math", "min", "(II)I"⟩ : MethodName) = true := by decide +kernel
theorem own_pda : parseMethodDescriptor "(I)[I" = some ⟨[.int], some (.array .int)⟩ := by decide +kernel
theorem own_pdb : parseMethodDescriptor "()V" = some ⟨[], none⟩ := by decide +kernel
theorem own_pdc : parseMethodDescriptor "(Lcom/example/elect/elect/core/IdIndex;)V" = some ⟨[.object "com/example/elect/elect/core/IdIndex"], none⟩ := by decide +kernel
theorem own_pdd : parseMethodDescriptor "(I)I" = some ⟨[.int], some .int⟩ := by decide +kernel
theorem own_pde : parseMethodDescriptor "(II)I" = some ⟨[.int, .int], some .int⟩ := by decide +kernel
theorem own_pdf : parseMethodDescriptor "([II)[I" = some ⟨[.array .int, .int], some (.array .int)⟩ := by decide +kernel
theorem own_pdg : parseMethodDescriptor "(I[I)V" = some ⟨[.int, .array .int], none⟩ := by decide +kernel
theorem own_pdh : parseMethodDescriptor "()I" = some ⟨[], some .int⟩ := by decide +kernel
theorem own_pdi : parseMethodDescriptor "()Z" = some ⟨[], some .boolean⟩ := by decide +kernel
theorem own_pdj : parseMethodDescriptor "(J)I" = some ⟨[.long], some .int⟩ := by decide +kernel
theorem own_pdk : parseMethodDescriptor "(I)J" = some ⟨[.int], some .long⟩ := by decide +kernel
theorem own_pdl : parseMethodDescriptor "(IIIII)J" = some ⟨[.int, .int, .int, .int, .int], some .long⟩ := by decide +kernel
theorem ef_L (m : MethodId) (x0 : Int32) (x1 : Int32) (x2 : Int32) : entryFrame m #[(.int x0), (.int x1), (.int x2)] maxLocals = mkF m 0 #[.val (.int x0), .val (.int x1), .val (.int x2), .unset, .unset, .unset, .unset, .unset, .unset, .unset, .unset, .unset, .unset, .unset, .unset, .unset, .unset] [] := by first | (simp [entryFrame, mkF, argsToLocals, Value.category, maxLocals]; done) | rfl
theorem ef_I4 (m : MethodId) (x0 : Int32) : entryFrame m #[(.int x0)] 4 = mkF m 0 #[.val (.int x0), .unset, .unset, .unset] [] := by first | (simp [entryFrame, mkF, argsToLocals, Value.category]; done) | rfl
theorem ef_R1 (m : MethodId) (x0 : Addr) : entryFrame m #[(.ref x0)] 1 = mkF m 0 #[.val (.ref x0)] [] := by first | (simp [entryFrame, mkF, argsToLocals, Value.category]; done) | rfl
theorem ef_RR (m : MethodId) (x0 : Addr) (x1 : Addr) : entryFrame m #[(.ref x0), (.ref x1)] 2 = mkF m 0 #[.val (.ref x0), .val (.ref x1)] [] := by first | (simp [entryFrame, mkF, argsToLocals, Value.category]; done) | rfl
theorem ef_RI (m : MethodId) (x0 : Addr) (x1 : Int32) : entryFrame m #[(.ref x0), (.int x1)] 2 = mkF m 0 #[.val (.ref x0), .val (.int x1)] [] := by first | (simp [entryFrame, mkF, argsToLocals, Value.category]; done) | rfl
theorem ef_RI4 (m : MethodId) (x0 : Addr) (x1 : Int32) : entryFrame m #[(.ref x0), (.int x1)] 4 = mkF m 0 #[.val (.ref x0), .val (.int x1), .unset, .unset] [] := by first | (simp [entryFrame, mkF, argsToLocals, Value.category]; done) | rfl
theorem ef_II (m : MethodId) (x0 : Int32) (x1 : Int32) : entryFrame m #[(.int x0), (.int x1)] 2 = mkF m 0 #[.val (.int x0), .val (.int x1)] [] := by first | (simp [entryFrame, mkF, argsToLocals, Value.category]; done) | rfl
theorem ef_RI3 (m : MethodId) (x0 : Addr) (x1 : Int32) : entryFrame m #[(.ref x0), (.int x1)] 3 = mkF m 0 #[.val (.ref x0), .val (.int x1), .unset] [] := by first | (simp [entryFrame, mkF, argsToLocals, Value.category]; done) | rfl
theorem ef_RIR9 (m : MethodId) (x0 : Addr) (x1 : Int32) (x2 : Addr) : entryFrame m #[(.ref x0), (.int x1), (.ref x2)] 9 = mkF m 0 #[.val (.ref x0), .val (.int x1), .val (.ref x2), .unset, .unset, .unset, .unset, .unset, .unset] [] := by first | (simp [entryFrame, mkF, argsToLocals, Value.category]; done) | rfl
theorem ef_J3 (m : MethodId) (x0 : Int64) : entryFrame m #[(.long x0)] 3 = mkF m 0 #[.val (.long x0), .second, .unset] [] := by first | (simp [entryFrame, mkF, argsToLocals, Value.category]; done) | rfl
theorem ef_I2 (m : MethodId) (x0 : Int32) : entryFrame m #[(.int x0)] 2 = mkF m 0 #[.val (.int x0), .unset] [] := by first | (simp [entryFrame, mkF, argsToLocals, Value.category]; done) | rfl
theorem ef_I5 (m : MethodId) (x0 : Int32) (x1 : Int32) (x2 : Int32) (x3 : Int32) (x4 : Int32) : entryFrame m #[(.int x0), (.int x1), (.int x2), (.int x3), (.int x4)] 5 = mkF m 0 #[.val (.int x0), .val (.int x1), .val (.int x2), .val (.int x3), .val (.int x4)] [] := by first | (simp [entryFrame, mkF, argsToLocals, Value.category]; done) | rfl
def own_07 (x : Int32) : Prop := x = 0 ∨ x = 1 ∨ x = 2 ∨ x = 3 ∨ x = 4 ∨ x = 5 ∨ x = 6 ∨ x = 7
def own_07L (x : Int64) : Prop := x = 0 ∨ x = 1 ∨ x = 2 ∨ x = 3 ∨ x = 4 ∨ x = 5 ∨ x = 6 ∨ x = 7
def own_012 (x : Int32) : Prop := x = 0 ∨ x = 1 ∨ x = 2
def own_cnt (x : Int32) : Int32 := ((x &&& 1) + ((x >>> ((1 : Int32) &&& 31)) &&& 1)) + ((x >>> ((2 : Int32) &&& 31)) &&& 1)
def own_arr (x : Int32) : List Value := (if x &&& 4 = 0 then [] else [.int 2]) ++ (if x &&& 2 = 0 then [] else [.int 1]) ++ (if x &&& 1 = 0 then [] else [.int 0])
def own_upd (F : Int32 → Int64) (i : Int32) (x : Int64) : Int32 → Int64 := fun j => if j = i then x else F j
def own_get (F : Int32 → Int64) (q : Int32) : Int64 := if q = 0 then F 0 else if q = 1 then F 1 else if q = 2 then F 2 else 0
def own_ex (q a b k2 k3 : Int32) : Int64 := if q = a then k3.toInt64 else if q = b then k2.toInt64 else 0
def own_nt (j : Int32) : Int32 := if 0 < j then 1 + XT.ushr j 1 else j &&& 32
theorem own_cmp {x y : Int64} (q : x = y) : XT.cmpL x y = 0 := by subst q; simp [XT.cmpL, Int64.lt_irrefl]
theorem own_cnt0 : own_cnt 0 = 0 := by decide +kernel
theorem own_arr0 : own_arr 0 = [] := by first | rfl | decide +kernel
theorem own_cnt1 : own_cnt 1 = 1 := by decide +kernel
theorem own_arr1 : own_arr 1 = [.int 0] := by first | rfl | decide +kernel
theorem own_cnt2 : own_cnt 2 = 1 := by decide +kernel
theorem own_arr2 : own_arr 2 = [.int 1] := by first | rfl | decide +kernel
theorem own_cnt3 : own_cnt 3 = 2 := by decide +kernel
theorem own_arr3 : own_arr 3 = [.int 1, .int 0] := by first | rfl | decide +kernel
theorem own_cnt4 : own_cnt 4 = 1 := by decide +kernel
theorem own_arr4 : own_arr 4 = [.int 2] := by first | rfl | decide +kernel
theorem own_cnt5 : own_cnt 5 = 2 := by decide +kernel
theorem own_arr5 : own_arr 5 = [.int 2, .int 0] := by first | rfl | decide +kernel
theorem own_cnt6 : own_cnt 6 = 2 := by decide +kernel
theorem own_arr6 : own_arr 6 = [.int 2, .int 1] := by first | rfl | decide +kernel
theorem own_cnt7 : own_cnt 7 = 3 := by decide +kernel
theorem own_arr7 : own_arr 7 = [.int 2, .int 1, .int 0] := by first | rfl | decide +kernel
theorem own_xor {x y : Int64} (hx : own_07L x) (hy : own_07L y) : own_07L (x ^^^ y) := by
  rcases hx with rfl | rfl | rfl | rfl | rfl | rfl | rfl | rfl <;> rcases hy with rfl | rfl | rfl | rfl | rfl | rfl | rfl | rfl <;> (unfold own_07L; decide +kernel)
theorem own_to {x : Int32} (hx : own_07 x) : own_07L x.toInt64 := by
  rcases hx with rfl | rfl | rfl | rfl | rfl | rfl | rfl | rfl <;> (unfold own_07L; decide +kernel)
theorem own_updL {F : Int32 → Int64} {i : Int32} {x : Int64} (hF : ∀ j, own_07L (F j)) (hx : own_07L x) (j : Int32) : own_07L (own_upd F i x j) := by
  by_cases q : j = i
  · rw [show own_upd F i x j = x from if_pos q]; exact hx
  · rw [show own_upd F i x j = F j from if_neg q]; exact hF j
theorem own_updE {F : Int32 → Int64} {i j : Int32} {x : Int64} : own_upd F i x j = if j = i then x else F j := rfl
theorem own_getF {F : Int32 → Int64} {q : Int32} (h : own_012 q) : own_get F q = F q := by
  rcases h with rfl | rfl | rfl
  · rw [own_get, if_pos rfl]
  · rw [own_get, if_neg (by decide), if_pos rfl]
  · rw [own_get, if_neg (by decide), if_neg (by decide), if_pos rfl]
theorem own_fin1 {a b q k2 k3 : Int32} {x : Int64} (ha : own_012 a) (hb : own_012 b) : own_get (own_upd (own_upd (own_upd (fun _ => 0) a x) b k2.toInt64) a k3.toInt64) q = own_ex q a b k2 k3 := by
  by_cases hq : own_012 q
  · rw [own_getF hq, own_ex]
    by_cases qa : q = a
    · rw [own_updE, if_pos qa, if_pos qa]
    · by_cases qb : q = b
      · rw [own_updE, if_neg qa, own_updE, if_pos qb, if_neg qa, if_pos qb]
      · rw [own_updE, if_neg qa, own_updE, if_neg qb, own_updE, if_neg qa, if_neg qa, if_neg qb]
  · have na : ¬ q = a := fun r => hq (r ▸ ha)
    have nb : ¬ q = b := fun r => hq (r ▸ hb)
    rw [own_get, own_ex, if_neg (fun r => hq (Or.inl r)), if_neg (fun r => hq (Or.inr (Or.inl r))), if_neg (fun r => hq (Or.inr (Or.inr r))), if_neg na, if_neg nb]
theorem own_fin2 {a b k2 k3 : Int32} {x : Int64} (ha : own_012 a) (hb : own_012 b) : own_get (own_upd (own_upd (own_upd (fun _ => 0) a x) b k2.toInt64) a k3.toInt64) a = k3.toInt64 := by
  rw [own_fin1 ha hb, own_ex, if_pos rfl]
theorem own_and7 (x : Int32) : own_07 (x &&& 7) := by
  have h : (x &&& 7).toInt = x.toInt % 8 := c_mask x 7 3 (by decide) (by decide)
  have e : (x &&& 7).toInt = 0 ∨ (x &&& 7).toInt = 1 ∨ (x &&& 7).toInt = 2 ∨ (x &&& 7).toInt = 3 ∨ (x &&& 7).toInt = 4 ∨ (x &&& 7).toInt = 5 ∨ (x &&& 7).toInt = 6 ∨ (x &&& 7).toInt = 7 := by omega
  rcases e with e | e | e | e | e | e | e | e
  · exact Or.inl (Int32.toInt_inj.mp (e.trans rfl))
  · exact Or.inr (Or.inl (Int32.toInt_inj.mp (e.trans rfl)))
  · exact Or.inr (Or.inr (Or.inl (Int32.toInt_inj.mp (e.trans rfl))))
  · exact Or.inr (Or.inr (Or.inr (Or.inl (Int32.toInt_inj.mp (e.trans rfl)))))
  · exact Or.inr (Or.inr (Or.inr (Or.inr (Or.inl (Int32.toInt_inj.mp (e.trans rfl))))))
  · exact Or.inr (Or.inr (Or.inr (Or.inr (Or.inr (Or.inl (Int32.toInt_inj.mp (e.trans rfl)))))))
  · exact Or.inr (Or.inr (Or.inr (Or.inr (Or.inr (Or.inr (Or.inl (Int32.toInt_inj.mp (e.trans rfl))))))))
  · exact Or.inr (Or.inr (Or.inr (Or.inr (Or.inr (Or.inr (Or.inr (Int32.toInt_inj.mp (e.trans rfl))))))))
theorem own_rem3 (x : Int32) (hx : 0 ≤ x.toInt) : own_012 (x % 3) := by
  have h2 := (c_irem x 3 3 rfl).1 hx
  have e : (x % 3).toInt = 0 ∨ (x % 3).toInt = 1 ∨ (x % 3).toInt = 2 := by omega
  rcases e with e | e | e
  · exact Or.inl (Int32.toInt_inj.mp (e.trans rfl))
  · exact Or.inr (Or.inl (Int32.toInt_inj.mp (e.trans rfl)))
  · exact Or.inr (Or.inr (Int32.toInt_inj.mp (e.trans rfl)))
theorem own_ush (x : Int32) (y : Int32) (k : Nat) (hk : y.toBitVec.toNat % 32 = k) (h0 : 0 < k) : 0 ≤ (XT.ushr x y).toInt := by
  have h : (XT.ushr x y).toInt = (x.toInt % 4294967296) / (2 ^ k : Nat) := c_iushr x y k hk h0
  rw [h]
  exact Int.ediv_nonneg (by omega) (Int.natCast_nonneg _)
theorem own_m16 (x : Int32) : 0 ≤ (x &&& (65535 : Int32)).toInt := (c_and x 65535 (by decide)).1
theorem own_nn {x : Int32} (h : 0 ≤ x.toInt) : ¬ x < 0 := fun q => by
  have := Int32.lt_iff_toInt_lt.mp q
  have e : (0 : Int32).toInt = 0 := rfl
  omega
abbrev own_R0 : Room := { frames := 0, cells := 0, slots := 0, locals := 0 }
abbrev own_Rarr : Room := { frames := 0, cells := 1, slots := 3, locals := 0 }
abbrev own_Rixi : Room := { frames := 1, cells := 3, slots := 24, locals := 20 }
abbrev own_Rcpy : Room := { frames := 1, cells := 1, slots := 4, locals := 30 }
abbrev own_Rixa : Room := { frames := 2, cells := 1, slots := 4, locals := 50 }
abbrev own_Rnta : Room := { frames := 3, cells := 1, slots := 4, locals := 70 }
abbrev own_R1 : Room := { frames := 1, cells := 0, slots := 0, locals := 20 }
abbrev own_Rlst : Room := { frames := 2, cells := 0, slots := 0, locals := 50 }
set_option maxRecDepth 65536 in
set_option maxHeartbeats 40000000 in
theorem rmMAX (l : Launch) (Z : State) (a0 : Array Value) (hw : ∀ d ∈ tables_1, d.before a0 Z = true) (ws : List Jvm.Cond) (x y : Int32) (h0 : Heap) :
    OwnCtr l (⟨"java/lang/Math", "max", "(II)I"⟩ : MethodName) jdk_29_method_65_code 2 (some .int) ws own_R0 Z #[(.int x), (.int y)] h0 (fun v h L => v = some (.int (if x < y then y else x)) ∧ h = h0 ∧ L = []) := by
  refine own_bodyF own_pfMAX ?_
  intro p e s m below meth c s₁ X0 hx hby hml hown hnm hret hlk hZ e0
  refine own_go (fun _ k => castTop (ef_II m x y) k) ?_
  show Run p.tables e below (s₁.setTop (mkF m 0 #[.val (.int x), .val (.int y)] [])) _
  refine own_go (fun _ => XS.iloadN X0.here hx rfl (hb hby dMAX_0) rfl) ?_
  show Run p.tables e below (s₁.setTop (mkF m 1 #[.val (.int x), .val (.int y)] [(.int x)])) _
  refine own_go (fun _ => XS.iloadN X0.here hx rfl (hb hby dMAX_1) rfl) ?_
  show Run p.tables e below (s₁.setTop (mkF m 2 #[.val (.int x), .val (.int y)] [(.int y), (.int x)])) _
  by_cases q : x < y
  · show Run p.tables e below (s₁.setTop (mkF m 2 #[.val (.int x), .val (.int y)] [(.int y), (.int x)])) _
    refine own_go (fun _ => XS.icmpYes X0.here hx rfl (pc0 := 2) (pc' := 9) rfl (hb hby dMAX_2) rfl (XT.ii_lt_t q) (by decide) (by decide)) ?_
    show Run p.tables e below (s₁.setTop (mkF m 9 #[.val (.int x), .val (.int y)] [])) _
    refine own_go (fun _ => XS.iloadN X0.here hx rfl (hb hby dMAX_9) rfl) ?_
    show Run p.tables e below (s₁.setTop (mkF m 10 #[.val (.int x), .val (.int y)] [(.int y)])) _
    exact own_out X0 (v := some (.int y)) (fun q => by rw [hret] at q; cases q) hlk (fun fs hr => retI X0 hx hret (hb hby dMAX_10) hr) ⟨(by rw [if_pos q]), e0, rfl⟩ (by decide) (by decide)
  · show Run p.tables e below (s₁.setTop (mkF m 2 #[.val (.int x), .val (.int y)] [(.int y), (.int x)])) _
    refine own_go (fun _ => XS.icmpNo X0.here hx rfl (hb hby dMAX_2) rfl (XT.ii_lt_f q)) ?_
    show Run p.tables e below (s₁.setTop (mkF m 5 #[.val (.int x), .val (.int y)] [])) _
    refine own_go (fun _ => XS.iloadN X0.here hx rfl (hb hby dMAX_5) rfl) ?_
    show Run p.tables e below (s₁.setTop (mkF m 6 #[.val (.int x), .val (.int y)] [(.int x)])) _
    refine own_go (fun _ => XS.goto X0.here hx rfl (pc0 := 6) (pc' := 10) rfl (hb hby dMAX_6) (by decide) (by decide)) ?_
    show Run p.tables e below (s₁.setTop (mkF m 10 #[.val (.int x), .val (.int y)] [(.int x)])) _
    exact own_out X0 (v := some (.int x)) (fun q => by rw [hret] at q; cases q) hlk (fun fs hr => retI X0 hx hret (hb hby dMAX_10) hr) ⟨(by rw [if_neg q]), e0, rfl⟩ (by decide) (by decide)
set_option maxRecDepth 65536 in
set_option maxHeartbeats 40000000 in
theorem rmMIN (l : Launch) (Z : State) (a0 : Array Value) (hw : ∀ d ∈ tables_1, d.before a0 Z = true) (ws : List Jvm.Cond) (x y : Int32) (h0 : Heap) :
    OwnCtr l (⟨"java/lang/Math", "min", "(II)I"⟩ : MethodName) jdk_29_method_69_code 2 (some .int) ws own_R0 Z #[(.int x), (.int y)] h0 (fun v h L => v = some (.int (if y < x then y else x)) ∧ h = h0 ∧ L = []) := by
  refine own_bodyF own_pfMIN ?_
  intro p e s m below meth c s₁ X0 hx hby hml hown hnm hret hlk hZ e0
  refine own_go (fun _ k => castTop (ef_II m x y) k) ?_
  show Run p.tables e below (s₁.setTop (mkF m 0 #[.val (.int x), .val (.int y)] [])) _
  refine own_go (fun _ => XS.iloadN X0.here hx rfl (hb hby dMIN_0) rfl) ?_
  show Run p.tables e below (s₁.setTop (mkF m 1 #[.val (.int x), .val (.int y)] [(.int x)])) _
  refine own_go (fun _ => XS.iloadN X0.here hx rfl (hb hby dMIN_1) rfl) ?_
  show Run p.tables e below (s₁.setTop (mkF m 2 #[.val (.int x), .val (.int y)] [(.int y), (.int x)])) _
  by_cases q : y < x
  · show Run p.tables e below (s₁.setTop (mkF m 2 #[.val (.int x), .val (.int y)] [(.int y), (.int x)])) _
    refine own_go (fun _ => XS.icmpYes X0.here hx rfl (pc0 := 2) (pc' := 9) rfl (hb hby dMIN_2) rfl (XT.ii_gt_t q) (by decide) (by decide)) ?_
    show Run p.tables e below (s₁.setTop (mkF m 9 #[.val (.int x), .val (.int y)] [])) _
    refine own_go (fun _ => XS.iloadN X0.here hx rfl (hb hby dMIN_9) rfl) ?_
    show Run p.tables e below (s₁.setTop (mkF m 10 #[.val (.int x), .val (.int y)] [(.int y)])) _
    exact own_out X0 (v := some (.int y)) (fun q => by rw [hret] at q; cases q) hlk (fun fs hr => retI X0 hx hret (hb hby dMIN_10) hr) ⟨(by rw [if_pos q]), e0, rfl⟩ (by decide) (by decide)
  · show Run p.tables e below (s₁.setTop (mkF m 2 #[.val (.int x), .val (.int y)] [(.int y), (.int x)])) _
    refine own_go (fun _ => XS.icmpNo X0.here hx rfl (hb hby dMIN_2) rfl (XT.ii_gt_f q)) ?_
    show Run p.tables e below (s₁.setTop (mkF m 5 #[.val (.int x), .val (.int y)] [])) _
    refine own_go (fun _ => XS.iloadN X0.here hx rfl (hb hby dMIN_5) rfl) ?_
    show Run p.tables e below (s₁.setTop (mkF m 6 #[.val (.int x), .val (.int y)] [(.int x)])) _
    refine own_go (fun _ => XS.goto X0.here hx rfl (pc0 := 6) (pc' := 10) rfl (hb hby dMIN_6) (by decide) (by decide)) ?_
    show Run p.tables e below (s₁.setTop (mkF m 10 #[.val (.int x), .val (.int y)] [(.int x)])) _
    exact own_out X0 (v := some (.int x)) (fun q => by rw [hret] at q; cases q) hlk (fun fs hr => retI X0 hx hret (hb hby dMIN_10) hr) ⟨(by rw [if_neg q]), e0, rfl⟩ (by decide) (by decide)
set_option maxRecDepth 65536 in
set_option maxHeartbeats 40000000 in
theorem rmEXP (l : Launch) (Z : State) (a0 : Array Value) (hw : ∀ d ∈ tables_1, d.before a0 Z = true) (ws : List Jvm.Cond) (q a b k2 k3 : Int32) (h0 : Heap) :
    OwnCtr l (⟨"com/example/elect/elect/core/NeighbourTableListedBitsPinLaw", "expected", "(IIIII)J"⟩ : MethodName) method_3_code 5 (some .long) ws own_R0 Z #[(.int q), (.int a), (.int b), (.int k2), (.int k3)] h0 (fun v h L => v = some (.long (own_ex q a b k2 k3)) ∧ h = h0 ∧ L = []) := by
  refine own_body own_pnL ?_
  intro p e s m below meth c s₁ X0 hx hby hml hown hnm hret hlk hZ e0
  refine own_go (fun _ k => castTop (ef_I5 m q a b k2 k3) k) ?_
  show Run p.tables e below (s₁.setTop (mkF m 0 #[.val (.int q), .val (.int a), .val (.int b), .val (.int k2), .val (.int k3)] [])) _
  refine own_go (fun _ => XS.iloadN X0.here hx rfl (hb hby dEXP_0) rfl) ?_
  show Run p.tables e below (s₁.setTop (mkF m 1 #[.val (.int q), .val (.int a), .val (.int b), .val (.int k2), .val (.int k3)] [(.int q)])) _
  refine own_go (fun _ => XS.iloadN X0.here hx rfl (hb hby dEXP_1) rfl) ?_
  show Run p.tables e below (s₁.setTop (mkF m 2 #[.val (.int q), .val (.int a), .val (.int b), .val (.int k2), .val (.int k3)] [(.int a), (.int q)])) _
  by_cases qa : q = a
  · show Run p.tables e below (s₁.setTop (mkF m 2 #[.val (.int q), .val (.int a), .val (.int b), .val (.int k2), .val (.int k3)] [(.int a), (.int q)])) _
    refine own_go (fun _ => XS.icmpNo X0.here hx rfl (hb hby dEXP_2) rfl (XT.ii_ne_f qa)) ?_
    show Run p.tables e below (s₁.setTop (mkF m 5 #[.val (.int q), .val (.int a), .val (.int b), .val (.int k2), .val (.int k3)] [])) _
    refine own_go (fun _ => XS.iload X0.here hx rfl (hb hby dEXP_5) rfl) ?_
    show Run p.tables e below (s₁.setTop (mkF m 7 #[.val (.int q), .val (.int a), .val (.int b), .val (.int k2), .val (.int k3)] [(.int k3)])) _
    refine own_go (fun _ => XT.i2l X0.here hx rfl (hb hby dEXP_7) rfl) ?_
    show Run p.tables e below (s₁.setTop (mkF m 8 #[.val (.int q), .val (.int a), .val (.int b), .val (.int k2), .val (.int k3)] [(.long (k3).toInt64)])) _
    exact own_out X0 (v := some (.long (k3).toInt64)) (fun q => by rw [hret] at q; cases q) hlk (fun fs hr => X0.lreturnOut hx hret (hb hby dEXP_8) hr) ⟨(by rw [own_ex, if_pos qa]), e0, rfl⟩ (by decide) (by decide)
  · show Run p.tables e below (s₁.setTop (mkF m 2 #[.val (.int q), .val (.int a), .val (.int b), .val (.int k2), .val (.int k3)] [(.int a), (.int q)])) _
    refine own_go (fun _ => XS.icmpYes X0.here hx rfl (pc0 := 2) (pc' := 9) rfl (hb hby dEXP_2) rfl (XT.ii_ne_t qa) (by decide) (by decide)) ?_
    show Run p.tables e below (s₁.setTop (mkF m 9 #[.val (.int q), .val (.int a), .val (.int b), .val (.int k2), .val (.int k3)] [])) _
    refine own_go (fun _ => XS.iloadN X0.here hx rfl (hb hby dEXP_9) rfl) ?_
    show Run p.tables e below (s₁.setTop (mkF m 10 #[.val (.int q), .val (.int a), .val (.int b), .val (.int k2), .val (.int k3)] [(.int q)])) _
    refine own_go (fun _ => XS.iloadN X0.here hx rfl (hb hby dEXP_10) rfl) ?_
    show Run p.tables e below (s₁.setTop (mkF m 11 #[.val (.int q), .val (.int a), .val (.int b), .val (.int k2), .val (.int k3)] [(.int b), (.int q)])) _
    by_cases qb : q = b
    · show Run p.tables e below (s₁.setTop (mkF m 11 #[.val (.int q), .val (.int a), .val (.int b), .val (.int k2), .val (.int k3)] [(.int b), (.int q)])) _
      refine own_go (fun _ => XS.icmpNo X0.here hx rfl (hb hby dEXP_11) rfl (XT.ii_ne_f qb)) ?_
      show Run p.tables e below (s₁.setTop (mkF m 14 #[.val (.int q), .val (.int a), .val (.int b), .val (.int k2), .val (.int k3)] [])) _
      refine own_go (fun _ => XS.iloadN X0.here hx rfl (hb hby dEXP_14) rfl) ?_
      show Run p.tables e below (s₁.setTop (mkF m 15 #[.val (.int q), .val (.int a), .val (.int b), .val (.int k2), .val (.int k3)] [(.int k2)])) _
      refine own_go (fun _ => XT.i2l X0.here hx rfl (hb hby dEXP_15) rfl) ?_
      show Run p.tables e below (s₁.setTop (mkF m 16 #[.val (.int q), .val (.int a), .val (.int b), .val (.int k2), .val (.int k3)] [(.long (k2).toInt64)])) _
      exact own_out X0 (v := some (.long (k2).toInt64)) (fun q => by rw [hret] at q; cases q) hlk (fun fs hr => X0.lreturnOut hx hret (hb hby dEXP_16) hr) ⟨(by rw [own_ex, if_neg qa, if_pos qb]), e0, rfl⟩ (by decide) (by decide)
    · show Run p.tables e below (s₁.setTop (mkF m 11 #[.val (.int q), .val (.int a), .val (.int b), .val (.int k2), .val (.int k3)] [(.int b), (.int q)])) _
      refine own_go (fun _ => XS.icmpYes X0.here hx rfl (pc0 := 11) (pc' := 17) rfl (hb hby dEXP_11) rfl (XT.ii_ne_t qb) (by decide) (by decide)) ?_
      show Run p.tables e below (s₁.setTop (mkF m 17 #[.val (.int q), .val (.int a), .val (.int b), .val (.int k2), .val (.int k3)] [])) _
      refine own_go (fun _ => XT.lconst X0.here hx rfl (hb hby dEXP_17)) ?_
      show Run p.tables e below (s₁.setTop (mkF m 18 #[.val (.int q), .val (.int a), .val (.int b), .val (.int k2), .val (.int k3)] [(.long (0 : Int64))])) _
      exact own_out X0 (v := some (.long (0 : Int64))) (fun q => by rw [hret] at q; cases q) hlk (fun fs hr => X0.lreturnOut hx hret (hb hby dEXP_18) hr) ⟨(by rw [own_ex, if_neg qa, if_neg qb]), e0, rfl⟩ (by decide) (by decide)
set_option maxRecDepth 65536 in
set_option maxHeartbeats 40000000 in
theorem rmIXS (l : Launch) (Z : State) (a0 : Array Value) (hw : ∀ d ∈ tables_1, d.before a0 Z = true) (ws : List Jvm.Cond) (b : Addr) (n : Int32) (h0 : Heap) (F : Fld Z h0 b "com/example/elect/elect/core/IdIndex" "count" "I" (.int n)) :
    OwnCtr l (⟨"com/example/elect/elect/core/IdIndex", "size", "()I"⟩ : MethodName) prog_40_method_2_code 1 (some .int) ws own_R0 Z #[(.ref b)] h0 (fun v h L => v = some (.int n) ∧ h = h0 ∧ L = []) := by
  refine own_body own_pnI ?_
  intro p e s m below meth c s₁ X0 hx hby hml hown hnm hret hlk hZ e0
  refine own_go (fun _ k => castTop (ef_R1 m b) k) ?_
  show Run p.tables e below (s₁.setTop (mkF m 0 #[.val (.ref b)] [])) _
  refine own_go (fun _ => XS.aloadN X0.here hx rfl (hb hby dIXS_0) rfl rfl) ?_
  show Run p.tables e below (s₁.setTop (mkF m 1 #[.val (.ref b)] [(.ref b)])) _
  obtain ⟨Tk1, Xk1, ek1, stk1⟩ := getF X0 hx hZ hown (host := "") (Or.inl (hw _ (List.mem_of_getElem? (i := 54) rfl))) Via.refl e0 F (g := (mkF m 1 #[.val (.ref b)] [(.ref b)])) rfl rfl (hb hby dIXS_1)
  refine own_go stk1 ?_
  show Run p.tables e below (Tk1.setTop (mkF m 4 #[.val (.ref b)] [(.int n)])) _
  exact own_out Xk1 (v := some (.int n)) (fun q => by rw [hret] at q; cases q) hlk (fun fs hr => retI Xk1 hx hret (hb hby dIXS_4) hr) ⟨rfl, ek1, rfl⟩ (by decide) (by decide)
set_option maxRecDepth 65536 in
set_option maxHeartbeats 40000000 in
theorem rmNTS (l : Launch) (Z : State) (a0 : Array Value) (hw : ∀ d ∈ tables_1, d.before a0 Z = true) (ws : List Jvm.Cond) (t b : Addr) (n : Int32) (h0 : Heap) (Fn : Fld Z h0 t "com/example/elect/elect/core/NeighbourTable" "numbers" "Lcom/example/elect/elect/core/IdIndex;" (.ref b)) (Eb : Exa Z h0 b "com/example/elect/elect/core/IdIndex") (Fc : Fld Z h0 b "com/example/elect/elect/core/IdIndex" "count" "I" (.int n)) :
    OwnCtr l (⟨"com/example/elect/elect/core/NeighbourTable", "size", "()I"⟩ : MethodName) prog_44_method_3_code 1 (some .int) ws own_R1 Z #[(.ref t)] h0 (fun v h L => v = some (.int n) ∧ h = h0 ∧ L = []) := by
  refine own_body own_pnN ?_
  intro p e s m below meth c s₁ X0 hx hby hml hown hnm hret hlk hZ e0
  refine own_go (fun _ k => castTop (ef_R1 m t) k) ?_
  show Run p.tables e below (s₁.setTop (mkF m 0 #[.val (.ref t)] [])) _
  refine own_go (fun _ => XS.aloadN X0.here hx rfl (hb hby dNTS_0) rfl rfl) ?_
  show Run p.tables e below (s₁.setTop (mkF m 1 #[.val (.ref t)] [(.ref t)])) _
  obtain ⟨Tk1, Xk1, ek1, stk1⟩ := getF X0 hx hZ hown (host := "") (Or.inl (hw _ (List.mem_of_getElem? (i := 37) rfl))) Via.refl e0 Fn (g := (mkF m 1 #[.val (.ref t)] [(.ref t)])) rfl rfl (hb hby dNTS_1)
  refine own_go stk1 ?_
  show Run p.tables e below (Tk1.setTop (mkF m 4 #[.val (.ref t)] [(.ref b)])) _
  obtain ⟨vk2, Tk2, Lk2, Xk2, ⟨rfl, ek2, rfl⟩, stk2⟩ := own_callV Xk1 hx hZ hown (hw _ (List.mem_of_getElem? (i := 82) rfl)) (hw _ (List.mem_of_getElem? (i := 84) rfl)) (hw _ (List.mem_of_getElem? (i := 85) rfl)) (hw _ (List.mem_of_getElem? (i := 86) rfl)) (hw _ (List.mem_of_getElem? (i := 11) rfl)) (by decide) ek1 (rmIXS l Z a0 hw [] b n h0 Fc) Eb (g := (mkF m 4 #[.val (.ref t)] [(.ref b)])) rfl (by rw [hml]; rfl) (argsL := []) (rest := []) own_pdh rfl rfl rfl (W := 0) (by show 2 * 0 + _ ≤ _; exact Nat.le_of_eq rfl) (hb hby dNTS_4) (by decide) (by decide) (by decide) (by decide)
  replace Xk2 : Stand p l e own_R1 s m #[(.ref t)] below meth c Tk2 [] 0 0 := Xk2
  refine own_go stk2 ?_
  show Run p.tables e below (Tk2.setTop (mkF m 7 #[.val (.ref t)] [(.int n)])) _
  exact own_out Xk2 (v := some (.int n)) (fun q => by rw [hret] at q; cases q) hlk (fun fs hr => retI Xk2 hx hret (hb hby dNTS_7) hr) ⟨rfl, ek2, rfl⟩ (by decide) (by decide)
set_option maxRecDepth 65536 in
set_option maxHeartbeats 40000000 in
theorem rmHAS (l : Launch) (Z : State) (a0 : Array Value) (hw : ∀ d ∈ tables_1, d.before a0 Z = true) (ws : List Jvm.Cond) (t b : Addr) (n : Int32) (h0 : Heap) (Fn : Fld Z h0 t "com/example/elect/elect/core/NeighbourTable" "numbers" "Lcom/example/elect/elect/core/IdIndex;" (.ref b)) (Eb : Exa Z h0 b "com/example/elect/elect/core/IdIndex") (Fc : Fld Z h0 b "com/example/elect/elect/core/IdIndex" "count" "I" (.int n)) (hn : ¬ 64 < n) :
    OwnCtr l (⟨"com/example/elect/elect/core/NeighbourTable", "hasBits", "()Z"⟩ : MethodName) prog_44_method_9_code 1 (some .boolean) ws own_R1 Z #[(.ref t)] h0 (fun v h L => v = some (.int 1) ∧ h = h0 ∧ L = []) := by
  refine own_body own_pnN ?_
  intro p e s m below meth c s₁ X0 hx hby hml hown hnm hret hlk hZ e0
  refine own_go (fun _ k => castTop (ef_R1 m t) k) ?_
  show Run p.tables e below (s₁.setTop (mkF m 0 #[.val (.ref t)] [])) _
  refine own_go (fun _ => XS.aloadN X0.here hx rfl (hb hby dHAS_0) rfl rfl) ?_
  show Run p.tables e below (s₁.setTop (mkF m 1 #[.val (.ref t)] [(.ref t)])) _
  obtain ⟨Tk1, Xk1, ek1, stk1⟩ := getF X0 hx hZ hown (host := "") (Or.inl (hw _ (List.mem_of_getElem? (i := 37) rfl))) Via.refl e0 Fn (g := (mkF m 1 #[.val (.ref t)] [(.ref t)])) rfl rfl (hb hby dHAS_1)
  refine own_go stk1 ?_
  show Run p.tables e below (Tk1.setTop (mkF m 4 #[.val (.ref t)] [(.ref b)])) _
  obtain ⟨vk2, Tk2, Lk2, Xk2, ⟨rfl, ek2, rfl⟩, stk2⟩ := own_callV Xk1 hx hZ hown (hw _ (List.mem_of_getElem? (i := 82) rfl)) (hw _ (List.mem_of_getElem? (i := 84) rfl)) (hw _ (List.mem_of_getElem? (i := 85) rfl)) (hw _ (List.mem_of_getElem? (i := 86) rfl)) (hw _ (List.mem_of_getElem? (i := 11) rfl)) (by decide) ek1 (rmIXS l Z a0 hw [] b n h0 Fc) Eb (g := (mkF m 4 #[.val (.ref t)] [(.ref b)])) rfl (by rw [hml]; rfl) (argsL := []) (rest := []) own_pdh rfl rfl rfl (W := 0) (by show 2 * 0 + _ ≤ _; exact Nat.le_of_eq rfl) (hb hby dHAS_4) (by decide) (by decide) (by decide) (by decide)
  replace Xk2 : Stand p l e own_R1 s m #[(.ref t)] below meth c Tk2 [] 0 0 := Xk2
  refine own_go stk2 ?_
  show Run p.tables e below (Tk2.setTop (mkF m 7 #[.val (.ref t)] [(.int n)])) _
  refine own_go (fun _ => XS.bipush Xk2.here hx rfl (hb hby dHAS_7)) ?_
  show Run p.tables e below (Tk2.setTop (mkF m 9 #[.val (.ref t)] [(.int (64 : Int32)), (.int n)])) _
  refine own_go (fun _ => XS.icmpNo Xk2.here hx rfl (hb hby dHAS_9) rfl (XT.ii_gt_f hn)) ?_
  show Run p.tables e below (Tk2.setTop (mkF m 12 #[.val (.ref t)] [])) _
  refine own_go (fun _ => XS.iconst Xk2.here hx rfl (hb hby dHAS_12)) ?_
  show Run p.tables e below (Tk2.setTop (mkF m 13 #[.val (.ref t)] [(.int (1 : Int32))])) _
  refine own_go (fun _ => XS.goto Xk2.here hx rfl (pc0 := 13) (pc' := 17) rfl (hb hby dHAS_13) (by decide) (by decide)) ?_
  show Run p.tables e below (Tk2.setTop (mkF m 17 #[.val (.ref t)] [(.int (1 : Int32))])) _
  exact own_out Xk2 (v := some (.int (1 : Int32))) (fun q => by rw [hret] at q; cases q) hlk (fun fs hr => retN Xk2 hx (t := .boolean) hret (by simp) (hb hby dHAS_17) hr) ⟨rfl, ek2, rfl⟩ (by decide) (by decide)
set_option maxRecDepth 65536 in
set_option maxHeartbeats 40000000 in
theorem rmINT (l : Launch) (Z : State) (a0 : Array Value) (hw : ∀ d ∈ tables_1, d.before a0 Z = true) (ws : List Jvm.Cond) (i : Int32) (h0 : Heap) (hj : ¬ 4 < ((i ^^^ (-1 : Int32)) &&& (i - (1 : Int32)))) :
    OwnCtr l (⟨"java/lang/Integer", "numberOfTrailingZeros", "(I)I"⟩ : MethodName) jdk_33_method_48_code 2 (some .int) ws own_R0 Z #[(.int i)] h0 (fun v h L => v = some (.int (own_nt ((i ^^^ (-1 : Int32)) &&& (i - (1 : Int32))))) ∧ h = h0 ∧ L = []) := by
  refine own_body own_pnG ?_
  intro p e s m below meth c s₁ X0 hx hby hml hown hnm hret hlk hZ e0
  refine own_go (fun _ k => castTop (ef_I2 m i) k) ?_
  show Run p.tables e below (s₁.setTop (mkF m 0 #[.val (.int i), .unset] [])) _
  refine own_go (fun _ => XS.iloadN X0.here hx rfl (hb hby dINT_0) rfl) ?_
  show Run p.tables e below (s₁.setTop (mkF m 1 #[.val (.int i), .unset] [(.int i)])) _
  refine own_go (fun _ => XS.iconst X0.here hx rfl (hb hby dINT_1)) ?_
  show Run p.tables e below (s₁.setTop (mkF m 2 #[.val (.int i), .unset] [(.int (-1 : Int32)), (.int i)])) _
  refine own_go (fun _ => XT.ixor X0.here hx rfl (hb hby dINT_2) rfl) ?_
  show Run p.tables e below (s₁.setTop (mkF m 3 #[.val (.int i), .unset] [(.int (i ^^^ (-1 : Int32)))])) _
  refine own_go (fun _ => XS.iloadN X0.here hx rfl (hb hby dINT_3) rfl) ?_
  show Run p.tables e below (s₁.setTop (mkF m 4 #[.val (.int i), .unset] [(.int i), (.int (i ^^^ (-1 : Int32)))])) _
  refine own_go (fun _ => XS.iconst X0.here hx rfl (hb hby dINT_4)) ?_
  show Run p.tables e below (s₁.setTop (mkF m 5 #[.val (.int i), .unset] [(.int (1 : Int32)), (.int i), (.int (i ^^^ (-1 : Int32)))])) _
  refine own_go (fun _ => XS.isub X0.here hx rfl (hb hby dINT_5) rfl) ?_
  show Run p.tables e below (s₁.setTop (mkF m 6 #[.val (.int i), .unset] [(.int (i - (1 : Int32))), (.int (i ^^^ (-1 : Int32)))])) _
  refine own_go (fun _ => XS.iand X0.here hx rfl (hb hby dINT_6) rfl) ?_
  show Run p.tables e below (s₁.setTop (mkF m 7 #[.val (.int i), .unset] [(.int ((i ^^^ (-1 : Int32)) &&& (i - (1 : Int32))))])) _
  refine own_go (fun _ => XS.istoreN X0.here hx rfl (hb hby dINT_7) rfl (l' := #[.val (.int ((i ^^^ (-1 : Int32)) &&& (i - (1 : Int32)))), .unset]) rfl) ?_
  show Run p.tables e below (s₁.setTop (mkF m 8 #[.val (.int ((i ^^^ (-1 : Int32)) &&& (i - (1 : Int32)))), .unset] [])) _
  generalize ((i ^^^ (-1 : Int32)) &&& (i - (1 : Int32))) = j at hj ⊢
  show Run p.tables e below (s₁.setTop (mkF m 8 #[.val (.int j), .unset] [])) _
  refine own_go (fun _ => XS.iloadN X0.here hx rfl (hb hby dINT_8) rfl) ?_
  show Run p.tables e below (s₁.setTop (mkF m 9 #[.val (.int j), .unset] [(.int j)])) _
  by_cases q : 0 < j
  · show Run p.tables e below (s₁.setTop (mkF m 9 #[.val (.int j), .unset] [(.int j)])) _
    refine own_go (fun _ => XS.ifYes X0.here hx rfl (pc0 := 9) (pc' := 17) rfl (hb hby dINT_9) rfl (XT.i0_gt_t q) (by decide) (by decide)) ?_
    show Run p.tables e below (s₁.setTop (mkF m 17 #[.val (.int j), .unset] [])) _
    refine own_go (fun _ => XS.iconst X0.here hx rfl (hb hby dINT_17)) ?_
    show Run p.tables e below (s₁.setTop (mkF m 18 #[.val (.int j), .unset] [(.int (1 : Int32))])) _
    refine own_go (fun _ => XS.istoreN X0.here hx rfl (hb hby dINT_18) rfl (l' := #[.val (.int j), .val (.int (1 : Int32))]) rfl) ?_
    show Run p.tables e below (s₁.setTop (mkF m 19 #[.val (.int j), .val (.int (1 : Int32))] [])) _
    refine own_go (fun _ => XS.iloadN X0.here hx rfl (hb hby dINT_19) rfl) ?_
    show Run p.tables e below (s₁.setTop (mkF m 20 #[.val (.int j), .val (.int (1 : Int32))] [(.int j)])) _
    refine own_go (fun _ => Jvm.Stand.ldcWI X0 hx hown (mvT hZ (hw _ (List.mem_of_getElem? (i := 100) rfl))) rfl (hb hby dINT_20)) ?_
    show Run p.tables e below (s₁.setTop (mkF m 23 #[.val (.int j), .val (.int (1 : Int32))] [(.int (65536 : Int32)), (.int j)])) _
    refine own_go (fun _ => XS.icmpYes X0.here hx rfl (pc0 := 23) (pc' := 34) rfl (hb hby dINT_23) rfl (XT.ii_le_t (fun r => hj (Int32.lt_trans (by decide) r))) (by decide) (by decide)) ?_
    show Run p.tables e below (s₁.setTop (mkF m 34 #[.val (.int j), .val (.int (1 : Int32))] [])) _
    refine own_go (fun _ => XS.iloadN X0.here hx rfl (hb hby dINT_34) rfl) ?_
    show Run p.tables e below (s₁.setTop (mkF m 35 #[.val (.int j), .val (.int (1 : Int32))] [(.int j)])) _
    refine own_go (fun _ => XS.sipush X0.here hx rfl (hb hby dINT_35)) ?_
    show Run p.tables e below (s₁.setTop (mkF m 38 #[.val (.int j), .val (.int (1 : Int32))] [(.int (256 : Int32)), (.int j)])) _
    refine own_go (fun _ => XS.icmpYes X0.here hx rfl (pc0 := 38) (pc' := 49) rfl (hb hby dINT_38) rfl (XT.ii_le_t (fun r => hj (Int32.lt_trans (by decide) r))) (by decide) (by decide)) ?_
    show Run p.tables e below (s₁.setTop (mkF m 49 #[.val (.int j), .val (.int (1 : Int32))] [])) _
    refine own_go (fun _ => XS.iloadN X0.here hx rfl (hb hby dINT_49) rfl) ?_
    show Run p.tables e below (s₁.setTop (mkF m 50 #[.val (.int j), .val (.int (1 : Int32))] [(.int j)])) _
    refine own_go (fun _ => XS.bipush X0.here hx rfl (hb hby dINT_50)) ?_
    show Run p.tables e below (s₁.setTop (mkF m 52 #[.val (.int j), .val (.int (1 : Int32))] [(.int (16 : Int32)), (.int j)])) _
    refine own_go (fun _ => XS.icmpYes X0.here hx rfl (pc0 := 52) (pc' := 62) rfl (hb hby dINT_52) rfl (XT.ii_le_t (fun r => hj (Int32.lt_trans (by decide) r))) (by decide) (by decide)) ?_
    show Run p.tables e below (s₁.setTop (mkF m 62 #[.val (.int j), .val (.int (1 : Int32))] [])) _
    refine own_go (fun _ => XS.iloadN X0.here hx rfl (hb hby dINT_62) rfl) ?_
    show Run p.tables e below (s₁.setTop (mkF m 63 #[.val (.int j), .val (.int (1 : Int32))] [(.int j)])) _
    refine own_go (fun _ => XS.iconst X0.here hx rfl (hb hby dINT_63)) ?_
    show Run p.tables e below (s₁.setTop (mkF m 64 #[.val (.int j), .val (.int (1 : Int32))] [(.int (4 : Int32)), (.int j)])) _
    refine own_go (fun _ => XS.icmpYes X0.here hx rfl (pc0 := 64) (pc' := 74) rfl (hb hby dINT_64) rfl (XT.ii_le_t hj) (by decide) (by decide)) ?_
    show Run p.tables e below (s₁.setTop (mkF m 74 #[.val (.int j), .val (.int (1 : Int32))] [])) _
    refine own_go (fun _ => XS.iloadN X0.here hx rfl (hb hby dINT_74) rfl) ?_
    show Run p.tables e below (s₁.setTop (mkF m 75 #[.val (.int j), .val (.int (1 : Int32))] [(.int (1 : Int32))])) _
    refine own_go (fun _ => XS.iloadN X0.here hx rfl (hb hby dINT_75) rfl) ?_
    show Run p.tables e below (s₁.setTop (mkF m 76 #[.val (.int j), .val (.int (1 : Int32))] [(.int j), (.int (1 : Int32))])) _
    refine own_go (fun _ => XS.iconst X0.here hx rfl (hb hby dINT_76)) ?_
    show Run p.tables e below (s₁.setTop (mkF m 77 #[.val (.int j), .val (.int (1 : Int32))] [(.int (1 : Int32)), (.int j), (.int (1 : Int32))])) _
    refine own_go (fun _ => XT.iushr X0.here hx rfl (hb hby dINT_77) rfl) ?_
    show Run p.tables e below (s₁.setTop (mkF m 78 #[.val (.int j), .val (.int (1 : Int32))] [(.int (XT.ushr j (1 : Int32))), (.int (1 : Int32))])) _
    refine own_go (fun _ => XS.iadd X0.here hx rfl (hb hby dINT_78) rfl) ?_
    show Run p.tables e below (s₁.setTop (mkF m 79 #[.val (.int j), .val (.int (1 : Int32))] [(.int ((1 : Int32) + (XT.ushr j (1 : Int32))))])) _
    exact own_out X0 (v := some (.int ((1 : Int32) + (XT.ushr j (1 : Int32))))) (fun q => by rw [hret] at q; cases q) hlk (fun fs hr => retI X0 hx hret (hb hby dINT_79) hr) ⟨(by rw [own_nt, if_pos q]), e0, rfl⟩ (by decide) (by decide)
  · show Run p.tables e below (s₁.setTop (mkF m 9 #[.val (.int j), .unset] [(.int j)])) _
    refine own_go (fun _ => XS.ifNo X0.here hx rfl (hb hby dINT_9) rfl (XT.i0_gt_f q)) ?_
    show Run p.tables e below (s₁.setTop (mkF m 12 #[.val (.int j), .unset] [])) _
    refine own_go (fun _ => XS.iloadN X0.here hx rfl (hb hby dINT_12) rfl) ?_
    show Run p.tables e below (s₁.setTop (mkF m 13 #[.val (.int j), .unset] [(.int j)])) _
    refine own_go (fun _ => XS.bipush X0.here hx rfl (hb hby dINT_13)) ?_
    show Run p.tables e below (s₁.setTop (mkF m 15 #[.val (.int j), .unset] [(.int (32 : Int32)), (.int j)])) _
    refine own_go (fun _ => XS.iand X0.here hx rfl (hb hby dINT_15) rfl) ?_
    show Run p.tables e below (s₁.setTop (mkF m 16 #[.val (.int j), .unset] [(.int (j &&& (32 : Int32)))])) _
    exact own_out X0 (v := some (.int (j &&& (32 : Int32)))) (fun q => by rw [hret] at q; cases q) hlk (fun fs hr => retI X0 hx hret (hb hby dINT_16) hr) ⟨(by rw [own_nt, if_neg q]), e0, rfl⟩ (by decide) (by decide)
set_option maxRecDepth 65536 in
set_option maxHeartbeats 40000000 in
theorem rmLNT (l : Launch) (Z : State) (a0 : Array Value) (hw : ∀ d ∈ tables_1, d.before a0 Z = true) (ws : List Jvm.Cond) (y : Int64) (h0 : Heap) (hy : ¬ y.toInt32 = 0) (hj : ¬ 4 < ((y.toInt32 ^^^ (-1 : Int32)) &&& (y.toInt32 - (1 : Int32)))) :
    OwnCtr l (⟨"java/lang/Long", "numberOfTrailingZeros", "(J)I"⟩ : MethodName) jdk_35_method_49_code 3 (some .int) ws own_R1 Z #[(.long y)] h0 (fun v h L => v = some (.int (own_nt ((y.toInt32 ^^^ (-1 : Int32)) &&& (y.toInt32 - (1 : Int32))))) ∧ h = h0 ∧ L = []) := by
  refine own_body own_pnJ ?_
  intro p e s m below meth c s₁ X0 hx hby hml hown hnm hret hlk hZ e0
  refine own_go (fun _ k => castTop (ef_J3 m y) k) ?_
  show Run p.tables e below (s₁.setTop (mkF m 0 #[.val (.long y), .second, .unset] [])) _
  refine own_go (fun _ => XT.lloadN X0.here hx rfl (hb hby dLNT_0) rfl) ?_
  show Run p.tables e below (s₁.setTop (mkF m 1 #[.val (.long y), .second, .unset] [(.long y)])) _
  refine own_go (fun _ => XT.l2i X0.here hx rfl (hb hby dLNT_1) rfl) ?_
  show Run p.tables e below (s₁.setTop (mkF m 2 #[.val (.long y), .second, .unset] [(.int (y).toInt32)])) _
  refine own_go (fun _ => XS.istoreN X0.here hx rfl (hb hby dLNT_2) rfl (l' := #[.val (.long y), .second, .val (.int (y).toInt32)]) rfl) ?_
  show Run p.tables e below (s₁.setTop (mkF m 3 #[.val (.long y), .second, .val (.int (y).toInt32)] [])) _
  refine own_go (fun _ => XS.iloadN X0.here hx rfl (hb hby dLNT_3) rfl) ?_
  show Run p.tables e below (s₁.setTop (mkF m 4 #[.val (.long y), .second, .val (.int (y).toInt32)] [(.int (y).toInt32)])) _
  show Run p.tables e below (s₁.setTop (mkF m 4 #[.val (.long y), .second, .val (.int y.toInt32)] [(.int y.toInt32)])) _
  refine own_go (fun _ => XS.ifYes X0.here hx rfl (pc0 := 4) (pc' := 21) rfl (hb hby dLNT_4) rfl (XT.i0_ne_t hy) (by decide) (by decide)) ?_
  show Run p.tables e below (s₁.setTop (mkF m 21 #[.val (.long y), .second, .val (.int y.toInt32)] [])) _
  refine own_go (fun _ => XS.iloadN X0.here hx rfl (hb hby dLNT_21) rfl) ?_
  show Run p.tables e below (s₁.setTop (mkF m 22 #[.val (.long y), .second, .val (.int y.toInt32)] [(.int y.toInt32)])) _
  obtain ⟨vk1, Tk1, Lk1, Xk1, ⟨rfl, ek1, rfl⟩, stk1⟩ := own_callS X0 hx hZ hown (hw _ (List.mem_of_getElem? (i := 96) rfl)) (hw _ (List.mem_of_getElem? (i := 97) rfl)) (hw _ (List.mem_of_getElem? (i := 99) rfl)) (hw _ (List.mem_of_getElem? (i := 98) rfl)) (by decide) e0 (rmINT l Z a0 hw [] y.toInt32 h0 hj) (g := (mkF m 22 #[.val (.long y), .second, .val (.int y.toInt32)] [(.int y.toInt32)])) rfl (by rw [hml]; rfl) (argsL := [(.int y.toInt32)]) (rest := []) own_pdd rfl rfl rfl (W := 0) (by show 2 * 0 + _ ≤ _; exact Nat.le_of_eq rfl) (hb hby dLNT_22) (by decide) (by decide) (by decide) (by decide)
  replace Xk1 : Stand p l e own_R1 s m #[(.long y)] below meth c Tk1 [] 0 0 := Xk1
  refine own_go stk1 ?_
  show Run p.tables e below (Tk1.setTop (mkF m 25 #[.val (.long y), .second, .val (.int y.toInt32)] [(.int (own_nt ((y.toInt32 ^^^ (-1 : Int32)) &&& (y.toInt32 - (1 : Int32)))))])) _
  exact own_out Xk1 (v := some (.int (own_nt ((y.toInt32 ^^^ (-1 : Int32)) &&& (y.toInt32 - (1 : Int32)))))) (fun q => by rw [hret] at q; cases q) hlk (fun fs hr => retI Xk1 hx hret (hb hby dLNT_25) hr) ⟨rfl, ek1, rfl⟩ (by decide) (by decide)
def own_QA (Z : State) (x : Int32) (h0 : Heap) (n0 : Nat) (v : Option Value) (h : Heap) (L : List Loc) : Prop := ∃ (r : Addr) (k : ClassId), v = some (.ref r) ∧ Fr n0 L ∧ Ext h0 h ∧ h0.size ≤ r ∧ Exa Z h r "[I" ∧ Arv Z h r k .int (own_cnt x) (own_arr x) (.int 0)
set_option maxRecDepth 65536 in
set_option maxHeartbeats 40000000 in
theorem rmARR (l : Launch) (Z : State) (a0 : Array Value) (hw : ∀ d ∈ tables_1, d.before a0 Z = true) (ws : List Jvm.Cond) (x : Int32) (hm7 : own_07 x) (h0 : Heap) (n0 : Nat) (Z0 : n0 ≤ h0.size) :
    OwnCtr l (⟨"com/example/elect/elect/core/NeighbourTableListedBitsPinLaw", "arr", "(I)[I"⟩ : MethodName) method_2_code 4 (some (.array .int)) ws own_Rarr Z #[(.int x)] h0 (own_QA Z x h0 n0) := by
  refine own_body own_pnL ?_
  intro p e s m below meth c s₁ X0 hx hby hml hown hnm hret hlk hZ e0
  refine own_go (fun _ k => castTop (ef_I4 m x) k) ?_
  show Run p.tables e below (s₁.setTop (mkF m 0 #[.val (.int x), .unset, .unset, .unset] [])) _
  refine own_go (fun _ => XS.iloadN X0.here hx rfl (hb hby dARR_0) rfl) ?_
  show Run p.tables e below (s₁.setTop (mkF m 1 #[.val (.int x), .unset, .unset, .unset] [(.int x)])) _
  refine own_go (fun _ => XS.iconst X0.here hx rfl (hb hby dARR_1)) ?_
  show Run p.tables e below (s₁.setTop (mkF m 2 #[.val (.int x), .unset, .unset, .unset] [(.int (1 : Int32)), (.int x)])) _
  refine own_go (fun _ => XS.iand X0.here hx rfl (hb hby dARR_2) rfl) ?_
  show Run p.tables e below (s₁.setTop (mkF m 3 #[.val (.int x), .unset, .unset, .unset] [(.int (x &&& (1 : Int32)))])) _
  refine own_go (fun _ => XS.iloadN X0.here hx rfl (hb hby dARR_3) rfl) ?_
  show Run p.tables e below (s₁.setTop (mkF m 4 #[.val (.int x), .unset, .unset, .unset] [(.int x), (.int (x &&& (1 : Int32)))])) _
  refine own_go (fun _ => XS.iconst X0.here hx rfl (hb hby dARR_4)) ?_
  show Run p.tables e below (s₁.setTop (mkF m 5 #[.val (.int x), .unset, .unset, .unset] [(.int (1 : Int32)), (.int x), (.int (x &&& (1 : Int32)))])) _
  refine own_go (fun _ => XT.ishr X0.here hx rfl (hb hby dARR_5) rfl) ?_
  show Run p.tables e below (s₁.setTop (mkF m 6 #[.val (.int x), .unset, .unset, .unset] [(.int (x >>> ((1 : Int32) &&& 31))), (.int (x &&& (1 : Int32)))])) _
  refine own_go (fun _ => XS.iconst X0.here hx rfl (hb hby dARR_6)) ?_
  show Run p.tables e below (s₁.setTop (mkF m 7 #[.val (.int x), .unset, .unset, .unset] [(.int (1 : Int32)), (.int (x >>> ((1 : Int32) &&& 31))), (.int (x &&& (1 : Int32)))])) _
  refine own_go (fun _ => XS.iand X0.here hx rfl (hb hby dARR_7) rfl) ?_
  show Run p.tables e below (s₁.setTop (mkF m 8 #[.val (.int x), .unset, .unset, .unset] [(.int ((x >>> ((1 : Int32) &&& 31)) &&& (1 : Int32))), (.int (x &&& (1 : Int32)))])) _
  refine own_go (fun _ => XS.iadd X0.here hx rfl (hb hby dARR_8) rfl) ?_
  show Run p.tables e below (s₁.setTop (mkF m 9 #[.val (.int x), .unset, .unset, .unset] [(.int ((x &&& (1 : Int32)) + ((x >>> ((1 : Int32) &&& 31)) &&& (1 : Int32))))])) _
  refine own_go (fun _ => XS.iloadN X0.here hx rfl (hb hby dARR_9) rfl) ?_
  show Run p.tables e below (s₁.setTop (mkF m 10 #[.val (.int x), .unset, .unset, .unset] [(.int x), (.int ((x &&& (1 : Int32)) + ((x >>> ((1 : Int32) &&& 31)) &&& (1 : Int32))))])) _
  refine own_go (fun _ => XS.iconst X0.here hx rfl (hb hby dARR_10)) ?_
  show Run p.tables e below (s₁.setTop (mkF m 11 #[.val (.int x), .unset, .unset, .unset] [(.int (2 : Int32)), (.int x), (.int ((x &&& (1 : Int32)) + ((x >>> ((1 : Int32) &&& 31)) &&& (1 : Int32))))])) _
  refine own_go (fun _ => XT.ishr X0.here hx rfl (hb hby dARR_11) rfl) ?_
  show Run p.tables e below (s₁.setTop (mkF m 12 #[.val (.int x), .unset, .unset, .unset] [(.int (x >>> ((2 : Int32) &&& 31))), (.int ((x &&& (1 : Int32)) + ((x >>> ((1 : Int32) &&& 31)) &&& (1 : Int32))))])) _
  refine own_go (fun _ => XS.iconst X0.here hx rfl (hb hby dARR_12)) ?_
  show Run p.tables e below (s₁.setTop (mkF m 13 #[.val (.int x), .unset, .unset, .unset] [(.int (1 : Int32)), (.int (x >>> ((2 : Int32) &&& 31))), (.int ((x &&& (1 : Int32)) + ((x >>> ((1 : Int32) &&& 31)) &&& (1 : Int32))))])) _
  refine own_go (fun _ => XS.iand X0.here hx rfl (hb hby dARR_13) rfl) ?_
  show Run p.tables e below (s₁.setTop (mkF m 14 #[.val (.int x), .unset, .unset, .unset] [(.int ((x >>> ((2 : Int32) &&& 31)) &&& (1 : Int32))), (.int ((x &&& (1 : Int32)) + ((x >>> ((1 : Int32) &&& 31)) &&& (1 : Int32))))])) _
  refine own_go (fun _ => XS.iadd X0.here hx rfl (hb hby dARR_14) rfl) ?_
  show Run p.tables e below (s₁.setTop (mkF m 15 #[.val (.int x), .unset, .unset, .unset] [(.int (((x &&& (1 : Int32)) + ((x >>> ((1 : Int32) &&& 31)) &&& (1 : Int32))) + ((x >>> ((2 : Int32) &&& 31)) &&& (1 : Int32))))])) _
  have hc : (((x &&& (1 : Int32)) + ((x >>> ((1 : Int32) &&& 31)) &&& (1 : Int32))) + ((x >>> ((2 : Int32) &&& 31)) &&& (1 : Int32))) = own_cnt x := rfl
  rw [hc]
  show Run p.tables e below (s₁.setTop (mkF m 15 #[.val (.int x), .unset, .unset, .unset] [(.int (own_cnt x))])) _
  rcases hm7 with rfl | rfl | rfl | rfl | rfl | rfl | rfl | rfl
  · rw [own_cnt0]
    show Run p.tables e below (s₁.setTop (mkF m 15 #[.val (.int (0 : Int32)), .unset, .unset, .unset] [(.int (0 : Int32))])) _
    refine own_go (fun _ => XS.istoreN X0.here hx rfl (hb hby dARR_15) rfl (l' := #[.val (.int (0 : Int32)), .val (.int (0 : Int32)), .unset, .unset]) rfl) ?_
    show Run p.tables e below (s₁.setTop (mkF m 16 #[.val (.int (0 : Int32)), .val (.int (0 : Int32)), .unset, .unset] [])) _
    refine own_go (fun _ => XS.iloadN X0.here hx rfl (hb hby dARR_16) rfl) ?_
    show Run p.tables e below (s₁.setTop (mkF m 17 #[.val (.int (0 : Int32)), .val (.int (0 : Int32)), .unset, .unset] [(.int (0 : Int32))])) _
    obtain ⟨TN, hN, cA, XN, eN, EN, AN, XE, stN⟩ := newPE X0 hx hZ (hw _ (List.mem_of_getElem? (i := 5) rfl)) e0 (g := (mkF m 17 #[.val (.int (0 : Int32)), .val (.int (0 : Int32)), .unset, .unset] [(.int (0 : Int32))])) rfl (hb hby dARR_17) rfl (by decide) (cap := 3) (by decide) (by decide) (by decide) (by decide) (ad := "[I") (by decide)
    obtain ⟨r, gr⟩ : ∃ z, z = h0.size := ⟨_, rfl⟩
    rw [← gr] at AN XE stN
    have ge : h0.size ≤ r := Nat.le_of_eq gr.symm
    have ge0 : n0 ≤ r := Nat.le_trans Z0 ge
    have N0 := Fr.nil n0
    have V0 : Arv Z hN r cA .int 0 ([] ++ List.replicate 0 (.int 0)) (.int 0) := (Arv.new AN (by decide)).pad (pad_rep [] (.int 0) 0)
    refine own_go stN ?_
    show Run p.tables e below (TN.setTop (mkF m 19 #[.val (.int (0 : Int32)), .val (.int (0 : Int32)), .unset, .unset] [(.ref r)])) _
    refine own_go (fun _ => XS.astoreN XN.here hx rfl (hb hby dARR_19) rfl rfl (l' := #[.val (.int (0 : Int32)), .val (.int (0 : Int32)), .val (.ref r), .unset]) rfl) ?_
    show Run p.tables e below (TN.setTop (mkF m 20 #[.val (.int (0 : Int32)), .val (.int (0 : Int32)), .val (.ref r), .unset] [])) _
    refine own_go (fun _ => XS.iconst XN.here hx rfl (hb hby dARR_20)) ?_
    show Run p.tables e below (TN.setTop (mkF m 21 #[.val (.int (0 : Int32)), .val (.int (0 : Int32)), .val (.ref r), .unset] [(.int (0 : Int32))])) _
    refine own_go (fun _ => XS.istoreN XN.here hx rfl (hb hby dARR_21) rfl (l' := #[.val (.int (0 : Int32)), .val (.int (0 : Int32)), .val (.ref r), .val (.int (0 : Int32))]) rfl) ?_
    show Run p.tables e below (TN.setTop (mkF m 22 #[.val (.int (0 : Int32)), .val (.int (0 : Int32)), .val (.ref r), .val (.int (0 : Int32))] [])) _
    refine own_go (fun _ => XS.iloadN XN.here hx rfl (hb hby dARR_22) rfl) ?_
    show Run p.tables e below (TN.setTop (mkF m 23 #[.val (.int (0 : Int32)), .val (.int (0 : Int32)), .val (.ref r), .val (.int (0 : Int32))] [(.int (0 : Int32))])) _
    refine own_go (fun _ => XS.iconst XN.here hx rfl (hb hby dARR_23)) ?_
    show Run p.tables e below (TN.setTop (mkF m 24 #[.val (.int (0 : Int32)), .val (.int (0 : Int32)), .val (.ref r), .val (.int (0 : Int32))] [(.int (4 : Int32)), (.int (0 : Int32))])) _
    refine own_go (fun _ => XS.iand XN.here hx rfl (hb hby dARR_24) rfl) ?_
    show Run p.tables e below (TN.setTop (mkF m 25 #[.val (.int (0 : Int32)), .val (.int (0 : Int32)), .val (.ref r), .val (.int (0 : Int32))] [(.int ((0 : Int32) &&& (4 : Int32)))])) _
    refine own_go (fun _ => XS.ifYes XN.here hx rfl (pc0 := 25) (pc' := 35) rfl (hb hby dARR_25) rfl (XT.i0_eq_t (by decide)) (by decide) (by decide)) ?_
    show Run p.tables e below (TN.setTop (mkF m 35 #[.val (.int (0 : Int32)), .val (.int (0 : Int32)), .val (.ref r), .val (.int (0 : Int32))] [])) _
    refine own_go (fun _ => XS.iloadN XN.here hx rfl (hb hby dARR_35) rfl) ?_
    show Run p.tables e below (TN.setTop (mkF m 36 #[.val (.int (0 : Int32)), .val (.int (0 : Int32)), .val (.ref r), .val (.int (0 : Int32))] [(.int (0 : Int32))])) _
    refine own_go (fun _ => XS.iconst XN.here hx rfl (hb hby dARR_36)) ?_
    show Run p.tables e below (TN.setTop (mkF m 37 #[.val (.int (0 : Int32)), .val (.int (0 : Int32)), .val (.ref r), .val (.int (0 : Int32))] [(.int (2 : Int32)), (.int (0 : Int32))])) _
    refine own_go (fun _ => XS.iand XN.here hx rfl (hb hby dARR_37) rfl) ?_
    show Run p.tables e below (TN.setTop (mkF m 38 #[.val (.int (0 : Int32)), .val (.int (0 : Int32)), .val (.ref r), .val (.int (0 : Int32))] [(.int ((0 : Int32) &&& (2 : Int32)))])) _
    refine own_go (fun _ => XS.ifYes XN.here hx rfl (pc0 := 38) (pc' := 48) rfl (hb hby dARR_38) rfl (XT.i0_eq_t (by decide)) (by decide) (by decide)) ?_
    show Run p.tables e below (TN.setTop (mkF m 48 #[.val (.int (0 : Int32)), .val (.int (0 : Int32)), .val (.ref r), .val (.int (0 : Int32))] [])) _
    refine own_go (fun _ => XS.iloadN XN.here hx rfl (hb hby dARR_48) rfl) ?_
    show Run p.tables e below (TN.setTop (mkF m 49 #[.val (.int (0 : Int32)), .val (.int (0 : Int32)), .val (.ref r), .val (.int (0 : Int32))] [(.int (0 : Int32))])) _
    refine own_go (fun _ => XS.iconst XN.here hx rfl (hb hby dARR_49)) ?_
    show Run p.tables e below (TN.setTop (mkF m 50 #[.val (.int (0 : Int32)), .val (.int (0 : Int32)), .val (.ref r), .val (.int (0 : Int32))] [(.int (1 : Int32)), (.int (0 : Int32))])) _
    refine own_go (fun _ => XS.iand XN.here hx rfl (hb hby dARR_50) rfl) ?_
    show Run p.tables e below (TN.setTop (mkF m 51 #[.val (.int (0 : Int32)), .val (.int (0 : Int32)), .val (.ref r), .val (.int (0 : Int32))] [(.int ((0 : Int32) &&& (1 : Int32)))])) _
    refine own_go (fun _ => XS.ifYes XN.here hx rfl (pc0 := 51) (pc' := 61) rfl (hb hby dARR_51) rfl (XT.i0_eq_t (by decide)) (by decide) (by decide)) ?_
    show Run p.tables e below (TN.setTop (mkF m 61 #[.val (.int (0 : Int32)), .val (.int (0 : Int32)), .val (.ref r), .val (.int (0 : Int32))] [])) _
    refine own_go (fun _ => XS.aloadN XN.here hx rfl (hb hby dARR_61) rfl rfl) ?_
    show Run p.tables e below (TN.setTop (mkF m 62 #[.val (.int (0 : Int32)), .val (.int (0 : Int32)), .val (.ref r), .val (.int (0 : Int32))] [(.ref r)])) _
    subst eN
    exact own_out XN (v := some (.ref r)) (fun q => by rw [hret] at q; cases q) hlk (fun fs hr => XN.areturnOut hx rfl hret rfl (hb hby dARR_62) hr) ⟨r, cA, rfl, N0, EN, ge, XE, (by rw [own_cnt0, own_arr0]; exact V0)⟩ (by decide) (by decide)
  · rw [own_cnt1]
    show Run p.tables e below (s₁.setTop (mkF m 15 #[.val (.int (1 : Int32)), .unset, .unset, .unset] [(.int (1 : Int32))])) _
    refine own_go (fun _ => XS.istoreN X0.here hx rfl (hb hby dARR_15) rfl (l' := #[.val (.int (1 : Int32)), .val (.int (1 : Int32)), .unset, .unset]) rfl) ?_
    show Run p.tables e below (s₁.setTop (mkF m 16 #[.val (.int (1 : Int32)), .val (.int (1 : Int32)), .unset, .unset] [])) _
    refine own_go (fun _ => XS.iloadN X0.here hx rfl (hb hby dARR_16) rfl) ?_
    show Run p.tables e below (s₁.setTop (mkF m 17 #[.val (.int (1 : Int32)), .val (.int (1 : Int32)), .unset, .unset] [(.int (1 : Int32))])) _
    obtain ⟨TN, hN, cA, XN, eN, EN, AN, XE, stN⟩ := newPE X0 hx hZ (hw _ (List.mem_of_getElem? (i := 5) rfl)) e0 (g := (mkF m 17 #[.val (.int (1 : Int32)), .val (.int (1 : Int32)), .unset, .unset] [(.int (1 : Int32))])) rfl (hb hby dARR_17) rfl (by decide) (cap := 3) (by decide) (by decide) (by decide) (by decide) (ad := "[I") (by decide)
    obtain ⟨r, gr⟩ : ∃ z, z = h0.size := ⟨_, rfl⟩
    rw [← gr] at AN XE stN
    have ge : h0.size ≤ r := Nat.le_of_eq gr.symm
    have ge0 : n0 ≤ r := Nat.le_trans Z0 ge
    have N0 := Fr.nil n0
    have V0 : Arv Z hN r cA .int 1 ([] ++ List.replicate 1 (.int 0)) (.int 0) := (Arv.new AN (by decide)).pad (pad_rep [] (.int 0) 1)
    refine own_go stN ?_
    show Run p.tables e below (TN.setTop (mkF m 19 #[.val (.int (1 : Int32)), .val (.int (1 : Int32)), .unset, .unset] [(.ref r)])) _
    refine own_go (fun _ => XS.astoreN XN.here hx rfl (hb hby dARR_19) rfl rfl (l' := #[.val (.int (1 : Int32)), .val (.int (1 : Int32)), .val (.ref r), .unset]) rfl) ?_
    show Run p.tables e below (TN.setTop (mkF m 20 #[.val (.int (1 : Int32)), .val (.int (1 : Int32)), .val (.ref r), .unset] [])) _
    refine own_go (fun _ => XS.iconst XN.here hx rfl (hb hby dARR_20)) ?_
    show Run p.tables e below (TN.setTop (mkF m 21 #[.val (.int (1 : Int32)), .val (.int (1 : Int32)), .val (.ref r), .unset] [(.int (0 : Int32))])) _
    refine own_go (fun _ => XS.istoreN XN.here hx rfl (hb hby dARR_21) rfl (l' := #[.val (.int (1 : Int32)), .val (.int (1 : Int32)), .val (.ref r), .val (.int (0 : Int32))]) rfl) ?_
    show Run p.tables e below (TN.setTop (mkF m 22 #[.val (.int (1 : Int32)), .val (.int (1 : Int32)), .val (.ref r), .val (.int (0 : Int32))] [])) _
    refine own_go (fun _ => XS.iloadN XN.here hx rfl (hb hby dARR_22) rfl) ?_
    show Run p.tables e below (TN.setTop (mkF m 23 #[.val (.int (1 : Int32)), .val (.int (1 : Int32)), .val (.ref r), .val (.int (0 : Int32))] [(.int (1 : Int32))])) _
    refine own_go (fun _ => XS.iconst XN.here hx rfl (hb hby dARR_23)) ?_
    show Run p.tables e below (TN.setTop (mkF m 24 #[.val (.int (1 : Int32)), .val (.int (1 : Int32)), .val (.ref r), .val (.int (0 : Int32))] [(.int (4 : Int32)), (.int (1 : Int32))])) _
    refine own_go (fun _ => XS.iand XN.here hx rfl (hb hby dARR_24) rfl) ?_
    show Run p.tables e below (TN.setTop (mkF m 25 #[.val (.int (1 : Int32)), .val (.int (1 : Int32)), .val (.ref r), .val (.int (0 : Int32))] [(.int ((1 : Int32) &&& (4 : Int32)))])) _
    refine own_go (fun _ => XS.ifYes XN.here hx rfl (pc0 := 25) (pc' := 35) rfl (hb hby dARR_25) rfl (XT.i0_eq_t (by decide)) (by decide) (by decide)) ?_
    show Run p.tables e below (TN.setTop (mkF m 35 #[.val (.int (1 : Int32)), .val (.int (1 : Int32)), .val (.ref r), .val (.int (0 : Int32))] [])) _
    refine own_go (fun _ => XS.iloadN XN.here hx rfl (hb hby dARR_35) rfl) ?_
    show Run p.tables e below (TN.setTop (mkF m 36 #[.val (.int (1 : Int32)), .val (.int (1 : Int32)), .val (.ref r), .val (.int (0 : Int32))] [(.int (1 : Int32))])) _
    refine own_go (fun _ => XS.iconst XN.here hx rfl (hb hby dARR_36)) ?_
    show Run p.tables e below (TN.setTop (mkF m 37 #[.val (.int (1 : Int32)), .val (.int (1 : Int32)), .val (.ref r), .val (.int (0 : Int32))] [(.int (2 : Int32)), (.int (1 : Int32))])) _
    refine own_go (fun _ => XS.iand XN.here hx rfl (hb hby dARR_37) rfl) ?_
    show Run p.tables e below (TN.setTop (mkF m 38 #[.val (.int (1 : Int32)), .val (.int (1 : Int32)), .val (.ref r), .val (.int (0 : Int32))] [(.int ((1 : Int32) &&& (2 : Int32)))])) _
    refine own_go (fun _ => XS.ifYes XN.here hx rfl (pc0 := 38) (pc' := 48) rfl (hb hby dARR_38) rfl (XT.i0_eq_t (by decide)) (by decide) (by decide)) ?_
    show Run p.tables e below (TN.setTop (mkF m 48 #[.val (.int (1 : Int32)), .val (.int (1 : Int32)), .val (.ref r), .val (.int (0 : Int32))] [])) _
    refine own_go (fun _ => XS.iloadN XN.here hx rfl (hb hby dARR_48) rfl) ?_
    show Run p.tables e below (TN.setTop (mkF m 49 #[.val (.int (1 : Int32)), .val (.int (1 : Int32)), .val (.ref r), .val (.int (0 : Int32))] [(.int (1 : Int32))])) _
    refine own_go (fun _ => XS.iconst XN.here hx rfl (hb hby dARR_49)) ?_
    show Run p.tables e below (TN.setTop (mkF m 50 #[.val (.int (1 : Int32)), .val (.int (1 : Int32)), .val (.ref r), .val (.int (0 : Int32))] [(.int (1 : Int32)), (.int (1 : Int32))])) _
    refine own_go (fun _ => XS.iand XN.here hx rfl (hb hby dARR_50) rfl) ?_
    show Run p.tables e below (TN.setTop (mkF m 51 #[.val (.int (1 : Int32)), .val (.int (1 : Int32)), .val (.ref r), .val (.int (0 : Int32))] [(.int ((1 : Int32) &&& (1 : Int32)))])) _
    refine own_go (fun _ => XS.ifNo XN.here hx rfl (hb hby dARR_51) rfl (XT.i0_eq_f (by decide))) ?_
    show Run p.tables e below (TN.setTop (mkF m 54 #[.val (.int (1 : Int32)), .val (.int (1 : Int32)), .val (.ref r), .val (.int (0 : Int32))] [])) _
    refine own_go (fun _ => XS.aloadN XN.here hx rfl (hb hby dARR_54) rfl rfl) ?_
    show Run p.tables e below (TN.setTop (mkF m 55 #[.val (.int (1 : Int32)), .val (.int (1 : Int32)), .val (.ref r), .val (.int (0 : Int32))] [(.ref r)])) _
    refine own_go (fun _ => XS.iloadN XN.here hx rfl (hb hby dARR_55) rfl) ?_
    show Run p.tables e below (TN.setTop (mkF m 56 #[.val (.int (1 : Int32)), .val (.int (1 : Int32)), .val (.ref r), .val (.int (0 : Int32))] [(.int (0 : Int32)), (.ref r)])) _
    refine own_go (fun _ => XS.iconst XN.here hx rfl (hb hby dARR_56)) ?_
    show Run p.tables e below (TN.setTop (mkF m 57 #[.val (.int (1 : Int32)), .val (.int (1 : Int32)), .val (.ref r), .val (.int (0 : Int32))] [(.int (0 : Int32)), (.int (0 : Int32)), (.ref r)])) _
    obtain ⟨Ts1, hs1, Ls1, Xs1, es1, Ws1, Vs1, Ns1, sts1⟩ := own_stI XN hx hZ eN V0 (j := (0 : Int32)) ⟨by decide, by decide⟩ 0 rfl (by decide) N0 ge0 (g := (mkF m 57 #[.val (.int (1 : Int32)), .val (.int (1 : Int32)), .val (.ref r), .val (.int (0 : Int32))] [(.int (0 : Int32)), (.int (0 : Int32)), (.ref r)])) rfl rfl (hb hby dARR_57)
    have Es1 := own_extwr EN Ws1 ge
    have XEs1 := XE.wr Ws1
    refine own_go sts1 ?_
    show Run p.tables e below (Ts1.setTop (mkF m 58 #[.val (.int (1 : Int32)), .val (.int (1 : Int32)), .val (.ref r), .val (.int (0 : Int32))] [])) _
    refine own_go (fun _ => XS.iinc Xs1.here hx rfl (hb hby dARR_58) rfl (l' := #[.val (.int (1 : Int32)), .val (.int (1 : Int32)), .val (.ref r), .val (.int (1 : Int32))]) rfl) ?_
    show Run p.tables e below (Ts1.setTop (mkF m 61 #[.val (.int (1 : Int32)), .val (.int (1 : Int32)), .val (.ref r), .val (.int (1 : Int32))] [])) _
    refine own_go (fun _ => XS.aloadN Xs1.here hx rfl (hb hby dARR_61) rfl rfl) ?_
    show Run p.tables e below (Ts1.setTop (mkF m 62 #[.val (.int (1 : Int32)), .val (.int (1 : Int32)), .val (.ref r), .val (.int (1 : Int32))] [(.ref r)])) _
    subst es1
    exact own_out Xs1 (v := some (.ref r)) (fun q => by rw [hret] at q; cases q) hlk (fun fs hr => Xs1.areturnOut hx rfl hret rfl (hb hby dARR_62) hr) ⟨r, cA, rfl, Ns1, Es1, ge, XEs1, (by rw [own_cnt1, own_arr1]; exact Vs1)⟩ (by decide) (by decide)
  · rw [own_cnt2]
    show Run p.tables e below (s₁.setTop (mkF m 15 #[.val (.int (2 : Int32)), .unset, .unset, .unset] [(.int (1 : Int32))])) _
    refine own_go (fun _ => XS.istoreN X0.here hx rfl (hb hby dARR_15) rfl (l' := #[.val (.int (2 : Int32)), .val (.int (1 : Int32)), .unset, .unset]) rfl) ?_
    show Run p.tables e below (s₁.setTop (mkF m 16 #[.val (.int (2 : Int32)), .val (.int (1 : Int32)), .unset, .unset] [])) _
    refine own_go (fun _ => XS.iloadN X0.here hx rfl (hb hby dARR_16) rfl) ?_
    show Run p.tables e below (s₁.setTop (mkF m 17 #[.val (.int (2 : Int32)), .val (.int (1 : Int32)), .unset, .unset] [(.int (1 : Int32))])) _
    obtain ⟨TN, hN, cA, XN, eN, EN, AN, XE, stN⟩ := newPE X0 hx hZ (hw _ (List.mem_of_getElem? (i := 5) rfl)) e0 (g := (mkF m 17 #[.val (.int (2 : Int32)), .val (.int (1 : Int32)), .unset, .unset] [(.int (1 : Int32))])) rfl (hb hby dARR_17) rfl (by decide) (cap := 3) (by decide) (by decide) (by decide) (by decide) (ad := "[I") (by decide)
    obtain ⟨r, gr⟩ : ∃ z, z = h0.size := ⟨_, rfl⟩
    rw [← gr] at AN XE stN
    have ge : h0.size ≤ r := Nat.le_of_eq gr.symm
    have ge0 : n0 ≤ r := Nat.le_trans Z0 ge
    have N0 := Fr.nil n0
    have V0 : Arv Z hN r cA .int 1 ([] ++ List.replicate 1 (.int 0)) (.int 0) := (Arv.new AN (by decide)).pad (pad_rep [] (.int 0) 1)
    refine own_go stN ?_
    show Run p.tables e below (TN.setTop (mkF m 19 #[.val (.int (2 : Int32)), .val (.int (1 : Int32)), .unset, .unset] [(.ref r)])) _
    refine own_go (fun _ => XS.astoreN XN.here hx rfl (hb hby dARR_19) rfl rfl (l' := #[.val (.int (2 : Int32)), .val (.int (1 : Int32)), .val (.ref r), .unset]) rfl) ?_
    show Run p.tables e below (TN.setTop (mkF m 20 #[.val (.int (2 : Int32)), .val (.int (1 : Int32)), .val (.ref r), .unset] [])) _
    refine own_go (fun _ => XS.iconst XN.here hx rfl (hb hby dARR_20)) ?_
    show Run p.tables e below (TN.setTop (mkF m 21 #[.val (.int (2 : Int32)), .val (.int (1 : Int32)), .val (.ref r), .unset] [(.int (0 : Int32))])) _
    refine own_go (fun _ => XS.istoreN XN.here hx rfl (hb hby dARR_21) rfl (l' := #[.val (.int (2 : Int32)), .val (.int (1 : Int32)), .val (.ref r), .val (.int (0 : Int32))]) rfl) ?_
    show Run p.tables e below (TN.setTop (mkF m 22 #[.val (.int (2 : Int32)), .val (.int (1 : Int32)), .val (.ref r), .val (.int (0 : Int32))] [])) _
    refine own_go (fun _ => XS.iloadN XN.here hx rfl (hb hby dARR_22) rfl) ?_
    show Run p.tables e below (TN.setTop (mkF m 23 #[.val (.int (2 : Int32)), .val (.int (1 : Int32)), .val (.ref r), .val (.int (0 : Int32))] [(.int (2 : Int32))])) _
    refine own_go (fun _ => XS.iconst XN.here hx rfl (hb hby dARR_23)) ?_
    show Run p.tables e below (TN.setTop (mkF m 24 #[.val (.int (2 : Int32)), .val (.int (1 : Int32)), .val (.ref r), .val (.int (0 : Int32))] [(.int (4 : Int32)), (.int (2 : Int32))])) _
    refine own_go (fun _ => XS.iand XN.here hx rfl (hb hby dARR_24) rfl) ?_
    show Run p.tables e below (TN.setTop (mkF m 25 #[.val (.int (2 : Int32)), .val (.int (1 : Int32)), .val (.ref r), .val (.int (0 : Int32))] [(.int ((2 : Int32) &&& (4 : Int32)))])) _
    refine own_go (fun _ => XS.ifYes XN.here hx rfl (pc0 := 25) (pc' := 35) rfl (hb hby dARR_25) rfl (XT.i0_eq_t (by decide)) (by decide) (by decide)) ?_
    show Run p.tables e below (TN.setTop (mkF m 35 #[.val (.int (2 : Int32)), .val (.int (1 : Int32)), .val (.ref r), .val (.int (0 : Int32))] [])) _
    refine own_go (fun _ => XS.iloadN XN.here hx rfl (hb hby dARR_35) rfl) ?_
    show Run p.tables e below (TN.setTop (mkF m 36 #[.val (.int (2 : Int32)), .val (.int (1 : Int32)), .val (.ref r), .val (.int (0 : Int32))] [(.int (2 : Int32))])) _
    refine own_go (fun _ => XS.iconst XN.here hx rfl (hb hby dARR_36)) ?_
    show Run p.tables e below (TN.setTop (mkF m 37 #[.val (.int (2 : Int32)), .val (.int (1 : Int32)), .val (.ref r), .val (.int (0 : Int32))] [(.int (2 : Int32)), (.int (2 : Int32))])) _
    refine own_go (fun _ => XS.iand XN.here hx rfl (hb hby dARR_37) rfl) ?_
    show Run p.tables e below (TN.setTop (mkF m 38 #[.val (.int (2 : Int32)), .val (.int (1 : Int32)), .val (.ref r), .val (.int (0 : Int32))] [(.int ((2 : Int32) &&& (2 : Int32)))])) _
    refine own_go (fun _ => XS.ifNo XN.here hx rfl (hb hby dARR_38) rfl (XT.i0_eq_f (by decide))) ?_
    show Run p.tables e below (TN.setTop (mkF m 41 #[.val (.int (2 : Int32)), .val (.int (1 : Int32)), .val (.ref r), .val (.int (0 : Int32))] [])) _
    refine own_go (fun _ => XS.aloadN XN.here hx rfl (hb hby dARR_41) rfl rfl) ?_
    show Run p.tables e below (TN.setTop (mkF m 42 #[.val (.int (2 : Int32)), .val (.int (1 : Int32)), .val (.ref r), .val (.int (0 : Int32))] [(.ref r)])) _
    refine own_go (fun _ => XS.iloadN XN.here hx rfl (hb hby dARR_42) rfl) ?_
    show Run p.tables e below (TN.setTop (mkF m 43 #[.val (.int (2 : Int32)), .val (.int (1 : Int32)), .val (.ref r), .val (.int (0 : Int32))] [(.int (0 : Int32)), (.ref r)])) _
    refine own_go (fun _ => XS.iconst XN.here hx rfl (hb hby dARR_43)) ?_
    show Run p.tables e below (TN.setTop (mkF m 44 #[.val (.int (2 : Int32)), .val (.int (1 : Int32)), .val (.ref r), .val (.int (0 : Int32))] [(.int (1 : Int32)), (.int (0 : Int32)), (.ref r)])) _
    obtain ⟨Ts2, hs2, Ls2, Xs2, es2, Ws2, Vs2, Ns2, sts2⟩ := own_stI XN hx hZ eN V0 (j := (0 : Int32)) ⟨by decide, by decide⟩ 0 rfl (by decide) N0 ge0 (g := (mkF m 44 #[.val (.int (2 : Int32)), .val (.int (1 : Int32)), .val (.ref r), .val (.int (0 : Int32))] [(.int (1 : Int32)), (.int (0 : Int32)), (.ref r)])) rfl rfl (hb hby dARR_44)
    have Es2 := own_extwr EN Ws2 ge
    have XEs2 := XE.wr Ws2
    refine own_go sts2 ?_
    show Run p.tables e below (Ts2.setTop (mkF m 45 #[.val (.int (2 : Int32)), .val (.int (1 : Int32)), .val (.ref r), .val (.int (0 : Int32))] [])) _
    refine own_go (fun _ => XS.iinc Xs2.here hx rfl (hb hby dARR_45) rfl (l' := #[.val (.int (2 : Int32)), .val (.int (1 : Int32)), .val (.ref r), .val (.int (1 : Int32))]) rfl) ?_
    show Run p.tables e below (Ts2.setTop (mkF m 48 #[.val (.int (2 : Int32)), .val (.int (1 : Int32)), .val (.ref r), .val (.int (1 : Int32))] [])) _
    refine own_go (fun _ => XS.iloadN Xs2.here hx rfl (hb hby dARR_48) rfl) ?_
    show Run p.tables e below (Ts2.setTop (mkF m 49 #[.val (.int (2 : Int32)), .val (.int (1 : Int32)), .val (.ref r), .val (.int (1 : Int32))] [(.int (2 : Int32))])) _
    refine own_go (fun _ => XS.iconst Xs2.here hx rfl (hb hby dARR_49)) ?_
    show Run p.tables e below (Ts2.setTop (mkF m 50 #[.val (.int (2 : Int32)), .val (.int (1 : Int32)), .val (.ref r), .val (.int (1 : Int32))] [(.int (1 : Int32)), (.int (2 : Int32))])) _
    refine own_go (fun _ => XS.iand Xs2.here hx rfl (hb hby dARR_50) rfl) ?_
    show Run p.tables e below (Ts2.setTop (mkF m 51 #[.val (.int (2 : Int32)), .val (.int (1 : Int32)), .val (.ref r), .val (.int (1 : Int32))] [(.int ((2 : Int32) &&& (1 : Int32)))])) _
    refine own_go (fun _ => XS.ifYes Xs2.here hx rfl (pc0 := 51) (pc' := 61) rfl (hb hby dARR_51) rfl (XT.i0_eq_t (by decide)) (by decide) (by decide)) ?_
    show Run p.tables e below (Ts2.setTop (mkF m 61 #[.val (.int (2 : Int32)), .val (.int (1 : Int32)), .val (.ref r), .val (.int (1 : Int32))] [])) _
    refine own_go (fun _ => XS.aloadN Xs2.here hx rfl (hb hby dARR_61) rfl rfl) ?_
    show Run p.tables e below (Ts2.setTop (mkF m 62 #[.val (.int (2 : Int32)), .val (.int (1 : Int32)), .val (.ref r), .val (.int (1 : Int32))] [(.ref r)])) _
    subst es2
    exact own_out Xs2 (v := some (.ref r)) (fun q => by rw [hret] at q; cases q) hlk (fun fs hr => Xs2.areturnOut hx rfl hret rfl (hb hby dARR_62) hr) ⟨r, cA, rfl, Ns2, Es2, ge, XEs2, (by rw [own_cnt2, own_arr2]; exact Vs2)⟩ (by decide) (by decide)
  · rw [own_cnt3]
    show Run p.tables e below (s₁.setTop (mkF m 15 #[.val (.int (3 : Int32)), .unset, .unset, .unset] [(.int (2 : Int32))])) _
    refine own_go (fun _ => XS.istoreN X0.here hx rfl (hb hby dARR_15) rfl (l' := #[.val (.int (3 : Int32)), .val (.int (2 : Int32)), .unset, .unset]) rfl) ?_
    show Run p.tables e below (s₁.setTop (mkF m 16 #[.val (.int (3 : Int32)), .val (.int (2 : Int32)), .unset, .unset] [])) _
    refine own_go (fun _ => XS.iloadN X0.here hx rfl (hb hby dARR_16) rfl) ?_
    show Run p.tables e below (s₁.setTop (mkF m 17 #[.val (.int (3 : Int32)), .val (.int (2 : Int32)), .unset, .unset] [(.int (2 : Int32))])) _
    obtain ⟨TN, hN, cA, XN, eN, EN, AN, XE, stN⟩ := newPE X0 hx hZ (hw _ (List.mem_of_getElem? (i := 5) rfl)) e0 (g := (mkF m 17 #[.val (.int (3 : Int32)), .val (.int (2 : Int32)), .unset, .unset] [(.int (2 : Int32))])) rfl (hb hby dARR_17) rfl (by decide) (cap := 3) (by decide) (by decide) (by decide) (by decide) (ad := "[I") (by decide)
    obtain ⟨r, gr⟩ : ∃ z, z = h0.size := ⟨_, rfl⟩
    rw [← gr] at AN XE stN
    have ge : h0.size ≤ r := Nat.le_of_eq gr.symm
    have ge0 : n0 ≤ r := Nat.le_trans Z0 ge
    have N0 := Fr.nil n0
    have V0 : Arv Z hN r cA .int 2 ([] ++ List.replicate 2 (.int 0)) (.int 0) := (Arv.new AN (by decide)).pad (pad_rep [] (.int 0) 2)
    refine own_go stN ?_
    show Run p.tables e below (TN.setTop (mkF m 19 #[.val (.int (3 : Int32)), .val (.int (2 : Int32)), .unset, .unset] [(.ref r)])) _
    refine own_go (fun _ => XS.astoreN XN.here hx rfl (hb hby dARR_19) rfl rfl (l' := #[.val (.int (3 : Int32)), .val (.int (2 : Int32)), .val (.ref r), .unset]) rfl) ?_
    show Run p.tables e below (TN.setTop (mkF m 20 #[.val (.int (3 : Int32)), .val (.int (2 : Int32)), .val (.ref r), .unset] [])) _
    refine own_go (fun _ => XS.iconst XN.here hx rfl (hb hby dARR_20)) ?_
    show Run p.tables e below (TN.setTop (mkF m 21 #[.val (.int (3 : Int32)), .val (.int (2 : Int32)), .val (.ref r), .unset] [(.int (0 : Int32))])) _
    refine own_go (fun _ => XS.istoreN XN.here hx rfl (hb hby dARR_21) rfl (l' := #[.val (.int (3 : Int32)), .val (.int (2 : Int32)), .val (.ref r), .val (.int (0 : Int32))]) rfl) ?_
    show Run p.tables e below (TN.setTop (mkF m 22 #[.val (.int (3 : Int32)), .val (.int (2 : Int32)), .val (.ref r), .val (.int (0 : Int32))] [])) _
    refine own_go (fun _ => XS.iloadN XN.here hx rfl (hb hby dARR_22) rfl) ?_
    show Run p.tables e below (TN.setTop (mkF m 23 #[.val (.int (3 : Int32)), .val (.int (2 : Int32)), .val (.ref r), .val (.int (0 : Int32))] [(.int (3 : Int32))])) _
    refine own_go (fun _ => XS.iconst XN.here hx rfl (hb hby dARR_23)) ?_
    show Run p.tables e below (TN.setTop (mkF m 24 #[.val (.int (3 : Int32)), .val (.int (2 : Int32)), .val (.ref r), .val (.int (0 : Int32))] [(.int (4 : Int32)), (.int (3 : Int32))])) _
    refine own_go (fun _ => XS.iand XN.here hx rfl (hb hby dARR_24) rfl) ?_
    show Run p.tables e below (TN.setTop (mkF m 25 #[.val (.int (3 : Int32)), .val (.int (2 : Int32)), .val (.ref r), .val (.int (0 : Int32))] [(.int ((3 : Int32) &&& (4 : Int32)))])) _
    refine own_go (fun _ => XS.ifYes XN.here hx rfl (pc0 := 25) (pc' := 35) rfl (hb hby dARR_25) rfl (XT.i0_eq_t (by decide)) (by decide) (by decide)) ?_
    show Run p.tables e below (TN.setTop (mkF m 35 #[.val (.int (3 : Int32)), .val (.int (2 : Int32)), .val (.ref r), .val (.int (0 : Int32))] [])) _
    refine own_go (fun _ => XS.iloadN XN.here hx rfl (hb hby dARR_35) rfl) ?_
    show Run p.tables e below (TN.setTop (mkF m 36 #[.val (.int (3 : Int32)), .val (.int (2 : Int32)), .val (.ref r), .val (.int (0 : Int32))] [(.int (3 : Int32))])) _
    refine own_go (fun _ => XS.iconst XN.here hx rfl (hb hby dARR_36)) ?_
    show Run p.tables e below (TN.setTop (mkF m 37 #[.val (.int (3 : Int32)), .val (.int (2 : Int32)), .val (.ref r), .val (.int (0 : Int32))] [(.int (2 : Int32)), (.int (3 : Int32))])) _
    refine own_go (fun _ => XS.iand XN.here hx rfl (hb hby dARR_37) rfl) ?_
    show Run p.tables e below (TN.setTop (mkF m 38 #[.val (.int (3 : Int32)), .val (.int (2 : Int32)), .val (.ref r), .val (.int (0 : Int32))] [(.int ((3 : Int32) &&& (2 : Int32)))])) _
    refine own_go (fun _ => XS.ifNo XN.here hx rfl (hb hby dARR_38) rfl (XT.i0_eq_f (by decide))) ?_
    show Run p.tables e below (TN.setTop (mkF m 41 #[.val (.int (3 : Int32)), .val (.int (2 : Int32)), .val (.ref r), .val (.int (0 : Int32))] [])) _
    refine own_go (fun _ => XS.aloadN XN.here hx rfl (hb hby dARR_41) rfl rfl) ?_
    show Run p.tables e below (TN.setTop (mkF m 42 #[.val (.int (3 : Int32)), .val (.int (2 : Int32)), .val (.ref r), .val (.int (0 : Int32))] [(.ref r)])) _
    refine own_go (fun _ => XS.iloadN XN.here hx rfl (hb hby dARR_42) rfl) ?_
    show Run p.tables e below (TN.setTop (mkF m 43 #[.val (.int (3 : Int32)), .val (.int (2 : Int32)), .val (.ref r), .val (.int (0 : Int32))] [(.int (0 : Int32)), (.ref r)])) _
    refine own_go (fun _ => XS.iconst XN.here hx rfl (hb hby dARR_43)) ?_
    show Run p.tables e below (TN.setTop (mkF m 44 #[.val (.int (3 : Int32)), .val (.int (2 : Int32)), .val (.ref r), .val (.int (0 : Int32))] [(.int (1 : Int32)), (.int (0 : Int32)), (.ref r)])) _
    obtain ⟨Ts3, hs3, Ls3, Xs3, es3, Ws3, Vs3, Ns3, sts3⟩ := own_stI XN hx hZ eN V0 (j := (0 : Int32)) ⟨by decide, by decide⟩ 0 rfl (by decide) N0 ge0 (g := (mkF m 44 #[.val (.int (3 : Int32)), .val (.int (2 : Int32)), .val (.ref r), .val (.int (0 : Int32))] [(.int (1 : Int32)), (.int (0 : Int32)), (.ref r)])) rfl rfl (hb hby dARR_44)
    have Es3 := own_extwr EN Ws3 ge
    have XEs3 := XE.wr Ws3
    refine own_go sts3 ?_
    show Run p.tables e below (Ts3.setTop (mkF m 45 #[.val (.int (3 : Int32)), .val (.int (2 : Int32)), .val (.ref r), .val (.int (0 : Int32))] [])) _
    refine own_go (fun _ => XS.iinc Xs3.here hx rfl (hb hby dARR_45) rfl (l' := #[.val (.int (3 : Int32)), .val (.int (2 : Int32)), .val (.ref r), .val (.int (1 : Int32))]) rfl) ?_
    show Run p.tables e below (Ts3.setTop (mkF m 48 #[.val (.int (3 : Int32)), .val (.int (2 : Int32)), .val (.ref r), .val (.int (1 : Int32))] [])) _
    refine own_go (fun _ => XS.iloadN Xs3.here hx rfl (hb hby dARR_48) rfl) ?_
    show Run p.tables e below (Ts3.setTop (mkF m 49 #[.val (.int (3 : Int32)), .val (.int (2 : Int32)), .val (.ref r), .val (.int (1 : Int32))] [(.int (3 : Int32))])) _
    refine own_go (fun _ => XS.iconst Xs3.here hx rfl (hb hby dARR_49)) ?_
    show Run p.tables e below (Ts3.setTop (mkF m 50 #[.val (.int (3 : Int32)), .val (.int (2 : Int32)), .val (.ref r), .val (.int (1 : Int32))] [(.int (1 : Int32)), (.int (3 : Int32))])) _
    refine own_go (fun _ => XS.iand Xs3.here hx rfl (hb hby dARR_50) rfl) ?_
    show Run p.tables e below (Ts3.setTop (mkF m 51 #[.val (.int (3 : Int32)), .val (.int (2 : Int32)), .val (.ref r), .val (.int (1 : Int32))] [(.int ((3 : Int32) &&& (1 : Int32)))])) _
    refine own_go (fun _ => XS.ifNo Xs3.here hx rfl (hb hby dARR_51) rfl (XT.i0_eq_f (by decide))) ?_
    show Run p.tables e below (Ts3.setTop (mkF m 54 #[.val (.int (3 : Int32)), .val (.int (2 : Int32)), .val (.ref r), .val (.int (1 : Int32))] [])) _
    refine own_go (fun _ => XS.aloadN Xs3.here hx rfl (hb hby dARR_54) rfl rfl) ?_
    show Run p.tables e below (Ts3.setTop (mkF m 55 #[.val (.int (3 : Int32)), .val (.int (2 : Int32)), .val (.ref r), .val (.int (1 : Int32))] [(.ref r)])) _
    refine own_go (fun _ => XS.iloadN Xs3.here hx rfl (hb hby dARR_55) rfl) ?_
    show Run p.tables e below (Ts3.setTop (mkF m 56 #[.val (.int (3 : Int32)), .val (.int (2 : Int32)), .val (.ref r), .val (.int (1 : Int32))] [(.int (1 : Int32)), (.ref r)])) _
    refine own_go (fun _ => XS.iconst Xs3.here hx rfl (hb hby dARR_56)) ?_
    show Run p.tables e below (Ts3.setTop (mkF m 57 #[.val (.int (3 : Int32)), .val (.int (2 : Int32)), .val (.ref r), .val (.int (1 : Int32))] [(.int (0 : Int32)), (.int (1 : Int32)), (.ref r)])) _
    obtain ⟨Ts4, hs4, Ls4, Xs4, es4, Ws4, Vs4, Ns4, sts4⟩ := own_stI Xs3 hx hZ es3 Vs3 (j := (1 : Int32)) ⟨by decide, by decide⟩ 1 rfl (by decide) Ns3 ge0 (g := (mkF m 57 #[.val (.int (3 : Int32)), .val (.int (2 : Int32)), .val (.ref r), .val (.int (1 : Int32))] [(.int (0 : Int32)), (.int (1 : Int32)), (.ref r)])) rfl rfl (hb hby dARR_57)
    have Es4 := own_extwr Es3 Ws4 ge
    have XEs4 := XEs3.wr Ws4
    refine own_go sts4 ?_
    show Run p.tables e below (Ts4.setTop (mkF m 58 #[.val (.int (3 : Int32)), .val (.int (2 : Int32)), .val (.ref r), .val (.int (1 : Int32))] [])) _
    refine own_go (fun _ => XS.iinc Xs4.here hx rfl (hb hby dARR_58) rfl (l' := #[.val (.int (3 : Int32)), .val (.int (2 : Int32)), .val (.ref r), .val (.int (2 : Int32))]) rfl) ?_
    show Run p.tables e below (Ts4.setTop (mkF m 61 #[.val (.int (3 : Int32)), .val (.int (2 : Int32)), .val (.ref r), .val (.int (2 : Int32))] [])) _
    refine own_go (fun _ => XS.aloadN Xs4.here hx rfl (hb hby dARR_61) rfl rfl) ?_
    show Run p.tables e below (Ts4.setTop (mkF m 62 #[.val (.int (3 : Int32)), .val (.int (2 : Int32)), .val (.ref r), .val (.int (2 : Int32))] [(.ref r)])) _
    subst es4
    exact own_out Xs4 (v := some (.ref r)) (fun q => by rw [hret] at q; cases q) hlk (fun fs hr => Xs4.areturnOut hx rfl hret rfl (hb hby dARR_62) hr) ⟨r, cA, rfl, Ns4, Es4, ge, XEs4, (by rw [own_cnt3, own_arr3]; exact Vs4)⟩ (by decide) (by decide)
  · rw [own_cnt4]
    show Run p.tables e below (s₁.setTop (mkF m 15 #[.val (.int (4 : Int32)), .unset, .unset, .unset] [(.int (1 : Int32))])) _
    refine own_go (fun _ => XS.istoreN X0.here hx rfl (hb hby dARR_15) rfl (l' := #[.val (.int (4 : Int32)), .val (.int (1 : Int32)), .unset, .unset]) rfl) ?_
    show Run p.tables e below (s₁.setTop (mkF m 16 #[.val (.int (4 : Int32)), .val (.int (1 : Int32)), .unset, .unset] [])) _
    refine own_go (fun _ => XS.iloadN X0.here hx rfl (hb hby dARR_16) rfl) ?_
    show Run p.tables e below (s₁.setTop (mkF m 17 #[.val (.int (4 : Int32)), .val (.int (1 : Int32)), .unset, .unset] [(.int (1 : Int32))])) _
    obtain ⟨TN, hN, cA, XN, eN, EN, AN, XE, stN⟩ := newPE X0 hx hZ (hw _ (List.mem_of_getElem? (i := 5) rfl)) e0 (g := (mkF m 17 #[.val (.int (4 : Int32)), .val (.int (1 : Int32)), .unset, .unset] [(.int (1 : Int32))])) rfl (hb hby dARR_17) rfl (by decide) (cap := 3) (by decide) (by decide) (by decide) (by decide) (ad := "[I") (by decide)
    obtain ⟨r, gr⟩ : ∃ z, z = h0.size := ⟨_, rfl⟩
    rw [← gr] at AN XE stN
    have ge : h0.size ≤ r := Nat.le_of_eq gr.symm
    have ge0 : n0 ≤ r := Nat.le_trans Z0 ge
    have N0 := Fr.nil n0
    have V0 : Arv Z hN r cA .int 1 ([] ++ List.replicate 1 (.int 0)) (.int 0) := (Arv.new AN (by decide)).pad (pad_rep [] (.int 0) 1)
    refine own_go stN ?_
    show Run p.tables e below (TN.setTop (mkF m 19 #[.val (.int (4 : Int32)), .val (.int (1 : Int32)), .unset, .unset] [(.ref r)])) _
    refine own_go (fun _ => XS.astoreN XN.here hx rfl (hb hby dARR_19) rfl rfl (l' := #[.val (.int (4 : Int32)), .val (.int (1 : Int32)), .val (.ref r), .unset]) rfl) ?_
    show Run p.tables e below (TN.setTop (mkF m 20 #[.val (.int (4 : Int32)), .val (.int (1 : Int32)), .val (.ref r), .unset] [])) _
    refine own_go (fun _ => XS.iconst XN.here hx rfl (hb hby dARR_20)) ?_
    show Run p.tables e below (TN.setTop (mkF m 21 #[.val (.int (4 : Int32)), .val (.int (1 : Int32)), .val (.ref r), .unset] [(.int (0 : Int32))])) _
    refine own_go (fun _ => XS.istoreN XN.here hx rfl (hb hby dARR_21) rfl (l' := #[.val (.int (4 : Int32)), .val (.int (1 : Int32)), .val (.ref r), .val (.int (0 : Int32))]) rfl) ?_
    show Run p.tables e below (TN.setTop (mkF m 22 #[.val (.int (4 : Int32)), .val (.int (1 : Int32)), .val (.ref r), .val (.int (0 : Int32))] [])) _
    refine own_go (fun _ => XS.iloadN XN.here hx rfl (hb hby dARR_22) rfl) ?_
    show Run p.tables e below (TN.setTop (mkF m 23 #[.val (.int (4 : Int32)), .val (.int (1 : Int32)), .val (.ref r), .val (.int (0 : Int32))] [(.int (4 : Int32))])) _
    refine own_go (fun _ => XS.iconst XN.here hx rfl (hb hby dARR_23)) ?_
    show Run p.tables e below (TN.setTop (mkF m 24 #[.val (.int (4 : Int32)), .val (.int (1 : Int32)), .val (.ref r), .val (.int (0 : Int32))] [(.int (4 : Int32)), (.int (4 : Int32))])) _
    refine own_go (fun _ => XS.iand XN.here hx rfl (hb hby dARR_24) rfl) ?_
    show Run p.tables e below (TN.setTop (mkF m 25 #[.val (.int (4 : Int32)), .val (.int (1 : Int32)), .val (.ref r), .val (.int (0 : Int32))] [(.int ((4 : Int32) &&& (4 : Int32)))])) _
    refine own_go (fun _ => XS.ifNo XN.here hx rfl (hb hby dARR_25) rfl (XT.i0_eq_f (by decide))) ?_
    show Run p.tables e below (TN.setTop (mkF m 28 #[.val (.int (4 : Int32)), .val (.int (1 : Int32)), .val (.ref r), .val (.int (0 : Int32))] [])) _
    refine own_go (fun _ => XS.aloadN XN.here hx rfl (hb hby dARR_28) rfl rfl) ?_
    show Run p.tables e below (TN.setTop (mkF m 29 #[.val (.int (4 : Int32)), .val (.int (1 : Int32)), .val (.ref r), .val (.int (0 : Int32))] [(.ref r)])) _
    refine own_go (fun _ => XS.iloadN XN.here hx rfl (hb hby dARR_29) rfl) ?_
    show Run p.tables e below (TN.setTop (mkF m 30 #[.val (.int (4 : Int32)), .val (.int (1 : Int32)), .val (.ref r), .val (.int (0 : Int32))] [(.int (0 : Int32)), (.ref r)])) _
    refine own_go (fun _ => XS.iconst XN.here hx rfl (hb hby dARR_30)) ?_
    show Run p.tables e below (TN.setTop (mkF m 31 #[.val (.int (4 : Int32)), .val (.int (1 : Int32)), .val (.ref r), .val (.int (0 : Int32))] [(.int (2 : Int32)), (.int (0 : Int32)), (.ref r)])) _
    obtain ⟨Ts5, hs5, Ls5, Xs5, es5, Ws5, Vs5, Ns5, sts5⟩ := own_stI XN hx hZ eN V0 (j := (0 : Int32)) ⟨by decide, by decide⟩ 0 rfl (by decide) N0 ge0 (g := (mkF m 31 #[.val (.int (4 : Int32)), .val (.int (1 : Int32)), .val (.ref r), .val (.int (0 : Int32))] [(.int (2 : Int32)), (.int (0 : Int32)), (.ref r)])) rfl rfl (hb hby dARR_31)
    have Es5 := own_extwr EN Ws5 ge
    have XEs5 := XE.wr Ws5
    refine own_go sts5 ?_
    show Run p.tables e below (Ts5.setTop (mkF m 32 #[.val (.int (4 : Int32)), .val (.int (1 : Int32)), .val (.ref r), .val (.int (0 : Int32))] [])) _
    refine own_go (fun _ => XS.iinc Xs5.here hx rfl (hb hby dARR_32) rfl (l' := #[.val (.int (4 : Int32)), .val (.int (1 : Int32)), .val (.ref r), .val (.int (1 : Int32))]) rfl) ?_
    show Run p.tables e below (Ts5.setTop (mkF m 35 #[.val (.int (4 : Int32)), .val (.int (1 : Int32)), .val (.ref r), .val (.int (1 : Int32))] [])) _
    refine own_go (fun _ => XS.iloadN Xs5.here hx rfl (hb hby dARR_35) rfl) ?_
    show Run p.tables e below (Ts5.setTop (mkF m 36 #[.val (.int (4 : Int32)), .val (.int (1 : Int32)), .val (.ref r), .val (.int (1 : Int32))] [(.int (4 : Int32))])) _
    refine own_go (fun _ => XS.iconst Xs5.here hx rfl (hb hby dARR_36)) ?_
    show Run p.tables e below (Ts5.setTop (mkF m 37 #[.val (.int (4 : Int32)), .val (.int (1 : Int32)), .val (.ref r), .val (.int (1 : Int32))] [(.int (2 : Int32)), (.int (4 : Int32))])) _
    refine own_go (fun _ => XS.iand Xs5.here hx rfl (hb hby dARR_37) rfl) ?_
    show Run p.tables e below (Ts5.setTop (mkF m 38 #[.val (.int (4 : Int32)), .val (.int (1 : Int32)), .val (.ref r), .val (.int (1 : Int32))] [(.int ((4 : Int32) &&& (2 : Int32)))])) _
    refine own_go (fun _ => XS.ifYes Xs5.here hx rfl (pc0 := 38) (pc' := 48) rfl (hb hby dARR_38) rfl (XT.i0_eq_t (by decide)) (by decide) (by decide)) ?_
    show Run p.tables e below (Ts5.setTop (mkF m 48 #[.val (.int (4 : Int32)), .val (.int (1 : Int32)), .val (.ref r), .val (.int (1 : Int32))] [])) _
    refine own_go (fun _ => XS.iloadN Xs5.here hx rfl (hb hby dARR_48) rfl) ?_
    show Run p.tables e below (Ts5.setTop (mkF m 49 #[.val (.int (4 : Int32)), .val (.int (1 : Int32)), .val (.ref r), .val (.int (1 : Int32))] [(.int (4 : Int32))])) _
    refine own_go (fun _ => XS.iconst Xs5.here hx rfl (hb hby dARR_49)) ?_
    show Run p.tables e below (Ts5.setTop (mkF m 50 #[.val (.int (4 : Int32)), .val (.int (1 : Int32)), .val (.ref r), .val (.int (1 : Int32))] [(.int (1 : Int32)), (.int (4 : Int32))])) _
    refine own_go (fun _ => XS.iand Xs5.here hx rfl (hb hby dARR_50) rfl) ?_
    show Run p.tables e below (Ts5.setTop (mkF m 51 #[.val (.int (4 : Int32)), .val (.int (1 : Int32)), .val (.ref r), .val (.int (1 : Int32))] [(.int ((4 : Int32) &&& (1 : Int32)))])) _
    refine own_go (fun _ => XS.ifYes Xs5.here hx rfl (pc0 := 51) (pc' := 61) rfl (hb hby dARR_51) rfl (XT.i0_eq_t (by decide)) (by decide) (by decide)) ?_
    show Run p.tables e below (Ts5.setTop (mkF m 61 #[.val (.int (4 : Int32)), .val (.int (1 : Int32)), .val (.ref r), .val (.int (1 : Int32))] [])) _
    refine own_go (fun _ => XS.aloadN Xs5.here hx rfl (hb hby dARR_61) rfl rfl) ?_
    show Run p.tables e below (Ts5.setTop (mkF m 62 #[.val (.int (4 : Int32)), .val (.int (1 : Int32)), .val (.ref r), .val (.int (1 : Int32))] [(.ref r)])) _
    subst es5
    exact own_out Xs5 (v := some (.ref r)) (fun q => by rw [hret] at q; cases q) hlk (fun fs hr => Xs5.areturnOut hx rfl hret rfl (hb hby dARR_62) hr) ⟨r, cA, rfl, Ns5, Es5, ge, XEs5, (by rw [own_cnt4, own_arr4]; exact Vs5)⟩ (by decide) (by decide)
  · rw [own_cnt5]
    show Run p.tables e below (s₁.setTop (mkF m 15 #[.val (.int (5 : Int32)), .unset, .unset, .unset] [(.int (2 : Int32))])) _
    refine own_go (fun _ => XS.istoreN X0.here hx rfl (hb hby dARR_15) rfl (l' := #[.val (.int (5 : Int32)), .val (.int (2 : Int32)), .unset, .unset]) rfl) ?_
    show Run p.tables e below (s₁.setTop (mkF m 16 #[.val (.int (5 : Int32)), .val (.int (2 : Int32)), .unset, .unset] [])) _
    refine own_go (fun _ => XS.iloadN X0.here hx rfl (hb hby dARR_16) rfl) ?_
    show Run p.tables e below (s₁.setTop (mkF m 17 #[.val (.int (5 : Int32)), .val (.int (2 : Int32)), .unset, .unset] [(.int (2 : Int32))])) _
    obtain ⟨TN, hN, cA, XN, eN, EN, AN, XE, stN⟩ := newPE X0 hx hZ (hw _ (List.mem_of_getElem? (i := 5) rfl)) e0 (g := (mkF m 17 #[.val (.int (5 : Int32)), .val (.int (2 : Int32)), .unset, .unset] [(.int (2 : Int32))])) rfl (hb hby dARR_17) rfl (by decide) (cap := 3) (by decide) (by decide) (by decide) (by decide) (ad := "[I") (by decide)
    obtain ⟨r, gr⟩ : ∃ z, z = h0.size := ⟨_, rfl⟩
    rw [← gr] at AN XE stN
    have ge : h0.size ≤ r := Nat.le_of_eq gr.symm
    have ge0 : n0 ≤ r := Nat.le_trans Z0 ge
    have N0 := Fr.nil n0
    have V0 : Arv Z hN r cA .int 2 ([] ++ List.replicate 2 (.int 0)) (.int 0) := (Arv.new AN (by decide)).pad (pad_rep [] (.int 0) 2)
    refine own_go stN ?_
    show Run p.tables e below (TN.setTop (mkF m 19 #[.val (.int (5 : Int32)), .val (.int (2 : Int32)), .unset, .unset] [(.ref r)])) _
    refine own_go (fun _ => XS.astoreN XN.here hx rfl (hb hby dARR_19) rfl rfl (l' := #[.val (.int (5 : Int32)), .val (.int (2 : Int32)), .val (.ref r), .unset]) rfl) ?_
    show Run p.tables e below (TN.setTop (mkF m 20 #[.val (.int (5 : Int32)), .val (.int (2 : Int32)), .val (.ref r), .unset] [])) _
    refine own_go (fun _ => XS.iconst XN.here hx rfl (hb hby dARR_20)) ?_
    show Run p.tables e below (TN.setTop (mkF m 21 #[.val (.int (5 : Int32)), .val (.int (2 : Int32)), .val (.ref r), .unset] [(.int (0 : Int32))])) _
    refine own_go (fun _ => XS.istoreN XN.here hx rfl (hb hby dARR_21) rfl (l' := #[.val (.int (5 : Int32)), .val (.int (2 : Int32)), .val (.ref r), .val (.int (0 : Int32))]) rfl) ?_
    show Run p.tables e below (TN.setTop (mkF m 22 #[.val (.int (5 : Int32)), .val (.int (2 : Int32)), .val (.ref r), .val (.int (0 : Int32))] [])) _
    refine own_go (fun _ => XS.iloadN XN.here hx rfl (hb hby dARR_22) rfl) ?_
    show Run p.tables e below (TN.setTop (mkF m 23 #[.val (.int (5 : Int32)), .val (.int (2 : Int32)), .val (.ref r), .val (.int (0 : Int32))] [(.int (5 : Int32))])) _
    refine own_go (fun _ => XS.iconst XN.here hx rfl (hb hby dARR_23)) ?_
    show Run p.tables e below (TN.setTop (mkF m 24 #[.val (.int (5 : Int32)), .val (.int (2 : Int32)), .val (.ref r), .val (.int (0 : Int32))] [(.int (4 : Int32)), (.int (5 : Int32))])) _
    refine own_go (fun _ => XS.iand XN.here hx rfl (hb hby dARR_24) rfl) ?_
    show Run p.tables e below (TN.setTop (mkF m 25 #[.val (.int (5 : Int32)), .val (.int (2 : Int32)), .val (.ref r), .val (.int (0 : Int32))] [(.int ((5 : Int32) &&& (4 : Int32)))])) _
    refine own_go (fun _ => XS.ifNo XN.here hx rfl (hb hby dARR_25) rfl (XT.i0_eq_f (by decide))) ?_
    show Run p.tables e below (TN.setTop (mkF m 28 #[.val (.int (5 : Int32)), .val (.int (2 : Int32)), .val (.ref r), .val (.int (0 : Int32))] [])) _
    refine own_go (fun _ => XS.aloadN XN.here hx rfl (hb hby dARR_28) rfl rfl) ?_
    show Run p.tables e below (TN.setTop (mkF m 29 #[.val (.int (5 : Int32)), .val (.int (2 : Int32)), .val (.ref r), .val (.int (0 : Int32))] [(.ref r)])) _
    refine own_go (fun _ => XS.iloadN XN.here hx rfl (hb hby dARR_29) rfl) ?_
    show Run p.tables e below (TN.setTop (mkF m 30 #[.val (.int (5 : Int32)), .val (.int (2 : Int32)), .val (.ref r), .val (.int (0 : Int32))] [(.int (0 : Int32)), (.ref r)])) _
    refine own_go (fun _ => XS.iconst XN.here hx rfl (hb hby dARR_30)) ?_
    show Run p.tables e below (TN.setTop (mkF m 31 #[.val (.int (5 : Int32)), .val (.int (2 : Int32)), .val (.ref r), .val (.int (0 : Int32))] [(.int (2 : Int32)), (.int (0 : Int32)), (.ref r)])) _
    obtain ⟨Ts6, hs6, Ls6, Xs6, es6, Ws6, Vs6, Ns6, sts6⟩ := own_stI XN hx hZ eN V0 (j := (0 : Int32)) ⟨by decide, by decide⟩ 0 rfl (by decide) N0 ge0 (g := (mkF m 31 #[.val (.int (5 : Int32)), .val (.int (2 : Int32)), .val (.ref r), .val (.int (0 : Int32))] [(.int (2 : Int32)), (.int (0 : Int32)), (.ref r)])) rfl rfl (hb hby dARR_31)
    have Es6 := own_extwr EN Ws6 ge
    have XEs6 := XE.wr Ws6
    refine own_go sts6 ?_
    show Run p.tables e below (Ts6.setTop (mkF m 32 #[.val (.int (5 : Int32)), .val (.int (2 : Int32)), .val (.ref r), .val (.int (0 : Int32))] [])) _
    refine own_go (fun _ => XS.iinc Xs6.here hx rfl (hb hby dARR_32) rfl (l' := #[.val (.int (5 : Int32)), .val (.int (2 : Int32)), .val (.ref r), .val (.int (1 : Int32))]) rfl) ?_
    show Run p.tables e below (Ts6.setTop (mkF m 35 #[.val (.int (5 : Int32)), .val (.int (2 : Int32)), .val (.ref r), .val (.int (1 : Int32))] [])) _
    refine own_go (fun _ => XS.iloadN Xs6.here hx rfl (hb hby dARR_35) rfl) ?_
    show Run p.tables e below (Ts6.setTop (mkF m 36 #[.val (.int (5 : Int32)), .val (.int (2 : Int32)), .val (.ref r), .val (.int (1 : Int32))] [(.int (5 : Int32))])) _
    refine own_go (fun _ => XS.iconst Xs6.here hx rfl (hb hby dARR_36)) ?_
    show Run p.tables e below (Ts6.setTop (mkF m 37 #[.val (.int (5 : Int32)), .val (.int (2 : Int32)), .val (.ref r), .val (.int (1 : Int32))] [(.int (2 : Int32)), (.int (5 : Int32))])) _
    refine own_go (fun _ => XS.iand Xs6.here hx rfl (hb hby dARR_37) rfl) ?_
    show Run p.tables e below (Ts6.setTop (mkF m 38 #[.val (.int (5 : Int32)), .val (.int (2 : Int32)), .val (.ref r), .val (.int (1 : Int32))] [(.int ((5 : Int32) &&& (2 : Int32)))])) _
    refine own_go (fun _ => XS.ifYes Xs6.here hx rfl (pc0 := 38) (pc' := 48) rfl (hb hby dARR_38) rfl (XT.i0_eq_t (by decide)) (by decide) (by decide)) ?_
    show Run p.tables e below (Ts6.setTop (mkF m 48 #[.val (.int (5 : Int32)), .val (.int (2 : Int32)), .val (.ref r), .val (.int (1 : Int32))] [])) _
    refine own_go (fun _ => XS.iloadN Xs6.here hx rfl (hb hby dARR_48) rfl) ?_
    show Run p.tables e below (Ts6.setTop (mkF m 49 #[.val (.int (5 : Int32)), .val (.int (2 : Int32)), .val (.ref r), .val (.int (1 : Int32))] [(.int (5 : Int32))])) _
    refine own_go (fun _ => XS.iconst Xs6.here hx rfl (hb hby dARR_49)) ?_
    show Run p.tables e below (Ts6.setTop (mkF m 50 #[.val (.int (5 : Int32)), .val (.int (2 : Int32)), .val (.ref r), .val (.int (1 : Int32))] [(.int (1 : Int32)), (.int (5 : Int32))])) _
    refine own_go (fun _ => XS.iand Xs6.here hx rfl (hb hby dARR_50) rfl) ?_
    show Run p.tables e below (Ts6.setTop (mkF m 51 #[.val (.int (5 : Int32)), .val (.int (2 : Int32)), .val (.ref r), .val (.int (1 : Int32))] [(.int ((5 : Int32) &&& (1 : Int32)))])) _
    refine own_go (fun _ => XS.ifNo Xs6.here hx rfl (hb hby dARR_51) rfl (XT.i0_eq_f (by decide))) ?_
    show Run p.tables e below (Ts6.setTop (mkF m 54 #[.val (.int (5 : Int32)), .val (.int (2 : Int32)), .val (.ref r), .val (.int (1 : Int32))] [])) _
    refine own_go (fun _ => XS.aloadN Xs6.here hx rfl (hb hby dARR_54) rfl rfl) ?_
    show Run p.tables e below (Ts6.setTop (mkF m 55 #[.val (.int (5 : Int32)), .val (.int (2 : Int32)), .val (.ref r), .val (.int (1 : Int32))] [(.ref r)])) _
    refine own_go (fun _ => XS.iloadN Xs6.here hx rfl (hb hby dARR_55) rfl) ?_
    show Run p.tables e below (Ts6.setTop (mkF m 56 #[.val (.int (5 : Int32)), .val (.int (2 : Int32)), .val (.ref r), .val (.int (1 : Int32))] [(.int (1 : Int32)), (.ref r)])) _
    refine own_go (fun _ => XS.iconst Xs6.here hx rfl (hb hby dARR_56)) ?_
    show Run p.tables e below (Ts6.setTop (mkF m 57 #[.val (.int (5 : Int32)), .val (.int (2 : Int32)), .val (.ref r), .val (.int (1 : Int32))] [(.int (0 : Int32)), (.int (1 : Int32)), (.ref r)])) _
    obtain ⟨Ts7, hs7, Ls7, Xs7, es7, Ws7, Vs7, Ns7, sts7⟩ := own_stI Xs6 hx hZ es6 Vs6 (j := (1 : Int32)) ⟨by decide, by decide⟩ 1 rfl (by decide) Ns6 ge0 (g := (mkF m 57 #[.val (.int (5 : Int32)), .val (.int (2 : Int32)), .val (.ref r), .val (.int (1 : Int32))] [(.int (0 : Int32)), (.int (1 : Int32)), (.ref r)])) rfl rfl (hb hby dARR_57)
    have Es7 := own_extwr Es6 Ws7 ge
    have XEs7 := XEs6.wr Ws7
    refine own_go sts7 ?_
    show Run p.tables e below (Ts7.setTop (mkF m 58 #[.val (.int (5 : Int32)), .val (.int (2 : Int32)), .val (.ref r), .val (.int (1 : Int32))] [])) _
    refine own_go (fun _ => XS.iinc Xs7.here hx rfl (hb hby dARR_58) rfl (l' := #[.val (.int (5 : Int32)), .val (.int (2 : Int32)), .val (.ref r), .val (.int (2 : Int32))]) rfl) ?_
    show Run p.tables e below (Ts7.setTop (mkF m 61 #[.val (.int (5 : Int32)), .val (.int (2 : Int32)), .val (.ref r), .val (.int (2 : Int32))] [])) _
    refine own_go (fun _ => XS.aloadN Xs7.here hx rfl (hb hby dARR_61) rfl rfl) ?_
    show Run p.tables e below (Ts7.setTop (mkF m 62 #[.val (.int (5 : Int32)), .val (.int (2 : Int32)), .val (.ref r), .val (.int (2 : Int32))] [(.ref r)])) _
    subst es7
    exact own_out Xs7 (v := some (.ref r)) (fun q => by rw [hret] at q; cases q) hlk (fun fs hr => Xs7.areturnOut hx rfl hret rfl (hb hby dARR_62) hr) ⟨r, cA, rfl, Ns7, Es7, ge, XEs7, (by rw [own_cnt5, own_arr5]; exact Vs7)⟩ (by decide) (by decide)
  · rw [own_cnt6]
    show Run p.tables e below (s₁.setTop (mkF m 15 #[.val (.int (6 : Int32)), .unset, .unset, .unset] [(.int (2 : Int32))])) _
    refine own_go (fun _ => XS.istoreN X0.here hx rfl (hb hby dARR_15) rfl (l' := #[.val (.int (6 : Int32)), .val (.int (2 : Int32)), .unset, .unset]) rfl) ?_
    show Run p.tables e below (s₁.setTop (mkF m 16 #[.val (.int (6 : Int32)), .val (.int (2 : Int32)), .unset, .unset] [])) _
    refine own_go (fun _ => XS.iloadN X0.here hx rfl (hb hby dARR_16) rfl) ?_
    show Run p.tables e below (s₁.setTop (mkF m 17 #[.val (.int (6 : Int32)), .val (.int (2 : Int32)), .unset, .unset] [(.int (2 : Int32))])) _
    obtain ⟨TN, hN, cA, XN, eN, EN, AN, XE, stN⟩ := newPE X0 hx hZ (hw _ (List.mem_of_getElem? (i := 5) rfl)) e0 (g := (mkF m 17 #[.val (.int (6 : Int32)), .val (.int (2 : Int32)), .unset, .unset] [(.int (2 : Int32))])) rfl (hb hby dARR_17) rfl (by decide) (cap := 3) (by decide) (by decide) (by decide) (by decide) (ad := "[I") (by decide)
    obtain ⟨r, gr⟩ : ∃ z, z = h0.size := ⟨_, rfl⟩
    rw [← gr] at AN XE stN
    have ge : h0.size ≤ r := Nat.le_of_eq gr.symm
    have ge0 : n0 ≤ r := Nat.le_trans Z0 ge
    have N0 := Fr.nil n0
    have V0 : Arv Z hN r cA .int 2 ([] ++ List.replicate 2 (.int 0)) (.int 0) := (Arv.new AN (by decide)).pad (pad_rep [] (.int 0) 2)
    refine own_go stN ?_
    show Run p.tables e below (TN.setTop (mkF m 19 #[.val (.int (6 : Int32)), .val (.int (2 : Int32)), .unset, .unset] [(.ref r)])) _
    refine own_go (fun _ => XS.astoreN XN.here hx rfl (hb hby dARR_19) rfl rfl (l' := #[.val (.int (6 : Int32)), .val (.int (2 : Int32)), .val (.ref r), .unset]) rfl) ?_
    show Run p.tables e below (TN.setTop (mkF m 20 #[.val (.int (6 : Int32)), .val (.int (2 : Int32)), .val (.ref r), .unset] [])) _
    refine own_go (fun _ => XS.iconst XN.here hx rfl (hb hby dARR_20)) ?_
    show Run p.tables e below (TN.setTop (mkF m 21 #[.val (.int (6 : Int32)), .val (.int (2 : Int32)), .val (.ref r), .unset] [(.int (0 : Int32))])) _
    refine own_go (fun _ => XS.istoreN XN.here hx rfl (hb hby dARR_21) rfl (l' := #[.val (.int (6 : Int32)), .val (.int (2 : Int32)), .val (.ref r), .val (.int (0 : Int32))]) rfl) ?_
    show Run p.tables e below (TN.setTop (mkF m 22 #[.val (.int (6 : Int32)), .val (.int (2 : Int32)), .val (.ref r), .val (.int (0 : Int32))] [])) _
    refine own_go (fun _ => XS.iloadN XN.here hx rfl (hb hby dARR_22) rfl) ?_
    show Run p.tables e below (TN.setTop (mkF m 23 #[.val (.int (6 : Int32)), .val (.int (2 : Int32)), .val (.ref r), .val (.int (0 : Int32))] [(.int (6 : Int32))])) _
    refine own_go (fun _ => XS.iconst XN.here hx rfl (hb hby dARR_23)) ?_
    show Run p.tables e below (TN.setTop (mkF m 24 #[.val (.int (6 : Int32)), .val (.int (2 : Int32)), .val (.ref r), .val (.int (0 : Int32))] [(.int (4 : Int32)), (.int (6 : Int32))])) _
    refine own_go (fun _ => XS.iand XN.here hx rfl (hb hby dARR_24) rfl) ?_
    show Run p.tables e below (TN.setTop (mkF m 25 #[.val (.int (6 : Int32)), .val (.int (2 : Int32)), .val (.ref r), .val (.int (0 : Int32))] [(.int ((6 : Int32) &&& (4 : Int32)))])) _
    refine own_go (fun _ => XS.ifNo XN.here hx rfl (hb hby dARR_25) rfl (XT.i0_eq_f (by decide))) ?_
    show Run p.tables e below (TN.setTop (mkF m 28 #[.val (.int (6 : Int32)), .val (.int (2 : Int32)), .val (.ref r), .val (.int (0 : Int32))] [])) _
    refine own_go (fun _ => XS.aloadN XN.here hx rfl (hb hby dARR_28) rfl rfl) ?_
    show Run p.tables e below (TN.setTop (mkF m 29 #[.val (.int (6 : Int32)), .val (.int (2 : Int32)), .val (.ref r), .val (.int (0 : Int32))] [(.ref r)])) _
    refine own_go (fun _ => XS.iloadN XN.here hx rfl (hb hby dARR_29) rfl) ?_
    show Run p.tables e below (TN.setTop (mkF m 30 #[.val (.int (6 : Int32)), .val (.int (2 : Int32)), .val (.ref r), .val (.int (0 : Int32))] [(.int (0 : Int32)), (.ref r)])) _
    refine own_go (fun _ => XS.iconst XN.here hx rfl (hb hby dARR_30)) ?_
    show Run p.tables e below (TN.setTop (mkF m 31 #[.val (.int (6 : Int32)), .val (.int (2 : Int32)), .val (.ref r), .val (.int (0 : Int32))] [(.int (2 : Int32)), (.int (0 : Int32)), (.ref r)])) _
    obtain ⟨Ts8, hs8, Ls8, Xs8, es8, Ws8, Vs8, Ns8, sts8⟩ := own_stI XN hx hZ eN V0 (j := (0 : Int32)) ⟨by decide, by decide⟩ 0 rfl (by decide) N0 ge0 (g := (mkF m 31 #[.val (.int (6 : Int32)), .val (.int (2 : Int32)), .val (.ref r), .val (.int (0 : Int32))] [(.int (2 : Int32)), (.int (0 : Int32)), (.ref r)])) rfl rfl (hb hby dARR_31)
    have Es8 := own_extwr EN Ws8 ge
    have XEs8 := XE.wr Ws8
    refine own_go sts8 ?_
    show Run p.tables e below (Ts8.setTop (mkF m 32 #[.val (.int (6 : Int32)), .val (.int (2 : Int32)), .val (.ref r), .val (.int (0 : Int32))] [])) _
    refine own_go (fun _ => XS.iinc Xs8.here hx rfl (hb hby dARR_32) rfl (l' := #[.val (.int (6 : Int32)), .val (.int (2 : Int32)), .val (.ref r), .val (.int (1 : Int32))]) rfl) ?_
    show Run p.tables e below (Ts8.setTop (mkF m 35 #[.val (.int (6 : Int32)), .val (.int (2 : Int32)), .val (.ref r), .val (.int (1 : Int32))] [])) _
    refine own_go (fun _ => XS.iloadN Xs8.here hx rfl (hb hby dARR_35) rfl) ?_
    show Run p.tables e below (Ts8.setTop (mkF m 36 #[.val (.int (6 : Int32)), .val (.int (2 : Int32)), .val (.ref r), .val (.int (1 : Int32))] [(.int (6 : Int32))])) _
    refine own_go (fun _ => XS.iconst Xs8.here hx rfl (hb hby dARR_36)) ?_
    show Run p.tables e below (Ts8.setTop (mkF m 37 #[.val (.int (6 : Int32)), .val (.int (2 : Int32)), .val (.ref r), .val (.int (1 : Int32))] [(.int (2 : Int32)), (.int (6 : Int32))])) _
    refine own_go (fun _ => XS.iand Xs8.here hx rfl (hb hby dARR_37) rfl) ?_
    show Run p.tables e below (Ts8.setTop (mkF m 38 #[.val (.int (6 : Int32)), .val (.int (2 : Int32)), .val (.ref r), .val (.int (1 : Int32))] [(.int ((6 : Int32) &&& (2 : Int32)))])) _
    refine own_go (fun _ => XS.ifNo Xs8.here hx rfl (hb hby dARR_38) rfl (XT.i0_eq_f (by decide))) ?_
    show Run p.tables e below (Ts8.setTop (mkF m 41 #[.val (.int (6 : Int32)), .val (.int (2 : Int32)), .val (.ref r), .val (.int (1 : Int32))] [])) _
    refine own_go (fun _ => XS.aloadN Xs8.here hx rfl (hb hby dARR_41) rfl rfl) ?_
    show Run p.tables e below (Ts8.setTop (mkF m 42 #[.val (.int (6 : Int32)), .val (.int (2 : Int32)), .val (.ref r), .val (.int (1 : Int32))] [(.ref r)])) _
    refine own_go (fun _ => XS.iloadN Xs8.here hx rfl (hb hby dARR_42) rfl) ?_
    show Run p.tables e below (Ts8.setTop (mkF m 43 #[.val (.int (6 : Int32)), .val (.int (2 : Int32)), .val (.ref r), .val (.int (1 : Int32))] [(.int (1 : Int32)), (.ref r)])) _
    refine own_go (fun _ => XS.iconst Xs8.here hx rfl (hb hby dARR_43)) ?_
    show Run p.tables e below (Ts8.setTop (mkF m 44 #[.val (.int (6 : Int32)), .val (.int (2 : Int32)), .val (.ref r), .val (.int (1 : Int32))] [(.int (1 : Int32)), (.int (1 : Int32)), (.ref r)])) _
    obtain ⟨Ts9, hs9, Ls9, Xs9, es9, Ws9, Vs9, Ns9, sts9⟩ := own_stI Xs8 hx hZ es8 Vs8 (j := (1 : Int32)) ⟨by decide, by decide⟩ 1 rfl (by decide) Ns8 ge0 (g := (mkF m 44 #[.val (.int (6 : Int32)), .val (.int (2 : Int32)), .val (.ref r), .val (.int (1 : Int32))] [(.int (1 : Int32)), (.int (1 : Int32)), (.ref r)])) rfl rfl (hb hby dARR_44)
    have Es9 := own_extwr Es8 Ws9 ge
    have XEs9 := XEs8.wr Ws9
    refine own_go sts9 ?_
    show Run p.tables e below (Ts9.setTop (mkF m 45 #[.val (.int (6 : Int32)), .val (.int (2 : Int32)), .val (.ref r), .val (.int (1 : Int32))] [])) _
    refine own_go (fun _ => XS.iinc Xs9.here hx rfl (hb hby dARR_45) rfl (l' := #[.val (.int (6 : Int32)), .val (.int (2 : Int32)), .val (.ref r), .val (.int (2 : Int32))]) rfl) ?_
    show Run p.tables e below (Ts9.setTop (mkF m 48 #[.val (.int (6 : Int32)), .val (.int (2 : Int32)), .val (.ref r), .val (.int (2 : Int32))] [])) _
    refine own_go (fun _ => XS.iloadN Xs9.here hx rfl (hb hby dARR_48) rfl) ?_
    show Run p.tables e below (Ts9.setTop (mkF m 49 #[.val (.int (6 : Int32)), .val (.int (2 : Int32)), .val (.ref r), .val (.int (2 : Int32))] [(.int (6 : Int32))])) _
    refine own_go (fun _ => XS.iconst Xs9.here hx rfl (hb hby dARR_49)) ?_
    show Run p.tables e below (Ts9.setTop (mkF m 50 #[.val (.int (6 : Int32)), .val (.int (2 : Int32)), .val (.ref r), .val (.int (2 : Int32))] [(.int (1 : Int32)), (.int (6 : Int32))])) _
    refine own_go (fun _ => XS.iand Xs9.here hx rfl (hb hby dARR_50) rfl) ?_
    show Run p.tables e below (Ts9.setTop (mkF m 51 #[.val (.int (6 : Int32)), .val (.int (2 : Int32)), .val (.ref r), .val (.int (2 : Int32))] [(.int ((6 : Int32) &&& (1 : Int32)))])) _
    refine own_go (fun _ => XS.ifYes Xs9.here hx rfl (pc0 := 51) (pc' := 61) rfl (hb hby dARR_51) rfl (XT.i0_eq_t (by decide)) (by decide) (by decide)) ?_
    show Run p.tables e below (Ts9.setTop (mkF m 61 #[.val (.int (6 : Int32)), .val (.int (2 : Int32)), .val (.ref r), .val (.int (2 : Int32))] [])) _
    refine own_go (fun _ => XS.aloadN Xs9.here hx rfl (hb hby dARR_61) rfl rfl) ?_
    show Run p.tables e below (Ts9.setTop (mkF m 62 #[.val (.int (6 : Int32)), .val (.int (2 : Int32)), .val (.ref r), .val (.int (2 : Int32))] [(.ref r)])) _
    subst es9
    exact own_out Xs9 (v := some (.ref r)) (fun q => by rw [hret] at q; cases q) hlk (fun fs hr => Xs9.areturnOut hx rfl hret rfl (hb hby dARR_62) hr) ⟨r, cA, rfl, Ns9, Es9, ge, XEs9, (by rw [own_cnt6, own_arr6]; exact Vs9)⟩ (by decide) (by decide)
  · rw [own_cnt7]
    show Run p.tables e below (s₁.setTop (mkF m 15 #[.val (.int (7 : Int32)), .unset, .unset, .unset] [(.int (3 : Int32))])) _
    refine own_go (fun _ => XS.istoreN X0.here hx rfl (hb hby dARR_15) rfl (l' := #[.val (.int (7 : Int32)), .val (.int (3 : Int32)), .unset, .unset]) rfl) ?_
    show Run p.tables e below (s₁.setTop (mkF m 16 #[.val (.int (7 : Int32)), .val (.int (3 : Int32)), .unset, .unset] [])) _
    refine own_go (fun _ => XS.iloadN X0.here hx rfl (hb hby dARR_16) rfl) ?_
    show Run p.tables e below (s₁.setTop (mkF m 17 #[.val (.int (7 : Int32)), .val (.int (3 : Int32)), .unset, .unset] [(.int (3 : Int32))])) _
    obtain ⟨TN, hN, cA, XN, eN, EN, AN, XE, stN⟩ := newPE X0 hx hZ (hw _ (List.mem_of_getElem? (i := 5) rfl)) e0 (g := (mkF m 17 #[.val (.int (7 : Int32)), .val (.int (3 : Int32)), .unset, .unset] [(.int (3 : Int32))])) rfl (hb hby dARR_17) rfl (by decide) (cap := 3) (by decide) (by decide) (by decide) (by decide) (ad := "[I") (by decide)
    obtain ⟨r, gr⟩ : ∃ z, z = h0.size := ⟨_, rfl⟩
    rw [← gr] at AN XE stN
    have ge : h0.size ≤ r := Nat.le_of_eq gr.symm
    have ge0 : n0 ≤ r := Nat.le_trans Z0 ge
    have N0 := Fr.nil n0
    have V0 : Arv Z hN r cA .int 3 ([] ++ List.replicate 3 (.int 0)) (.int 0) := (Arv.new AN (by decide)).pad (pad_rep [] (.int 0) 3)
    refine own_go stN ?_
    show Run p.tables e below (TN.setTop (mkF m 19 #[.val (.int (7 : Int32)), .val (.int (3 : Int32)), .unset, .unset] [(.ref r)])) _
    refine own_go (fun _ => XS.astoreN XN.here hx rfl (hb hby dARR_19) rfl rfl (l' := #[.val (.int (7 : Int32)), .val (.int (3 : Int32)), .val (.ref r), .unset]) rfl) ?_
    show Run p.tables e below (TN.setTop (mkF m 20 #[.val (.int (7 : Int32)), .val (.int (3 : Int32)), .val (.ref r), .unset] [])) _
    refine own_go (fun _ => XS.iconst XN.here hx rfl (hb hby dARR_20)) ?_
    show Run p.tables e below (TN.setTop (mkF m 21 #[.val (.int (7 : Int32)), .val (.int (3 : Int32)), .val (.ref r), .unset] [(.int (0 : Int32))])) _
    refine own_go (fun _ => XS.istoreN XN.here hx rfl (hb hby dARR_21) rfl (l' := #[.val (.int (7 : Int32)), .val (.int (3 : Int32)), .val (.ref r), .val (.int (0 : Int32))]) rfl) ?_
    show Run p.tables e below (TN.setTop (mkF m 22 #[.val (.int (7 : Int32)), .val (.int (3 : Int32)), .val (.ref r), .val (.int (0 : Int32))] [])) _
    refine own_go (fun _ => XS.iloadN XN.here hx rfl (hb hby dARR_22) rfl) ?_
    show Run p.tables e below (TN.setTop (mkF m 23 #[.val (.int (7 : Int32)), .val (.int (3 : Int32)), .val (.ref r), .val (.int (0 : Int32))] [(.int (7 : Int32))])) _
    refine own_go (fun _ => XS.iconst XN.here hx rfl (hb hby dARR_23)) ?_
    show Run p.tables e below (TN.setTop (mkF m 24 #[.val (.int (7 : Int32)), .val (.int (3 : Int32)), .val (.ref r), .val (.int (0 : Int32))] [(.int (4 : Int32)), (.int (7 : Int32))])) _
    refine own_go (fun _ => XS.iand XN.here hx rfl (hb hby dARR_24) rfl) ?_
    show Run p.tables e below (TN.setTop (mkF m 25 #[.val (.int (7 : Int32)), .val (.int (3 : Int32)), .val (.ref r), .val (.int (0 : Int32))] [(.int ((7 : Int32) &&& (4 : Int32)))])) _
    refine own_go (fun _ => XS.ifNo XN.here hx rfl (hb hby dARR_25) rfl (XT.i0_eq_f (by decide))) ?_
    show Run p.tables e below (TN.setTop (mkF m 28 #[.val (.int (7 : Int32)), .val (.int (3 : Int32)), .val (.ref r), .val (.int (0 : Int32))] [])) _
    refine own_go (fun _ => XS.aloadN XN.here hx rfl (hb hby dARR_28) rfl rfl) ?_
    show Run p.tables e below (TN.setTop (mkF m 29 #[.val (.int (7 : Int32)), .val (.int (3 : Int32)), .val (.ref r), .val (.int (0 : Int32))] [(.ref r)])) _
    refine own_go (fun _ => XS.iloadN XN.here hx rfl (hb hby dARR_29) rfl) ?_
    show Run p.tables e below (TN.setTop (mkF m 30 #[.val (.int (7 : Int32)), .val (.int (3 : Int32)), .val (.ref r), .val (.int (0 : Int32))] [(.int (0 : Int32)), (.ref r)])) _
    refine own_go (fun _ => XS.iconst XN.here hx rfl (hb hby dARR_30)) ?_
    show Run p.tables e below (TN.setTop (mkF m 31 #[.val (.int (7 : Int32)), .val (.int (3 : Int32)), .val (.ref r), .val (.int (0 : Int32))] [(.int (2 : Int32)), (.int (0 : Int32)), (.ref r)])) _
    obtain ⟨Ts10, hs10, Ls10, Xs10, es10, Ws10, Vs10, Ns10, sts10⟩ := own_stI XN hx hZ eN V0 (j := (0 : Int32)) ⟨by decide, by decide⟩ 0 rfl (by decide) N0 ge0 (g := (mkF m 31 #[.val (.int (7 : Int32)), .val (.int (3 : Int32)), .val (.ref r), .val (.int (0 : Int32))] [(.int (2 : Int32)), (.int (0 : Int32)), (.ref r)])) rfl rfl (hb hby dARR_31)
    have Es10 := own_extwr EN Ws10 ge
    have XEs10 := XE.wr Ws10
    refine own_go sts10 ?_
    show Run p.tables e below (Ts10.setTop (mkF m 32 #[.val (.int (7 : Int32)), .val (.int (3 : Int32)), .val (.ref r), .val (.int (0 : Int32))] [])) _
    refine own_go (fun _ => XS.iinc Xs10.here hx rfl (hb hby dARR_32) rfl (l' := #[.val (.int (7 : Int32)), .val (.int (3 : Int32)), .val (.ref r), .val (.int (1 : Int32))]) rfl) ?_
    show Run p.tables e below (Ts10.setTop (mkF m 35 #[.val (.int (7 : Int32)), .val (.int (3 : Int32)), .val (.ref r), .val (.int (1 : Int32))] [])) _
    refine own_go (fun _ => XS.iloadN Xs10.here hx rfl (hb hby dARR_35) rfl) ?_
    show Run p.tables e below (Ts10.setTop (mkF m 36 #[.val (.int (7 : Int32)), .val (.int (3 : Int32)), .val (.ref r), .val (.int (1 : Int32))] [(.int (7 : Int32))])) _
    refine own_go (fun _ => XS.iconst Xs10.here hx rfl (hb hby dARR_36)) ?_
    show Run p.tables e below (Ts10.setTop (mkF m 37 #[.val (.int (7 : Int32)), .val (.int (3 : Int32)), .val (.ref r), .val (.int (1 : Int32))] [(.int (2 : Int32)), (.int (7 : Int32))])) _
    refine own_go (fun _ => XS.iand Xs10.here hx rfl (hb hby dARR_37) rfl) ?_
    show Run p.tables e below (Ts10.setTop (mkF m 38 #[.val (.int (7 : Int32)), .val (.int (3 : Int32)), .val (.ref r), .val (.int (1 : Int32))] [(.int ((7 : Int32) &&& (2 : Int32)))])) _
    refine own_go (fun _ => XS.ifNo Xs10.here hx rfl (hb hby dARR_38) rfl (XT.i0_eq_f (by decide))) ?_
    show Run p.tables e below (Ts10.setTop (mkF m 41 #[.val (.int (7 : Int32)), .val (.int (3 : Int32)), .val (.ref r), .val (.int (1 : Int32))] [])) _
    refine own_go (fun _ => XS.aloadN Xs10.here hx rfl (hb hby dARR_41) rfl rfl) ?_
    show Run p.tables e below (Ts10.setTop (mkF m 42 #[.val (.int (7 : Int32)), .val (.int (3 : Int32)), .val (.ref r), .val (.int (1 : Int32))] [(.ref r)])) _
    refine own_go (fun _ => XS.iloadN Xs10.here hx rfl (hb hby dARR_42) rfl) ?_
    show Run p.tables e below (Ts10.setTop (mkF m 43 #[.val (.int (7 : Int32)), .val (.int (3 : Int32)), .val (.ref r), .val (.int (1 : Int32))] [(.int (1 : Int32)), (.ref r)])) _
    refine own_go (fun _ => XS.iconst Xs10.here hx rfl (hb hby dARR_43)) ?_
    show Run p.tables e below (Ts10.setTop (mkF m 44 #[.val (.int (7 : Int32)), .val (.int (3 : Int32)), .val (.ref r), .val (.int (1 : Int32))] [(.int (1 : Int32)), (.int (1 : Int32)), (.ref r)])) _
    obtain ⟨Ts11, hs11, Ls11, Xs11, es11, Ws11, Vs11, Ns11, sts11⟩ := own_stI Xs10 hx hZ es10 Vs10 (j := (1 : Int32)) ⟨by decide, by decide⟩ 1 rfl (by decide) Ns10 ge0 (g := (mkF m 44 #[.val (.int (7 : Int32)), .val (.int (3 : Int32)), .val (.ref r), .val (.int (1 : Int32))] [(.int (1 : Int32)), (.int (1 : Int32)), (.ref r)])) rfl rfl (hb hby dARR_44)
    have Es11 := own_extwr Es10 Ws11 ge
    have XEs11 := XEs10.wr Ws11
    refine own_go sts11 ?_
    show Run p.tables e below (Ts11.setTop (mkF m 45 #[.val (.int (7 : Int32)), .val (.int (3 : Int32)), .val (.ref r), .val (.int (1 : Int32))] [])) _
    refine own_go (fun _ => XS.iinc Xs11.here hx rfl (hb hby dARR_45) rfl (l' := #[.val (.int (7 : Int32)), .val (.int (3 : Int32)), .val (.ref r), .val (.int (2 : Int32))]) rfl) ?_
    show Run p.tables e below (Ts11.setTop (mkF m 48 #[.val (.int (7 : Int32)), .val (.int (3 : Int32)), .val (.ref r), .val (.int (2 : Int32))] [])) _
    refine own_go (fun _ => XS.iloadN Xs11.here hx rfl (hb hby dARR_48) rfl) ?_
    show Run p.tables e below (Ts11.setTop (mkF m 49 #[.val (.int (7 : Int32)), .val (.int (3 : Int32)), .val (.ref r), .val (.int (2 : Int32))] [(.int (7 : Int32))])) _
    refine own_go (fun _ => XS.iconst Xs11.here hx rfl (hb hby dARR_49)) ?_
    show Run p.tables e below (Ts11.setTop (mkF m 50 #[.val (.int (7 : Int32)), .val (.int (3 : Int32)), .val (.ref r), .val (.int (2 : Int32))] [(.int (1 : Int32)), (.int (7 : Int32))])) _
    refine own_go (fun _ => XS.iand Xs11.here hx rfl (hb hby dARR_50) rfl) ?_
    show Run p.tables e below (Ts11.setTop (mkF m 51 #[.val (.int (7 : Int32)), .val (.int (3 : Int32)), .val (.ref r), .val (.int (2 : Int32))] [(.int ((7 : Int32) &&& (1 : Int32)))])) _
    refine own_go (fun _ => XS.ifNo Xs11.here hx rfl (hb hby dARR_51) rfl (XT.i0_eq_f (by decide))) ?_
    show Run p.tables e below (Ts11.setTop (mkF m 54 #[.val (.int (7 : Int32)), .val (.int (3 : Int32)), .val (.ref r), .val (.int (2 : Int32))] [])) _
    refine own_go (fun _ => XS.aloadN Xs11.here hx rfl (hb hby dARR_54) rfl rfl) ?_
    show Run p.tables e below (Ts11.setTop (mkF m 55 #[.val (.int (7 : Int32)), .val (.int (3 : Int32)), .val (.ref r), .val (.int (2 : Int32))] [(.ref r)])) _
    refine own_go (fun _ => XS.iloadN Xs11.here hx rfl (hb hby dARR_55) rfl) ?_
    show Run p.tables e below (Ts11.setTop (mkF m 56 #[.val (.int (7 : Int32)), .val (.int (3 : Int32)), .val (.ref r), .val (.int (2 : Int32))] [(.int (2 : Int32)), (.ref r)])) _
    refine own_go (fun _ => XS.iconst Xs11.here hx rfl (hb hby dARR_56)) ?_
    show Run p.tables e below (Ts11.setTop (mkF m 57 #[.val (.int (7 : Int32)), .val (.int (3 : Int32)), .val (.ref r), .val (.int (2 : Int32))] [(.int (0 : Int32)), (.int (2 : Int32)), (.ref r)])) _
    obtain ⟨Ts12, hs12, Ls12, Xs12, es12, Ws12, Vs12, Ns12, sts12⟩ := own_stI Xs11 hx hZ es11 Vs11 (j := (2 : Int32)) ⟨by decide, by decide⟩ 2 rfl (by decide) Ns11 ge0 (g := (mkF m 57 #[.val (.int (7 : Int32)), .val (.int (3 : Int32)), .val (.ref r), .val (.int (2 : Int32))] [(.int (0 : Int32)), (.int (2 : Int32)), (.ref r)])) rfl rfl (hb hby dARR_57)
    have Es12 := own_extwr Es11 Ws12 ge
    have XEs12 := XEs11.wr Ws12
    refine own_go sts12 ?_
    show Run p.tables e below (Ts12.setTop (mkF m 58 #[.val (.int (7 : Int32)), .val (.int (3 : Int32)), .val (.ref r), .val (.int (2 : Int32))] [])) _
    refine own_go (fun _ => XS.iinc Xs12.here hx rfl (hb hby dARR_58) rfl (l' := #[.val (.int (7 : Int32)), .val (.int (3 : Int32)), .val (.ref r), .val (.int (3 : Int32))]) rfl) ?_
    show Run p.tables e below (Ts12.setTop (mkF m 61 #[.val (.int (7 : Int32)), .val (.int (3 : Int32)), .val (.ref r), .val (.int (3 : Int32))] [])) _
    refine own_go (fun _ => XS.aloadN Xs12.here hx rfl (hb hby dARR_61) rfl rfl) ?_
    show Run p.tables e below (Ts12.setTop (mkF m 62 #[.val (.int (7 : Int32)), .val (.int (3 : Int32)), .val (.ref r), .val (.int (3 : Int32))] [(.ref r)])) _
    subst es12
    exact own_out Xs12 (v := some (.ref r)) (fun q => by rw [hret] at q; cases q) hlk (fun fs hr => Xs12.areturnOut hx rfl hret rfl (hb hby dARR_62) hr) ⟨r, cA, rfl, Ns12, Es12, ge, XEs12, (by rw [own_cnt7, own_arr7]; exact Vs12)⟩ (by decide) (by decide)
def own_Ix (Z : State) (h : Heap) (b ai ad : Addr) (n d : Int32) : Prop := Exa Z h b "com/example/elect/elect/core/IdIndex" ∧ Fld Z h b "com/example/elect/elect/core/IdIndex" "ids" "[I" (.ref ai) ∧ Fld Z h b "com/example/elect/elect/core/IdIndex" "count" "I" (.int n) ∧ Fld Z h b "com/example/elect/elect/core/IdIndex" "direct" "[I" (.ref ad) ∧ own_IA Z h ai 8 ∧ own_IA Z h ad d ∧ ai ≠ ad
def own_QIX (Z : State) (b : Addr) (h0 : Heap) (n0 : Nat) (v : Option Value) (h : Heap) (L : List Loc) : Prop := v = none ∧ Fr n0 L ∧ Keep h0 h [b] ∧ ∃ ai ad, h0.size ≤ ai ∧ h0.size ≤ ad ∧ own_Ix Z h b ai ad 0 0
set_option maxRecDepth 65536 in
set_option maxHeartbeats 40000000 in
theorem rmIXI (l : Launch) (Z : State) (a0 : Array Value) (hw : ∀ d ∈ tables_1, d.before a0 Z = true) (ws : List Jvm.Cond) (b : Addr) (h0 : Heap) (n0 : Nat) (Z0 : n0 ≤ h0.size) (ge : n0 ≤ b) (E0 : Exa Z h0 b "com/example/elect/elect/core/IdIndex") (F_ids : Fld Z h0 b "com/example/elect/elect/core/IdIndex" "ids" "[I" .null) (F_direct : Fld Z h0 b "com/example/elect/elect/core/IdIndex" "direct" "[I" .null) (F_slots : Fld Z h0 b "com/example/elect/elect/core/IdIndex" "slots" "[I" .null) (F_count : Fld Z h0 b "com/example/elect/elect/core/IdIndex" "count" "I" (.int 0)) :
    OwnCtr l (⟨"com/example/elect/elect/core/IdIndex", "<init>", "()V"⟩ : MethodName) prog_40_method_1_code 1 none ws own_Rixi Z #[(.ref b)] h0 (own_QIX Z b h0 n0) := by
  refine own_body own_pnI ?_
  intro p e s m below meth c s₁ X0 hx hby hml hown hnm hret hlk hZ e0
  refine own_go (fun _ k => castTop (ef_R1 m b) k) ?_
  show Run p.tables e below (s₁.setTop (mkF m 0 #[.val (.ref b)] [])) _
  refine own_go (fun _ => XS.aloadN X0.here hx rfl (hb hby dIXI_0) rfl rfl) ?_
  show Run p.tables e below (s₁.setTop (mkF m 1 #[.val (.ref b)] [(.ref b)])) _
  obtain ⟨Ti, Xi, ei, sti⟩ := initO X0 hx hZ hown (hw _ (List.mem_of_getElem? (i := 15) rfl)) (hw _ (List.mem_of_getElem? (i := 16) rfl)) (hw _ (List.mem_of_getElem? (i := 17) rfl)) e0 (g := (mkF m 1 #[.val (.ref b)] [(.ref b)])) rfl (by rw [hml]; rfl) rfl (hb hby dIXI_1) (by decide) (W := 0) (by show 2 * 0 + _ ≤ _; exact Nat.le_of_eq rfl) (by decide)
  refine own_go sti ?_
  show Run p.tables e below (Ti.setTop (mkF m 4 #[.val (.ref b)] [])) _
  refine own_go (fun _ => XS.aloadN Xi.here hx rfl (hb hby dIXI_4) rfl rfl) ?_
  show Run p.tables e below (Ti.setTop (mkF m 5 #[.val (.ref b)] [(.ref b)])) _
  refine own_go (fun _ => XS.bipush Xi.here hx rfl (hb hby dIXI_5)) ?_
  show Run p.tables e below (Ti.setTop (mkF m 7 #[.val (.ref b)] [(.int (8 : Int32)), (.ref b)])) _
  obtain ⟨TNid, hNid, cAid, XNid, eNid, ENid, ANid, stNid⟩ := newP Xi hx hZ (hw _ (List.mem_of_getElem? (i := 5) rfl)) ei (g := (mkF m 7 #[.val (.ref b)] [(.int (8 : Int32)), (.ref b)])) rfl (hb hby dIXI_7) rfl (by decide) (cap := 8) (by decide) (by decide) (by decide) (by decide)
  obtain ⟨aid, gid⟩ : ∃ z, z = (h0).size := ⟨_, rfl⟩
  rw [← gid] at ANid stNid
  have Iid : own_IA Z hNid aid 8 := own_IA.new ANid (by decide)
  have Kida := Keep.ext (Keep.refl h0 [b]) ENid
  have zzid : h0.size ≤ aid := by rw [gid]; exact Nat.le_refl _
  have Gid_ids := F_ids.ext ENid
  have Gid_direct := F_direct.ext ENid
  have Gid_slots := F_slots.ext ENid
  have Gid_count := F_count.ext ENid
  have EEid := E0.ext ENid
  refine own_go stNid ?_
  show Run p.tables e below (TNid.setTop (mkF m 9 #[.val (.ref b)] [(.ref aid), (.ref b)])) _
  obtain ⟨TPid, hPid, XPid, ePid, WPid, stPid⟩ := putF XNid hx hZ hown (host := "") (Or.inl (hw _ (List.mem_of_getElem? (i := 18) rfl))) Via.refl eNid Gid_ids EEid (Or.inl (hw _ (List.mem_of_getElem? (i := 19) rfl))) (hw _ (List.mem_of_getElem? (i := 10) rfl)) (ty := (.array .int)) (by decide) rfl rfl (g := (mkF m 9 #[.val (.ref b)] [(.ref aid), (.ref b)])) rfl rfl (hb hby dIXI_9)
  have Nid := Fr.snoc XPid (Fr.nil n0) ge
  have Kidb := Keep.wr Kida WPid (Or.inl (List.mem_singleton.mpr rfl))
  have Hid_ids := Gid_ids.same WPid
  have Hid_direct := Gid_direct.other WPid (Or.inr (slot_ne (C := "com/example/elect/elect/core/IdIndex") (a0 := a0) (Or.inl (hw _ (List.mem_of_getElem? (i := 21) rfl))) (Or.inl (hw _ (List.mem_of_getElem? (i := 19) rfl))) (by decide) (t := (.array .int)) (by decide) (t' := (.array .int)) (by decide)))
  have Hid_slots := Gid_slots.other WPid (Or.inr (slot_ne (C := "com/example/elect/elect/core/IdIndex") (a0 := a0) (Or.inl (hw _ (List.mem_of_getElem? (i := 23) rfl))) (Or.inl (hw _ (List.mem_of_getElem? (i := 19) rfl))) (by decide) (t := (.array .int)) (by decide) (t' := (.array .int)) (by decide)))
  have Hid_count := Gid_count.other WPid (Or.inr (slot_ne (C := "com/example/elect/elect/core/IdIndex") (a0 := a0) (Or.inl (hw _ (List.mem_of_getElem? (i := 55) rfl))) (Or.inl (hw _ (List.mem_of_getElem? (i := 19) rfl))) (by decide) (t := .int) (by decide) (t' := (.array .int)) (by decide)))
  have Iidw := Iid.other WPid (Ne.symm (Iid.ne (a0 := a0) EEid (hw _ (List.mem_of_getElem? (i := 10) rfl))))
  have EPid := EEid.wr WPid
  refine own_go stPid ?_
  show Run p.tables e below (TPid.setTop (mkF m 12 #[.val (.ref b)] [])) _
  refine own_go (fun _ => XS.aloadN XPid.here hx rfl (hb hby dIXI_12) rfl rfl) ?_
  show Run p.tables e below (TPid.setTop (mkF m 13 #[.val (.ref b)] [(.ref b)])) _
  refine own_go (fun _ => XS.iconst XPid.here hx rfl (hb hby dIXI_13)) ?_
  show Run p.tables e below (TPid.setTop (mkF m 14 #[.val (.ref b)] [(.int (0 : Int32)), (.ref b)])) _
  obtain ⟨TNdi, hNdi, cAdi, XNdi, eNdi, ENdi, ANdi, stNdi⟩ := newP XPid hx hZ (hw _ (List.mem_of_getElem? (i := 5) rfl)) ePid (g := (mkF m 14 #[.val (.ref b)] [(.int (0 : Int32)), (.ref b)])) rfl (hb hby dIXI_14) rfl (by decide) (cap := 0) (by decide) (by decide) (by decide) (by decide)
  obtain ⟨adi, gdi⟩ : ∃ z, z = (hPid).size := ⟨_, rfl⟩
  rw [← gdi] at ANdi stNdi
  have Idi : own_IA Z hNdi adi 0 := own_IA.new ANdi (by decide)
  have Kdia := Keep.ext Kidb ENdi
  have zzdi : h0.size ≤ adi := by rw [gdi]; exact Kidb.1
  have Gdi_ids := Hid_ids.ext ENdi
  have Gdi_direct := Hid_direct.ext ENdi
  have Gdi_slots := Hid_slots.ext ENdi
  have Gdi_count := Hid_count.ext ENdi
  have EEdi := EPid.ext ENdi
  have neaiddi : aid ≠ adi := own_nelt Iidw.lt (Nat.le_of_eq gdi.symm)
  have Iidwdi := Iidw.ext ENdi
  refine own_go stNdi ?_
  show Run p.tables e below (TNdi.setTop (mkF m 16 #[.val (.ref b)] [(.ref adi), (.ref b)])) _
  obtain ⟨TPdi, hPdi, XPdi, ePdi, WPdi, stPdi⟩ := putF XNdi hx hZ hown (host := "") (Or.inl (hw _ (List.mem_of_getElem? (i := 20) rfl))) Via.refl eNdi Gdi_direct EEdi (Or.inl (hw _ (List.mem_of_getElem? (i := 21) rfl))) (hw _ (List.mem_of_getElem? (i := 10) rfl)) (ty := (.array .int)) (by decide) rfl rfl (g := (mkF m 16 #[.val (.ref b)] [(.ref adi), (.ref b)])) rfl rfl (hb hby dIXI_16)
  have Ndi := Fr.snoc XPdi Nid ge
  have Kdib := Keep.wr Kdia WPdi (Or.inl (List.mem_singleton.mpr rfl))
  have Hdi_ids := Gdi_ids.other WPdi (Or.inr (slot_ne (C := "com/example/elect/elect/core/IdIndex") (a0 := a0) (Or.inl (hw _ (List.mem_of_getElem? (i := 19) rfl))) (Or.inl (hw _ (List.mem_of_getElem? (i := 21) rfl))) (by decide) (t := (.array .int)) (by decide) (t' := (.array .int)) (by decide)))
  have Hdi_direct := Gdi_direct.same WPdi
  have Hdi_slots := Gdi_slots.other WPdi (Or.inr (slot_ne (C := "com/example/elect/elect/core/IdIndex") (a0 := a0) (Or.inl (hw _ (List.mem_of_getElem? (i := 23) rfl))) (Or.inl (hw _ (List.mem_of_getElem? (i := 21) rfl))) (by decide) (t := (.array .int)) (by decide) (t' := (.array .int)) (by decide)))
  have Hdi_count := Gdi_count.other WPdi (Or.inr (slot_ne (C := "com/example/elect/elect/core/IdIndex") (a0 := a0) (Or.inl (hw _ (List.mem_of_getElem? (i := 55) rfl))) (Or.inl (hw _ (List.mem_of_getElem? (i := 21) rfl))) (by decide) (t := .int) (by decide) (t' := (.array .int)) (by decide)))
  have Iidwdiw := Iidwdi.other WPdi (Ne.symm (Iidwdi.ne (a0 := a0) EEdi (hw _ (List.mem_of_getElem? (i := 10) rfl))))
  have Idiw := Idi.other WPdi (Ne.symm (Idi.ne (a0 := a0) EEdi (hw _ (List.mem_of_getElem? (i := 10) rfl))))
  have EPdi := EEdi.wr WPdi
  refine own_go stPdi ?_
  show Run p.tables e below (TPdi.setTop (mkF m 19 #[.val (.ref b)] [])) _
  refine own_go (fun _ => XS.aloadN XPdi.here hx rfl (hb hby dIXI_19) rfl rfl) ?_
  show Run p.tables e below (TPdi.setTop (mkF m 20 #[.val (.ref b)] [(.ref b)])) _
  refine own_go (fun _ => XS.bipush XPdi.here hx rfl (hb hby dIXI_20)) ?_
  show Run p.tables e below (TPdi.setTop (mkF m 22 #[.val (.ref b)] [(.int (16 : Int32)), (.ref b)])) _
  obtain ⟨TNsl, hNsl, cAsl, XNsl, eNsl, ENsl, ANsl, stNsl⟩ := newP XPdi hx hZ (hw _ (List.mem_of_getElem? (i := 5) rfl)) ePdi (g := (mkF m 22 #[.val (.ref b)] [(.int (16 : Int32)), (.ref b)])) rfl (hb hby dIXI_22) rfl (by decide) (cap := 16) (by decide) (by decide) (by decide) (by decide)
  obtain ⟨asl, gsl⟩ : ∃ z, z = (hPdi).size := ⟨_, rfl⟩
  rw [← gsl] at ANsl stNsl
  have Isl : own_IA Z hNsl asl 16 := own_IA.new ANsl (by decide)
  have Ksla := Keep.ext Kdib ENsl
  have zzsl : h0.size ≤ asl := by rw [gsl]; exact Kdib.1
  have Gsl_ids := Hdi_ids.ext ENsl
  have Gsl_direct := Hdi_direct.ext ENsl
  have Gsl_slots := Hdi_slots.ext ENsl
  have Gsl_count := Hdi_count.ext ENsl
  have EEsl := EPdi.ext ENsl
  have neaidsl : aid ≠ asl := own_nelt Iidwdiw.lt (Nat.le_of_eq gsl.symm)
  have Iidwdiwsl := Iidwdiw.ext ENsl
  have neadisl : adi ≠ asl := own_nelt Idiw.lt (Nat.le_of_eq gsl.symm)
  have Idiwsl := Idiw.ext ENsl
  refine own_go stNsl ?_
  show Run p.tables e below (TNsl.setTop (mkF m 24 #[.val (.ref b)] [(.ref asl), (.ref b)])) _
  obtain ⟨TPsl, hPsl, XPsl, ePsl, WPsl, stPsl⟩ := putF XNsl hx hZ hown (host := "") (Or.inl (hw _ (List.mem_of_getElem? (i := 22) rfl))) Via.refl eNsl Gsl_slots EEsl (Or.inl (hw _ (List.mem_of_getElem? (i := 23) rfl))) (hw _ (List.mem_of_getElem? (i := 10) rfl)) (ty := (.array .int)) (by decide) rfl rfl (g := (mkF m 24 #[.val (.ref b)] [(.ref asl), (.ref b)])) rfl rfl (hb hby dIXI_24)
  have Nsl := Fr.snoc XPsl Ndi ge
  have Kslb := Keep.wr Ksla WPsl (Or.inl (List.mem_singleton.mpr rfl))
  have Hsl_ids := Gsl_ids.other WPsl (Or.inr (slot_ne (C := "com/example/elect/elect/core/IdIndex") (a0 := a0) (Or.inl (hw _ (List.mem_of_getElem? (i := 19) rfl))) (Or.inl (hw _ (List.mem_of_getElem? (i := 23) rfl))) (by decide) (t := (.array .int)) (by decide) (t' := (.array .int)) (by decide)))
  have Hsl_direct := Gsl_direct.other WPsl (Or.inr (slot_ne (C := "com/example/elect/elect/core/IdIndex") (a0 := a0) (Or.inl (hw _ (List.mem_of_getElem? (i := 21) rfl))) (Or.inl (hw _ (List.mem_of_getElem? (i := 23) rfl))) (by decide) (t := (.array .int)) (by decide) (t' := (.array .int)) (by decide)))
  have Hsl_slots := Gsl_slots.same WPsl
  have Hsl_count := Gsl_count.other WPsl (Or.inr (slot_ne (C := "com/example/elect/elect/core/IdIndex") (a0 := a0) (Or.inl (hw _ (List.mem_of_getElem? (i := 55) rfl))) (Or.inl (hw _ (List.mem_of_getElem? (i := 23) rfl))) (by decide) (t := .int) (by decide) (t' := (.array .int)) (by decide)))
  have Iidwdiwslw := Iidwdiwsl.other WPsl (Ne.symm (Iidwdiwsl.ne (a0 := a0) EEsl (hw _ (List.mem_of_getElem? (i := 10) rfl))))
  have Idiwslw := Idiwsl.other WPsl (Ne.symm (Idiwsl.ne (a0 := a0) EEsl (hw _ (List.mem_of_getElem? (i := 10) rfl))))
  have Islw := Isl.other WPsl (Ne.symm (Isl.ne (a0 := a0) EEsl (hw _ (List.mem_of_getElem? (i := 10) rfl))))
  have EPsl := EEsl.wr WPsl
  refine own_go stPsl ?_
  show Run p.tables e below (TPsl.setTop (mkF m 27 #[.val (.ref b)] [])) _
  subst ePsl
  exact own_out XPsl (v := none) (fun _ => rfl) hlk (fun fs hr => XPsl.returnOut hx hret (hb hby dIXI_27) hr) ⟨rfl, Nsl, Kslb, aid, adi, zzid, zzdi, EPsl, Hsl_ids, Hsl_count, Hsl_direct, Iidwdiwslw, Idiwslw, neaiddi⟩ (by decide) (by decide)
def own_Nt (Z : State) (h : Heap) (t b al aL aR : Addr) (F : Int32 → Int64) : Prop := Exa Z h t "com/example/elect/elect/core/NeighbourTable" ∧ Fld Z h t "com/example/elect/elect/core/NeighbourTable" "numbers" "Lcom/example/elect/elect/core/IdIndex;" (.ref b) ∧ Fld Z h t "com/example/elect/elect/core/NeighbourTable" "lists" "[[I" (.ref al) ∧ Fld Z h t "com/example/elect/elect/core/NeighbourTable" "listed" "[J" (.ref aL) ∧ Fld Z h t "com/example/elect/elect/core/NeighbourTable" "listers" "[J" (.ref aR) ∧ own_RA Z h al ∧ own_LA Z h aL F ∧ own_JA Z h aR ∧ al ≠ aL ∧ al ≠ aR ∧ aL ≠ aR
def own_QNT (Z : State) (t b : Addr) (h0 : Heap) (n0 : Nat) (v : Option Value) (h : Heap) (L : List Loc) : Prop := v = none ∧ Fr n0 L ∧ Keep h0 h [t] ∧ ∃ al aL aR, h0.size ≤ al ∧ h0.size ≤ aL ∧ h0.size ≤ aR ∧ own_Nt Z h t b al aL aR (fun _ => 0)
set_option maxRecDepth 65536 in
set_option maxHeartbeats 40000000 in
theorem rmNTI (l : Launch) (Z : State) (a0 : Array Value) (hw : ∀ d ∈ tables_1, d.before a0 Z = true) (ws : List Jvm.Cond) (t b : Addr) (h0 : Heap) (n0 : Nat) (Z0 : n0 ≤ h0.size) (ge : n0 ≤ t) (E0 : Exa Z h0 t "com/example/elect/elect/core/NeighbourTable") (F_lists : Fld Z h0 t "com/example/elect/elect/core/NeighbourTable" "lists" "[[I" .null) (F_listed : Fld Z h0 t "com/example/elect/elect/core/NeighbourTable" "listed" "[J" .null) (F_listers : Fld Z h0 t "com/example/elect/elect/core/NeighbourTable" "listers" "[J" .null) (F_numbers : Fld Z h0 t "com/example/elect/elect/core/NeighbourTable" "numbers" "Lcom/example/elect/elect/core/IdIndex;" .null) :
    OwnCtr l (⟨"com/example/elect/elect/core/NeighbourTable", "<init>", "(Lcom/example/elect/elect/core/IdIndex;)V"⟩ : MethodName) prog_44_method_2_code 2 none ws own_Rixi Z #[(.ref t), (.ref b)] h0 (own_QNT Z t b h0 n0) := by
  refine own_body own_pnN ?_
  intro p e s m below meth c s₁ X0 hx hby hml hown hnm hret hlk hZ e0
  refine own_go (fun _ k => castTop (ef_RR m t b) k) ?_
  show Run p.tables e below (s₁.setTop (mkF m 0 #[.val (.ref t), .val (.ref b)] [])) _
  refine own_go (fun _ => XS.aloadN X0.here hx rfl (hb hby dNTI_0) rfl rfl) ?_
  show Run p.tables e below (s₁.setTop (mkF m 1 #[.val (.ref t), .val (.ref b)] [(.ref t)])) _
  obtain ⟨Ti, Xi, ei, sti⟩ := initO X0 hx hZ hown (hw _ (List.mem_of_getElem? (i := 27) rfl)) (hw _ (List.mem_of_getElem? (i := 16) rfl)) (hw _ (List.mem_of_getElem? (i := 17) rfl)) e0 (g := (mkF m 1 #[.val (.ref t), .val (.ref b)] [(.ref t)])) rfl (by rw [hml]; rfl) rfl (hb hby dNTI_1) (by decide) (W := 0) (by show 2 * 0 + _ ≤ _; exact Nat.le_of_eq rfl) (by decide)
  refine own_go sti ?_
  show Run p.tables e below (Ti.setTop (mkF m 4 #[.val (.ref t), .val (.ref b)] [])) _
  refine own_go (fun _ => XS.aloadN Xi.here hx rfl (hb hby dNTI_4) rfl rfl) ?_
  show Run p.tables e below (Ti.setTop (mkF m 5 #[.val (.ref t), .val (.ref b)] [(.ref t)])) _
  refine own_go (fun _ => XS.bipush Xi.here hx rfl (hb hby dNTI_5)) ?_
  show Run p.tables e below (Ti.setTop (mkF m 7 #[.val (.ref t), .val (.ref b)] [(.int (8 : Int32)), (.ref t)])) _
  obtain ⟨TNl, hNl, cAl, XNl, eNl, ENl, ANl, XEl, Ol, stNl⟩ := newRA Xi hx hZ hown (ty := .int) (C := "[I") (by decide) (hw _ (List.mem_of_getElem? (i := 28) rfl)) (hw _ (List.mem_of_getElem? (i := 29) rfl)) ei (g := (mkF m 7 #[.val (.ref t), .val (.ref b)] [(.int (8 : Int32)), (.ref t)])) rfl (hb hby dNTI_7) rfl (by decide) (cap := 8) (by decide) (by decide) (by decide) (by decide) (ad := "[[I") (by decide)
  obtain ⟨al, gl⟩ : ∃ z, z = (h0).size := ⟨_, rfl⟩
  rw [← gl] at ANl stNl
  have Il : own_RA Z hNl al := ⟨cAl, [] ++ List.replicate 8 .null, rfl, Ol, (Arv.new ANl (by decide)).pad (pad_rep [] .null 8)⟩
  have Kla := Keep.ext (Keep.refl h0 [t]) ENl
  have zzl : h0.size ≤ al := by rw [gl]; exact Nat.le_refl _
  have Gl_lists := F_lists.ext ENl
  have Gl_listed := F_listed.ext ENl
  have Gl_listers := F_listers.ext ENl
  have Gl_numbers := F_numbers.ext ENl
  have EEl := E0.ext ENl
  refine own_go stNl ?_
  show Run p.tables e below (TNl.setTop (mkF m 10 #[.val (.ref t), .val (.ref b)] [(.ref al), (.ref t)])) _
  obtain ⟨TPl, hPl, XPl, ePl, WPl, stPl⟩ := putF XNl hx hZ hown (host := "") (Or.inl (hw _ (List.mem_of_getElem? (i := 30) rfl))) Via.refl eNl Gl_lists EEl (Or.inl (hw _ (List.mem_of_getElem? (i := 31) rfl))) (hw _ (List.mem_of_getElem? (i := 7) rfl)) (ty := (.array (.array .int))) (by decide) rfl rfl (g := (mkF m 10 #[.val (.ref t), .val (.ref b)] [(.ref al), (.ref t)])) rfl rfl (hb hby dNTI_10)
  have Nl := Fr.snoc XPl (Fr.nil n0) ge
  have Klb := Keep.wr Kla WPl (Or.inl (List.mem_singleton.mpr rfl))
  have Hl_lists := Gl_lists.same WPl
  have Hl_listed := Gl_listed.other WPl (Or.inr (slot_ne (C := "com/example/elect/elect/core/NeighbourTable") (a0 := a0) (Or.inl (hw _ (List.mem_of_getElem? (i := 34) rfl))) (Or.inl (hw _ (List.mem_of_getElem? (i := 31) rfl))) (by decide) (t := (.array .long)) (by decide) (t' := (.array (.array .int))) (by decide)))
  have Hl_listers := Gl_listers.other WPl (Or.inr (slot_ne (C := "com/example/elect/elect/core/NeighbourTable") (a0 := a0) (Or.inl (hw _ (List.mem_of_getElem? (i := 36) rfl))) (Or.inl (hw _ (List.mem_of_getElem? (i := 31) rfl))) (by decide) (t := (.array .long)) (by decide) (t' := (.array (.array .int))) (by decide)))
  have Hl_numbers := Gl_numbers.other WPl (Or.inr (slot_ne (C := "com/example/elect/elect/core/NeighbourTable") (a0 := a0) (Or.inr (hw _ (List.mem_of_getElem? (i := 38) rfl))) (Or.inl (hw _ (List.mem_of_getElem? (i := 31) rfl))) (by decide) (t := (.object "com/example/elect/elect/core/IdIndex")) (by decide) (t' := (.array (.array .int))) (by decide)))
  have Ilw := Il.other WPl (Ne.symm (Il.ne (a0 := a0) EEl (hw _ (List.mem_of_getElem? (i := 7) rfl))))
  have EPl := EEl.wr WPl
  refine own_go stPl ?_
  show Run p.tables e below (TPl.setTop (mkF m 13 #[.val (.ref t), .val (.ref b)] [])) _
  refine own_go (fun _ => XS.aloadN XPl.here hx rfl (hb hby dNTI_13) rfl rfl) ?_
  show Run p.tables e below (TPl.setTop (mkF m 14 #[.val (.ref t), .val (.ref b)] [(.ref t)])) _
  refine own_go (fun _ => XS.bipush XPl.here hx rfl (hb hby dNTI_14)) ?_
  show Run p.tables e below (TPl.setTop (mkF m 16 #[.val (.ref t), .val (.ref b)] [(.int (8 : Int32)), (.ref t)])) _
  obtain ⟨TNL, hNL, cAL, XNL, eNL, ENL, ANL, stNL⟩ := newP XPl hx hZ (hw _ (List.mem_of_getElem? (i := 32) rfl)) ePl (g := (mkF m 16 #[.val (.ref t), .val (.ref b)] [(.int (8 : Int32)), (.ref t)])) rfl (hb hby dNTI_16) rfl (by decide) (cap := 8) (by decide) (by decide) (by decide) (by decide)
  obtain ⟨aL, gL⟩ : ∃ z, z = (hPl).size := ⟨_, rfl⟩
  rw [← gL] at ANL stNL
  have IL : own_LA Z hNL aL (fun _ => 0) := ⟨cAL, (Arv.new ANL (by decide)).pad (pad_rep [] (.long 0) 8)⟩
  have KLa := Keep.ext Klb ENL
  have zzL : h0.size ≤ aL := by rw [gL]; exact Klb.1
  have GL_lists := Hl_lists.ext ENL
  have GL_listed := Hl_listed.ext ENL
  have GL_listers := Hl_listers.ext ENL
  have GL_numbers := Hl_numbers.ext ENL
  have EEL := EPl.ext ENL
  have nealL : al ≠ aL := own_nelt Ilw.lt (Nat.le_of_eq gL.symm)
  have IlwL := Ilw.ext ENL
  refine own_go stNL ?_
  show Run p.tables e below (TNL.setTop (mkF m 18 #[.val (.ref t), .val (.ref b)] [(.ref aL), (.ref t)])) _
  obtain ⟨TPL, hPL, XPL, ePL, WPL, stPL⟩ := putF XNL hx hZ hown (host := "") (Or.inl (hw _ (List.mem_of_getElem? (i := 33) rfl))) Via.refl eNL GL_listed EEL (Or.inl (hw _ (List.mem_of_getElem? (i := 34) rfl))) (hw _ (List.mem_of_getElem? (i := 7) rfl)) (ty := (.array .long)) (by decide) rfl rfl (g := (mkF m 18 #[.val (.ref t), .val (.ref b)] [(.ref aL), (.ref t)])) rfl rfl (hb hby dNTI_18)
  have NL := Fr.snoc XPL Nl ge
  have KLb := Keep.wr KLa WPL (Or.inl (List.mem_singleton.mpr rfl))
  have HL_lists := GL_lists.other WPL (Or.inr (slot_ne (C := "com/example/elect/elect/core/NeighbourTable") (a0 := a0) (Or.inl (hw _ (List.mem_of_getElem? (i := 31) rfl))) (Or.inl (hw _ (List.mem_of_getElem? (i := 34) rfl))) (by decide) (t := (.array (.array .int))) (by decide) (t' := (.array .long)) (by decide)))
  have HL_listed := GL_listed.same WPL
  have HL_listers := GL_listers.other WPL (Or.inr (slot_ne (C := "com/example/elect/elect/core/NeighbourTable") (a0 := a0) (Or.inl (hw _ (List.mem_of_getElem? (i := 36) rfl))) (Or.inl (hw _ (List.mem_of_getElem? (i := 34) rfl))) (by decide) (t := (.array .long)) (by decide) (t' := (.array .long)) (by decide)))
  have HL_numbers := GL_numbers.other WPL (Or.inr (slot_ne (C := "com/example/elect/elect/core/NeighbourTable") (a0 := a0) (Or.inr (hw _ (List.mem_of_getElem? (i := 38) rfl))) (Or.inl (hw _ (List.mem_of_getElem? (i := 34) rfl))) (by decide) (t := (.object "com/example/elect/elect/core/IdIndex")) (by decide) (t' := (.array .long)) (by decide)))
  have IlwLw := IlwL.other WPL (Ne.symm (IlwL.ne (a0 := a0) EEL (hw _ (List.mem_of_getElem? (i := 7) rfl))))
  have ILw := IL.other WPL (Ne.symm (IL.ne (a0 := a0) EEL (hw _ (List.mem_of_getElem? (i := 7) rfl))))
  have EPL := EEL.wr WPL
  refine own_go stPL ?_
  show Run p.tables e below (TPL.setTop (mkF m 21 #[.val (.ref t), .val (.ref b)] [])) _
  refine own_go (fun _ => XS.aloadN XPL.here hx rfl (hb hby dNTI_21) rfl rfl) ?_
  show Run p.tables e below (TPL.setTop (mkF m 22 #[.val (.ref t), .val (.ref b)] [(.ref t)])) _
  refine own_go (fun _ => XS.bipush XPL.here hx rfl (hb hby dNTI_22)) ?_
  show Run p.tables e below (TPL.setTop (mkF m 24 #[.val (.ref t), .val (.ref b)] [(.int (8 : Int32)), (.ref t)])) _
  obtain ⟨TNR, hNR, cAR, XNR, eNR, ENR, ANR, stNR⟩ := newP XPL hx hZ (hw _ (List.mem_of_getElem? (i := 32) rfl)) ePL (g := (mkF m 24 #[.val (.ref t), .val (.ref b)] [(.int (8 : Int32)), (.ref t)])) rfl (hb hby dNTI_24) rfl (by decide) (cap := 8) (by decide) (by decide) (by decide) (by decide)
  obtain ⟨aR, gR⟩ : ∃ z, z = (hPL).size := ⟨_, rfl⟩
  rw [← gR] at ANR stNR
  have IR : own_JA Z hNR aR := ⟨cAR, [] ++ List.replicate 8 (.long 0), rfl, (Arv.new ANR (by decide)).pad (pad_rep [] (.long 0) 8)⟩
  have KRa := Keep.ext KLb ENR
  have zzR : h0.size ≤ aR := by rw [gR]; exact KLb.1
  have GR_lists := HL_lists.ext ENR
  have GR_listed := HL_listed.ext ENR
  have GR_listers := HL_listers.ext ENR
  have GR_numbers := HL_numbers.ext ENR
  have EER := EPL.ext ENR
  have nealR : al ≠ aR := own_nelt IlwLw.lt (Nat.le_of_eq gR.symm)
  have IlwLwR := IlwLw.ext ENR
  have neaLR : aL ≠ aR := own_nelt ILw.lt (Nat.le_of_eq gR.symm)
  have ILwR := ILw.ext ENR
  refine own_go stNR ?_
  show Run p.tables e below (TNR.setTop (mkF m 26 #[.val (.ref t), .val (.ref b)] [(.ref aR), (.ref t)])) _
  obtain ⟨TPR, hPR, XPR, ePR, WPR, stPR⟩ := putF XNR hx hZ hown (host := "") (Or.inl (hw _ (List.mem_of_getElem? (i := 35) rfl))) Via.refl eNR GR_listers EER (Or.inl (hw _ (List.mem_of_getElem? (i := 36) rfl))) (hw _ (List.mem_of_getElem? (i := 7) rfl)) (ty := (.array .long)) (by decide) rfl rfl (g := (mkF m 26 #[.val (.ref t), .val (.ref b)] [(.ref aR), (.ref t)])) rfl rfl (hb hby dNTI_26)
  have NR := Fr.snoc XPR NL ge
  have KRb := Keep.wr KRa WPR (Or.inl (List.mem_singleton.mpr rfl))
  have HR_lists := GR_lists.other WPR (Or.inr (slot_ne (C := "com/example/elect/elect/core/NeighbourTable") (a0 := a0) (Or.inl (hw _ (List.mem_of_getElem? (i := 31) rfl))) (Or.inl (hw _ (List.mem_of_getElem? (i := 36) rfl))) (by decide) (t := (.array (.array .int))) (by decide) (t' := (.array .long)) (by decide)))
  have HR_listed := GR_listed.other WPR (Or.inr (slot_ne (C := "com/example/elect/elect/core/NeighbourTable") (a0 := a0) (Or.inl (hw _ (List.mem_of_getElem? (i := 34) rfl))) (Or.inl (hw _ (List.mem_of_getElem? (i := 36) rfl))) (by decide) (t := (.array .long)) (by decide) (t' := (.array .long)) (by decide)))
  have HR_listers := GR_listers.same WPR
  have HR_numbers := GR_numbers.other WPR (Or.inr (slot_ne (C := "com/example/elect/elect/core/NeighbourTable") (a0 := a0) (Or.inr (hw _ (List.mem_of_getElem? (i := 38) rfl))) (Or.inl (hw _ (List.mem_of_getElem? (i := 36) rfl))) (by decide) (t := (.object "com/example/elect/elect/core/IdIndex")) (by decide) (t' := (.array .long)) (by decide)))
  have IlwLwRw := IlwLwR.other WPR (Ne.symm (IlwLwR.ne (a0 := a0) EER (hw _ (List.mem_of_getElem? (i := 7) rfl))))
  have ILwRw := ILwR.other WPR (Ne.symm (ILwR.ne (a0 := a0) EER (hw _ (List.mem_of_getElem? (i := 7) rfl))))
  have IRw := IR.other WPR (Ne.symm (IR.ne (a0 := a0) EER (hw _ (List.mem_of_getElem? (i := 7) rfl))))
  have EPR := EER.wr WPR
  refine own_go stPR ?_
  show Run p.tables e below (TPR.setTop (mkF m 29 #[.val (.ref t), .val (.ref b)] [])) _
  refine own_go (fun _ => XS.aloadN XPR.here hx rfl (hb hby dNTI_29) rfl rfl) ?_
  show Run p.tables e below (TPR.setTop (mkF m 30 #[.val (.ref t), .val (.ref b)] [(.ref t)])) _
  refine own_go (fun _ => XS.aloadN XPR.here hx rfl (hb hby dNTI_30) rfl rfl) ?_
  show Run p.tables e below (TPR.setTop (mkF m 31 #[.val (.ref t), .val (.ref b)] [(.ref b), (.ref t)])) _
  obtain ⟨TPn, hPn, XPn, ePn, WPn, stPn⟩ := putF XPR hx hZ hown (host := "") (Or.inl (hw _ (List.mem_of_getElem? (i := 37) rfl))) Via.refl ePR HR_numbers EPR (Or.inr ⟨(hw _ (List.mem_of_getElem? (i := 38) rfl)), rfl, hnm⟩) (hw _ (List.mem_of_getElem? (i := 7) rfl)) (ty := (.object "com/example/elect/elect/core/IdIndex")) (by decide) rfl rfl (g := (mkF m 31 #[.val (.ref t), .val (.ref b)] [(.ref b), (.ref t)])) rfl rfl (hb hby dNTI_31)
  have Nn := Fr.snoc XPn NR ge
  have Knb := Keep.wr KRb WPn (Or.inl (List.mem_singleton.mpr rfl))
  have Hn_lists := HR_lists.other WPn (Or.inr (slot_ne (C := "com/example/elect/elect/core/NeighbourTable") (a0 := a0) (Or.inl (hw _ (List.mem_of_getElem? (i := 31) rfl))) (Or.inr (hw _ (List.mem_of_getElem? (i := 38) rfl))) (by decide) (t := (.array (.array .int))) (by decide) (t' := (.object "com/example/elect/elect/core/IdIndex")) (by decide)))
  have Hn_listed := HR_listed.other WPn (Or.inr (slot_ne (C := "com/example/elect/elect/core/NeighbourTable") (a0 := a0) (Or.inl (hw _ (List.mem_of_getElem? (i := 34) rfl))) (Or.inr (hw _ (List.mem_of_getElem? (i := 38) rfl))) (by decide) (t := (.array .long)) (by decide) (t' := (.object "com/example/elect/elect/core/IdIndex")) (by decide)))
  have Hn_listers := HR_listers.other WPn (Or.inr (slot_ne (C := "com/example/elect/elect/core/NeighbourTable") (a0 := a0) (Or.inl (hw _ (List.mem_of_getElem? (i := 36) rfl))) (Or.inr (hw _ (List.mem_of_getElem? (i := 38) rfl))) (by decide) (t := (.array .long)) (by decide) (t' := (.object "com/example/elect/elect/core/IdIndex")) (by decide)))
  have Hn_numbers := HR_numbers.same WPn
  have IlwLwRww := IlwLwRw.other WPn (Ne.symm (IlwLwRw.ne (a0 := a0) EPR (hw _ (List.mem_of_getElem? (i := 7) rfl))))
  have ILwRww := ILwRw.other WPn (Ne.symm (ILwRw.ne (a0 := a0) EPR (hw _ (List.mem_of_getElem? (i := 7) rfl))))
  have IRww := IRw.other WPn (Ne.symm (IRw.ne (a0 := a0) EPR (hw _ (List.mem_of_getElem? (i := 7) rfl))))
  have EPn := EPR.wr WPn
  refine own_go stPn ?_
  show Run p.tables e below (TPn.setTop (mkF m 34 #[.val (.ref t), .val (.ref b)] [])) _
  subst ePn
  exact own_out XPn (v := none) (fun _ => rfl) hlk (fun fs hr => XPn.returnOut hx hret (hb hby dNTI_34) hr) ⟨rfl, Nn, Knb, al, aL, aR, zzl, zzL, zzR, EPn, Hn_numbers, Hn_lists, Hn_listed, Hn_listers, IlwLwRww, ILwRww, IRww, nealL, nealR, neaLR⟩ (by decide) (by decide)
def own_QC (Z : State) (n : Int32) (h0 : Heap) (n0 : Nat) (v : Option Value) (h : Heap) (L : List Loc) : Prop := ∃ r : Addr, v = some (.ref r) ∧ Fr n0 L ∧ Ext h0 h ∧ h0.size ≤ r ∧ own_IA Z h r n
set_option maxRecDepth 65536 in
set_option maxHeartbeats 40000000 in
theorem rmCPY (l : Launch) (Z : State) (a0 : Array Value) (hw : ∀ d ∈ tables_1, d.before a0 Z = true) (ws : List Jvm.Cond) (a : Addr) (z n : Int32) (h0 : Heap) (n0 : Nat) (Z0 : n0 ≤ h0.size) (V : own_IA Z h0 a z) (hz : ¬ z < 0) (hzn : z < n) (hn4 : n.toNatClampNeg ≤ 4) :
    OwnCtr l (⟨"java/util/Arrays", "copyOf", "([II)[I"⟩ : MethodName) jdk_65_method_123_code 3 (some (.array .int)) ws own_Rcpy Z #[(.ref a), (.int n)] h0 (own_QC Z n h0 n0) := by
  refine own_body own_pnA ?_
  intro p e s m below meth c s₁ X0 hx hby hml hown hnm hret hlk hZ e0
  refine own_go (fun _ k => castTop (ef_RI3 m a n) k) ?_
  show Run p.tables e below (s₁.setTop (mkF m 0 #[.val (.ref a), .val (.int n), .unset] [])) _
  have hn : ¬ n < 0 := fun q => hz (Int32.lt_trans hzn q)
  have hne : ¬ n = z := fun q => by rw [q] at hzn; exact Int32.lt_irrefl hzn
  have hle : z.toNatClampNeg ≤ n.toNatClampNeg := by have q1 := nat_of hz; have q2 := nat_of hn; have q3 := Int32.lt_iff_toInt_lt.mp hzn; omega
  obtain ⟨k0, vs, hvl, VA⟩ := V
  refine own_go (fun _ => XS.iloadN X0.here hx rfl (hb hby dCPY_0) rfl) ?_
  show Run p.tables e below (s₁.setTop (mkF m 1 #[.val (.ref a), .val (.int n), .unset] [(.int n)])) _
  refine own_go (fun _ => XS.aloadN X0.here hx rfl (hb hby dCPY_1) rfl rfl) ?_
  show Run p.tables e below (s₁.setTop (mkF m 2 #[.val (.ref a), .val (.int n), .unset] [(.ref a), (.int n)])) _
  refine own_go (fun _ => own_alen X0 hx hZ e0 VA (g := (mkF m 2 #[.val (.ref a), .val (.int n), .unset] [(.ref a), (.int n)])) rfl rfl (hb hby dCPY_2) _) ?_
  show Run p.tables e below (s₁.setTop (mkF m 3 #[.val (.ref a), .val (.int n), .unset] [(.int z), (.int n)])) _
  refine own_go (fun _ => XS.icmpYes X0.here hx rfl (pc0 := 3) (pc' := 14) rfl (hb hby dCPY_3) rfl (XT.ii_ne_t hne) (by decide) (by decide)) ?_
  show Run p.tables e below (s₁.setTop (mkF m 14 #[.val (.ref a), .val (.int n), .unset] [])) _
  refine own_go (fun _ => XS.iloadN X0.here hx rfl (hb hby dCPY_14) rfl) ?_
  show Run p.tables e below (s₁.setTop (mkF m 15 #[.val (.ref a), .val (.int n), .unset] [(.int n)])) _
  obtain ⟨TN, hN, cA, XN, eN, EN, AN, stN⟩ := newP X0 hx hZ (hw _ (List.mem_of_getElem? (i := 5) rfl)) e0 (g := (mkF m 15 #[.val (.ref a), .val (.int n), .unset] [(.int n)])) rfl (hb hby dCPY_15) rfl hn (cap := 4) hn4 (by decide) (by decide) (by decide)
  obtain ⟨r, gr⟩ : ∃ z, z = h0.size := ⟨_, rfl⟩
  rw [← gr] at AN stN
  have ge : h0.size ≤ r := Nat.le_of_eq gr.symm
  have VB : Arv Z hN r cA .int n ([] ++ List.replicate n.toNatClampNeg (.int 0)) (.int 0) := (Arv.new AN hn).pad (pad_rep [] (.int 0) _)
  have VA1 := VA.ext EN
  refine own_go stN ?_
  show Run p.tables e below (TN.setTop (mkF m 17 #[.val (.ref a), .val (.int n), .unset] [(.ref r)])) _
  refine own_go (fun _ => XS.astoreN XN.here hx rfl (hb hby dCPY_17) rfl rfl (l' := #[.val (.ref a), .val (.int n), .val (.ref r)]) rfl) ?_
  show Run p.tables e below (TN.setTop (mkF m 18 #[.val (.ref a), .val (.int n), .val (.ref r)] [])) _
  refine own_go (fun _ => XS.aloadN XN.here hx rfl (hb hby dCPY_18) rfl rfl) ?_
  show Run p.tables e below (TN.setTop (mkF m 19 #[.val (.ref a), .val (.int n), .val (.ref r)] [(.ref a)])) _
  refine own_go (fun _ => XS.iconst XN.here hx rfl (hb hby dCPY_19)) ?_
  show Run p.tables e below (TN.setTop (mkF m 20 #[.val (.ref a), .val (.int n), .val (.ref r)] [(.int (0 : Int32)), (.ref a)])) _
  refine own_go (fun _ => XS.aloadN XN.here hx rfl (hb hby dCPY_20) rfl rfl) ?_
  show Run p.tables e below (TN.setTop (mkF m 21 #[.val (.ref a), .val (.int n), .val (.ref r)] [(.ref r), (.int (0 : Int32)), (.ref a)])) _
  refine own_go (fun _ => XS.iconst XN.here hx rfl (hb hby dCPY_21)) ?_
  show Run p.tables e below (TN.setTop (mkF m 22 #[.val (.ref a), .val (.int n), .val (.ref r)] [(.int (0 : Int32)), (.ref r), (.int (0 : Int32)), (.ref a)])) _
  refine own_go (fun _ => XS.aloadN XN.here hx rfl (hb hby dCPY_22) rfl rfl) ?_
  show Run p.tables e below (TN.setTop (mkF m 23 #[.val (.ref a), .val (.int n), .val (.ref r)] [(.ref a), (.int (0 : Int32)), (.ref r), (.int (0 : Int32)), (.ref a)])) _
  refine own_go (fun _ => own_alen XN hx hZ eN VA1 (g := (mkF m 23 #[.val (.ref a), .val (.int n), .val (.ref r)] [(.ref a), (.int (0 : Int32)), (.ref r), (.int (0 : Int32)), (.ref a)])) rfl rfl (hb hby dCPY_23) _) ?_
  show Run p.tables e below (TN.setTop (mkF m 24 #[.val (.ref a), .val (.int n), .val (.ref r)] [(.int z), (.int (0 : Int32)), (.ref r), (.int (0 : Int32)), (.ref a)])) _
  refine own_go (fun _ => XS.iloadN XN.here hx rfl (hb hby dCPY_24) rfl) ?_
  show Run p.tables e below (TN.setTop (mkF m 25 #[.val (.ref a), .val (.int n), .val (.ref r)] [(.int n), (.int z), (.int (0 : Int32)), (.ref r), (.int (0 : Int32)), (.ref a)])) _
  obtain ⟨vk1, Tk1, Lk1, Xk1, ⟨rfl, ek1, rfl⟩, stk1⟩ := own_callS XN hx hZ hown (hw _ (List.mem_of_getElem? (i := 67) rfl)) (hw _ (List.mem_of_getElem? (i := 61) rfl)) (hw _ (List.mem_of_getElem? (i := 62) rfl)) (hw _ (List.mem_of_getElem? (i := 58) rfl)) (by decide) eN (rmMIN l Z a0 hw [] z n hN) (g := (mkF m 25 #[.val (.ref a), .val (.int n), .val (.ref r)] [(.int n), (.int z), (.int (0 : Int32)), (.ref r), (.int (0 : Int32)), (.ref a)])) rfl (by rw [hml]; rfl) (argsL := [(.int z), (.int n)]) (rest := [(.int (0 : Int32)), (.ref r), (.int (0 : Int32)), (.ref a)]) own_pde rfl rfl rfl (W := 4) (by show 2 * 0 + _ ≤ _; exact Nat.le_of_eq rfl) (hb hby dCPY_25) (by decide) (by decide) (by decide) (by decide)
  refine own_go stk1 ?_
  show Run p.tables e below (Tk1.setTop (mkF m 28 #[.val (.ref a), .val (.int n), .val (.ref r)] [(.int (if n < z then n else z)), (.int (0 : Int32)), (.ref r), (.int (0 : Int32)), (.ref a)])) _
  rw [show (if n < z then n else z) = z from if_neg (fun q => Int32.lt_irrefl (Int32.lt_trans hzn q))]
  show Run p.tables e below (Tk1.setTop (mkF m 28 #[.val (.ref a), .val (.int n), .val (.ref r)] [(.int z), (.int (0 : Int32)), (.ref r), (.int (0 : Int32)), (.ref a)])) _
  obtain ⟨TC, hC, LC, XC, eC, NC, KC, VC, stC⟩ := cpA Xk1 hx hZ hown (hw _ (List.mem_of_getElem? (i := 68) rfl)) (hw _ (List.mem_of_getElem? (i := 71) rfl)) (hw _ (List.mem_of_getElem? (i := 69) rfl)) (hw _ (List.mem_of_getElem? (i := 70) rfl)) ek1 VA1 VB (Or.inl ⟨rfl, rfl⟩) (sp := 0) (dp := 0) (nn := z) (by decide) (by decide) hz (by simp) (by simpa using hle) rfl (by simpa using hle) (n0 := n0) (by simpa using Fr.nil n0) (Nat.le_trans Z0 ge) (g := (mkF m 28 #[.val (.ref a), .val (.int n), .val (.ref r)] [(.int z), (.int (0 : Int32)), (.ref r), (.int (0 : Int32)), (.ref a)])) rfl (by rw [hml]; rfl) rfl (hb hby dCPY_28) (by decide) (W := 0) (by show 2 * 0 + _ ≤ _; exact Nat.le_of_eq rfl) (by decide)
  have VD : own_IA Z hC r n := ⟨_, _, by simp; omega, VC⟩
  have ED : Ext h0 hC := own_extkeep EN KC (fun x hx => by rw [List.mem_singleton.mp hx]; exact ge)
  refine own_go stC ?_
  show Run p.tables e below (TC.setTop (mkF m 31 #[.val (.ref a), .val (.int n), .val (.ref r)] [])) _
  refine own_go (fun _ => XS.aloadN XC.here hx rfl (hb hby dCPY_31) rfl rfl) ?_
  show Run p.tables e below (TC.setTop (mkF m 32 #[.val (.ref a), .val (.int n), .val (.ref r)] [(.ref r)])) _
  subst eC
  exact own_out XC (v := some (.ref r)) (fun q => by rw [hret] at q; cases q) hlk (fun fs hr => XC.areturnOut hx rfl hret rfl (hb hby dCPY_32) hr) ⟨r, rfl, NC, ED, ge, VD⟩ (by decide) (by decide)
set_option maxRecDepth 65536 in
set_option maxHeartbeats 40000000 in
theorem rmFND (l : Launch) (Z : State) (a0 : Array Value) (hw : ∀ d ∈ tables_1, d.before a0 Z = true) (ws : List Jvm.Cond) (b ad : Addr) (i d : Int32) (h0 : Heap) (F : Fld Z h0 b "com/example/elect/elect/core/IdIndex" "direct" "[I" (.ref ad)) (V : own_IA Z h0 ad d) (h1 : ¬ i < 0) (h2 : i < 1024) (h3 : ¬ i < d) :
    OwnCtr l (⟨"com/example/elect/elect/core/IdIndex", "find", "(I)I"⟩ : MethodName) prog_40_method_4_code 4 (some .int) ws own_R0 Z #[(.ref b), (.int i)] h0 (fun v h L => v = some (.int (-1)) ∧ h = h0 ∧ L = []) := by
  refine own_body own_pnI ?_
  intro p e s m below meth c s₁ X0 hx hby hml hown hnm hret hlk hZ e0
  refine own_go (fun _ k => castTop (ef_RI4 m b i) k) ?_
  show Run p.tables e below (s₁.setTop (mkF m 0 #[.val (.ref b), .val (.int i), .unset, .unset] [])) _
  obtain ⟨k0, vs, hvl, VA⟩ := V
  refine own_go (fun _ => XS.iloadN X0.here hx rfl (hb hby dFND_0) rfl) ?_
  show Run p.tables e below (s₁.setTop (mkF m 1 #[.val (.ref b), .val (.int i), .unset, .unset] [(.int i)])) _
  refine own_go (fun _ => XS.ifNo X0.here hx rfl (hb hby dFND_1) rfl (XT.i0_lt_f h1)) ?_
  show Run p.tables e below (s₁.setTop (mkF m 4 #[.val (.ref b), .val (.int i), .unset, .unset] [])) _
  refine own_go (fun _ => XS.iloadN X0.here hx rfl (hb hby dFND_4) rfl) ?_
  show Run p.tables e below (s₁.setTop (mkF m 5 #[.val (.ref b), .val (.int i), .unset, .unset] [(.int i)])) _
  refine own_go (fun _ => XS.sipush X0.here hx rfl (hb hby dFND_5)) ?_
  show Run p.tables e below (s₁.setTop (mkF m 8 #[.val (.ref b), .val (.int i), .unset, .unset] [(.int (1024 : Int32)), (.int i)])) _
  refine own_go (fun _ => XS.icmpNo X0.here hx rfl (hb hby dFND_8) rfl (XT.ii_ge_f h2)) ?_
  show Run p.tables e below (s₁.setTop (mkF m 11 #[.val (.ref b), .val (.int i), .unset, .unset] [])) _
  refine own_go (fun _ => XS.iloadN X0.here hx rfl (hb hby dFND_11) rfl) ?_
  show Run p.tables e below (s₁.setTop (mkF m 12 #[.val (.ref b), .val (.int i), .unset, .unset] [(.int i)])) _
  refine own_go (fun _ => XS.aloadN X0.here hx rfl (hb hby dFND_12) rfl rfl) ?_
  show Run p.tables e below (s₁.setTop (mkF m 13 #[.val (.ref b), .val (.int i), .unset, .unset] [(.ref b), (.int i)])) _
  obtain ⟨Tk1, Xk1, ek1, stk1⟩ := getF X0 hx hZ hown (host := "") (Or.inl (hw _ (List.mem_of_getElem? (i := 20) rfl))) Via.refl e0 F (g := (mkF m 13 #[.val (.ref b), .val (.int i), .unset, .unset] [(.ref b), (.int i)])) rfl rfl (hb hby dFND_13)
  refine own_go stk1 ?_
  show Run p.tables e below (Tk1.setTop (mkF m 16 #[.val (.ref b), .val (.int i), .unset, .unset] [(.ref ad), (.int i)])) _
  refine own_go (fun _ => own_alen Xk1 hx hZ ek1 VA (g := (mkF m 16 #[.val (.ref b), .val (.int i), .unset, .unset] [(.ref ad), (.int i)])) rfl rfl (hb hby dFND_16) _) ?_
  show Run p.tables e below (Tk1.setTop (mkF m 17 #[.val (.ref b), .val (.int i), .unset, .unset] [(.int d), (.int i)])) _
  refine own_go (fun _ => XS.icmpYes Xk1.here hx rfl (pc0 := 17) (pc' := 31) rfl (hb hby dFND_17) rfl (XT.ii_ge_t h3) (by decide) (by decide)) ?_
  show Run p.tables e below (Tk1.setTop (mkF m 31 #[.val (.ref b), .val (.int i), .unset, .unset] [])) _
  refine own_go (fun _ => XS.iconst Xk1.here hx rfl (hb hby dFND_31)) ?_
  show Run p.tables e below (Tk1.setTop (mkF m 32 #[.val (.ref b), .val (.int i), .unset, .unset] [(.int (-1 : Int32))])) _
  exact own_out Xk1 (v := some (.int (-1 : Int32))) (fun q => by rw [hret] at q; cases q) hlk (fun fs hr => retI Xk1 hx hret (hb hby dFND_32) hr) ⟨rfl, ek1, rfl⟩ (by decide) (by decide)
def own_n3 (n d : Int32) : Prop := (n = 0 ∧ d = 1) ∨ (n = 1 ∧ d = 2) ∨ (n = 2 ∧ d = 4)
theorem own_n3f {n d : Int32} (h : own_n3 n d) : ¬ n < 0 ∧ n < 1024 ∧ ¬ n = 8 ∧ n < 8 ∧ n < d ∧ d.toNatClampNeg ≤ 4 ∧ (if (2 : Int32) * n < n + 1 then n + 1 else 2 * n) = d ∧ (if d < (1024 : Int32) then d else 1024) = d ∧ n.toNatClampNeg < 8 ∧ n.toNatClampNeg < d.toNatClampNeg := by
  rcases h with ⟨rfl, rfl⟩ | ⟨rfl, rfl⟩ | ⟨rfl, rfl⟩ <;> decide +kernel
def own_QAD (Z : State) (b ai : Addr) (n d : Int32) (h0 : Heap) (n0 : Nat) (v : Option Value) (h : Heap) (L : List Loc) : Prop := ∃ (y : Int32) (ad : Addr), v = some (.int y) ∧ Fr n0 L ∧ Keep h0 h [b, ai] ∧ h0.size ≤ ad ∧ own_Ix Z h b ai ad (n + 1) d
set_option maxRecDepth 65536 in
set_option maxHeartbeats 40000000 in
theorem rmIXA (l : Launch) (Z : State) (a0 : Array Value) (hw : ∀ d ∈ tables_1, d.before a0 Z = true) (ws : List Jvm.Cond) (b ai ad : Addr) (n d : Int32) (hn3 : own_n3 n d) (h0 : Heap) (n0 : Nat) (Z0 : n0 ≤ h0.size) (geb : n0 ≤ b) (gei : n0 ≤ ai) (I0 : own_Ix Z h0 b ai ad n n) :
    OwnCtr l (⟨"com/example/elect/elect/core/IdIndex", "add", "(I)I"⟩ : MethodName) prog_40_method_5_code 4 (some .int) ws own_Rixa Z #[(.ref b), (.int n)] h0 (own_QAD Z b ai n d h0 n0) := by
  refine own_body own_pnI ?_
  intro p e s m below meth c s₁ X0 hx hby hml hown hnm hret hlk hZ e0
  refine own_go (fun _ k => castTop (ef_RI4 m b n) k) ?_
  show Run p.tables e below (s₁.setTop (mkF m 0 #[.val (.ref b), .val (.int n), .unset, .unset] [])) _
  obtain ⟨f1, f2, f3, f4, f5, f6, f7, f8, f9, f10⟩ := own_n3f hn3
  obtain ⟨E0, Fi0, Fc0, Fd0, VI0, VD0, nid⟩ := I0
  refine own_go (fun _ => XS.aloadN X0.here hx rfl (hb hby dIXA_0) rfl rfl) ?_
  show Run p.tables e below (s₁.setTop (mkF m 1 #[.val (.ref b), .val (.int n), .unset, .unset] [(.ref b)])) _
  refine own_go (fun _ => XS.iloadN X0.here hx rfl (hb hby dIXA_1) rfl) ?_
  show Run p.tables e below (s₁.setTop (mkF m 2 #[.val (.ref b), .val (.int n), .unset, .unset] [(.int n), (.ref b)])) _
  obtain ⟨vk1, Tk1, Lk1, Xk1, ⟨rfl, ek1, rfl⟩, stk1⟩ := own_callV X0 hx hZ hown (hw _ (List.mem_of_getElem? (i := 49) rfl)) (hw _ (List.mem_of_getElem? (i := 51) rfl)) (hw _ (List.mem_of_getElem? (i := 52) rfl)) (hw _ (List.mem_of_getElem? (i := 53) rfl)) (hw _ (List.mem_of_getElem? (i := 11) rfl)) (by decide) e0 (rmFND l Z a0 hw [] b ad n n h0 Fd0 VD0 f1 f2 Int32.lt_irrefl) E0 (g := (mkF m 2 #[.val (.ref b), .val (.int n), .unset, .unset] [(.int n), (.ref b)])) rfl (by rw [hml]; rfl) (argsL := [(.int n)]) (rest := []) own_pdd rfl rfl rfl (W := 0) (by show 2 * 0 + _ ≤ _; exact Nat.le_of_eq rfl) (hb hby dIXA_2) (by decide) (by decide) (by decide) (by decide)
  replace Xk1 : Stand p l e own_Rixa s m #[(.ref b), (.int n)] below meth c Tk1 [] 0 0 := Xk1
  refine own_go stk1 ?_
  show Run p.tables e below (Tk1.setTop (mkF m 5 #[.val (.ref b), .val (.int n), .unset, .unset] [(.int (-1 : Int32))])) _
  refine own_go (fun _ => XS.istoreN Xk1.here hx rfl (hb hby dIXA_5) rfl (l' := #[.val (.ref b), .val (.int n), .val (.int (-1 : Int32)), .unset]) rfl) ?_
  show Run p.tables e below (Tk1.setTop (mkF m 6 #[.val (.ref b), .val (.int n), .val (.int (-1 : Int32)), .unset] [])) _
  refine own_go (fun _ => XS.iloadN Xk1.here hx rfl (hb hby dIXA_6) rfl) ?_
  show Run p.tables e below (Tk1.setTop (mkF m 7 #[.val (.ref b), .val (.int n), .val (.int (-1 : Int32)), .unset] [(.int (-1 : Int32))])) _
  refine own_go (fun _ => XS.ifYes Xk1.here hx rfl (pc0 := 7) (pc' := 12) rfl (hb hby dIXA_7) rfl (XT.i0_lt_t (by decide)) (by decide) (by decide)) ?_
  show Run p.tables e below (Tk1.setTop (mkF m 12 #[.val (.ref b), .val (.int n), .val (.int (-1 : Int32)), .unset] [])) _
  refine own_go (fun _ => XS.aloadN Xk1.here hx rfl (hb hby dIXA_12) rfl rfl) ?_
  show Run p.tables e below (Tk1.setTop (mkF m 13 #[.val (.ref b), .val (.int n), .val (.int (-1 : Int32)), .unset] [(.ref b)])) _
  obtain ⟨Tk2, Xk2, ek2, stk2⟩ := getF Xk1 hx hZ hown (host := "") (Or.inl (hw _ (List.mem_of_getElem? (i := 54) rfl))) Via.refl ek1 Fc0 (g := (mkF m 13 #[.val (.ref b), .val (.int n), .val (.int (-1 : Int32)), .unset] [(.ref b)])) rfl rfl (hb hby dIXA_13)
  refine own_go stk2 ?_
  show Run p.tables e below (Tk2.setTop (mkF m 16 #[.val (.ref b), .val (.int n), .val (.int (-1 : Int32)), .unset] [(.int n)])) _
  refine own_go (fun _ => XS.aloadN Xk2.here hx rfl (hb hby dIXA_16) rfl rfl) ?_
  show Run p.tables e below (Tk2.setTop (mkF m 17 #[.val (.ref b), .val (.int n), .val (.int (-1 : Int32)), .unset] [(.ref b), (.int n)])) _
  obtain ⟨Tk3, Xk3, ek3, stk3⟩ := getF Xk2 hx hZ hown (host := "") (Or.inl (hw _ (List.mem_of_getElem? (i := 18) rfl))) Via.refl ek2 Fi0 (g := (mkF m 17 #[.val (.ref b), .val (.int n), .val (.int (-1 : Int32)), .unset] [(.ref b), (.int n)])) rfl rfl (hb hby dIXA_17)
  refine own_go stk3 ?_
  show Run p.tables e below (Tk3.setTop (mkF m 20 #[.val (.ref b), .val (.int n), .val (.int (-1 : Int32)), .unset] [(.ref ai), (.int n)])) _
  obtain ⟨ki, vi, hvi, AI0⟩ := VI0
  refine own_go (fun _ => own_alen Xk3 hx hZ ek3 AI0 (g := (mkF m 20 #[.val (.ref b), .val (.int n), .val (.int (-1 : Int32)), .unset] [(.ref ai), (.int n)])) rfl rfl (hb hby dIXA_20) _) ?_
  show Run p.tables e below (Tk3.setTop (mkF m 21 #[.val (.ref b), .val (.int n), .val (.int (-1 : Int32)), .unset] [(.int (8 : Int32)), (.int n)])) _
  refine own_go (fun _ => XS.icmpYes Xk3.here hx rfl (pc0 := 21) (pc' := 41) rfl (hb hby dIXA_21) rfl (XT.ii_ne_t f3) (by decide) (by decide)) ?_
  show Run p.tables e below (Tk3.setTop (mkF m 41 #[.val (.ref b), .val (.int n), .val (.int (-1 : Int32)), .unset] [])) _
  refine own_go (fun _ => XS.aloadN Xk3.here hx rfl (hb hby dIXA_41) rfl rfl) ?_
  show Run p.tables e below (Tk3.setTop (mkF m 42 #[.val (.ref b), .val (.int n), .val (.int (-1 : Int32)), .unset] [(.ref b)])) _
  obtain ⟨Tk4, Xk4, ek4, stk4⟩ := getF Xk3 hx hZ hown (host := "") (Or.inl (hw _ (List.mem_of_getElem? (i := 18) rfl))) Via.refl ek3 Fi0 (g := (mkF m 42 #[.val (.ref b), .val (.int n), .val (.int (-1 : Int32)), .unset] [(.ref b)])) rfl rfl (hb hby dIXA_42)
  refine own_go stk4 ?_
  show Run p.tables e below (Tk4.setTop (mkF m 45 #[.val (.ref b), .val (.int n), .val (.int (-1 : Int32)), .unset] [(.ref ai)])) _
  refine own_go (fun _ => XS.aloadN Xk4.here hx rfl (hb hby dIXA_45) rfl rfl) ?_
  show Run p.tables e below (Tk4.setTop (mkF m 46 #[.val (.ref b), .val (.int n), .val (.int (-1 : Int32)), .unset] [(.ref b), (.ref ai)])) _
  obtain ⟨Tk5, Xk5, ek5, stk5⟩ := getF Xk4 hx hZ hown (host := "") (Or.inl (hw _ (List.mem_of_getElem? (i := 54) rfl))) Via.refl ek4 Fc0 (g := (mkF m 46 #[.val (.ref b), .val (.int n), .val (.int (-1 : Int32)), .unset] [(.ref b), (.ref ai)])) rfl rfl (hb hby dIXA_46)
  refine own_go stk5 ?_
  show Run p.tables e below (Tk5.setTop (mkF m 49 #[.val (.ref b), .val (.int n), .val (.int (-1 : Int32)), .unset] [(.int n), (.ref ai)])) _
  refine own_go (fun _ => XS.iloadN Xk5.here hx rfl (hb hby dIXA_49) rfl) ?_
  show Run p.tables e below (Tk5.setTop (mkF m 50 #[.val (.ref b), .val (.int n), .val (.int (-1 : Int32)), .unset] [(.int n), (.int n), (.ref ai)])) _
  obtain ⟨T1, h1, L1, X1, e1, W1, V1, N1, st1⟩ := own_stI Xk5 hx hZ ek5 AI0 (j := n) ⟨f1, f4⟩ n.toNatClampNeg rfl (by rw [hvi]; exact f9) (Fr.nil n0) gei (g := (mkF m 50 #[.val (.ref b), .val (.int n), .val (.int (-1 : Int32)), .unset] [(.int n), (.int n), (.ref ai)])) rfl rfl (hb hby dIXA_50)
  have nbi : b ≠ ai := E0.neArv AI0 (hw _ (List.mem_of_getElem? (i := 10) rfl))
  have nbd : b ≠ ad := VD0.ne (a0 := a0) E0 (hw _ (List.mem_of_getElem? (i := 10) rfl))
  have K1 : Keep h0 h1 [b, ai] := (Keep.refl h0 [b, ai]).wr W1 (Or.inl (List.mem_cons_of_mem _ (List.mem_singleton.mpr rfl)))
  have E1 := E0.wr W1
  have Fi1 := Fi0.other W1 (Or.inl nbi)
  have Fc1 := Fc0.other W1 (Or.inl nbi)
  have Fd1 := Fd0.other W1 (Or.inl nbi)
  have VI1 : own_IA Z h1 ai 8 := ⟨ki, _, by rw [List.length_set]; exact hvi, V1⟩
  have VD1 := VD0.other W1 (Ne.symm nid)
  refine own_go st1 ?_
  show Run p.tables e below (T1.setTop (mkF m 51 #[.val (.ref b), .val (.int n), .val (.int (-1 : Int32)), .unset] [])) _
  refine own_go (fun _ => XS.aloadN X1.here hx rfl (hb hby dIXA_51) rfl rfl) ?_
  show Run p.tables e below (T1.setTop (mkF m 52 #[.val (.ref b), .val (.int n), .val (.int (-1 : Int32)), .unset] [(.ref b)])) _
  refine own_go (fun _ => XS.dup X1.here hx rfl (hb hby dIXA_52) rfl rfl) ?_
  show Run p.tables e below (T1.setTop (mkF m 53 #[.val (.ref b), .val (.int n), .val (.int (-1 : Int32)), .unset] [(.ref b), (.ref b)])) _
  obtain ⟨Tk6, Xk6, ek6, stk6⟩ := getF X1 hx hZ hown (host := "") (Or.inl (hw _ (List.mem_of_getElem? (i := 54) rfl))) Via.refl e1 Fc1 (g := (mkF m 53 #[.val (.ref b), .val (.int n), .val (.int (-1 : Int32)), .unset] [(.ref b), (.ref b)])) rfl rfl (hb hby dIXA_53)
  refine own_go stk6 ?_
  show Run p.tables e below (Tk6.setTop (mkF m 56 #[.val (.ref b), .val (.int n), .val (.int (-1 : Int32)), .unset] [(.int n), (.ref b)])) _
  refine own_go (fun _ => XS.iconst Xk6.here hx rfl (hb hby dIXA_56)) ?_
  show Run p.tables e below (Tk6.setTop (mkF m 57 #[.val (.ref b), .val (.int n), .val (.int (-1 : Int32)), .unset] [(.int (1 : Int32)), (.int n), (.ref b)])) _
  refine own_go (fun _ => XS.iadd Xk6.here hx rfl (hb hby dIXA_57) rfl) ?_
  show Run p.tables e below (Tk6.setTop (mkF m 58 #[.val (.ref b), .val (.int n), .val (.int (-1 : Int32)), .unset] [(.int (n + (1 : Int32))), (.ref b)])) _
  obtain ⟨T2, h2, X2, e2, W2, st2⟩ := putF Xk6 hx hZ hown (host := "") (Or.inl (hw _ (List.mem_of_getElem? (i := 54) rfl))) Via.refl ek6 Fc1 E1 (Or.inl (hw _ (List.mem_of_getElem? (i := 55) rfl))) (hw _ (List.mem_of_getElem? (i := 10) rfl)) (ty := .int) (by decide) rfl rfl (g := (mkF m 58 #[.val (.ref b), .val (.int n), .val (.int (-1 : Int32)), .unset] [(.int (n + (1 : Int32))), (.ref b)])) rfl rfl (hb hby dIXA_58)
  have N2 := Fr.snoc X2 N1 geb
  have K2 := K1.wr W2 (Or.inl (List.mem_cons_self ..))
  have Fi2 := Fi1.other W2 (Or.inr (slot_ne (C := "com/example/elect/elect/core/IdIndex") (a0 := a0) (Or.inl (hw _ (List.mem_of_getElem? (i := 19) rfl))) (Or.inl (hw _ (List.mem_of_getElem? (i := 55) rfl))) (by decide) (t := (.array .int)) (by decide) (t' := .int) (by decide)))
  have Fc2 := Fc1.same W2
  have Fd2 := Fd1.other W2 (Or.inr (slot_ne (C := "com/example/elect/elect/core/IdIndex") (a0 := a0) (Or.inl (hw _ (List.mem_of_getElem? (i := 21) rfl))) (Or.inl (hw _ (List.mem_of_getElem? (i := 55) rfl))) (by decide) (t := (.array .int)) (by decide) (t' := .int) (by decide)))
  have VI2 := VI1.other W2 (Ne.symm nbi)
  have VD2 := VD1.other W2 (Ne.symm nbd)
  have E2 := E1.wr W2
  refine own_go st2 ?_
  show Run p.tables e below (T2.setTop (mkF m 61 #[.val (.ref b), .val (.int n), .val (.int (-1 : Int32)), .unset] [])) _
  refine own_go (fun _ => XS.iloadN X2.here hx rfl (hb hby dIXA_61) rfl) ?_
  show Run p.tables e below (T2.setTop (mkF m 62 #[.val (.ref b), .val (.int n), .val (.int (-1 : Int32)), .unset] [(.int n)])) _
  refine own_go (fun _ => XS.ifNo X2.here hx rfl (hb hby dIXA_62) rfl (XT.i0_lt_f f1)) ?_
  show Run p.tables e below (T2.setTop (mkF m 65 #[.val (.ref b), .val (.int n), .val (.int (-1 : Int32)), .unset] [])) _
  refine own_go (fun _ => XS.iloadN X2.here hx rfl (hb hby dIXA_65) rfl) ?_
  show Run p.tables e below (T2.setTop (mkF m 66 #[.val (.ref b), .val (.int n), .val (.int (-1 : Int32)), .unset] [(.int n)])) _
  refine own_go (fun _ => XS.sipush X2.here hx rfl (hb hby dIXA_66)) ?_
  show Run p.tables e below (T2.setTop (mkF m 69 #[.val (.ref b), .val (.int n), .val (.int (-1 : Int32)), .unset] [(.int (1024 : Int32)), (.int n)])) _
  refine own_go (fun _ => XS.icmpNo X2.here hx rfl (hb hby dIXA_69) rfl (XT.ii_ge_f f2)) ?_
  show Run p.tables e below (T2.setTop (mkF m 72 #[.val (.ref b), .val (.int n), .val (.int (-1 : Int32)), .unset] [])) _
  refine own_go (fun _ => XS.iloadN X2.here hx rfl (hb hby dIXA_72) rfl) ?_
  show Run p.tables e below (T2.setTop (mkF m 73 #[.val (.ref b), .val (.int n), .val (.int (-1 : Int32)), .unset] [(.int n)])) _
  refine own_go (fun _ => XS.aloadN X2.here hx rfl (hb hby dIXA_73) rfl rfl) ?_
  show Run p.tables e below (T2.setTop (mkF m 74 #[.val (.ref b), .val (.int n), .val (.int (-1 : Int32)), .unset] [(.ref b), (.int n)])) _
  obtain ⟨Tk7, Xk7, ek7, stk7⟩ := getF X2 hx hZ hown (host := "") (Or.inl (hw _ (List.mem_of_getElem? (i := 20) rfl))) Via.refl e2 Fd2 (g := (mkF m 74 #[.val (.ref b), .val (.int n), .val (.int (-1 : Int32)), .unset] [(.ref b), (.int n)])) rfl rfl (hb hby dIXA_74)
  refine own_go stk7 ?_
  show Run p.tables e below (Tk7.setTop (mkF m 77 #[.val (.ref b), .val (.int n), .val (.int (-1 : Int32)), .unset] [(.ref ad), (.int n)])) _
  obtain ⟨kd, vd, hvd, AD2⟩ := id VD2
  refine own_go (fun _ => own_alen Xk7 hx hZ ek7 AD2 (g := (mkF m 77 #[.val (.ref b), .val (.int n), .val (.int (-1 : Int32)), .unset] [(.ref ad), (.int n)])) rfl rfl (hb hby dIXA_77) _) ?_
  show Run p.tables e below (Tk7.setTop (mkF m 78 #[.val (.ref b), .val (.int n), .val (.int (-1 : Int32)), .unset] [(.int n), (.int n)])) _
  refine own_go (fun _ => XS.icmpNo Xk7.here hx rfl (hb hby dIXA_78) rfl (XT.ii_lt_f Int32.lt_irrefl)) ?_
  show Run p.tables e below (Tk7.setTop (mkF m 81 #[.val (.ref b), .val (.int n), .val (.int (-1 : Int32)), .unset] [])) _
  refine own_go (fun _ => XS.aloadN Xk7.here hx rfl (hb hby dIXA_81) rfl rfl) ?_
  show Run p.tables e below (Tk7.setTop (mkF m 82 #[.val (.ref b), .val (.int n), .val (.int (-1 : Int32)), .unset] [(.ref b)])) _
  refine own_go (fun _ => XS.aloadN Xk7.here hx rfl (hb hby dIXA_82) rfl rfl) ?_
  show Run p.tables e below (Tk7.setTop (mkF m 83 #[.val (.ref b), .val (.int n), .val (.int (-1 : Int32)), .unset] [(.ref b), (.ref b)])) _
  obtain ⟨Tk8, Xk8, ek8, stk8⟩ := getF Xk7 hx hZ hown (host := "") (Or.inl (hw _ (List.mem_of_getElem? (i := 20) rfl))) Via.refl ek7 Fd2 (g := (mkF m 83 #[.val (.ref b), .val (.int n), .val (.int (-1 : Int32)), .unset] [(.ref b), (.ref b)])) rfl rfl (hb hby dIXA_83)
  refine own_go stk8 ?_
  show Run p.tables e below (Tk8.setTop (mkF m 86 #[.val (.ref b), .val (.int n), .val (.int (-1 : Int32)), .unset] [(.ref ad), (.ref b)])) _
  refine own_go (fun _ => XS.sipush Xk8.here hx rfl (hb hby dIXA_86)) ?_
  show Run p.tables e below (Tk8.setTop (mkF m 89 #[.val (.ref b), .val (.int n), .val (.int (-1 : Int32)), .unset] [(.int (1024 : Int32)), (.ref ad), (.ref b)])) _
  refine own_go (fun _ => XS.iconst Xk8.here hx rfl (hb hby dIXA_89)) ?_
  show Run p.tables e below (Tk8.setTop (mkF m 90 #[.val (.ref b), .val (.int n), .val (.int (-1 : Int32)), .unset] [(.int (2 : Int32)), (.int (1024 : Int32)), (.ref ad), (.ref b)])) _
  refine own_go (fun _ => XS.aloadN Xk8.here hx rfl (hb hby dIXA_90) rfl rfl) ?_
  show Run p.tables e below (Tk8.setTop (mkF m 91 #[.val (.ref b), .val (.int n), .val (.int (-1 : Int32)), .unset] [(.ref b), (.int (2 : Int32)), (.int (1024 : Int32)), (.ref ad), (.ref b)])) _
  obtain ⟨Tk9, Xk9, ek9, stk9⟩ := getF Xk8 hx hZ hown (host := "") (Or.inl (hw _ (List.mem_of_getElem? (i := 20) rfl))) Via.refl ek8 Fd2 (g := (mkF m 91 #[.val (.ref b), .val (.int n), .val (.int (-1 : Int32)), .unset] [(.ref b), (.int (2 : Int32)), (.int (1024 : Int32)), (.ref ad), (.ref b)])) rfl rfl (hb hby dIXA_91)
  refine own_go stk9 ?_
  show Run p.tables e below (Tk9.setTop (mkF m 94 #[.val (.ref b), .val (.int n), .val (.int (-1 : Int32)), .unset] [(.ref ad), (.int (2 : Int32)), (.int (1024 : Int32)), (.ref ad), (.ref b)])) _
  refine own_go (fun _ => own_alen Xk9 hx hZ ek9 AD2 (g := (mkF m 94 #[.val (.ref b), .val (.int n), .val (.int (-1 : Int32)), .unset] [(.ref ad), (.int (2 : Int32)), (.int (1024 : Int32)), (.ref ad), (.ref b)])) rfl rfl (hb hby dIXA_94) _) ?_
  show Run p.tables e below (Tk9.setTop (mkF m 95 #[.val (.ref b), .val (.int n), .val (.int (-1 : Int32)), .unset] [(.int n), (.int (2 : Int32)), (.int (1024 : Int32)), (.ref ad), (.ref b)])) _
  refine own_go (fun _ => XS.imul Xk9.here hx rfl (hb hby dIXA_95) rfl) ?_
  show Run p.tables e below (Tk9.setTop (mkF m 96 #[.val (.ref b), .val (.int n), .val (.int (-1 : Int32)), .unset] [(.int ((2 : Int32) * n)), (.int (1024 : Int32)), (.ref ad), (.ref b)])) _
  refine own_go (fun _ => XS.iloadN Xk9.here hx rfl (hb hby dIXA_96) rfl) ?_
  show Run p.tables e below (Tk9.setTop (mkF m 97 #[.val (.ref b), .val (.int n), .val (.int (-1 : Int32)), .unset] [(.int n), (.int ((2 : Int32) * n)), (.int (1024 : Int32)), (.ref ad), (.ref b)])) _
  refine own_go (fun _ => XS.iconst Xk9.here hx rfl (hb hby dIXA_97)) ?_
  show Run p.tables e below (Tk9.setTop (mkF m 98 #[.val (.ref b), .val (.int n), .val (.int (-1 : Int32)), .unset] [(.int (1 : Int32)), (.int n), (.int ((2 : Int32) * n)), (.int (1024 : Int32)), (.ref ad), (.ref b)])) _
  refine own_go (fun _ => XS.iadd Xk9.here hx rfl (hb hby dIXA_98) rfl) ?_
  show Run p.tables e below (Tk9.setTop (mkF m 99 #[.val (.ref b), .val (.int n), .val (.int (-1 : Int32)), .unset] [(.int (n + (1 : Int32))), (.int ((2 : Int32) * n)), (.int (1024 : Int32)), (.ref ad), (.ref b)])) _
  obtain ⟨vk10, Tk10, Lk10, Xk10, ⟨rfl, ek10, rfl⟩, stk10⟩ := own_callS Xk9 hx hZ hown (hw _ (List.mem_of_getElem? (i := 56) rfl)) (hw _ (List.mem_of_getElem? (i := 57) rfl)) (hw _ (List.mem_of_getElem? (i := 59) rfl)) (hw _ (List.mem_of_getElem? (i := 58) rfl)) (by decide) ek9 (rmMAX l Z a0 hw [] (2 * n) (n + 1) h2) (g := (mkF m 99 #[.val (.ref b), .val (.int n), .val (.int (-1 : Int32)), .unset] [(.int (n + (1 : Int32))), (.int ((2 : Int32) * n)), (.int (1024 : Int32)), (.ref ad), (.ref b)])) rfl (by rw [hml]; rfl) (argsL := [(.int ((2 : Int32) * n)), (.int (n + (1 : Int32)))]) (rest := [(.int (1024 : Int32)), (.ref ad), (.ref b)]) own_pde rfl rfl rfl (W := 3) (by show 2 * 0 + _ ≤ _; exact Nat.le_of_eq rfl) (hb hby dIXA_99) (by decide) (by decide) (by decide) (by decide)
  refine own_go stk10 ?_
  show Run p.tables e below (Tk10.setTop (mkF m 102 #[.val (.ref b), .val (.int n), .val (.int (-1 : Int32)), .unset] [(.int (if (2 : Int32) * n < n + 1 then n + 1 else 2 * n)), (.int (1024 : Int32)), (.ref ad), (.ref b)])) _
  rw [f7]
  show Run p.tables e below (Tk10.setTop (mkF m 102 #[.val (.ref b), .val (.int n), .val (.int (-1 : Int32)), .unset] [(.int d), (.int (1024 : Int32)), (.ref ad), (.ref b)])) _
  obtain ⟨vk11, Tk11, Lk11, Xk11, ⟨rfl, ek11, rfl⟩, stk11⟩ := own_callS Xk10 hx hZ hown (hw _ (List.mem_of_getElem? (i := 60) rfl)) (hw _ (List.mem_of_getElem? (i := 61) rfl)) (hw _ (List.mem_of_getElem? (i := 62) rfl)) (hw _ (List.mem_of_getElem? (i := 58) rfl)) (by decide) ek10 (rmMIN l Z a0 hw [] 1024 d h2) (g := (mkF m 102 #[.val (.ref b), .val (.int n), .val (.int (-1 : Int32)), .unset] [(.int d), (.int (1024 : Int32)), (.ref ad), (.ref b)])) rfl (by rw [hml]; rfl) (argsL := [(.int (1024 : Int32)), (.int d)]) (rest := [(.ref ad), (.ref b)]) own_pde rfl rfl rfl (W := 2) (by show 2 * 0 + _ ≤ _; exact Nat.le_of_eq rfl) (hb hby dIXA_102) (by decide) (by decide) (by decide) (by decide)
  refine own_go stk11 ?_
  show Run p.tables e below (Tk11.setTop (mkF m 105 #[.val (.ref b), .val (.int n), .val (.int (-1 : Int32)), .unset] [(.int (if d < (1024 : Int32) then d else 1024)), (.ref ad), (.ref b)])) _
  rw [f8]
  show Run p.tables e below (Tk11.setTop (mkF m 105 #[.val (.ref b), .val (.int n), .val (.int (-1 : Int32)), .unset] [(.int d), (.ref ad), (.ref b)])) _
  obtain ⟨vk12, Tk12, Lk12, Xk12, ⟨r, rfl, N3, E23, ger, VR3⟩, stk12⟩ := own_callS Xk11 hx hZ hown (hw _ (List.mem_of_getElem? (i := 63) rfl)) (hw _ (List.mem_of_getElem? (i := 64) rfl)) (hw _ (List.mem_of_getElem? (i := 66) rfl)) (hw _ (List.mem_of_getElem? (i := 65) rfl)) (by decide) ek11 (rmCPY l Z a0 hw [] ad n d h2 n0 (Nat.le_trans Z0 K2.1) VD2 f1 f5 f6) (g := (mkF m 105 #[.val (.ref b), .val (.int n), .val (.int (-1 : Int32)), .unset] [(.int d), (.ref ad), (.ref b)])) rfl (by rw [hml]; rfl) (argsL := [(.ref ad), (.int d)]) (rest := [(.ref b)]) own_pdf rfl rfl rfl (W := 1) (by show 2 * 0 + _ ≤ _; exact Nat.le_of_eq rfl) (hb hby dIXA_105) (by decide) (by decide) (by decide) (by decide)
  refine own_go stk12 ?_
  show Run p.tables e below (Tk12.setTop (mkF m 108 #[.val (.ref b), .val (.int n), .val (.int (-1 : Int32)), .unset] [(.ref r), (.ref b)])) _
  have K3 := K2.ext E23
  have E3 := E2.ext E23
  have Fi3 := Fi2.ext E23
  have Fc3 := Fc2.ext E23
  have Fd3 := Fd2.ext E23
  have VI3 := VI2.ext E23
  have zr : h0.size ≤ r := Nat.le_trans K2.1 ger
  have nir : ai ≠ r := own_nelt VI2.lt ger
  have nbr : b ≠ r := VR3.ne (a0 := a0) E3 (hw _ (List.mem_of_getElem? (i := 10) rfl))
  obtain ⟨T4, h4, X4, e4, W4, st4⟩ := putF Xk12 hx hZ hown (host := "") (Or.inl (hw _ (List.mem_of_getElem? (i := 20) rfl))) Via.refl rfl Fd3 E3 (Or.inl (hw _ (List.mem_of_getElem? (i := 21) rfl))) (hw _ (List.mem_of_getElem? (i := 10) rfl)) (ty := (.array .int)) (by decide) rfl rfl (g := (mkF m 108 #[.val (.ref b), .val (.int n), .val (.int (-1 : Int32)), .unset] [(.ref r), (.ref b)])) rfl rfl (hb hby dIXA_108)
  have N4 := Fr.snoc X4 (Fr.app (Fr.app (Fr.app N2 (Fr.nil n0)) (Fr.nil n0)) N3) geb
  have K4 := K3.wr W4 (Or.inl (List.mem_cons_self ..))
  have E4 := E3.wr W4
  have Fi4 := Fi3.other W4 (Or.inr (slot_ne (C := "com/example/elect/elect/core/IdIndex") (a0 := a0) (Or.inl (hw _ (List.mem_of_getElem? (i := 19) rfl))) (Or.inl (hw _ (List.mem_of_getElem? (i := 21) rfl))) (by decide) (t := (.array .int)) (by decide) (t' := (.array .int)) (by decide)))
  have Fc4 := Fc3.other W4 (Or.inr (slot_ne (C := "com/example/elect/elect/core/IdIndex") (a0 := a0) (Or.inl (hw _ (List.mem_of_getElem? (i := 55) rfl))) (Or.inl (hw _ (List.mem_of_getElem? (i := 21) rfl))) (by decide) (t := .int) (by decide) (t' := (.array .int)) (by decide)))
  have Fd4 := Fd3.same W4
  have VI4 := VI3.other W4 (Ne.symm nbi)
  have VR4 := VR3.other W4 (Ne.symm nbr)
  refine own_go st4 ?_
  show Run p.tables e below (T4.setTop (mkF m 111 #[.val (.ref b), .val (.int n), .val (.int (-1 : Int32)), .unset] [])) _
  refine own_go (fun _ => XS.aloadN X4.here hx rfl (hb hby dIXA_111) rfl rfl) ?_
  show Run p.tables e below (T4.setTop (mkF m 112 #[.val (.ref b), .val (.int n), .val (.int (-1 : Int32)), .unset] [(.ref b)])) _
  obtain ⟨Tk13, Xk13, ek13, stk13⟩ := getF X4 hx hZ hown (host := "") (Or.inl (hw _ (List.mem_of_getElem? (i := 20) rfl))) Via.refl e4 Fd4 (g := (mkF m 112 #[.val (.ref b), .val (.int n), .val (.int (-1 : Int32)), .unset] [(.ref b)])) rfl rfl (hb hby dIXA_112)
  refine own_go stk13 ?_
  show Run p.tables e below (Tk13.setTop (mkF m 115 #[.val (.ref b), .val (.int n), .val (.int (-1 : Int32)), .unset] [(.ref r)])) _
  refine own_go (fun _ => XS.iloadN Xk13.here hx rfl (hb hby dIXA_115) rfl) ?_
  show Run p.tables e below (Tk13.setTop (mkF m 116 #[.val (.ref b), .val (.int n), .val (.int (-1 : Int32)), .unset] [(.int n), (.ref r)])) _
  refine own_go (fun _ => XS.aloadN Xk13.here hx rfl (hb hby dIXA_116) rfl rfl) ?_
  show Run p.tables e below (Tk13.setTop (mkF m 117 #[.val (.ref b), .val (.int n), .val (.int (-1 : Int32)), .unset] [(.ref b), (.int n), (.ref r)])) _
  obtain ⟨Tk14, Xk14, ek14, stk14⟩ := getF Xk13 hx hZ hown (host := "") (Or.inl (hw _ (List.mem_of_getElem? (i := 54) rfl))) Via.refl ek13 Fc4 (g := (mkF m 117 #[.val (.ref b), .val (.int n), .val (.int (-1 : Int32)), .unset] [(.ref b), (.int n), (.ref r)])) rfl rfl (hb hby dIXA_117)
  refine own_go stk14 ?_
  show Run p.tables e below (Tk14.setTop (mkF m 120 #[.val (.ref b), .val (.int n), .val (.int (-1 : Int32)), .unset] [(.int (n + (1 : Int32))), (.int n), (.ref r)])) _
  obtain ⟨kr, vr, hvr, AR4⟩ := VR4
  obtain ⟨T5, h5, L5, X5, e5, W5, V5, N5, st5⟩ := own_stI Xk14 hx hZ ek14 AR4 (j := n) ⟨f1, f5⟩ n.toNatClampNeg rfl (by rw [hvr]; exact f10) N4 (Nat.le_trans Z0 zr) (g := (mkF m 120 #[.val (.ref b), .val (.int n), .val (.int (-1 : Int32)), .unset] [(.int (n + (1 : Int32))), (.int n), (.ref r)])) rfl rfl (hb hby dIXA_120)
  have K5 := K4.wr W5 (Or.inr zr)
  have E5 := E4.wr W5
  have Fi5 := Fi4.other W5 (Or.inl nbr)
  have Fc5 := Fc4.other W5 (Or.inl nbr)
  have Fd5 := Fd4.other W5 (Or.inl nbr)
  have VI5 := VI4.other W5 nir
  have VR5 : own_IA Z h5 r d := ⟨kr, _, by rw [List.length_set]; exact hvr, V5⟩
  refine own_go st5 ?_
  show Run p.tables e below (T5.setTop (mkF m 121 #[.val (.ref b), .val (.int n), .val (.int (-1 : Int32)), .unset] [])) _
  refine own_go (fun _ => XS.goto X5.here hx rfl (pc0 := 121) (pc' := 213) rfl (hb hby dIXA_121) (by decide) (by decide)) ?_
  show Run p.tables e below (T5.setTop (mkF m 213 #[.val (.ref b), .val (.int n), .val (.int (-1 : Int32)), .unset] [])) _
  refine own_go (fun _ => XS.aloadN X5.here hx rfl (hb hby dIXA_213) rfl rfl) ?_
  show Run p.tables e below (T5.setTop (mkF m 214 #[.val (.ref b), .val (.int n), .val (.int (-1 : Int32)), .unset] [(.ref b)])) _
  obtain ⟨Tk15, Xk15, ek15, stk15⟩ := getF X5 hx hZ hown (host := "") (Or.inl (hw _ (List.mem_of_getElem? (i := 54) rfl))) Via.refl e5 Fc5 (g := (mkF m 214 #[.val (.ref b), .val (.int n), .val (.int (-1 : Int32)), .unset] [(.ref b)])) rfl rfl (hb hby dIXA_214)
  refine own_go stk15 ?_
  show Run p.tables e below (Tk15.setTop (mkF m 217 #[.val (.ref b), .val (.int n), .val (.int (-1 : Int32)), .unset] [(.int (n + (1 : Int32)))])) _
  refine own_go (fun _ => XS.iconst Xk15.here hx rfl (hb hby dIXA_217)) ?_
  show Run p.tables e below (Tk15.setTop (mkF m 218 #[.val (.ref b), .val (.int n), .val (.int (-1 : Int32)), .unset] [(.int (1 : Int32)), (.int (n + (1 : Int32)))])) _
  refine own_go (fun _ => XS.isub Xk15.here hx rfl (hb hby dIXA_218) rfl) ?_
  show Run p.tables e below (Tk15.setTop (mkF m 219 #[.val (.ref b), .val (.int n), .val (.int (-1 : Int32)), .unset] [(.int ((n + (1 : Int32)) - (1 : Int32)))])) _
  exact own_out Xk15 (v := some (.int ((n + (1 : Int32)) - (1 : Int32)))) (fun q => by rw [hret] at q; cases q) hlk (fun fs hr => retI Xk15 hx hret (hb hby dIXA_219) hr) ⟨_, r, rfl, N5, (by rw [ek15]; exact K5), zr, (by rw [ek15]; exact ⟨E5, Fi5, Fc5, Fd5, VI5, VR5, nir⟩)⟩ (by decide) (by decide)
set_option maxRecDepth 65536 in
set_option maxHeartbeats 40000000 in
theorem rmNTA (l : Launch) (Z : State) (a0 : Array Value) (hw : ∀ d ∈ tables_1, d.before a0 Z = true) (ws : List Jvm.Cond) (t : Addr) (b ai ad : Addr) (n d : Int32) (hn3 : own_n3 n d) (h0 : Heap) (n0 : Nat) (Z0 : n0 ≤ h0.size) (geb : n0 ≤ b) (gei : n0 ≤ ai) (I0 : own_Ix Z h0 b ai ad n n) (Fn : Fld Z h0 t "com/example/elect/elect/core/NeighbourTable" "numbers" "Lcom/example/elect/elect/core/IdIndex;" (.ref b)) :
    OwnCtr l (⟨"com/example/elect/elect/core/NeighbourTable", "add", "(I)I"⟩ : MethodName) prog_44_method_6_code 2 (some .int) ws own_Rnta Z #[(.ref t), (.int n)] h0 (own_QAD Z b ai n d h0 n0) := by
  refine own_body own_pnN ?_
  intro p e s m below meth c s₁ X0 hx hby hml hown hnm hret hlk hZ e0
  refine own_go (fun _ k => castTop (ef_RI m t n) k) ?_
  show Run p.tables e below (s₁.setTop (mkF m 0 #[.val (.ref t), .val (.int n)] [])) _
  refine own_go (fun _ => XS.aloadN X0.here hx rfl (hb hby dNTA_0) rfl rfl) ?_
  show Run p.tables e below (s₁.setTop (mkF m 1 #[.val (.ref t), .val (.int n)] [(.ref t)])) _
  obtain ⟨Tk1, Xk1, ek1, stk1⟩ := getF X0 hx hZ hown (host := "") (Or.inl (hw _ (List.mem_of_getElem? (i := 37) rfl))) Via.refl e0 Fn (g := (mkF m 1 #[.val (.ref t), .val (.int n)] [(.ref t)])) rfl rfl (hb hby dNTA_1)
  refine own_go stk1 ?_
  show Run p.tables e below (Tk1.setTop (mkF m 4 #[.val (.ref t), .val (.int n)] [(.ref b)])) _
  refine own_go (fun _ => XS.iloadN Xk1.here hx rfl (hb hby dNTA_4) rfl) ?_
  show Run p.tables e below (Tk1.setTop (mkF m 5 #[.val (.ref t), .val (.int n)] [(.int n), (.ref b)])) _
  obtain ⟨vk2, Tk2, Lk2, Xk2, ⟨y, ad1, rfl, NA, KA, za, IA1⟩, stk2⟩ := own_callV Xk1 hx hZ hown (hw _ (List.mem_of_getElem? (i := 44) rfl)) (hw _ (List.mem_of_getElem? (i := 46) rfl)) (hw _ (List.mem_of_getElem? (i := 47) rfl)) (hw _ (List.mem_of_getElem? (i := 48) rfl)) (hw _ (List.mem_of_getElem? (i := 11) rfl)) (by decide) ek1 (rmIXA l Z a0 hw [] b ai ad n d hn3 h0 n0 Z0 geb gei I0) I0.1 (g := (mkF m 5 #[.val (.ref t), .val (.int n)] [(.int n), (.ref b)])) rfl (by rw [hml]; rfl) (argsL := [(.int n)]) (rest := []) own_pdd rfl rfl rfl (W := 0) (by show 2 * 0 + _ ≤ _; exact Nat.le_of_eq rfl) (hb hby dNTA_5) (by decide) (by decide) (by decide) (by decide)
  refine own_go stk2 ?_
  show Run p.tables e below (Tk2.setTop (mkF m 8 #[.val (.ref t), .val (.int n)] [(.int y)])) _
  exact own_out Xk2 (v := some (.int y)) (fun q => by rw [hret] at q; cases q) hlk (fun fs hr => retI Xk2 hx hret (hb hby dNTA_8) hr) ⟨y, ad1, rfl, (by simpa using NA), KA, za, IA1⟩ (by decide) (by decide)
theorem own_8 (q : Int32) (h1 : ¬ q < 0) (h2 : q < 8) : q = 0 ∨ q = 1 ∨ q = 2 ∨ q = 3 ∨ q = 4 ∨ q = 5 ∨ q = 6 ∨ q = 7 := by
  have a1 := nat_of h1; have a2 := Int32.lt_iff_toInt_lt.mp h2; have a3 : (8 : Int32).toInt = 8 := rfl
  have e : q.toInt = 0 ∨ q.toInt = 1 ∨ q.toInt = 2 ∨ q.toInt = 3 ∨ q.toInt = 4 ∨ q.toInt = 5 ∨ q.toInt = 6 ∨ q.toInt = 7 := by omega
  rcases e with e | e | e | e | e | e | e | e
  · exact Or.inl (Int32.toInt_inj.mp (e.trans rfl))
  · exact Or.inr (Or.inl (Int32.toInt_inj.mp (e.trans rfl)))
  · exact Or.inr (Or.inr (Or.inl (Int32.toInt_inj.mp (e.trans rfl))))
  · exact Or.inr (Or.inr (Or.inr (Or.inl (Int32.toInt_inj.mp (e.trans rfl)))))
  · exact Or.inr (Or.inr (Or.inr (Or.inr (Or.inl (Int32.toInt_inj.mp (e.trans rfl))))))
  · exact Or.inr (Or.inr (Or.inr (Or.inr (Or.inr (Or.inl (Int32.toInt_inj.mp (e.trans rfl)))))))
  · exact Or.inr (Or.inr (Or.inr (Or.inr (Or.inr (Or.inr (Or.inl (Int32.toInt_inj.mp (e.trans rfl))))))))
  · exact Or.inr (Or.inr (Or.inr (Or.inr (Or.inr (Or.inr (Or.inr ((Int32.toInt_inj.mp (e.trans rfl)))))))))
set_option maxRecDepth 65536 in
set_option maxHeartbeats 40000000 in
theorem rmLBT (l : Launch) (Z : State) (a0 : Array Value) (hw : ∀ d ∈ tables_1, d.before a0 Z = true) (ws : List Jvm.Cond) (t b al aL aR : Addr) (F : Int32 → Int64) (h0 : Heap) (J0 : own_Nt Z h0 t b al aL aR F) (q : Int32) (hq : ¬ q < 0) :
    OwnCtr l (⟨"com/example/elect/elect/core/NeighbourTable", "listedBits", "(I)J"⟩ : MethodName) prog_44_method_10_code 2 (some .long) ws own_R0 Z #[(.ref t), (.int q)] h0 (fun v h L => v = some (.long (own_get F q)) ∧ h = h0 ∧ L = []) := by
  refine own_body own_pnN ?_
  intro p e s m below meth c s₁ X0 hx hby hml hown hnm hret hlk hZ e0
  refine own_go (fun _ k => castTop (ef_RI m t q) k) ?_
  show Run p.tables e below (s₁.setTop (mkF m 0 #[.val (.ref t), .val (.int q)] [])) _
  obtain ⟨Et, Fn, Fl, FL, FR, Vl, ⟨kL, VL⟩, VR, n1, n2, n3⟩ := J0
  refine own_go (fun _ => XS.iloadN X0.here hx rfl (hb hby dLBT_0) rfl) ?_
  show Run p.tables e below (s₁.setTop (mkF m 1 #[.val (.ref t), .val (.int q)] [(.int q)])) _
  refine own_go (fun _ => XS.aloadN X0.here hx rfl (hb hby dLBT_1) rfl rfl) ?_
  show Run p.tables e below (s₁.setTop (mkF m 2 #[.val (.ref t), .val (.int q)] [(.ref t), (.int q)])) _
  obtain ⟨Tk1, Xk1, ek1, stk1⟩ := getF X0 hx hZ hown (host := "") (Or.inl (hw _ (List.mem_of_getElem? (i := 33) rfl))) Via.refl e0 FL (g := (mkF m 2 #[.val (.ref t), .val (.int q)] [(.ref t), (.int q)])) rfl rfl (hb hby dLBT_2)
  refine own_go stk1 ?_
  show Run p.tables e below (Tk1.setTop (mkF m 5 #[.val (.ref t), .val (.int q)] [(.ref aL), (.int q)])) _
  refine own_go (fun _ => own_alen Xk1 hx hZ ek1 VL (g := (mkF m 5 #[.val (.ref t), .val (.int q)] [(.ref aL), (.int q)])) rfl rfl (hb hby dLBT_5) _) ?_
  show Run p.tables e below (Tk1.setTop (mkF m 6 #[.val (.ref t), .val (.int q)] [(.int (8 : Int32)), (.int q)])) _
  by_cases q8 : q < 8
  · show Run p.tables e below (Tk1.setTop (mkF m 6 #[.val (.ref t), .val (.int q)] [(.int (8 : Int32)), (.int q)])) _
    refine own_go (fun _ => XS.icmpNo Xk1.here hx rfl (hb hby dLBT_6) rfl (XT.ii_ge_f q8)) ?_
    show Run p.tables e below (Tk1.setTop (mkF m 9 #[.val (.ref t), .val (.int q)] [])) _
    refine own_go (fun _ => XS.aloadN Xk1.here hx rfl (hb hby dLBT_9) rfl rfl) ?_
    show Run p.tables e below (Tk1.setTop (mkF m 10 #[.val (.ref t), .val (.int q)] [(.ref t)])) _
    obtain ⟨Tk2, Xk2, ek2, stk2⟩ := getF Xk1 hx hZ hown (host := "") (Or.inl (hw _ (List.mem_of_getElem? (i := 33) rfl))) Via.refl ek1 FL (g := (mkF m 10 #[.val (.ref t), .val (.int q)] [(.ref t)])) rfl rfl (hb hby dLBT_10)
    refine own_go stk2 ?_
    show Run p.tables e below (Tk2.setTop (mkF m 13 #[.val (.ref t), .val (.int q)] [(.ref aL)])) _
    refine own_go (fun _ => XS.iloadN Xk2.here hx rfl (hb hby dLBT_13) rfl) ?_
    show Run p.tables e below (Tk2.setTop (mkF m 14 #[.val (.ref t), .val (.int q)] [(.int q), (.ref aL)])) _
    refine own_go (fun _ => own_laload Xk2 hx hZ ek2 VL (j := q) ⟨hq, q8⟩ (v := .long (own_get F q)) (by rcases own_8 q hq q8 with rfl | rfl | rfl | rfl | rfl | rfl | rfl | rfl <;> rfl) (g := (mkF m 14 #[.val (.ref t), .val (.int q)] [(.int q), (.ref aL)])) rfl rfl (hb hby dLBT_14) _) ?_
    show Run p.tables e below (Tk2.setTop (mkF m 15 #[.val (.ref t), .val (.int q)] [(.long (own_get F q))])) _
    refine own_go (fun _ => XS.goto Xk2.here hx rfl (pc0 := 15) (pc' := 19) rfl (hb hby dLBT_15) (by decide) (by decide)) ?_
    show Run p.tables e below (Tk2.setTop (mkF m 19 #[.val (.ref t), .val (.int q)] [(.long (own_get F q))])) _
    exact own_out Xk2 (v := some (.long (own_get F q))) (fun q => by rw [hret] at q; cases q) hlk (fun fs hr => Xk2.lreturnOut hx hret (hb hby dLBT_19) hr) ⟨rfl, ek2, rfl⟩ (by decide) (by decide)
  · show Run p.tables e below (Tk1.setTop (mkF m 6 #[.val (.ref t), .val (.int q)] [(.int (8 : Int32)), (.int q)])) _
    refine own_go (fun _ => XS.icmpYes Xk1.here hx rfl (pc0 := 6) (pc' := 18) rfl (hb hby dLBT_6) rfl (XT.ii_ge_t q8) (by decide) (by decide)) ?_
    show Run p.tables e below (Tk1.setTop (mkF m 18 #[.val (.ref t), .val (.int q)] [])) _
    refine own_go (fun _ => XT.lconst Xk1.here hx rfl (hb hby dLBT_18)) ?_
    show Run p.tables e below (Tk1.setTop (mkF m 19 #[.val (.ref t), .val (.int q)] [(.long (0 : Int64))])) _
    exact own_out Xk1 (v := some (.long (0 : Int64))) (fun q => by rw [hret] at q; cases q) hlk (fun fs hr => Xk1.lreturnOut hx hret (hb hby dLBT_19) hr) ⟨(by rw [own_get, if_neg (fun r => q8 (by rw [r]; decide)), if_neg (fun r => q8 (by rw [r]; decide)), if_neg (fun r => q8 (by rw [r]; decide))]), ek1, rfl⟩ (by decide) (by decide)
theorem own_Nt.wrR {Z : State} {h h' : Heap} {t b al aL aR : Addr} {F : Int32 → Int64} {sl : Nat} {v : Value} (J : own_Nt Z h t b al aL aR F) (W : Wr h h' aR sl v) (q : t ≠ aR) (V : own_JA Z h' aR) : own_Nt Z h' t b al aL aR F := by
  obtain ⟨Et, Fn, Fl, FL, FR, Vl, VL, VR, n1, n2, n3⟩ := J
  exact ⟨Et.wr W, Fn.other W (Or.inl q), Fl.other W (Or.inl q), FL.other W (Or.inl q), FR.other W (Or.inl q), Vl.other W n2, VL.other W n3, V, n1, n2, n3⟩
theorem own_Nt.wrL {Z : State} {h h' : Heap} {t b al aL aR : Addr} {F F' : Int32 → Int64} {sl : Nat} {v : Value} (J : own_Nt Z h t b al aL aR F) (W : Wr h h' aL sl v) (q : t ≠ aL) (V : own_LA Z h' aL F') : own_Nt Z h' t b al aL aR F' := by
  obtain ⟨Et, Fn, Fl, FL, FR, Vl, VL, VR, n1, n2, n3⟩ := J
  exact ⟨Et.wr W, Fn.other W (Or.inl q), Fl.other W (Or.inl q), FL.other W (Or.inl q), FR.other W (Or.inl q), Vl.other W n1, V, VR.other W (Ne.symm n3), n1, n2, n3⟩
theorem own_Nt.wrl {Z : State} {h h' : Heap} {t b al aL aR : Addr} {F : Int32 → Int64} {sl : Nat} {v : Value} (J : own_Nt Z h t b al aL aR F) (W : Wr h h' al sl v) (q : t ≠ al) (V : own_RA Z h' al) : own_Nt Z h' t b al aL aR F := by
  obtain ⟨Et, Fn, Fl, FL, FR, Vl, VL, VR, n1, n2, n3⟩ := J
  exact ⟨Et.wr W, Fn.other W (Or.inl q), Fl.other W (Or.inl q), FL.other W (Or.inl q), FR.other W (Or.inl q), V, VL.other W (Ne.symm n1), VR.other W (Ne.symm n2), n1, n2, n3⟩
theorem own_Nt.keep {Z : State} {h h' : Heap} {t b al aL aR : Addr} {F : Int32 → Int64} {ws : List Addr} (J : own_Nt Z h t b al aL aR F) (K : Keep h h' ws) (q : t ∉ ws) (q1 : al ∉ ws) (q2 : aL ∉ ws) (q3 : aR ∉ ws) : own_Nt Z h' t b al aL aR F := by
  obtain ⟨Et, Fn, Fl, FL, FR, Vl, VL, VR, n1, n2, n3⟩ := J
  exact ⟨Et.keep K, Fn.keep K q, Fl.keep K q, FL.keep K q, FR.keep K q, Vl.keep K q1, VL.keep K q2, VR.keep K q3, n1, n2, n3⟩
theorem own_n012 {i : Int32} (h : own_012 i) : ¬ i < 0 ∧ i < 8 ∧ i.toNatClampNeg < 8 := by rcases h with rfl | rfl | rfl <;> decide +kernel
def own_tz (y : Int64) : Int32 := own_nt ((y.toInt32 ^^^ (-1 : Int32)) &&& (y.toInt32 - (1 : Int32)))
def own_tzok (y : Int64) : Prop := ¬ y.toInt32 = 0 ∧ ¬ (4 : Int32) < ((y.toInt32 ^^^ (-1 : Int32)) &&& (y.toInt32 - (1 : Int32))) ∧ ¬ own_tz y < 0 ∧ own_tz y < 8 ∧ (own_tz y).toNatClampNeg < 8 ∧ ¬ y = 0
theorem own_tz1 : own_tzok 1 := by unfold own_tzok; decide +kernel
theorem own_tz2 : own_tzok 2 := by unfold own_tzok; decide +kernel
theorem own_tz3 : own_tzok 3 := by unfold own_tzok; decide +kernel
theorem own_tz4 : own_tzok 4 := by unfold own_tzok; decide +kernel
theorem own_tz5 : own_tzok 5 := by unfold own_tzok; decide +kernel
theorem own_tz6 : own_tzok 6 := by unfold own_tzok; decide +kernel
theorem own_tz7 : own_tzok 7 := by unfold own_tzok; decide +kernel
theorem own_laL {Z : State} {h' : Heap} {a : Addr} {F : Int32 → Int64} {i : Int32} {x : Int64} {k : ClassId} (hi : own_012 i) (V : Arv Z h' a k .long 8 ([.long (F 0), .long (F 1), .long (F 2), .long 0, .long 0, .long 0, .long 0, .long 0].set i.toNatClampNeg (.long x)) (.long 0)) : own_LA Z h' a (own_upd F i x) := by
  rcases hi with rfl | rfl | rfl <;> exact ⟨k, V⟩
theorem own_cmpne {x : Int64} (q : ¬ x = 0) : ¬ XT.cmpL x 0 = 0 := by
  unfold XT.cmpL; split
  · decide
  · first | decide | (rw [if_neg q]; decide)
def own_QL (Z : State) (t b al aL aR : Addr) (F : Int32 → Int64) (h0 : Heap) (n0 : Nat) (v : Option Value) (h : Heap) (L : List Loc) : Prop := v = none ∧ Fr n0 L ∧ Keep h0 h [al, aL, aR] ∧ own_Nt Z h t b al aL aR F
set_option maxRecDepth 65536 in
set_option maxHeartbeats 40000000 in
theorem rmLST (l : Launch) (Z : State) (a0 : Array Value) (hw : ∀ d ∈ tables_1, d.before a0 Z = true) (ws : List Jvm.Cond) (t b al aL aR : Addr) (F : Int32 → Int64) (h0 : Heap) (J0 : own_Nt Z h0 t b al aL aR F) (i x : Int32) (s3 : Addr) (ks : ClassId) (n0 : Nat) (gl : n0 ≤ al) (gL : n0 ≤ aL) (gR : n0 ≤ aR) (hi : own_012 i) (hm7 : own_07 x) (hF : own_07L (F i)) (Eb : Exa Z h0 b "com/example/elect/elect/core/IdIndex") (Fc : Fld Z h0 b "com/example/elect/elect/core/IdIndex" "count" "I" (.int 3)) (Es : Exa Z h0 s3 "[I") (Vs : Arv Z h0 s3 ks .int (own_cnt x) (own_arr x) (.int 0)) :
    OwnCtr l (⟨"com/example/elect/elect/core/NeighbourTable", "list", "(I[I)V"⟩ : MethodName) prog_44_method_8_code 9 none ws own_Rlst Z #[(.ref t), (.int i), (.ref s3)] h0 (own_QL Z t b al aL aR (own_upd F i x.toInt64) h0 n0) := by
  refine own_body own_pnN ?_
  intro p e s m below meth c s₁ X0 hx hby hml hown hnm hret hlk hZ e0
  refine own_go (fun _ k => castTop (ef_RIR9 m t i s3) k) ?_
  show Run p.tables e below (s₁.setTop (mkF m 0 #[.val (.ref t), .val (.int i), .val (.ref s3), .unset, .unset, .unset, .unset, .unset, .unset] [])) _
  obtain ⟨i1, i2, i3⟩ := own_n012 hi
  obtain ⟨Et, Fn, Fl, FL, FR, Vl, VL, VR, n1, n2, n3⟩ := id J0
  have tl : t ≠ al := Vl.ne (a0 := a0) Et (hw _ (List.mem_of_getElem? (i := 7) rfl))
  have tL : t ≠ aL := VL.ne (a0 := a0) Et (hw _ (List.mem_of_getElem? (i := 7) rfl))
  have tR : t ≠ aR := VR.ne (a0 := a0) Et (hw _ (List.mem_of_getElem? (i := 7) rfl))
  have JE : ∀ (L7 L8 : Slot) (y : Int64) (T : State) (h : Heap) (L : List Loc) (X : Stand p l e own_Rlst s m #[(.ref t), (.int i), (.ref s3)] below meth c T L 0 0) (eT : T.heap = h) (N : Fr n0 L) (K : Keep h0 h [al, aL, aR]) (J : own_Nt Z h t b al aL aR F), Run p.tables e below (T.setTop (mkF m 158 #[.val (.ref t), .val (.int i), .val (.ref s3), .val (.long (x.toInt64)), .second, .val (.long y), .second, L7, L8] [])) (OwnFin s below (own_QL Z t b al aL aR (own_upd F i x.toInt64) h0 n0) own_Rlst.cells own_Rlst.slots) := by
    intro L7 L8 y T h L X eT N K J
    show Run p.tables e below (T.setTop (mkF m 158 #[.val (.ref t), .val (.int i), .val (.ref s3), .val (.long (x.toInt64)), .second, .val (.long y), .second, L7, L8] [])) _
    refine own_go (fun _ => XS.aloadN X.here hx rfl (hb hby dLST_158) rfl rfl) ?_
    show Run p.tables e below (T.setTop (mkF m 159 #[.val (.ref t), .val (.int i), .val (.ref s3), .val (.long (x.toInt64)), .second, .val (.long y), .second, L7, L8] [(.ref t)])) _
    obtain ⟨Et1, Fn1, Fl1, FL1, FR1, Vl1, VL1, VR1, -, -, -⟩ := id J
    obtain ⟨Tk1, Xk1, ek1, stk1⟩ := getF X hx hZ hown (host := "") (Or.inl (hw _ (List.mem_of_getElem? (i := 33) rfl))) Via.refl eT FL1 (g := (mkF m 159 #[.val (.ref t), .val (.int i), .val (.ref s3), .val (.long (x.toInt64)), .second, .val (.long y), .second, L7, L8] [(.ref t)])) rfl rfl (hb hby dLST_159)
    refine own_go stk1 ?_
    show Run p.tables e below (Tk1.setTop (mkF m 162 #[.val (.ref t), .val (.int i), .val (.ref s3), .val (.long (x.toInt64)), .second, .val (.long y), .second, L7, L8] [(.ref aL)])) _
    refine own_go (fun _ => XS.iloadN Xk1.here hx rfl (hb hby dLST_162) rfl) ?_
    show Run p.tables e below (Tk1.setTop (mkF m 163 #[.val (.ref t), .val (.int i), .val (.ref s3), .val (.long (x.toInt64)), .second, .val (.long y), .second, L7, L8] [(.int i), (.ref aL)])) _
    refine own_go (fun _ => XT.lloadN Xk1.here hx rfl (hb hby dLST_163) rfl) ?_
    show Run p.tables e below (Tk1.setTop (mkF m 164 #[.val (.ref t), .val (.int i), .val (.ref s3), .val (.long (x.toInt64)), .second, .val (.long y), .second, L7, L8] [(.long (x.toInt64)), (.int i), (.ref aL)])) _
    obtain ⟨kL, VL2⟩ := VL1
    obtain ⟨T1, h1, L1, X1, e1, W1, V1, N1, st1⟩ := own_stJ Xk1 hx hZ ek1 VL2 (j := i) ⟨i1, i2⟩ i.toNatClampNeg rfl i3 N gL (g := (mkF m 164 #[.val (.ref t), .val (.int i), .val (.ref s3), .val (.long (x.toInt64)), .second, .val (.long y), .second, L7, L8] [(.long (x.toInt64)), (.int i), (.ref aL)])) rfl rfl (hb hby dLST_164)
    have J1 := J.wrL W1 tL (own_laL hi V1)
    have K1 := K.wr W1 (Or.inl (List.mem_cons_of_mem _ (List.mem_cons_self ..)))
    have Es1 := (Es.keep K).wr W1
    refine own_go st1 ?_
    show Run p.tables e below (T1.setTop (mkF m 165 #[.val (.ref t), .val (.int i), .val (.ref s3), .val (.long (x.toInt64)), .second, .val (.long y), .second, L7, L8] [])) _
    refine own_go (fun _ => XS.aloadN X1.here hx rfl (hb hby dLST_165) rfl rfl) ?_
    show Run p.tables e below (T1.setTop (mkF m 166 #[.val (.ref t), .val (.int i), .val (.ref s3), .val (.long (x.toInt64)), .second, .val (.long y), .second, L7, L8] [(.ref t)])) _
    obtain ⟨Tk2, Xk2, ek2, stk2⟩ := getF X1 hx hZ hown (host := "") (Or.inl (hw _ (List.mem_of_getElem? (i := 30) rfl))) Via.refl e1 J1.2.2.1 (g := (mkF m 166 #[.val (.ref t), .val (.int i), .val (.ref s3), .val (.long (x.toInt64)), .second, .val (.long y), .second, L7, L8] [(.ref t)])) rfl rfl (hb hby dLST_166)
    refine own_go stk2 ?_
    show Run p.tables e below (Tk2.setTop (mkF m 169 #[.val (.ref t), .val (.int i), .val (.ref s3), .val (.long (x.toInt64)), .second, .val (.long y), .second, L7, L8] [(.ref al)])) _
    refine own_go (fun _ => XS.iloadN Xk2.here hx rfl (hb hby dLST_169) rfl) ?_
    show Run p.tables e below (Tk2.setTop (mkF m 170 #[.val (.ref t), .val (.int i), .val (.ref s3), .val (.long (x.toInt64)), .second, .val (.long y), .second, L7, L8] [(.int i), (.ref al)])) _
    refine own_go (fun _ => XS.aloadN Xk2.here hx rfl (hb hby dLST_170) rfl rfl) ?_
    show Run p.tables e below (Tk2.setTop (mkF m 171 #[.val (.ref t), .val (.int i), .val (.ref s3), .val (.long (x.toInt64)), .second, .val (.long y), .second, L7, L8] [(.ref s3), (.int i), (.ref al)])) _
    obtain ⟨kl, vl, hvl, Ol, Vl2⟩ := J1.2.2.2.2.2.1
    obtain ⟨T2, h2, L2, X2, e2, W2, V2, N2, st2⟩ := own_stRA Xk2 hx hZ ek2 Vl2 Ol Es1 (j := i) ⟨i1, i2⟩ i.toNatClampNeg rfl (by rw [hvl]; exact i3) N1 gl (g := (mkF m 171 #[.val (.ref t), .val (.int i), .val (.ref s3), .val (.long (x.toInt64)), .second, .val (.long y), .second, L7, L8] [(.ref s3), (.int i), (.ref al)])) rfl rfl (hb hby dLST_171)
    have J2 := J1.wrl W2 tl ⟨kl, _, by rw [List.length_set]; exact hvl, Ol, V2⟩
    have K2 := K1.wr W2 (Or.inl (List.mem_cons_self ..))
    refine own_go st2 ?_
    show Run p.tables e below (T2.setTop (mkF m 172 #[.val (.ref t), .val (.int i), .val (.ref s3), .val (.long (x.toInt64)), .second, .val (.long y), .second, L7, L8] [])) _
    subst e2
    exact own_out X2 (v := none) (fun _ => rfl) hlk (fun fs hr => X2.returnOut hx hret (hb hby dLST_172) hr) ⟨rfl, N2, K2, J2⟩ (by decide) (by decide)
  have turn : ∀ (L7 L8 : Slot) (y : Int64), own_tzok y → (∀ (T : State) (h : Heap) (L : List Loc) (X : Stand p l e own_Rlst s m #[(.ref t), (.int i), (.ref s3)] below meth c T L 0 0) (eT : T.heap = h) (N : Fr n0 L) (K : Keep h0 h [al, aL, aR]) (J : own_Nt Z h t b al aL aR F), Run p.tables e below (T.setTop (mkF m 123 #[.val (.ref t), .val (.int i), .val (.ref s3), .val (.long (x.toInt64)), .second, .val (.long (y &&& (y - (1 : Int64)))), .second, L7, L8] [])) (OwnFin s below (own_QL Z t b al aL aR (own_upd F i x.toInt64) h0 n0) own_Rlst.cells own_Rlst.slots)) → ∀ (T : State) (h : Heap) (L : List Loc) (X : Stand p l e own_Rlst s m #[(.ref t), (.int i), (.ref s3)] below meth c T L 0 0) (eT : T.heap = h) (N : Fr n0 L) (K : Keep h0 h [al, aL, aR]) (J : own_Nt Z h t b al aL aR F), Run p.tables e below (T.setTop (mkF m 123 #[.val (.ref t), .val (.int i), .val (.ref s3), .val (.long (x.toInt64)), .second, .val (.long y), .second, L7, L8] [])) (OwnFin s below (own_QL Z t b al aL aR (own_upd F i x.toInt64) h0 n0) own_Rlst.cells own_Rlst.slots) := by
    intro L7 L8 y ok next T h L X eT N K J
    obtain ⟨k1, k2, k3, k4, k5, k6⟩ := ok
    show Run p.tables e below (T.setTop (mkF m 123 #[.val (.ref t), .val (.int i), .val (.ref s3), .val (.long (x.toInt64)), .second, .val (.long y), .second, L7, L8] [])) _
    refine own_go (fun _ => XT.lload X.here hx rfl (hb hby dLST_123) rfl) ?_
    show Run p.tables e below (T.setTop (mkF m 125 #[.val (.ref t), .val (.int i), .val (.ref s3), .val (.long (x.toInt64)), .second, .val (.long y), .second, L7, L8] [(.long y)])) _
    refine own_go (fun _ => XT.lconst X.here hx rfl (hb hby dLST_125)) ?_
    show Run p.tables e below (T.setTop (mkF m 126 #[.val (.ref t), .val (.int i), .val (.ref s3), .val (.long (x.toInt64)), .second, .val (.long y), .second, L7, L8] [(.long (0 : Int64)), (.long y)])) _
    refine own_go (fun _ => XT.lcmp X.here hx rfl (hb hby dLST_126) rfl) ?_
    show Run p.tables e below (T.setTop (mkF m 127 #[.val (.ref t), .val (.int i), .val (.ref s3), .val (.long (x.toInt64)), .second, .val (.long y), .second, L7, L8] [(.int (XT.cmpL y (0 : Int64)))])) _
    refine own_go (fun _ => XS.ifNo X.here hx rfl (hb hby dLST_127) rfl (XT.i0_eq_f (own_cmpne k6))) ?_
    show Run p.tables e below (T.setTop (mkF m 130 #[.val (.ref t), .val (.int i), .val (.ref s3), .val (.long (x.toInt64)), .second, .val (.long y), .second, L7, L8] [])) _
    refine own_go (fun _ => XS.aloadN X.here hx rfl (hb hby dLST_130) rfl rfl) ?_
    show Run p.tables e below (T.setTop (mkF m 131 #[.val (.ref t), .val (.int i), .val (.ref s3), .val (.long (x.toInt64)), .second, .val (.long y), .second, L7, L8] [(.ref t)])) _
    obtain ⟨Et1, Fn1, Fl1, FL1, FR1, Vl1, VL1, ⟨kR, vR, hvR, VR1⟩, -, -, -⟩ := id J
    obtain ⟨Tk3, Xk3, ek3, stk3⟩ := getF X hx hZ hown (host := "") (Or.inl (hw _ (List.mem_of_getElem? (i := 35) rfl))) Via.refl eT FR1 (g := (mkF m 131 #[.val (.ref t), .val (.int i), .val (.ref s3), .val (.long (x.toInt64)), .second, .val (.long y), .second, L7, L8] [(.ref t)])) rfl rfl (hb hby dLST_131)
    refine own_go stk3 ?_
    show Run p.tables e below (Tk3.setTop (mkF m 134 #[.val (.ref t), .val (.int i), .val (.ref s3), .val (.long (x.toInt64)), .second, .val (.long y), .second, L7, L8] [(.ref aR)])) _
    refine own_go (fun _ => XT.lload Xk3.here hx rfl (hb hby dLST_134) rfl) ?_
    show Run p.tables e below (Tk3.setTop (mkF m 136 #[.val (.ref t), .val (.int i), .val (.ref s3), .val (.long (x.toInt64)), .second, .val (.long y), .second, L7, L8] [(.long y), (.ref aR)])) _
    obtain ⟨vk4, Tk4, Lk4, Xk4, ⟨rfl, ek4, rfl⟩, stk4⟩ := own_callS Xk3 hx hZ hown (hw _ (List.mem_of_getElem? (i := 92) rfl)) (hw _ (List.mem_of_getElem? (i := 93) rfl)) (hw _ (List.mem_of_getElem? (i := 95) rfl)) (hw _ (List.mem_of_getElem? (i := 94) rfl)) (by decide) ek3 (rmLNT l Z a0 hw [] y h k1 k2) (g := (mkF m 136 #[.val (.ref t), .val (.int i), .val (.ref s3), .val (.long (x.toInt64)), .second, .val (.long y), .second, L7, L8] [(.long y), (.ref aR)])) rfl (by rw [hml]; rfl) (argsL := [(.long y)]) (rest := [(.ref aR)]) own_pdj rfl rfl rfl (W := 1) (by show 2 * 0 + _ ≤ _; exact Nat.le_of_eq rfl) (hb hby dLST_136) (by decide) (by decide) (by decide) (by decide)
    refine own_go stk4 ?_
    show Run p.tables e below (Tk4.setTop (mkF m 139 #[.val (.ref t), .val (.int i), .val (.ref s3), .val (.long (x.toInt64)), .second, .val (.long y), .second, L7, L8] [(.int (own_tz y)), (.ref aR)])) _
    simp only [List.append_nil] at Xk4
    replace Xk4 : Stand p l e own_Rlst s m #[(.ref t), (.int i), (.ref s3)] below meth c Tk4 L 0 0 := Xk4
    refine own_go (fun _ => XT.dup2 Xk4.here hx rfl (hb hby dLST_139) rfl rfl rfl) ?_
    show Run p.tables e below (Tk4.setTop (mkF m 140 #[.val (.ref t), .val (.int i), .val (.ref s3), .val (.long (x.toInt64)), .second, .val (.long y), .second, L7, L8] [(.int (own_tz y)), (.ref aR), (.int (own_tz y)), (.ref aR)])) _
    obtain ⟨u, hu⟩ : ∃ u : Int64, vR.getD (own_tz y).toNatClampNeg (.long 0) = .long u := by
      obtain ⟨cl, A, q1, S, q3, H, G⟩ := id VR1
      exact fit_J (G _ (by rw [S]; exact k5))
    refine own_go (fun _ => own_laload Xk4 hx hZ ek4 VR1 (j := own_tz y) ⟨k3, k4⟩ hu (g := (mkF m 140 #[.val (.ref t), .val (.int i), .val (.ref s3), .val (.long (x.toInt64)), .second, .val (.long y), .second, L7, L8] [(.int (own_tz y)), (.ref aR), (.int (own_tz y)), (.ref aR)])) rfl rfl (hb hby dLST_140) _) ?_
    show Run p.tables e below (Tk4.setTop (mkF m 141 #[.val (.ref t), .val (.int i), .val (.ref s3), .val (.long (x.toInt64)), .second, .val (.long y), .second, L7, L8] [(.long u), (.int (own_tz y)), (.ref aR)])) _
    refine own_go (fun _ => XT.lconst Xk4.here hx rfl (hb hby dLST_141)) ?_
    show Run p.tables e below (Tk4.setTop (mkF m 142 #[.val (.ref t), .val (.int i), .val (.ref s3), .val (.long (x.toInt64)), .second, .val (.long y), .second, L7, L8] [(.long (1 : Int64)), (.long u), (.int (own_tz y)), (.ref aR)])) _
    refine own_go (fun _ => XS.iloadN Xk4.here hx rfl (hb hby dLST_142) rfl) ?_
    show Run p.tables e below (Tk4.setTop (mkF m 143 #[.val (.ref t), .val (.int i), .val (.ref s3), .val (.long (x.toInt64)), .second, .val (.long y), .second, L7, L8] [(.int i), (.long (1 : Int64)), (.long u), (.int (own_tz y)), (.ref aR)])) _
    refine own_go (fun _ => XT.lshl Xk4.here hx rfl (hb hby dLST_143) rfl) ?_
    show Run p.tables e below (Tk4.setTop (mkF m 144 #[.val (.ref t), .val (.int i), .val (.ref s3), .val (.long (x.toInt64)), .second, .val (.long y), .second, L7, L8] [(.long ((1 : Int64) <<< ((i).toInt64 &&& 63))), (.long u), (.int (own_tz y)), (.ref aR)])) _
    refine own_go (fun _ => XT.lxor Xk4.here hx rfl (hb hby dLST_144) rfl) ?_
    show Run p.tables e below (Tk4.setTop (mkF m 145 #[.val (.ref t), .val (.int i), .val (.ref s3), .val (.long (x.toInt64)), .second, .val (.long y), .second, L7, L8] [(.long (u ^^^ ((1 : Int64) <<< ((i).toInt64 &&& 63)))), (.int (own_tz y)), (.ref aR)])) _
    obtain ⟨T1, h1, L1, X1, e1, W1, V1, N1, st1⟩ := own_stJ Xk4 hx hZ ek4 VR1 (j := own_tz y) ⟨k3, k4⟩ (own_tz y).toNatClampNeg rfl (by rw [hvR]; exact k5) N gR (g := (mkF m 145 #[.val (.ref t), .val (.int i), .val (.ref s3), .val (.long (x.toInt64)), .second, .val (.long y), .second, L7, L8] [(.long (u ^^^ ((1 : Int64) <<< ((i).toInt64 &&& 63)))), (.int (own_tz y)), (.ref aR)])) rfl rfl (hb hby dLST_145)
    have J1 := J.wrR W1 tR ⟨kR, _, by rw [List.length_set]; exact hvR, V1⟩
    have K1 := K.wr W1 (Or.inl (List.mem_cons_of_mem _ (List.mem_cons_of_mem _ (List.mem_cons_self ..))))
    refine own_go st1 ?_
    show Run p.tables e below (T1.setTop (mkF m 146 #[.val (.ref t), .val (.int i), .val (.ref s3), .val (.long (x.toInt64)), .second, .val (.long y), .second, L7, L8] [])) _
    refine own_go (fun _ => XT.lload X1.here hx rfl (hb hby dLST_146) rfl) ?_
    show Run p.tables e below (T1.setTop (mkF m 148 #[.val (.ref t), .val (.int i), .val (.ref s3), .val (.long (x.toInt64)), .second, .val (.long y), .second, L7, L8] [(.long y)])) _
    refine own_go (fun _ => XT.lload X1.here hx rfl (hb hby dLST_148) rfl) ?_
    show Run p.tables e below (T1.setTop (mkF m 150 #[.val (.ref t), .val (.int i), .val (.ref s3), .val (.long (x.toInt64)), .second, .val (.long y), .second, L7, L8] [(.long y), (.long y)])) _
    refine own_go (fun _ => XT.lconst X1.here hx rfl (hb hby dLST_150)) ?_
    show Run p.tables e below (T1.setTop (mkF m 151 #[.val (.ref t), .val (.int i), .val (.ref s3), .val (.long (x.toInt64)), .second, .val (.long y), .second, L7, L8] [(.long (1 : Int64)), (.long y), (.long y)])) _
    refine own_go (fun _ => XT.lsub X1.here hx rfl (hb hby dLST_151) rfl) ?_
    show Run p.tables e below (T1.setTop (mkF m 152 #[.val (.ref t), .val (.int i), .val (.ref s3), .val (.long (x.toInt64)), .second, .val (.long y), .second, L7, L8] [(.long (y - (1 : Int64))), (.long y)])) _
    refine own_go (fun _ => XT.land X1.here hx rfl (hb hby dLST_152) rfl) ?_
    show Run p.tables e below (T1.setTop (mkF m 153 #[.val (.ref t), .val (.int i), .val (.ref s3), .val (.long (x.toInt64)), .second, .val (.long y), .second, L7, L8] [(.long (y &&& (y - (1 : Int64))))])) _
    refine own_go (fun _ => XT.lstore X1.here hx rfl (hb hby dLST_153) rfl (l' := #[.val (.ref t), .val (.int i), .val (.ref s3), .val (.long (x.toInt64)), .second, .val (.long (y &&& (y - (1 : Int64)))), .second, L7, L8]) rfl) ?_
    show Run p.tables e below (T1.setTop (mkF m 155 #[.val (.ref t), .val (.int i), .val (.ref s3), .val (.long (x.toInt64)), .second, .val (.long (y &&& (y - (1 : Int64)))), .second, L7, L8] [])) _
    refine own_go (fun _ => XS.goto X1.here hx rfl (pc0 := 155) (pc' := 123) rfl (hb hby dLST_155) (by decide) (by decide)) ?_
    show Run p.tables e below (T1.setTop (mkF m 123 #[.val (.ref t), .val (.int i), .val (.ref s3), .val (.long (x.toInt64)), .second, .val (.long (y &&& (y - (1 : Int64)))), .second, L7, L8] [])) _
    exact next _ _ _ X1 e1 N1 K1 J1
  have lp0 : ∀ (L7 L8 : Slot) (T : State) (h : Heap) (L : List Loc) (X : Stand p l e own_Rlst s m #[(.ref t), (.int i), (.ref s3)] below meth c T L 0 0) (eT : T.heap = h) (N : Fr n0 L) (K : Keep h0 h [al, aL, aR]) (J : own_Nt Z h t b al aL aR F), Run p.tables e below (T.setTop (mkF m 123 #[.val (.ref t), .val (.int i), .val (.ref s3), .val (.long (x.toInt64)), .second, .val (.long (0 : Int64)), .second, L7, L8] [])) (OwnFin s below (own_QL Z t b al aL aR (own_upd F i x.toInt64) h0 n0) own_Rlst.cells own_Rlst.slots) := by
    intro L7 L8 T h L X eT N K J
    show Run p.tables e below (T.setTop (mkF m 123 #[.val (.ref t), .val (.int i), .val (.ref s3), .val (.long (x.toInt64)), .second, .val (.long (0 : Int64)), .second, L7, L8] [])) _
    refine own_go (fun _ => XT.lload X.here hx rfl (hb hby dLST_123) rfl) ?_
    show Run p.tables e below (T.setTop (mkF m 125 #[.val (.ref t), .val (.int i), .val (.ref s3), .val (.long (x.toInt64)), .second, .val (.long (0 : Int64)), .second, L7, L8] [(.long (0 : Int64))])) _
    refine own_go (fun _ => XT.lconst X.here hx rfl (hb hby dLST_125)) ?_
    show Run p.tables e below (T.setTop (mkF m 126 #[.val (.ref t), .val (.int i), .val (.ref s3), .val (.long (x.toInt64)), .second, .val (.long (0 : Int64)), .second, L7, L8] [(.long (0 : Int64)), (.long (0 : Int64))])) _
    refine own_go (fun _ => XT.lcmp X.here hx rfl (hb hby dLST_126) rfl) ?_
    show Run p.tables e below (T.setTop (mkF m 127 #[.val (.ref t), .val (.int i), .val (.ref s3), .val (.long (x.toInt64)), .second, .val (.long (0 : Int64)), .second, L7, L8] [(.int (XT.cmpL (0 : Int64) (0 : Int64)))])) _
    refine own_go (fun _ => XS.ifYes X.here hx rfl (pc0 := 127) (pc' := 158) rfl (hb hby dLST_127) rfl (XT.i0_eq_t (own_cmp rfl)) (by decide) (by decide)) ?_
    show Run p.tables e below (T.setTop (mkF m 158 #[.val (.ref t), .val (.int i), .val (.ref s3), .val (.long (x.toInt64)), .second, .val (.long (0 : Int64)), .second, L7, L8] [])) _
    exact JE L7 L8 0 T h L X eT N K J
  have lp1 : ∀ (L7 L8 : Slot) (T : State) (h : Heap) (L : List Loc) (X : Stand p l e own_Rlst s m #[(.ref t), (.int i), (.ref s3)] below meth c T L 0 0) (eT : T.heap = h) (N : Fr n0 L) (K : Keep h0 h [al, aL, aR]) (J : own_Nt Z h t b al aL aR F), Run p.tables e below (T.setTop (mkF m 123 #[.val (.ref t), .val (.int i), .val (.ref s3), .val (.long (x.toInt64)), .second, .val (.long (1 : Int64)), .second, L7, L8] [])) (OwnFin s below (own_QL Z t b al aL aR (own_upd F i x.toInt64) h0 n0) own_Rlst.cells own_Rlst.slots) := fun L7 L8 => turn L7 L8 1 own_tz1 (lp0 L7 L8)
  have lp2 : ∀ (L7 L8 : Slot) (T : State) (h : Heap) (L : List Loc) (X : Stand p l e own_Rlst s m #[(.ref t), (.int i), (.ref s3)] below meth c T L 0 0) (eT : T.heap = h) (N : Fr n0 L) (K : Keep h0 h [al, aL, aR]) (J : own_Nt Z h t b al aL aR F), Run p.tables e below (T.setTop (mkF m 123 #[.val (.ref t), .val (.int i), .val (.ref s3), .val (.long (x.toInt64)), .second, .val (.long (2 : Int64)), .second, L7, L8] [])) (OwnFin s below (own_QL Z t b al aL aR (own_upd F i x.toInt64) h0 n0) own_Rlst.cells own_Rlst.slots) := fun L7 L8 => turn L7 L8 2 own_tz2 (lp0 L7 L8)
  have lp3 : ∀ (L7 L8 : Slot) (T : State) (h : Heap) (L : List Loc) (X : Stand p l e own_Rlst s m #[(.ref t), (.int i), (.ref s3)] below meth c T L 0 0) (eT : T.heap = h) (N : Fr n0 L) (K : Keep h0 h [al, aL, aR]) (J : own_Nt Z h t b al aL aR F), Run p.tables e below (T.setTop (mkF m 123 #[.val (.ref t), .val (.int i), .val (.ref s3), .val (.long (x.toInt64)), .second, .val (.long (3 : Int64)), .second, L7, L8] [])) (OwnFin s below (own_QL Z t b al aL aR (own_upd F i x.toInt64) h0 n0) own_Rlst.cells own_Rlst.slots) := fun L7 L8 => turn L7 L8 3 own_tz3 (lp2 L7 L8)
  have lp4 : ∀ (L7 L8 : Slot) (T : State) (h : Heap) (L : List Loc) (X : Stand p l e own_Rlst s m #[(.ref t), (.int i), (.ref s3)] below meth c T L 0 0) (eT : T.heap = h) (N : Fr n0 L) (K : Keep h0 h [al, aL, aR]) (J : own_Nt Z h t b al aL aR F), Run p.tables e below (T.setTop (mkF m 123 #[.val (.ref t), .val (.int i), .val (.ref s3), .val (.long (x.toInt64)), .second, .val (.long (4 : Int64)), .second, L7, L8] [])) (OwnFin s below (own_QL Z t b al aL aR (own_upd F i x.toInt64) h0 n0) own_Rlst.cells own_Rlst.slots) := fun L7 L8 => turn L7 L8 4 own_tz4 (lp0 L7 L8)
  have lp5 : ∀ (L7 L8 : Slot) (T : State) (h : Heap) (L : List Loc) (X : Stand p l e own_Rlst s m #[(.ref t), (.int i), (.ref s3)] below meth c T L 0 0) (eT : T.heap = h) (N : Fr n0 L) (K : Keep h0 h [al, aL, aR]) (J : own_Nt Z h t b al aL aR F), Run p.tables e below (T.setTop (mkF m 123 #[.val (.ref t), .val (.int i), .val (.ref s3), .val (.long (x.toInt64)), .second, .val (.long (5 : Int64)), .second, L7, L8] [])) (OwnFin s below (own_QL Z t b al aL aR (own_upd F i x.toInt64) h0 n0) own_Rlst.cells own_Rlst.slots) := fun L7 L8 => turn L7 L8 5 own_tz5 (lp4 L7 L8)
  have lp6 : ∀ (L7 L8 : Slot) (T : State) (h : Heap) (L : List Loc) (X : Stand p l e own_Rlst s m #[(.ref t), (.int i), (.ref s3)] below meth c T L 0 0) (eT : T.heap = h) (N : Fr n0 L) (K : Keep h0 h [al, aL, aR]) (J : own_Nt Z h t b al aL aR F), Run p.tables e below (T.setTop (mkF m 123 #[.val (.ref t), .val (.int i), .val (.ref s3), .val (.long (x.toInt64)), .second, .val (.long (6 : Int64)), .second, L7, L8] [])) (OwnFin s below (own_QL Z t b al aL aR (own_upd F i x.toInt64) h0 n0) own_Rlst.cells own_Rlst.slots) := fun L7 L8 => turn L7 L8 6 own_tz6 (lp4 L7 L8)
  have lp7 : ∀ (L7 L8 : Slot) (T : State) (h : Heap) (L : List Loc) (X : Stand p l e own_Rlst s m #[(.ref t), (.int i), (.ref s3)] below meth c T L 0 0) (eT : T.heap = h) (N : Fr n0 L) (K : Keep h0 h [al, aL, aR]) (J : own_Nt Z h t b al aL aR F), Run p.tables e below (T.setTop (mkF m 123 #[.val (.ref t), .val (.int i), .val (.ref s3), .val (.long (x.toInt64)), .second, .val (.long (7 : Int64)), .second, L7, L8] [])) (OwnFin s below (own_QL Z t b al aL aR (own_upd F i x.toInt64) h0 n0) own_Rlst.cells own_Rlst.slots) := fun L7 L8 => turn L7 L8 7 own_tz7 (lp6 L7 L8)
  have lp : ∀ (y : Int64), own_07L y → ∀ (L7 L8 : Slot) (T : State) (h : Heap) (L : List Loc) (X : Stand p l e own_Rlst s m #[(.ref t), (.int i), (.ref s3)] below meth c T L 0 0) (eT : T.heap = h) (N : Fr n0 L) (K : Keep h0 h [al, aL, aR]) (J : own_Nt Z h t b al aL aR F), Run p.tables e below (T.setTop (mkF m 123 #[.val (.ref t), .val (.int i), .val (.ref s3), .val (.long (x.toInt64)), .second, .val (.long y), .second, L7, L8] [])) (OwnFin s below (own_QL Z t b al aL aR (own_upd F i x.toInt64) h0 n0) own_Rlst.cells own_Rlst.slots) := fun y hy => by
    rcases hy with rfl | rfl | rfl | rfl | rfl | rfl | rfl | rfl
    · exact lp0
    · exact lp1
    · exact lp2
    · exact lp3
    · exact lp4
    · exact lp5
    · exact lp6
    · exact lp7
  have JB : ∀ (c6 : Int32) (L7 L8 : Slot) (T : State) (X : Stand p l e own_Rlst s m #[(.ref t), (.int i), (.ref s3)] below meth c T [] 0 0) (eT : T.heap = h0), Run p.tables e below (T.setTop (mkF m 113 #[.val (.ref t), .val (.int i), .val (.ref s3), .val (.long (x.toInt64)), .second, .val (.ref s3), .val (.int c6), L7, L8] [])) (OwnFin s below (own_QL Z t b al aL aR (own_upd F i x.toInt64) h0 n0) own_Rlst.cells own_Rlst.slots) := by
    intro c6 L7 L8 T X eT
    show Run p.tables e below (T.setTop (mkF m 113 #[.val (.ref t), .val (.int i), .val (.ref s3), .val (.long (x.toInt64)), .second, .val (.ref s3), .val (.int c6), L7, L8] [])) _
    refine own_go (fun _ => XT.lloadN X.here hx rfl (hb hby dLST_113) rfl) ?_
    show Run p.tables e below (T.setTop (mkF m 114 #[.val (.ref t), .val (.int i), .val (.ref s3), .val (.long (x.toInt64)), .second, .val (.ref s3), .val (.int c6), L7, L8] [(.long (x.toInt64))])) _
    refine own_go (fun _ => XS.aloadN X.here hx rfl (hb hby dLST_114) rfl rfl) ?_
    show Run p.tables e below (T.setTop (mkF m 115 #[.val (.ref t), .val (.int i), .val (.ref s3), .val (.long (x.toInt64)), .second, .val (.ref s3), .val (.int c6), L7, L8] [(.ref t), (.long (x.toInt64))])) _
    obtain ⟨Tk5, Xk5, ek5, stk5⟩ := getF X hx hZ hown (host := "") (Or.inl (hw _ (List.mem_of_getElem? (i := 33) rfl))) Via.refl eT FL (g := (mkF m 115 #[.val (.ref t), .val (.int i), .val (.ref s3), .val (.long (x.toInt64)), .second, .val (.ref s3), .val (.int c6), L7, L8] [(.ref t), (.long (x.toInt64))])) rfl rfl (hb hby dLST_115)
    refine own_go stk5 ?_
    show Run p.tables e below (Tk5.setTop (mkF m 118 #[.val (.ref t), .val (.int i), .val (.ref s3), .val (.long (x.toInt64)), .second, .val (.ref s3), .val (.int c6), L7, L8] [(.ref aL), (.long (x.toInt64))])) _
    refine own_go (fun _ => XS.iloadN Xk5.here hx rfl (hb hby dLST_118) rfl) ?_
    show Run p.tables e below (Tk5.setTop (mkF m 119 #[.val (.ref t), .val (.int i), .val (.ref s3), .val (.long (x.toInt64)), .second, .val (.ref s3), .val (.int c6), L7, L8] [(.int i), (.ref aL), (.long (x.toInt64))])) _
    obtain ⟨kL, VL2⟩ := VL
    refine own_go (fun _ => own_laload Xk5 hx hZ ek5 VL2 (j := i) ⟨i1, i2⟩ (v := .long (F i)) (by rcases hi with rfl | rfl | rfl <;> rfl) (g := (mkF m 119 #[.val (.ref t), .val (.int i), .val (.ref s3), .val (.long (x.toInt64)), .second, .val (.ref s3), .val (.int c6), L7, L8] [(.int i), (.ref aL), (.long (x.toInt64))])) rfl rfl (hb hby dLST_119) _) ?_
    show Run p.tables e below (Tk5.setTop (mkF m 120 #[.val (.ref t), .val (.int i), .val (.ref s3), .val (.long (x.toInt64)), .second, .val (.ref s3), .val (.int c6), L7, L8] [(.long (F i)), (.long (x.toInt64))])) _
    refine own_go (fun _ => XT.lxor Xk5.here hx rfl (hb hby dLST_120) rfl) ?_
    show Run p.tables e below (Tk5.setTop (mkF m 121 #[.val (.ref t), .val (.int i), .val (.ref s3), .val (.long (x.toInt64)), .second, .val (.ref s3), .val (.int c6), L7, L8] [(.long ((x.toInt64) ^^^ (F i)))])) _
    refine own_go (fun _ => XT.lstore Xk5.here hx rfl (hb hby dLST_121) rfl (l' := #[.val (.ref t), .val (.int i), .val (.ref s3), .val (.long (x.toInt64)), .second, .val (.long ((x.toInt64) ^^^ (F i))), .second, L7, L8]) rfl) ?_
    show Run p.tables e below (Tk5.setTop (mkF m 123 #[.val (.ref t), .val (.int i), .val (.ref s3), .val (.long (x.toInt64)), .second, .val (.long ((x.toInt64) ^^^ (F i))), .second, L7, L8] [])) _
    exact lp _ (own_xor (own_to hm7) hF) L7 L8 _ h0 [] Xk5 ek5 (Fr.nil n0) (Keep.refl h0 _) J0
  refine own_go (fun _ => XS.aloadN X0.here hx rfl (hb hby dLST_0) rfl rfl) ?_
  show Run p.tables e below (s₁.setTop (mkF m 1 #[.val (.ref t), .val (.int i), .val (.ref s3), .unset, .unset, .unset, .unset, .unset, .unset] [(.ref t)])) _
  obtain ⟨vk6, Tk6, Lk6, Xk6, ⟨rfl, ek6, rfl⟩, stk6⟩ := own_callV X0 hx hZ hown (hw _ (List.mem_of_getElem? (i := 77) rfl)) (hw _ (List.mem_of_getElem? (i := 79) rfl)) (hw _ (List.mem_of_getElem? (i := 80) rfl)) (hw _ (List.mem_of_getElem? (i := 81) rfl)) (hw _ (List.mem_of_getElem? (i := 8) rfl)) (by decide) e0 (rmNTS l Z a0 hw [] t b 3 h0 Fn Eb Fc) Et (g := (mkF m 1 #[.val (.ref t), .val (.int i), .val (.ref s3), .unset, .unset, .unset, .unset, .unset, .unset] [(.ref t)])) rfl (by rw [hml]; rfl) (argsL := []) (rest := []) own_pdh rfl rfl rfl (W := 0) (by show 2 * 0 + _ ≤ _; exact Nat.le_of_eq rfl) (hb hby dLST_1) (by decide) (by decide) (by decide) (by decide)
  replace Xk6 : Stand p l e own_Rlst s m #[(.ref t), (.int i), (.ref s3)] below meth c Tk6 [] 0 0 := Xk6
  refine own_go stk6 ?_
  show Run p.tables e below (Tk6.setTop (mkF m 4 #[.val (.ref t), .val (.int i), .val (.ref s3), .unset, .unset, .unset, .unset, .unset, .unset] [(.int (3 : Int32))])) _
  refine own_go (fun _ => XS.aloadN Xk6.here hx rfl (hb hby dLST_4) rfl rfl) ?_
  show Run p.tables e below (Tk6.setTop (mkF m 5 #[.val (.ref t), .val (.int i), .val (.ref s3), .unset, .unset, .unset, .unset, .unset, .unset] [(.ref t), (.int (3 : Int32))])) _
  obtain ⟨Tk7, Xk7, ek7, stk7⟩ := getF Xk6 hx hZ hown (host := "") (Or.inl (hw _ (List.mem_of_getElem? (i := 30) rfl))) Via.refl ek6 Fl (g := (mkF m 5 #[.val (.ref t), .val (.int i), .val (.ref s3), .unset, .unset, .unset, .unset, .unset, .unset] [(.ref t), (.int (3 : Int32))])) rfl rfl (hb hby dLST_5)
  refine own_go stk7 ?_
  show Run p.tables e below (Tk7.setTop (mkF m 8 #[.val (.ref t), .val (.int i), .val (.ref s3), .unset, .unset, .unset, .unset, .unset, .unset] [(.ref al), (.int (3 : Int32))])) _
  obtain ⟨kl0, vl0, hvl0, Ol0, Vl0⟩ := id Vl
  refine own_go (fun _ => own_alen Xk7 hx hZ ek7 Vl0 (g := (mkF m 8 #[.val (.ref t), .val (.int i), .val (.ref s3), .unset, .unset, .unset, .unset, .unset, .unset] [(.ref al), (.int (3 : Int32))])) rfl rfl (hb hby dLST_8) _) ?_
  show Run p.tables e below (Tk7.setTop (mkF m 9 #[.val (.ref t), .val (.int i), .val (.ref s3), .unset, .unset, .unset, .unset, .unset, .unset] [(.int (8 : Int32)), (.int (3 : Int32))])) _
  refine own_go (fun _ => XS.icmpYes Xk7.here hx rfl (pc0 := 9) (pc' := 66) rfl (hb hby dLST_9) rfl (XT.ii_le_t (by decide)) (by decide) (by decide)) ?_
  show Run p.tables e below (Tk7.setTop (mkF m 66 #[.val (.ref t), .val (.int i), .val (.ref s3), .unset, .unset, .unset, .unset, .unset, .unset] [])) _
  refine own_go (fun _ => XS.aloadN Xk7.here hx rfl (hb hby dLST_66) rfl rfl) ?_
  show Run p.tables e below (Tk7.setTop (mkF m 67 #[.val (.ref t), .val (.int i), .val (.ref s3), .unset, .unset, .unset, .unset, .unset, .unset] [(.ref t)])) _
  obtain ⟨vk8, Tk8, Lk8, Xk8, ⟨rfl, ek8, rfl⟩, stk8⟩ := own_callV Xk7 hx hZ hown (hw _ (List.mem_of_getElem? (i := 87) rfl)) (hw _ (List.mem_of_getElem? (i := 89) rfl)) (hw _ (List.mem_of_getElem? (i := 90) rfl)) (hw _ (List.mem_of_getElem? (i := 91) rfl)) (hw _ (List.mem_of_getElem? (i := 8) rfl)) (by decide) ek7 (rmHAS l Z a0 hw [] t b 3 h0 Fn Eb Fc (by decide)) Et (g := (mkF m 67 #[.val (.ref t), .val (.int i), .val (.ref s3), .unset, .unset, .unset, .unset, .unset, .unset] [(.ref t)])) rfl (by rw [hml]; rfl) (argsL := []) (rest := []) own_pdi rfl rfl rfl (W := 0) (by show 2 * 0 + _ ≤ _; exact Nat.le_of_eq rfl) (hb hby dLST_67) (by decide) (by decide) (by decide) (by decide)
  replace Xk8 : Stand p l e own_Rlst s m #[(.ref t), (.int i), (.ref s3)] below meth c Tk8 [] 0 0 := Xk8
  refine own_go stk8 ?_
  show Run p.tables e below (Tk8.setTop (mkF m 70 #[.val (.ref t), .val (.int i), .val (.ref s3), .unset, .unset, .unset, .unset, .unset, .unset] [(.int (1 : Int32))])) _
  refine own_go (fun _ => XS.ifNo Xk8.here hx rfl (hb hby dLST_70) rfl (XT.i0_eq_f (by decide))) ?_
  show Run p.tables e below (Tk8.setTop (mkF m 73 #[.val (.ref t), .val (.int i), .val (.ref s3), .unset, .unset, .unset, .unset, .unset, .unset] [])) _
  refine own_go (fun _ => XT.lconst Xk8.here hx rfl (hb hby dLST_73)) ?_
  show Run p.tables e below (Tk8.setTop (mkF m 74 #[.val (.ref t), .val (.int i), .val (.ref s3), .unset, .unset, .unset, .unset, .unset, .unset] [(.long (0 : Int64))])) _
  refine own_go (fun _ => XT.lstoreN Xk8.here hx rfl (hb hby dLST_74) rfl (l' := #[.val (.ref t), .val (.int i), .val (.ref s3), .val (.long (0 : Int64)), .second, .unset, .unset, .unset, .unset]) rfl) ?_
  show Run p.tables e below (Tk8.setTop (mkF m 75 #[.val (.ref t), .val (.int i), .val (.ref s3), .val (.long (0 : Int64)), .second, .unset, .unset, .unset, .unset] [])) _
  rcases hm7 with rfl | rfl | rfl | rfl | rfl | rfl | rfl | rfl
  · rw [own_cnt0, own_arr0] at Vs
    show Run p.tables e below (Tk8.setTop (mkF m 75 #[.val (.ref t), .val (.int i), .val (.ref s3), .val (.long (0 : Int64)), .second, .unset, .unset, .unset, .unset] [])) _
    refine own_go (fun _ => XS.aloadN Xk8.here hx rfl (hb hby dLST_75) rfl rfl) ?_
    show Run p.tables e below (Tk8.setTop (mkF m 76 #[.val (.ref t), .val (.int i), .val (.ref s3), .val (.long (0 : Int64)), .second, .unset, .unset, .unset, .unset] [(.ref s3)])) _
    refine own_go (fun _ => XS.astore Xk8.here hx rfl (hb hby dLST_76) rfl rfl (l' := #[.val (.ref t), .val (.int i), .val (.ref s3), .val (.long (0 : Int64)), .second, .val (.ref s3), .unset, .unset, .unset]) rfl) ?_
    show Run p.tables e below (Tk8.setTop (mkF m 78 #[.val (.ref t), .val (.int i), .val (.ref s3), .val (.long (0 : Int64)), .second, .val (.ref s3), .unset, .unset, .unset] [])) _
    refine own_go (fun _ => XS.aload Xk8.here hx rfl (hb hby dLST_78) rfl rfl) ?_
    show Run p.tables e below (Tk8.setTop (mkF m 80 #[.val (.ref t), .val (.int i), .val (.ref s3), .val (.long (0 : Int64)), .second, .val (.ref s3), .unset, .unset, .unset] [(.ref s3)])) _
    refine own_go (fun _ => own_alen Xk8 hx hZ ek8 Vs (g := (mkF m 80 #[.val (.ref t), .val (.int i), .val (.ref s3), .val (.long (0 : Int64)), .second, .val (.ref s3), .unset, .unset, .unset] [(.ref s3)])) rfl rfl (hb hby dLST_80) _) ?_
    show Run p.tables e below (Tk8.setTop (mkF m 81 #[.val (.ref t), .val (.int i), .val (.ref s3), .val (.long (0 : Int64)), .second, .val (.ref s3), .unset, .unset, .unset] [(.int (0 : Int32))])) _
    refine own_go (fun _ => XS.istore Xk8.here hx rfl (hb hby dLST_81) rfl (l' := #[.val (.ref t), .val (.int i), .val (.ref s3), .val (.long (0 : Int64)), .second, .val (.ref s3), .val (.int (0 : Int32)), .unset, .unset]) rfl) ?_
    show Run p.tables e below (Tk8.setTop (mkF m 83 #[.val (.ref t), .val (.int i), .val (.ref s3), .val (.long (0 : Int64)), .second, .val (.ref s3), .val (.int (0 : Int32)), .unset, .unset] [])) _
    refine own_go (fun _ => XS.iconst Xk8.here hx rfl (hb hby dLST_83)) ?_
    show Run p.tables e below (Tk8.setTop (mkF m 84 #[.val (.ref t), .val (.int i), .val (.ref s3), .val (.long (0 : Int64)), .second, .val (.ref s3), .val (.int (0 : Int32)), .unset, .unset] [(.int (0 : Int32))])) _
    refine own_go (fun _ => XS.istore Xk8.here hx rfl (hb hby dLST_84) rfl (l' := #[.val (.ref t), .val (.int i), .val (.ref s3), .val (.long (0 : Int64)), .second, .val (.ref s3), .val (.int (0 : Int32)), .val (.int (0 : Int32)), .unset]) rfl) ?_
    show Run p.tables e below (Tk8.setTop (mkF m 86 #[.val (.ref t), .val (.int i), .val (.ref s3), .val (.long (0 : Int64)), .second, .val (.ref s3), .val (.int (0 : Int32)), .val (.int (0 : Int32)), .unset] [])) _
    refine own_go (fun _ => XS.iload Xk8.here hx rfl (hb hby dLST_86) rfl) ?_
    show Run p.tables e below (Tk8.setTop (mkF m 88 #[.val (.ref t), .val (.int i), .val (.ref s3), .val (.long (0 : Int64)), .second, .val (.ref s3), .val (.int (0 : Int32)), .val (.int (0 : Int32)), .unset] [(.int (0 : Int32))])) _
    refine own_go (fun _ => XS.iload Xk8.here hx rfl (hb hby dLST_88) rfl) ?_
    show Run p.tables e below (Tk8.setTop (mkF m 90 #[.val (.ref t), .val (.int i), .val (.ref s3), .val (.long (0 : Int64)), .second, .val (.ref s3), .val (.int (0 : Int32)), .val (.int (0 : Int32)), .unset] [(.int (0 : Int32)), (.int (0 : Int32))])) _
    refine own_go (fun _ => XS.icmpYes Xk8.here hx rfl (pc0 := 90) (pc' := 113) rfl (hb hby dLST_90) rfl (XT.ii_ge_t (by decide)) (by decide) (by decide)) ?_
    show Run p.tables e below (Tk8.setTop (mkF m 113 #[.val (.ref t), .val (.int i), .val (.ref s3), .val (.long (0 : Int64)), .second, .val (.ref s3), .val (.int (0 : Int32)), .val (.int (0 : Int32)), .unset] [])) _
    exact JB _ _ _ _ Xk8 ek8
  · rw [own_cnt1, own_arr1] at Vs
    show Run p.tables e below (Tk8.setTop (mkF m 75 #[.val (.ref t), .val (.int i), .val (.ref s3), .val (.long (0 : Int64)), .second, .unset, .unset, .unset, .unset] [])) _
    refine own_go (fun _ => XS.aloadN Xk8.here hx rfl (hb hby dLST_75) rfl rfl) ?_
    show Run p.tables e below (Tk8.setTop (mkF m 76 #[.val (.ref t), .val (.int i), .val (.ref s3), .val (.long (0 : Int64)), .second, .unset, .unset, .unset, .unset] [(.ref s3)])) _
    refine own_go (fun _ => XS.astore Xk8.here hx rfl (hb hby dLST_76) rfl rfl (l' := #[.val (.ref t), .val (.int i), .val (.ref s3), .val (.long (0 : Int64)), .second, .val (.ref s3), .unset, .unset, .unset]) rfl) ?_
    show Run p.tables e below (Tk8.setTop (mkF m 78 #[.val (.ref t), .val (.int i), .val (.ref s3), .val (.long (0 : Int64)), .second, .val (.ref s3), .unset, .unset, .unset] [])) _
    refine own_go (fun _ => XS.aload Xk8.here hx rfl (hb hby dLST_78) rfl rfl) ?_
    show Run p.tables e below (Tk8.setTop (mkF m 80 #[.val (.ref t), .val (.int i), .val (.ref s3), .val (.long (0 : Int64)), .second, .val (.ref s3), .unset, .unset, .unset] [(.ref s3)])) _
    refine own_go (fun _ => own_alen Xk8 hx hZ ek8 Vs (g := (mkF m 80 #[.val (.ref t), .val (.int i), .val (.ref s3), .val (.long (0 : Int64)), .second, .val (.ref s3), .unset, .unset, .unset] [(.ref s3)])) rfl rfl (hb hby dLST_80) _) ?_
    show Run p.tables e below (Tk8.setTop (mkF m 81 #[.val (.ref t), .val (.int i), .val (.ref s3), .val (.long (0 : Int64)), .second, .val (.ref s3), .unset, .unset, .unset] [(.int (1 : Int32))])) _
    refine own_go (fun _ => XS.istore Xk8.here hx rfl (hb hby dLST_81) rfl (l' := #[.val (.ref t), .val (.int i), .val (.ref s3), .val (.long (0 : Int64)), .second, .val (.ref s3), .val (.int (1 : Int32)), .unset, .unset]) rfl) ?_
    show Run p.tables e below (Tk8.setTop (mkF m 83 #[.val (.ref t), .val (.int i), .val (.ref s3), .val (.long (0 : Int64)), .second, .val (.ref s3), .val (.int (1 : Int32)), .unset, .unset] [])) _
    refine own_go (fun _ => XS.iconst Xk8.here hx rfl (hb hby dLST_83)) ?_
    show Run p.tables e below (Tk8.setTop (mkF m 84 #[.val (.ref t), .val (.int i), .val (.ref s3), .val (.long (0 : Int64)), .second, .val (.ref s3), .val (.int (1 : Int32)), .unset, .unset] [(.int (0 : Int32))])) _
    refine own_go (fun _ => XS.istore Xk8.here hx rfl (hb hby dLST_84) rfl (l' := #[.val (.ref t), .val (.int i), .val (.ref s3), .val (.long (0 : Int64)), .second, .val (.ref s3), .val (.int (1 : Int32)), .val (.int (0 : Int32)), .unset]) rfl) ?_
    show Run p.tables e below (Tk8.setTop (mkF m 86 #[.val (.ref t), .val (.int i), .val (.ref s3), .val (.long (0 : Int64)), .second, .val (.ref s3), .val (.int (1 : Int32)), .val (.int (0 : Int32)), .unset] [])) _
    refine own_go (fun _ => XS.iload Xk8.here hx rfl (hb hby dLST_86) rfl) ?_
    show Run p.tables e below (Tk8.setTop (mkF m 88 #[.val (.ref t), .val (.int i), .val (.ref s3), .val (.long (0 : Int64)), .second, .val (.ref s3), .val (.int (1 : Int32)), .val (.int (0 : Int32)), .unset] [(.int (0 : Int32))])) _
    refine own_go (fun _ => XS.iload Xk8.here hx rfl (hb hby dLST_88) rfl) ?_
    show Run p.tables e below (Tk8.setTop (mkF m 90 #[.val (.ref t), .val (.int i), .val (.ref s3), .val (.long (0 : Int64)), .second, .val (.ref s3), .val (.int (1 : Int32)), .val (.int (0 : Int32)), .unset] [(.int (1 : Int32)), (.int (0 : Int32))])) _
    refine own_go (fun _ => XS.icmpNo Xk8.here hx rfl (hb hby dLST_90) rfl (XT.ii_ge_f (by decide))) ?_
    show Run p.tables e below (Tk8.setTop (mkF m 93 #[.val (.ref t), .val (.int i), .val (.ref s3), .val (.long (0 : Int64)), .second, .val (.ref s3), .val (.int (1 : Int32)), .val (.int (0 : Int32)), .unset] [])) _
    refine own_go (fun _ => XS.aload Xk8.here hx rfl (hb hby dLST_93) rfl rfl) ?_
    show Run p.tables e below (Tk8.setTop (mkF m 95 #[.val (.ref t), .val (.int i), .val (.ref s3), .val (.long (0 : Int64)), .second, .val (.ref s3), .val (.int (1 : Int32)), .val (.int (0 : Int32)), .unset] [(.ref s3)])) _
    refine own_go (fun _ => XS.iload Xk8.here hx rfl (hb hby dLST_95) rfl) ?_
    show Run p.tables e below (Tk8.setTop (mkF m 97 #[.val (.ref t), .val (.int i), .val (.ref s3), .val (.long (0 : Int64)), .second, .val (.ref s3), .val (.int (1 : Int32)), .val (.int (0 : Int32)), .unset] [(.int (0 : Int32)), (.ref s3)])) _
    refine own_go (fun _ => own_iaload Xk8 hx hZ ek8 Vs (j := (0 : Int32)) ⟨by decide, by decide⟩ (v := .int 0) rfl (g := (mkF m 97 #[.val (.ref t), .val (.int i), .val (.ref s3), .val (.long (0 : Int64)), .second, .val (.ref s3), .val (.int (1 : Int32)), .val (.int (0 : Int32)), .unset] [(.int (0 : Int32)), (.ref s3)])) rfl rfl (hb hby dLST_97) _) ?_
    show Run p.tables e below (Tk8.setTop (mkF m 98 #[.val (.ref t), .val (.int i), .val (.ref s3), .val (.long (0 : Int64)), .second, .val (.ref s3), .val (.int (1 : Int32)), .val (.int (0 : Int32)), .unset] [(.int (0 : Int32))])) _
    refine own_go (fun _ => XS.istore Xk8.here hx rfl (hb hby dLST_98) rfl (l' := #[.val (.ref t), .val (.int i), .val (.ref s3), .val (.long (0 : Int64)), .second, .val (.ref s3), .val (.int (1 : Int32)), .val (.int (0 : Int32)), .val (.int (0 : Int32))]) rfl) ?_
    show Run p.tables e below (Tk8.setTop (mkF m 100 #[.val (.ref t), .val (.int i), .val (.ref s3), .val (.long (0 : Int64)), .second, .val (.ref s3), .val (.int (1 : Int32)), .val (.int (0 : Int32)), .val (.int (0 : Int32))] [])) _
    refine own_go (fun _ => XT.lloadN Xk8.here hx rfl (hb hby dLST_100) rfl) ?_
    show Run p.tables e below (Tk8.setTop (mkF m 101 #[.val (.ref t), .val (.int i), .val (.ref s3), .val (.long (0 : Int64)), .second, .val (.ref s3), .val (.int (1 : Int32)), .val (.int (0 : Int32)), .val (.int (0 : Int32))] [(.long (0 : Int64))])) _
    refine own_go (fun _ => XT.lconst Xk8.here hx rfl (hb hby dLST_101)) ?_
    show Run p.tables e below (Tk8.setTop (mkF m 102 #[.val (.ref t), .val (.int i), .val (.ref s3), .val (.long (0 : Int64)), .second, .val (.ref s3), .val (.int (1 : Int32)), .val (.int (0 : Int32)), .val (.int (0 : Int32))] [(.long (1 : Int64)), (.long (0 : Int64))])) _
    refine own_go (fun _ => XS.iload Xk8.here hx rfl (hb hby dLST_102) rfl) ?_
    show Run p.tables e below (Tk8.setTop (mkF m 104 #[.val (.ref t), .val (.int i), .val (.ref s3), .val (.long (0 : Int64)), .second, .val (.ref s3), .val (.int (1 : Int32)), .val (.int (0 : Int32)), .val (.int (0 : Int32))] [(.int (0 : Int32)), (.long (1 : Int64)), (.long (0 : Int64))])) _
    refine own_go (fun _ => XT.lshl Xk8.here hx rfl (hb hby dLST_104) rfl) ?_
    show Run p.tables e below (Tk8.setTop (mkF m 105 #[.val (.ref t), .val (.int i), .val (.ref s3), .val (.long (0 : Int64)), .second, .val (.ref s3), .val (.int (1 : Int32)), .val (.int (0 : Int32)), .val (.int (0 : Int32))] [(.long ((1 : Int64) <<< (((0 : Int32)).toInt64 &&& 63))), (.long (0 : Int64))])) _
    refine own_go (fun _ => XT.lor Xk8.here hx rfl (hb hby dLST_105) rfl) ?_
    show Run p.tables e below (Tk8.setTop (mkF m 106 #[.val (.ref t), .val (.int i), .val (.ref s3), .val (.long (0 : Int64)), .second, .val (.ref s3), .val (.int (1 : Int32)), .val (.int (0 : Int32)), .val (.int (0 : Int32))] [(.long ((0 : Int64) ||| ((1 : Int64) <<< (((0 : Int32)).toInt64 &&& 63))))])) _
    refine own_go (fun _ => XT.lstoreN Xk8.here hx rfl (hb hby dLST_106) rfl (l' := #[.val (.ref t), .val (.int i), .val (.ref s3), .val (.long ((0 : Int64) ||| ((1 : Int64) <<< (((0 : Int32)).toInt64 &&& 63)))), .second, .val (.ref s3), .val (.int (1 : Int32)), .val (.int (0 : Int32)), .val (.int (0 : Int32))]) rfl) ?_
    show Run p.tables e below (Tk8.setTop (mkF m 107 #[.val (.ref t), .val (.int i), .val (.ref s3), .val (.long ((0 : Int64) ||| ((1 : Int64) <<< (((0 : Int32)).toInt64 &&& 63)))), .second, .val (.ref s3), .val (.int (1 : Int32)), .val (.int (0 : Int32)), .val (.int (0 : Int32))] [])) _
    refine own_go (fun _ => XS.iinc Xk8.here hx rfl (hb hby dLST_107) rfl (l' := #[.val (.ref t), .val (.int i), .val (.ref s3), .val (.long ((0 : Int64) ||| ((1 : Int64) <<< (((0 : Int32)).toInt64 &&& 63)))), .second, .val (.ref s3), .val (.int (1 : Int32)), .val (.int (1 : Int32)), .val (.int (0 : Int32))]) rfl) ?_
    show Run p.tables e below (Tk8.setTop (mkF m 110 #[.val (.ref t), .val (.int i), .val (.ref s3), .val (.long ((0 : Int64) ||| ((1 : Int64) <<< (((0 : Int32)).toInt64 &&& 63)))), .second, .val (.ref s3), .val (.int (1 : Int32)), .val (.int (1 : Int32)), .val (.int (0 : Int32))] [])) _
    refine own_go (fun _ => XS.goto Xk8.here hx rfl (pc0 := 110) (pc' := 86) rfl (hb hby dLST_110) (by decide) (by decide)) ?_
    show Run p.tables e below (Tk8.setTop (mkF m 86 #[.val (.ref t), .val (.int i), .val (.ref s3), .val (.long ((0 : Int64) ||| ((1 : Int64) <<< (((0 : Int32)).toInt64 &&& 63)))), .second, .val (.ref s3), .val (.int (1 : Int32)), .val (.int (1 : Int32)), .val (.int (0 : Int32))] [])) _
    refine own_go (fun _ => XS.iload Xk8.here hx rfl (hb hby dLST_86) rfl) ?_
    show Run p.tables e below (Tk8.setTop (mkF m 88 #[.val (.ref t), .val (.int i), .val (.ref s3), .val (.long ((0 : Int64) ||| ((1 : Int64) <<< (((0 : Int32)).toInt64 &&& 63)))), .second, .val (.ref s3), .val (.int (1 : Int32)), .val (.int (1 : Int32)), .val (.int (0 : Int32))] [(.int (1 : Int32))])) _
    refine own_go (fun _ => XS.iload Xk8.here hx rfl (hb hby dLST_88) rfl) ?_
    show Run p.tables e below (Tk8.setTop (mkF m 90 #[.val (.ref t), .val (.int i), .val (.ref s3), .val (.long ((0 : Int64) ||| ((1 : Int64) <<< (((0 : Int32)).toInt64 &&& 63)))), .second, .val (.ref s3), .val (.int (1 : Int32)), .val (.int (1 : Int32)), .val (.int (0 : Int32))] [(.int (1 : Int32)), (.int (1 : Int32))])) _
    refine own_go (fun _ => XS.icmpYes Xk8.here hx rfl (pc0 := 90) (pc' := 113) rfl (hb hby dLST_90) rfl (XT.ii_ge_t (by decide)) (by decide) (by decide)) ?_
    show Run p.tables e below (Tk8.setTop (mkF m 113 #[.val (.ref t), .val (.int i), .val (.ref s3), .val (.long ((0 : Int64) ||| ((1 : Int64) <<< (((0 : Int32)).toInt64 &&& 63)))), .second, .val (.ref s3), .val (.int (1 : Int32)), .val (.int (1 : Int32)), .val (.int (0 : Int32))] [])) _
    rw [show ((0 : Int64) ||| ((1 : Int64) <<< (((0 : Int32)).toInt64 &&& 63))) = (1 : Int32).toInt64 from by decide +kernel]
    exact JB _ _ _ _ Xk8 ek8
  · rw [own_cnt2, own_arr2] at Vs
    show Run p.tables e below (Tk8.setTop (mkF m 75 #[.val (.ref t), .val (.int i), .val (.ref s3), .val (.long (0 : Int64)), .second, .unset, .unset, .unset, .unset] [])) _
    refine own_go (fun _ => XS.aloadN Xk8.here hx rfl (hb hby dLST_75) rfl rfl) ?_
    show Run p.tables e below (Tk8.setTop (mkF m 76 #[.val (.ref t), .val (.int i), .val (.ref s3), .val (.long (0 : Int64)), .second, .unset, .unset, .unset, .unset] [(.ref s3)])) _
    refine own_go (fun _ => XS.astore Xk8.here hx rfl (hb hby dLST_76) rfl rfl (l' := #[.val (.ref t), .val (.int i), .val (.ref s3), .val (.long (0 : Int64)), .second, .val (.ref s3), .unset, .unset, .unset]) rfl) ?_
    show Run p.tables e below (Tk8.setTop (mkF m 78 #[.val (.ref t), .val (.int i), .val (.ref s3), .val (.long (0 : Int64)), .second, .val (.ref s3), .unset, .unset, .unset] [])) _
    refine own_go (fun _ => XS.aload Xk8.here hx rfl (hb hby dLST_78) rfl rfl) ?_
    show Run p.tables e below (Tk8.setTop (mkF m 80 #[.val (.ref t), .val (.int i), .val (.ref s3), .val (.long (0 : Int64)), .second, .val (.ref s3), .unset, .unset, .unset] [(.ref s3)])) _
    refine own_go (fun _ => own_alen Xk8 hx hZ ek8 Vs (g := (mkF m 80 #[.val (.ref t), .val (.int i), .val (.ref s3), .val (.long (0 : Int64)), .second, .val (.ref s3), .unset, .unset, .unset] [(.ref s3)])) rfl rfl (hb hby dLST_80) _) ?_
    show Run p.tables e below (Tk8.setTop (mkF m 81 #[.val (.ref t), .val (.int i), .val (.ref s3), .val (.long (0 : Int64)), .second, .val (.ref s3), .unset, .unset, .unset] [(.int (1 : Int32))])) _
    refine own_go (fun _ => XS.istore Xk8.here hx rfl (hb hby dLST_81) rfl (l' := #[.val (.ref t), .val (.int i), .val (.ref s3), .val (.long (0 : Int64)), .second, .val (.ref s3), .val (.int (1 : Int32)), .unset, .unset]) rfl) ?_
    show Run p.tables e below (Tk8.setTop (mkF m 83 #[.val (.ref t), .val (.int i), .val (.ref s3), .val (.long (0 : Int64)), .second, .val (.ref s3), .val (.int (1 : Int32)), .unset, .unset] [])) _
    refine own_go (fun _ => XS.iconst Xk8.here hx rfl (hb hby dLST_83)) ?_
    show Run p.tables e below (Tk8.setTop (mkF m 84 #[.val (.ref t), .val (.int i), .val (.ref s3), .val (.long (0 : Int64)), .second, .val (.ref s3), .val (.int (1 : Int32)), .unset, .unset] [(.int (0 : Int32))])) _
    refine own_go (fun _ => XS.istore Xk8.here hx rfl (hb hby dLST_84) rfl (l' := #[.val (.ref t), .val (.int i), .val (.ref s3), .val (.long (0 : Int64)), .second, .val (.ref s3), .val (.int (1 : Int32)), .val (.int (0 : Int32)), .unset]) rfl) ?_
    show Run p.tables e below (Tk8.setTop (mkF m 86 #[.val (.ref t), .val (.int i), .val (.ref s3), .val (.long (0 : Int64)), .second, .val (.ref s3), .val (.int (1 : Int32)), .val (.int (0 : Int32)), .unset] [])) _
    refine own_go (fun _ => XS.iload Xk8.here hx rfl (hb hby dLST_86) rfl) ?_
    show Run p.tables e below (Tk8.setTop (mkF m 88 #[.val (.ref t), .val (.int i), .val (.ref s3), .val (.long (0 : Int64)), .second, .val (.ref s3), .val (.int (1 : Int32)), .val (.int (0 : Int32)), .unset] [(.int (0 : Int32))])) _
    refine own_go (fun _ => XS.iload Xk8.here hx rfl (hb hby dLST_88) rfl) ?_
    show Run p.tables e below (Tk8.setTop (mkF m 90 #[.val (.ref t), .val (.int i), .val (.ref s3), .val (.long (0 : Int64)), .second, .val (.ref s3), .val (.int (1 : Int32)), .val (.int (0 : Int32)), .unset] [(.int (1 : Int32)), (.int (0 : Int32))])) _
    refine own_go (fun _ => XS.icmpNo Xk8.here hx rfl (hb hby dLST_90) rfl (XT.ii_ge_f (by decide))) ?_
    show Run p.tables e below (Tk8.setTop (mkF m 93 #[.val (.ref t), .val (.int i), .val (.ref s3), .val (.long (0 : Int64)), .second, .val (.ref s3), .val (.int (1 : Int32)), .val (.int (0 : Int32)), .unset] [])) _
    refine own_go (fun _ => XS.aload Xk8.here hx rfl (hb hby dLST_93) rfl rfl) ?_
    show Run p.tables e below (Tk8.setTop (mkF m 95 #[.val (.ref t), .val (.int i), .val (.ref s3), .val (.long (0 : Int64)), .second, .val (.ref s3), .val (.int (1 : Int32)), .val (.int (0 : Int32)), .unset] [(.ref s3)])) _
    refine own_go (fun _ => XS.iload Xk8.here hx rfl (hb hby dLST_95) rfl) ?_
    show Run p.tables e below (Tk8.setTop (mkF m 97 #[.val (.ref t), .val (.int i), .val (.ref s3), .val (.long (0 : Int64)), .second, .val (.ref s3), .val (.int (1 : Int32)), .val (.int (0 : Int32)), .unset] [(.int (0 : Int32)), (.ref s3)])) _
    refine own_go (fun _ => own_iaload Xk8 hx hZ ek8 Vs (j := (0 : Int32)) ⟨by decide, by decide⟩ (v := .int 1) rfl (g := (mkF m 97 #[.val (.ref t), .val (.int i), .val (.ref s3), .val (.long (0 : Int64)), .second, .val (.ref s3), .val (.int (1 : Int32)), .val (.int (0 : Int32)), .unset] [(.int (0 : Int32)), (.ref s3)])) rfl rfl (hb hby dLST_97) _) ?_
    show Run p.tables e below (Tk8.setTop (mkF m 98 #[.val (.ref t), .val (.int i), .val (.ref s3), .val (.long (0 : Int64)), .second, .val (.ref s3), .val (.int (1 : Int32)), .val (.int (0 : Int32)), .unset] [(.int (1 : Int32))])) _
    refine own_go (fun _ => XS.istore Xk8.here hx rfl (hb hby dLST_98) rfl (l' := #[.val (.ref t), .val (.int i), .val (.ref s3), .val (.long (0 : Int64)), .second, .val (.ref s3), .val (.int (1 : Int32)), .val (.int (0 : Int32)), .val (.int (1 : Int32))]) rfl) ?_
    show Run p.tables e below (Tk8.setTop (mkF m 100 #[.val (.ref t), .val (.int i), .val (.ref s3), .val (.long (0 : Int64)), .second, .val (.ref s3), .val (.int (1 : Int32)), .val (.int (0 : Int32)), .val (.int (1 : Int32))] [])) _
    refine own_go (fun _ => XT.lloadN Xk8.here hx rfl (hb hby dLST_100) rfl) ?_
    show Run p.tables e below (Tk8.setTop (mkF m 101 #[.val (.ref t), .val (.int i), .val (.ref s3), .val (.long (0 : Int64)), .second, .val (.ref s3), .val (.int (1 : Int32)), .val (.int (0 : Int32)), .val (.int (1 : Int32))] [(.long (0 : Int64))])) _
    refine own_go (fun _ => XT.lconst Xk8.here hx rfl (hb hby dLST_101)) ?_
    show Run p.tables e below (Tk8.setTop (mkF m 102 #[.val (.ref t), .val (.int i), .val (.ref s3), .val (.long (0 : Int64)), .second, .val (.ref s3), .val (.int (1 : Int32)), .val (.int (0 : Int32)), .val (.int (1 : Int32))] [(.long (1 : Int64)), (.long (0 : Int64))])) _
    refine own_go (fun _ => XS.iload Xk8.here hx rfl (hb hby dLST_102) rfl) ?_
    show Run p.tables e below (Tk8.setTop (mkF m 104 #[.val (.ref t), .val (.int i), .val (.ref s3), .val (.long (0 : Int64)), .second, .val (.ref s3), .val (.int (1 : Int32)), .val (.int (0 : Int32)), .val (.int (1 : Int32))] [(.int (1 : Int32)), (.long (1 : Int64)), (.long (0 : Int64))])) _
    refine own_go (fun _ => XT.lshl Xk8.here hx rfl (hb hby dLST_104) rfl) ?_
    show Run p.tables e below (Tk8.setTop (mkF m 105 #[.val (.ref t), .val (.int i), .val (.ref s3), .val (.long (0 : Int64)), .second, .val (.ref s3), .val (.int (1 : Int32)), .val (.int (0 : Int32)), .val (.int (1 : Int32))] [(.long ((1 : Int64) <<< (((1 : Int32)).toInt64 &&& 63))), (.long (0 : Int64))])) _
    refine own_go (fun _ => XT.lor Xk8.here hx rfl (hb hby dLST_105) rfl) ?_
    show Run p.tables e below (Tk8.setTop (mkF m 106 #[.val (.ref t), .val (.int i), .val (.ref s3), .val (.long (0 : Int64)), .second, .val (.ref s3), .val (.int (1 : Int32)), .val (.int (0 : Int32)), .val (.int (1 : Int32))] [(.long ((0 : Int64) ||| ((1 : Int64) <<< (((1 : Int32)).toInt64 &&& 63))))])) _
    refine own_go (fun _ => XT.lstoreN Xk8.here hx rfl (hb hby dLST_106) rfl (l' := #[.val (.ref t), .val (.int i), .val (.ref s3), .val (.long ((0 : Int64) ||| ((1 : Int64) <<< (((1 : Int32)).toInt64 &&& 63)))), .second, .val (.ref s3), .val (.int (1 : Int32)), .val (.int (0 : Int32)), .val (.int (1 : Int32))]) rfl) ?_
    show Run p.tables e below (Tk8.setTop (mkF m 107 #[.val (.ref t), .val (.int i), .val (.ref s3), .val (.long ((0 : Int64) ||| ((1 : Int64) <<< (((1 : Int32)).toInt64 &&& 63)))), .second, .val (.ref s3), .val (.int (1 : Int32)), .val (.int (0 : Int32)), .val (.int (1 : Int32))] [])) _
    refine own_go (fun _ => XS.iinc Xk8.here hx rfl (hb hby dLST_107) rfl (l' := #[.val (.ref t), .val (.int i), .val (.ref s3), .val (.long ((0 : Int64) ||| ((1 : Int64) <<< (((1 : Int32)).toInt64 &&& 63)))), .second, .val (.ref s3), .val (.int (1 : Int32)), .val (.int (1 : Int32)), .val (.int (1 : Int32))]) rfl) ?_
    show Run p.tables e below (Tk8.setTop (mkF m 110 #[.val (.ref t), .val (.int i), .val (.ref s3), .val (.long ((0 : Int64) ||| ((1 : Int64) <<< (((1 : Int32)).toInt64 &&& 63)))), .second, .val (.ref s3), .val (.int (1 : Int32)), .val (.int (1 : Int32)), .val (.int (1 : Int32))] [])) _
    refine own_go (fun _ => XS.goto Xk8.here hx rfl (pc0 := 110) (pc' := 86) rfl (hb hby dLST_110) (by decide) (by decide)) ?_
    show Run p.tables e below (Tk8.setTop (mkF m 86 #[.val (.ref t), .val (.int i), .val (.ref s3), .val (.long ((0 : Int64) ||| ((1 : Int64) <<< (((1 : Int32)).toInt64 &&& 63)))), .second, .val (.ref s3), .val (.int (1 : Int32)), .val (.int (1 : Int32)), .val (.int (1 : Int32))] [])) _
    refine own_go (fun _ => XS.iload Xk8.here hx rfl (hb hby dLST_86) rfl) ?_
    show Run p.tables e below (Tk8.setTop (mkF m 88 #[.val (.ref t), .val (.int i), .val (.ref s3), .val (.long ((0 : Int64) ||| ((1 : Int64) <<< (((1 : Int32)).toInt64 &&& 63)))), .second, .val (.ref s3), .val (.int (1 : Int32)), .val (.int (1 : Int32)), .val (.int (1 : Int32))] [(.int (1 : Int32))])) _
    refine own_go (fun _ => XS.iload Xk8.here hx rfl (hb hby dLST_88) rfl) ?_
    show Run p.tables e below (Tk8.setTop (mkF m 90 #[.val (.ref t), .val (.int i), .val (.ref s3), .val (.long ((0 : Int64) ||| ((1 : Int64) <<< (((1 : Int32)).toInt64 &&& 63)))), .second, .val (.ref s3), .val (.int (1 : Int32)), .val (.int (1 : Int32)), .val (.int (1 : Int32))] [(.int (1 : Int32)), (.int (1 : Int32))])) _
    refine own_go (fun _ => XS.icmpYes Xk8.here hx rfl (pc0 := 90) (pc' := 113) rfl (hb hby dLST_90) rfl (XT.ii_ge_t (by decide)) (by decide) (by decide)) ?_
    show Run p.tables e below (Tk8.setTop (mkF m 113 #[.val (.ref t), .val (.int i), .val (.ref s3), .val (.long ((0 : Int64) ||| ((1 : Int64) <<< (((1 : Int32)).toInt64 &&& 63)))), .second, .val (.ref s3), .val (.int (1 : Int32)), .val (.int (1 : Int32)), .val (.int (1 : Int32))] [])) _
    rw [show ((0 : Int64) ||| ((1 : Int64) <<< (((1 : Int32)).toInt64 &&& 63))) = (2 : Int32).toInt64 from by decide +kernel]
    exact JB _ _ _ _ Xk8 ek8
  · rw [own_cnt3, own_arr3] at Vs
    show Run p.tables e below (Tk8.setTop (mkF m 75 #[.val (.ref t), .val (.int i), .val (.ref s3), .val (.long (0 : Int64)), .second, .unset, .unset, .unset, .unset] [])) _
    refine own_go (fun _ => XS.aloadN Xk8.here hx rfl (hb hby dLST_75) rfl rfl) ?_
    show Run p.tables e below (Tk8.setTop (mkF m 76 #[.val (.ref t), .val (.int i), .val (.ref s3), .val (.long (0 : Int64)), .second, .unset, .unset, .unset, .unset] [(.ref s3)])) _
    refine own_go (fun _ => XS.astore Xk8.here hx rfl (hb hby dLST_76) rfl rfl (l' := #[.val (.ref t), .val (.int i), .val (.ref s3), .val (.long (0 : Int64)), .second, .val (.ref s3), .unset, .unset, .unset]) rfl) ?_
    show Run p.tables e below (Tk8.setTop (mkF m 78 #[.val (.ref t), .val (.int i), .val (.ref s3), .val (.long (0 : Int64)), .second, .val (.ref s3), .unset, .unset, .unset] [])) _
    refine own_go (fun _ => XS.aload Xk8.here hx rfl (hb hby dLST_78) rfl rfl) ?_
    show Run p.tables e below (Tk8.setTop (mkF m 80 #[.val (.ref t), .val (.int i), .val (.ref s3), .val (.long (0 : Int64)), .second, .val (.ref s3), .unset, .unset, .unset] [(.ref s3)])) _
    refine own_go (fun _ => own_alen Xk8 hx hZ ek8 Vs (g := (mkF m 80 #[.val (.ref t), .val (.int i), .val (.ref s3), .val (.long (0 : Int64)), .second, .val (.ref s3), .unset, .unset, .unset] [(.ref s3)])) rfl rfl (hb hby dLST_80) _) ?_
    show Run p.tables e below (Tk8.setTop (mkF m 81 #[.val (.ref t), .val (.int i), .val (.ref s3), .val (.long (0 : Int64)), .second, .val (.ref s3), .unset, .unset, .unset] [(.int (2 : Int32))])) _
    refine own_go (fun _ => XS.istore Xk8.here hx rfl (hb hby dLST_81) rfl (l' := #[.val (.ref t), .val (.int i), .val (.ref s3), .val (.long (0 : Int64)), .second, .val (.ref s3), .val (.int (2 : Int32)), .unset, .unset]) rfl) ?_
    show Run p.tables e below (Tk8.setTop (mkF m 83 #[.val (.ref t), .val (.int i), .val (.ref s3), .val (.long (0 : Int64)), .second, .val (.ref s3), .val (.int (2 : Int32)), .unset, .unset] [])) _
    refine own_go (fun _ => XS.iconst Xk8.here hx rfl (hb hby dLST_83)) ?_
    show Run p.tables e below (Tk8.setTop (mkF m 84 #[.val (.ref t), .val (.int i), .val (.ref s3), .val (.long (0 : Int64)), .second, .val (.ref s3), .val (.int (2 : Int32)), .unset, .unset] [(.int (0 : Int32))])) _
    refine own_go (fun _ => XS.istore Xk8.here hx rfl (hb hby dLST_84) rfl (l' := #[.val (.ref t), .val (.int i), .val (.ref s3), .val (.long (0 : Int64)), .second, .val (.ref s3), .val (.int (2 : Int32)), .val (.int (0 : Int32)), .unset]) rfl) ?_
    show Run p.tables e below (Tk8.setTop (mkF m 86 #[.val (.ref t), .val (.int i), .val (.ref s3), .val (.long (0 : Int64)), .second, .val (.ref s3), .val (.int (2 : Int32)), .val (.int (0 : Int32)), .unset] [])) _
    refine own_go (fun _ => XS.iload Xk8.here hx rfl (hb hby dLST_86) rfl) ?_
    show Run p.tables e below (Tk8.setTop (mkF m 88 #[.val (.ref t), .val (.int i), .val (.ref s3), .val (.long (0 : Int64)), .second, .val (.ref s3), .val (.int (2 : Int32)), .val (.int (0 : Int32)), .unset] [(.int (0 : Int32))])) _
    refine own_go (fun _ => XS.iload Xk8.here hx rfl (hb hby dLST_88) rfl) ?_
    show Run p.tables e below (Tk8.setTop (mkF m 90 #[.val (.ref t), .val (.int i), .val (.ref s3), .val (.long (0 : Int64)), .second, .val (.ref s3), .val (.int (2 : Int32)), .val (.int (0 : Int32)), .unset] [(.int (2 : Int32)), (.int (0 : Int32))])) _
    refine own_go (fun _ => XS.icmpNo Xk8.here hx rfl (hb hby dLST_90) rfl (XT.ii_ge_f (by decide))) ?_
    show Run p.tables e below (Tk8.setTop (mkF m 93 #[.val (.ref t), .val (.int i), .val (.ref s3), .val (.long (0 : Int64)), .second, .val (.ref s3), .val (.int (2 : Int32)), .val (.int (0 : Int32)), .unset] [])) _
    refine own_go (fun _ => XS.aload Xk8.here hx rfl (hb hby dLST_93) rfl rfl) ?_
    show Run p.tables e below (Tk8.setTop (mkF m 95 #[.val (.ref t), .val (.int i), .val (.ref s3), .val (.long (0 : Int64)), .second, .val (.ref s3), .val (.int (2 : Int32)), .val (.int (0 : Int32)), .unset] [(.ref s3)])) _
    refine own_go (fun _ => XS.iload Xk8.here hx rfl (hb hby dLST_95) rfl) ?_
    show Run p.tables e below (Tk8.setTop (mkF m 97 #[.val (.ref t), .val (.int i), .val (.ref s3), .val (.long (0 : Int64)), .second, .val (.ref s3), .val (.int (2 : Int32)), .val (.int (0 : Int32)), .unset] [(.int (0 : Int32)), (.ref s3)])) _
    refine own_go (fun _ => own_iaload Xk8 hx hZ ek8 Vs (j := (0 : Int32)) ⟨by decide, by decide⟩ (v := .int 1) rfl (g := (mkF m 97 #[.val (.ref t), .val (.int i), .val (.ref s3), .val (.long (0 : Int64)), .second, .val (.ref s3), .val (.int (2 : Int32)), .val (.int (0 : Int32)), .unset] [(.int (0 : Int32)), (.ref s3)])) rfl rfl (hb hby dLST_97) _) ?_
    show Run p.tables e below (Tk8.setTop (mkF m 98 #[.val (.ref t), .val (.int i), .val (.ref s3), .val (.long (0 : Int64)), .second, .val (.ref s3), .val (.int (2 : Int32)), .val (.int (0 : Int32)), .unset] [(.int (1 : Int32))])) _
    refine own_go (fun _ => XS.istore Xk8.here hx rfl (hb hby dLST_98) rfl (l' := #[.val (.ref t), .val (.int i), .val (.ref s3), .val (.long (0 : Int64)), .second, .val (.ref s3), .val (.int (2 : Int32)), .val (.int (0 : Int32)), .val (.int (1 : Int32))]) rfl) ?_
    show Run p.tables e below (Tk8.setTop (mkF m 100 #[.val (.ref t), .val (.int i), .val (.ref s3), .val (.long (0 : Int64)), .second, .val (.ref s3), .val (.int (2 : Int32)), .val (.int (0 : Int32)), .val (.int (1 : Int32))] [])) _
    refine own_go (fun _ => XT.lloadN Xk8.here hx rfl (hb hby dLST_100) rfl) ?_
    show Run p.tables e below (Tk8.setTop (mkF m 101 #[.val (.ref t), .val (.int i), .val (.ref s3), .val (.long (0 : Int64)), .second, .val (.ref s3), .val (.int (2 : Int32)), .val (.int (0 : Int32)), .val (.int (1 : Int32))] [(.long (0 : Int64))])) _
    refine own_go (fun _ => XT.lconst Xk8.here hx rfl (hb hby dLST_101)) ?_
    show Run p.tables e below (Tk8.setTop (mkF m 102 #[.val (.ref t), .val (.int i), .val (.ref s3), .val (.long (0 : Int64)), .second, .val (.ref s3), .val (.int (2 : Int32)), .val (.int (0 : Int32)), .val (.int (1 : Int32))] [(.long (1 : Int64)), (.long (0 : Int64))])) _
    refine own_go (fun _ => XS.iload Xk8.here hx rfl (hb hby dLST_102) rfl) ?_
    show Run p.tables e below (Tk8.setTop (mkF m 104 #[.val (.ref t), .val (.int i), .val (.ref s3), .val (.long (0 : Int64)), .second, .val (.ref s3), .val (.int (2 : Int32)), .val (.int (0 : Int32)), .val (.int (1 : Int32))] [(.int (1 : Int32)), (.long (1 : Int64)), (.long (0 : Int64))])) _
    refine own_go (fun _ => XT.lshl Xk8.here hx rfl (hb hby dLST_104) rfl) ?_
    show Run p.tables e below (Tk8.setTop (mkF m 105 #[.val (.ref t), .val (.int i), .val (.ref s3), .val (.long (0 : Int64)), .second, .val (.ref s3), .val (.int (2 : Int32)), .val (.int (0 : Int32)), .val (.int (1 : Int32))] [(.long ((1 : Int64) <<< (((1 : Int32)).toInt64 &&& 63))), (.long (0 : Int64))])) _
    refine own_go (fun _ => XT.lor Xk8.here hx rfl (hb hby dLST_105) rfl) ?_
    show Run p.tables e below (Tk8.setTop (mkF m 106 #[.val (.ref t), .val (.int i), .val (.ref s3), .val (.long (0 : Int64)), .second, .val (.ref s3), .val (.int (2 : Int32)), .val (.int (0 : Int32)), .val (.int (1 : Int32))] [(.long ((0 : Int64) ||| ((1 : Int64) <<< (((1 : Int32)).toInt64 &&& 63))))])) _
    refine own_go (fun _ => XT.lstoreN Xk8.here hx rfl (hb hby dLST_106) rfl (l' := #[.val (.ref t), .val (.int i), .val (.ref s3), .val (.long ((0 : Int64) ||| ((1 : Int64) <<< (((1 : Int32)).toInt64 &&& 63)))), .second, .val (.ref s3), .val (.int (2 : Int32)), .val (.int (0 : Int32)), .val (.int (1 : Int32))]) rfl) ?_
    show Run p.tables e below (Tk8.setTop (mkF m 107 #[.val (.ref t), .val (.int i), .val (.ref s3), .val (.long ((0 : Int64) ||| ((1 : Int64) <<< (((1 : Int32)).toInt64 &&& 63)))), .second, .val (.ref s3), .val (.int (2 : Int32)), .val (.int (0 : Int32)), .val (.int (1 : Int32))] [])) _
    refine own_go (fun _ => XS.iinc Xk8.here hx rfl (hb hby dLST_107) rfl (l' := #[.val (.ref t), .val (.int i), .val (.ref s3), .val (.long ((0 : Int64) ||| ((1 : Int64) <<< (((1 : Int32)).toInt64 &&& 63)))), .second, .val (.ref s3), .val (.int (2 : Int32)), .val (.int (1 : Int32)), .val (.int (1 : Int32))]) rfl) ?_
    show Run p.tables e below (Tk8.setTop (mkF m 110 #[.val (.ref t), .val (.int i), .val (.ref s3), .val (.long ((0 : Int64) ||| ((1 : Int64) <<< (((1 : Int32)).toInt64 &&& 63)))), .second, .val (.ref s3), .val (.int (2 : Int32)), .val (.int (1 : Int32)), .val (.int (1 : Int32))] [])) _
    refine own_go (fun _ => XS.goto Xk8.here hx rfl (pc0 := 110) (pc' := 86) rfl (hb hby dLST_110) (by decide) (by decide)) ?_
    show Run p.tables e below (Tk8.setTop (mkF m 86 #[.val (.ref t), .val (.int i), .val (.ref s3), .val (.long ((0 : Int64) ||| ((1 : Int64) <<< (((1 : Int32)).toInt64 &&& 63)))), .second, .val (.ref s3), .val (.int (2 : Int32)), .val (.int (1 : Int32)), .val (.int (1 : Int32))] [])) _
    refine own_go (fun _ => XS.iload Xk8.here hx rfl (hb hby dLST_86) rfl) ?_
    show Run p.tables e below (Tk8.setTop (mkF m 88 #[.val (.ref t), .val (.int i), .val (.ref s3), .val (.long ((0 : Int64) ||| ((1 : Int64) <<< (((1 : Int32)).toInt64 &&& 63)))), .second, .val (.ref s3), .val (.int (2 : Int32)), .val (.int (1 : Int32)), .val (.int (1 : Int32))] [(.int (1 : Int32))])) _
    refine own_go (fun _ => XS.iload Xk8.here hx rfl (hb hby dLST_88) rfl) ?_
    show Run p.tables e below (Tk8.setTop (mkF m 90 #[.val (.ref t), .val (.int i), .val (.ref s3), .val (.long ((0 : Int64) ||| ((1 : Int64) <<< (((1 : Int32)).toInt64 &&& 63)))), .second, .val (.ref s3), .val (.int (2 : Int32)), .val (.int (1 : Int32)), .val (.int (1 : Int32))] [(.int (2 : Int32)), (.int (1 : Int32))])) _
    refine own_go (fun _ => XS.icmpNo Xk8.here hx rfl (hb hby dLST_90) rfl (XT.ii_ge_f (by decide))) ?_
    show Run p.tables e below (Tk8.setTop (mkF m 93 #[.val (.ref t), .val (.int i), .val (.ref s3), .val (.long ((0 : Int64) ||| ((1 : Int64) <<< (((1 : Int32)).toInt64 &&& 63)))), .second, .val (.ref s3), .val (.int (2 : Int32)), .val (.int (1 : Int32)), .val (.int (1 : Int32))] [])) _
    refine own_go (fun _ => XS.aload Xk8.here hx rfl (hb hby dLST_93) rfl rfl) ?_
    show Run p.tables e below (Tk8.setTop (mkF m 95 #[.val (.ref t), .val (.int i), .val (.ref s3), .val (.long ((0 : Int64) ||| ((1 : Int64) <<< (((1 : Int32)).toInt64 &&& 63)))), .second, .val (.ref s3), .val (.int (2 : Int32)), .val (.int (1 : Int32)), .val (.int (1 : Int32))] [(.ref s3)])) _
    refine own_go (fun _ => XS.iload Xk8.here hx rfl (hb hby dLST_95) rfl) ?_
    show Run p.tables e below (Tk8.setTop (mkF m 97 #[.val (.ref t), .val (.int i), .val (.ref s3), .val (.long ((0 : Int64) ||| ((1 : Int64) <<< (((1 : Int32)).toInt64 &&& 63)))), .second, .val (.ref s3), .val (.int (2 : Int32)), .val (.int (1 : Int32)), .val (.int (1 : Int32))] [(.int (1 : Int32)), (.ref s3)])) _
    refine own_go (fun _ => own_iaload Xk8 hx hZ ek8 Vs (j := (1 : Int32)) ⟨by decide, by decide⟩ (v := .int 0) rfl (g := (mkF m 97 #[.val (.ref t), .val (.int i), .val (.ref s3), .val (.long ((0 : Int64) ||| ((1 : Int64) <<< (((1 : Int32)).toInt64 &&& 63)))), .second, .val (.ref s3), .val (.int (2 : Int32)), .val (.int (1 : Int32)), .val (.int (1 : Int32))] [(.int (1 : Int32)), (.ref s3)])) rfl rfl (hb hby dLST_97) _) ?_
    show Run p.tables e below (Tk8.setTop (mkF m 98 #[.val (.ref t), .val (.int i), .val (.ref s3), .val (.long ((0 : Int64) ||| ((1 : Int64) <<< (((1 : Int32)).toInt64 &&& 63)))), .second, .val (.ref s3), .val (.int (2 : Int32)), .val (.int (1 : Int32)), .val (.int (1 : Int32))] [(.int (0 : Int32))])) _
    refine own_go (fun _ => XS.istore Xk8.here hx rfl (hb hby dLST_98) rfl (l' := #[.val (.ref t), .val (.int i), .val (.ref s3), .val (.long ((0 : Int64) ||| ((1 : Int64) <<< (((1 : Int32)).toInt64 &&& 63)))), .second, .val (.ref s3), .val (.int (2 : Int32)), .val (.int (1 : Int32)), .val (.int (0 : Int32))]) rfl) ?_
    show Run p.tables e below (Tk8.setTop (mkF m 100 #[.val (.ref t), .val (.int i), .val (.ref s3), .val (.long ((0 : Int64) ||| ((1 : Int64) <<< (((1 : Int32)).toInt64 &&& 63)))), .second, .val (.ref s3), .val (.int (2 : Int32)), .val (.int (1 : Int32)), .val (.int (0 : Int32))] [])) _
    refine own_go (fun _ => XT.lloadN Xk8.here hx rfl (hb hby dLST_100) rfl) ?_
    show Run p.tables e below (Tk8.setTop (mkF m 101 #[.val (.ref t), .val (.int i), .val (.ref s3), .val (.long ((0 : Int64) ||| ((1 : Int64) <<< (((1 : Int32)).toInt64 &&& 63)))), .second, .val (.ref s3), .val (.int (2 : Int32)), .val (.int (1 : Int32)), .val (.int (0 : Int32))] [(.long ((0 : Int64) ||| ((1 : Int64) <<< (((1 : Int32)).toInt64 &&& 63))))])) _
    refine own_go (fun _ => XT.lconst Xk8.here hx rfl (hb hby dLST_101)) ?_
    show Run p.tables e below (Tk8.setTop (mkF m 102 #[.val (.ref t), .val (.int i), .val (.ref s3), .val (.long ((0 : Int64) ||| ((1 : Int64) <<< (((1 : Int32)).toInt64 &&& 63)))), .second, .val (.ref s3), .val (.int (2 : Int32)), .val (.int (1 : Int32)), .val (.int (0 : Int32))] [(.long (1 : Int64)), (.long ((0 : Int64) ||| ((1 : Int64) <<< (((1 : Int32)).toInt64 &&& 63))))])) _
    refine own_go (fun _ => XS.iload Xk8.here hx rfl (hb hby dLST_102) rfl) ?_
    show Run p.tables e below (Tk8.setTop (mkF m 104 #[.val (.ref t), .val (.int i), .val (.ref s3), .val (.long ((0 : Int64) ||| ((1 : Int64) <<< (((1 : Int32)).toInt64 &&& 63)))), .second, .val (.ref s3), .val (.int (2 : Int32)), .val (.int (1 : Int32)), .val (.int (0 : Int32))] [(.int (0 : Int32)), (.long (1 : Int64)), (.long ((0 : Int64) ||| ((1 : Int64) <<< (((1 : Int32)).toInt64 &&& 63))))])) _
    refine own_go (fun _ => XT.lshl Xk8.here hx rfl (hb hby dLST_104) rfl) ?_
    show Run p.tables e below (Tk8.setTop (mkF m 105 #[.val (.ref t), .val (.int i), .val (.ref s3), .val (.long ((0 : Int64) ||| ((1 : Int64) <<< (((1 : Int32)).toInt64 &&& 63)))), .second, .val (.ref s3), .val (.int (2 : Int32)), .val (.int (1 : Int32)), .val (.int (0 : Int32))] [(.long ((1 : Int64) <<< (((0 : Int32)).toInt64 &&& 63))), (.long ((0 : Int64) ||| ((1 : Int64) <<< (((1 : Int32)).toInt64 &&& 63))))])) _
    refine own_go (fun _ => XT.lor Xk8.here hx rfl (hb hby dLST_105) rfl) ?_
    show Run p.tables e below (Tk8.setTop (mkF m 106 #[.val (.ref t), .val (.int i), .val (.ref s3), .val (.long ((0 : Int64) ||| ((1 : Int64) <<< (((1 : Int32)).toInt64 &&& 63)))), .second, .val (.ref s3), .val (.int (2 : Int32)), .val (.int (1 : Int32)), .val (.int (0 : Int32))] [(.long (((0 : Int64) ||| ((1 : Int64) <<< (((1 : Int32)).toInt64 &&& 63))) ||| ((1 : Int64) <<< (((0 : Int32)).toInt64 &&& 63))))])) _
    refine own_go (fun _ => XT.lstoreN Xk8.here hx rfl (hb hby dLST_106) rfl (l' := #[.val (.ref t), .val (.int i), .val (.ref s3), .val (.long (((0 : Int64) ||| ((1 : Int64) <<< (((1 : Int32)).toInt64 &&& 63))) ||| ((1 : Int64) <<< (((0 : Int32)).toInt64 &&& 63)))), .second, .val (.ref s3), .val (.int (2 : Int32)), .val (.int (1 : Int32)), .val (.int (0 : Int32))]) rfl) ?_
    show Run p.tables e below (Tk8.setTop (mkF m 107 #[.val (.ref t), .val (.int i), .val (.ref s3), .val (.long (((0 : Int64) ||| ((1 : Int64) <<< (((1 : Int32)).toInt64 &&& 63))) ||| ((1 : Int64) <<< (((0 : Int32)).toInt64 &&& 63)))), .second, .val (.ref s3), .val (.int (2 : Int32)), .val (.int (1 : Int32)), .val (.int (0 : Int32))] [])) _
    refine own_go (fun _ => XS.iinc Xk8.here hx rfl (hb hby dLST_107) rfl (l' := #[.val (.ref t), .val (.int i), .val (.ref s3), .val (.long (((0 : Int64) ||| ((1 : Int64) <<< (((1 : Int32)).toInt64 &&& 63))) ||| ((1 : Int64) <<< (((0 : Int32)).toInt64 &&& 63)))), .second, .val (.ref s3), .val (.int (2 : Int32)), .val (.int (2 : Int32)), .val (.int (0 : Int32))]) rfl) ?_
    show Run p.tables e below (Tk8.setTop (mkF m 110 #[.val (.ref t), .val (.int i), .val (.ref s3), .val (.long (((0 : Int64) ||| ((1 : Int64) <<< (((1 : Int32)).toInt64 &&& 63))) ||| ((1 : Int64) <<< (((0 : Int32)).toInt64 &&& 63)))), .second, .val (.ref s3), .val (.int (2 : Int32)), .val (.int (2 : Int32)), .val (.int (0 : Int32))] [])) _
    refine own_go (fun _ => XS.goto Xk8.here hx rfl (pc0 := 110) (pc' := 86) rfl (hb hby dLST_110) (by decide) (by decide)) ?_
    show Run p.tables e below (Tk8.setTop (mkF m 86 #[.val (.ref t), .val (.int i), .val (.ref s3), .val (.long (((0 : Int64) ||| ((1 : Int64) <<< (((1 : Int32)).toInt64 &&& 63))) ||| ((1 : Int64) <<< (((0 : Int32)).toInt64 &&& 63)))), .second, .val (.ref s3), .val (.int (2 : Int32)), .val (.int (2 : Int32)), .val (.int (0 : Int32))] [])) _
    refine own_go (fun _ => XS.iload Xk8.here hx rfl (hb hby dLST_86) rfl) ?_
    show Run p.tables e below (Tk8.setTop (mkF m 88 #[.val (.ref t), .val (.int i), .val (.ref s3), .val (.long (((0 : Int64) ||| ((1 : Int64) <<< (((1 : Int32)).toInt64 &&& 63))) ||| ((1 : Int64) <<< (((0 : Int32)).toInt64 &&& 63)))), .second, .val (.ref s3), .val (.int (2 : Int32)), .val (.int (2 : Int32)), .val (.int (0 : Int32))] [(.int (2 : Int32))])) _
    refine own_go (fun _ => XS.iload Xk8.here hx rfl (hb hby dLST_88) rfl) ?_
    show Run p.tables e below (Tk8.setTop (mkF m 90 #[.val (.ref t), .val (.int i), .val (.ref s3), .val (.long (((0 : Int64) ||| ((1 : Int64) <<< (((1 : Int32)).toInt64 &&& 63))) ||| ((1 : Int64) <<< (((0 : Int32)).toInt64 &&& 63)))), .second, .val (.ref s3), .val (.int (2 : Int32)), .val (.int (2 : Int32)), .val (.int (0 : Int32))] [(.int (2 : Int32)), (.int (2 : Int32))])) _
    refine own_go (fun _ => XS.icmpYes Xk8.here hx rfl (pc0 := 90) (pc' := 113) rfl (hb hby dLST_90) rfl (XT.ii_ge_t (by decide)) (by decide) (by decide)) ?_
    show Run p.tables e below (Tk8.setTop (mkF m 113 #[.val (.ref t), .val (.int i), .val (.ref s3), .val (.long (((0 : Int64) ||| ((1 : Int64) <<< (((1 : Int32)).toInt64 &&& 63))) ||| ((1 : Int64) <<< (((0 : Int32)).toInt64 &&& 63)))), .second, .val (.ref s3), .val (.int (2 : Int32)), .val (.int (2 : Int32)), .val (.int (0 : Int32))] [])) _
    rw [show (((0 : Int64) ||| ((1 : Int64) <<< (((1 : Int32)).toInt64 &&& 63))) ||| ((1 : Int64) <<< (((0 : Int32)).toInt64 &&& 63))) = (3 : Int32).toInt64 from by decide +kernel]
    exact JB _ _ _ _ Xk8 ek8
  · rw [own_cnt4, own_arr4] at Vs
    show Run p.tables e below (Tk8.setTop (mkF m 75 #[.val (.ref t), .val (.int i), .val (.ref s3), .val (.long (0 : Int64)), .second, .unset, .unset, .unset, .unset] [])) _
    refine own_go (fun _ => XS.aloadN Xk8.here hx rfl (hb hby dLST_75) rfl rfl) ?_
    show Run p.tables e below (Tk8.setTop (mkF m 76 #[.val (.ref t), .val (.int i), .val (.ref s3), .val (.long (0 : Int64)), .second, .unset, .unset, .unset, .unset] [(.ref s3)])) _
    refine own_go (fun _ => XS.astore Xk8.here hx rfl (hb hby dLST_76) rfl rfl (l' := #[.val (.ref t), .val (.int i), .val (.ref s3), .val (.long (0 : Int64)), .second, .val (.ref s3), .unset, .unset, .unset]) rfl) ?_
    show Run p.tables e below (Tk8.setTop (mkF m 78 #[.val (.ref t), .val (.int i), .val (.ref s3), .val (.long (0 : Int64)), .second, .val (.ref s3), .unset, .unset, .unset] [])) _
    refine own_go (fun _ => XS.aload Xk8.here hx rfl (hb hby dLST_78) rfl rfl) ?_
    show Run p.tables e below (Tk8.setTop (mkF m 80 #[.val (.ref t), .val (.int i), .val (.ref s3), .val (.long (0 : Int64)), .second, .val (.ref s3), .unset, .unset, .unset] [(.ref s3)])) _
    refine own_go (fun _ => own_alen Xk8 hx hZ ek8 Vs (g := (mkF m 80 #[.val (.ref t), .val (.int i), .val (.ref s3), .val (.long (0 : Int64)), .second, .val (.ref s3), .unset, .unset, .unset] [(.ref s3)])) rfl rfl (hb hby dLST_80) _) ?_
    show Run p.tables e below (Tk8.setTop (mkF m 81 #[.val (.ref t), .val (.int i), .val (.ref s3), .val (.long (0 : Int64)), .second, .val (.ref s3), .unset, .unset, .unset] [(.int (1 : Int32))])) _
    refine own_go (fun _ => XS.istore Xk8.here hx rfl (hb hby dLST_81) rfl (l' := #[.val (.ref t), .val (.int i), .val (.ref s3), .val (.long (0 : Int64)), .second, .val (.ref s3), .val (.int (1 : Int32)), .unset, .unset]) rfl) ?_
    show Run p.tables e below (Tk8.setTop (mkF m 83 #[.val (.ref t), .val (.int i), .val (.ref s3), .val (.long (0 : Int64)), .second, .val (.ref s3), .val (.int (1 : Int32)), .unset, .unset] [])) _
    refine own_go (fun _ => XS.iconst Xk8.here hx rfl (hb hby dLST_83)) ?_
    show Run p.tables e below (Tk8.setTop (mkF m 84 #[.val (.ref t), .val (.int i), .val (.ref s3), .val (.long (0 : Int64)), .second, .val (.ref s3), .val (.int (1 : Int32)), .unset, .unset] [(.int (0 : Int32))])) _
    refine own_go (fun _ => XS.istore Xk8.here hx rfl (hb hby dLST_84) rfl (l' := #[.val (.ref t), .val (.int i), .val (.ref s3), .val (.long (0 : Int64)), .second, .val (.ref s3), .val (.int (1 : Int32)), .val (.int (0 : Int32)), .unset]) rfl) ?_
    show Run p.tables e below (Tk8.setTop (mkF m 86 #[.val (.ref t), .val (.int i), .val (.ref s3), .val (.long (0 : Int64)), .second, .val (.ref s3), .val (.int (1 : Int32)), .val (.int (0 : Int32)), .unset] [])) _
    refine own_go (fun _ => XS.iload Xk8.here hx rfl (hb hby dLST_86) rfl) ?_
    show Run p.tables e below (Tk8.setTop (mkF m 88 #[.val (.ref t), .val (.int i), .val (.ref s3), .val (.long (0 : Int64)), .second, .val (.ref s3), .val (.int (1 : Int32)), .val (.int (0 : Int32)), .unset] [(.int (0 : Int32))])) _
    refine own_go (fun _ => XS.iload Xk8.here hx rfl (hb hby dLST_88) rfl) ?_
    show Run p.tables e below (Tk8.setTop (mkF m 90 #[.val (.ref t), .val (.int i), .val (.ref s3), .val (.long (0 : Int64)), .second, .val (.ref s3), .val (.int (1 : Int32)), .val (.int (0 : Int32)), .unset] [(.int (1 : Int32)), (.int (0 : Int32))])) _
    refine own_go (fun _ => XS.icmpNo Xk8.here hx rfl (hb hby dLST_90) rfl (XT.ii_ge_f (by decide))) ?_
    show Run p.tables e below (Tk8.setTop (mkF m 93 #[.val (.ref t), .val (.int i), .val (.ref s3), .val (.long (0 : Int64)), .second, .val (.ref s3), .val (.int (1 : Int32)), .val (.int (0 : Int32)), .unset] [])) _
    refine own_go (fun _ => XS.aload Xk8.here hx rfl (hb hby dLST_93) rfl rfl) ?_
    show Run p.tables e below (Tk8.setTop (mkF m 95 #[.val (.ref t), .val (.int i), .val (.ref s3), .val (.long (0 : Int64)), .second, .val (.ref s3), .val (.int (1 : Int32)), .val (.int (0 : Int32)), .unset] [(.ref s3)])) _
    refine own_go (fun _ => XS.iload Xk8.here hx rfl (hb hby dLST_95) rfl) ?_
    show Run p.tables e below (Tk8.setTop (mkF m 97 #[.val (.ref t), .val (.int i), .val (.ref s3), .val (.long (0 : Int64)), .second, .val (.ref s3), .val (.int (1 : Int32)), .val (.int (0 : Int32)), .unset] [(.int (0 : Int32)), (.ref s3)])) _
    refine own_go (fun _ => own_iaload Xk8 hx hZ ek8 Vs (j := (0 : Int32)) ⟨by decide, by decide⟩ (v := .int 2) rfl (g := (mkF m 97 #[.val (.ref t), .val (.int i), .val (.ref s3), .val (.long (0 : Int64)), .second, .val (.ref s3), .val (.int (1 : Int32)), .val (.int (0 : Int32)), .unset] [(.int (0 : Int32)), (.ref s3)])) rfl rfl (hb hby dLST_97) _) ?_
    show Run p.tables e below (Tk8.setTop (mkF m 98 #[.val (.ref t), .val (.int i), .val (.ref s3), .val (.long (0 : Int64)), .second, .val (.ref s3), .val (.int (1 : Int32)), .val (.int (0 : Int32)), .unset] [(.int (2 : Int32))])) _
    refine own_go (fun _ => XS.istore Xk8.here hx rfl (hb hby dLST_98) rfl (l' := #[.val (.ref t), .val (.int i), .val (.ref s3), .val (.long (0 : Int64)), .second, .val (.ref s3), .val (.int (1 : Int32)), .val (.int (0 : Int32)), .val (.int (2 : Int32))]) rfl) ?_
    show Run p.tables e below (Tk8.setTop (mkF m 100 #[.val (.ref t), .val (.int i), .val (.ref s3), .val (.long (0 : Int64)), .second, .val (.ref s3), .val (.int (1 : Int32)), .val (.int (0 : Int32)), .val (.int (2 : Int32))] [])) _
    refine own_go (fun _ => XT.lloadN Xk8.here hx rfl (hb hby dLST_100) rfl) ?_
    show Run p.tables e below (Tk8.setTop (mkF m 101 #[.val (.ref t), .val (.int i), .val (.ref s3), .val (.long (0 : Int64)), .second, .val (.ref s3), .val (.int (1 : Int32)), .val (.int (0 : Int32)), .val (.int (2 : Int32))] [(.long (0 : Int64))])) _
    refine own_go (fun _ => XT.lconst Xk8.here hx rfl (hb hby dLST_101)) ?_
    show Run p.tables e below (Tk8.setTop (mkF m 102 #[.val (.ref t), .val (.int i), .val (.ref s3), .val (.long (0 : Int64)), .second, .val (.ref s3), .val (.int (1 : Int32)), .val (.int (0 : Int32)), .val (.int (2 : Int32))] [(.long (1 : Int64)), (.long (0 : Int64))])) _
    refine own_go (fun _ => XS.iload Xk8.here hx rfl (hb hby dLST_102) rfl) ?_
    show Run p.tables e below (Tk8.setTop (mkF m 104 #[.val (.ref t), .val (.int i), .val (.ref s3), .val (.long (0 : Int64)), .second, .val (.ref s3), .val (.int (1 : Int32)), .val (.int (0 : Int32)), .val (.int (2 : Int32))] [(.int (2 : Int32)), (.long (1 : Int64)), (.long (0 : Int64))])) _
    refine own_go (fun _ => XT.lshl Xk8.here hx rfl (hb hby dLST_104) rfl) ?_
    show Run p.tables e below (Tk8.setTop (mkF m 105 #[.val (.ref t), .val (.int i), .val (.ref s3), .val (.long (0 : Int64)), .second, .val (.ref s3), .val (.int (1 : Int32)), .val (.int (0 : Int32)), .val (.int (2 : Int32))] [(.long ((1 : Int64) <<< (((2 : Int32)).toInt64 &&& 63))), (.long (0 : Int64))])) _
    refine own_go (fun _ => XT.lor Xk8.here hx rfl (hb hby dLST_105) rfl) ?_
    show Run p.tables e below (Tk8.setTop (mkF m 106 #[.val (.ref t), .val (.int i), .val (.ref s3), .val (.long (0 : Int64)), .second, .val (.ref s3), .val (.int (1 : Int32)), .val (.int (0 : Int32)), .val (.int (2 : Int32))] [(.long ((0 : Int64) ||| ((1 : Int64) <<< (((2 : Int32)).toInt64 &&& 63))))])) _
    refine own_go (fun _ => XT.lstoreN Xk8.here hx rfl (hb hby dLST_106) rfl (l' := #[.val (.ref t), .val (.int i), .val (.ref s3), .val (.long ((0 : Int64) ||| ((1 : Int64) <<< (((2 : Int32)).toInt64 &&& 63)))), .second, .val (.ref s3), .val (.int (1 : Int32)), .val (.int (0 : Int32)), .val (.int (2 : Int32))]) rfl) ?_
    show Run p.tables e below (Tk8.setTop (mkF m 107 #[.val (.ref t), .val (.int i), .val (.ref s3), .val (.long ((0 : Int64) ||| ((1 : Int64) <<< (((2 : Int32)).toInt64 &&& 63)))), .second, .val (.ref s3), .val (.int (1 : Int32)), .val (.int (0 : Int32)), .val (.int (2 : Int32))] [])) _
    refine own_go (fun _ => XS.iinc Xk8.here hx rfl (hb hby dLST_107) rfl (l' := #[.val (.ref t), .val (.int i), .val (.ref s3), .val (.long ((0 : Int64) ||| ((1 : Int64) <<< (((2 : Int32)).toInt64 &&& 63)))), .second, .val (.ref s3), .val (.int (1 : Int32)), .val (.int (1 : Int32)), .val (.int (2 : Int32))]) rfl) ?_
    show Run p.tables e below (Tk8.setTop (mkF m 110 #[.val (.ref t), .val (.int i), .val (.ref s3), .val (.long ((0 : Int64) ||| ((1 : Int64) <<< (((2 : Int32)).toInt64 &&& 63)))), .second, .val (.ref s3), .val (.int (1 : Int32)), .val (.int (1 : Int32)), .val (.int (2 : Int32))] [])) _
    refine own_go (fun _ => XS.goto Xk8.here hx rfl (pc0 := 110) (pc' := 86) rfl (hb hby dLST_110) (by decide) (by decide)) ?_
    show Run p.tables e below (Tk8.setTop (mkF m 86 #[.val (.ref t), .val (.int i), .val (.ref s3), .val (.long ((0 : Int64) ||| ((1 : Int64) <<< (((2 : Int32)).toInt64 &&& 63)))), .second, .val (.ref s3), .val (.int (1 : Int32)), .val (.int (1 : Int32)), .val (.int (2 : Int32))] [])) _
    refine own_go (fun _ => XS.iload Xk8.here hx rfl (hb hby dLST_86) rfl) ?_
    show Run p.tables e below (Tk8.setTop (mkF m 88 #[.val (.ref t), .val (.int i), .val (.ref s3), .val (.long ((0 : Int64) ||| ((1 : Int64) <<< (((2 : Int32)).toInt64 &&& 63)))), .second, .val (.ref s3), .val (.int (1 : Int32)), .val (.int (1 : Int32)), .val (.int (2 : Int32))] [(.int (1 : Int32))])) _
    refine own_go (fun _ => XS.iload Xk8.here hx rfl (hb hby dLST_88) rfl) ?_
    show Run p.tables e below (Tk8.setTop (mkF m 90 #[.val (.ref t), .val (.int i), .val (.ref s3), .val (.long ((0 : Int64) ||| ((1 : Int64) <<< (((2 : Int32)).toInt64 &&& 63)))), .second, .val (.ref s3), .val (.int (1 : Int32)), .val (.int (1 : Int32)), .val (.int (2 : Int32))] [(.int (1 : Int32)), (.int (1 : Int32))])) _
    refine own_go (fun _ => XS.icmpYes Xk8.here hx rfl (pc0 := 90) (pc' := 113) rfl (hb hby dLST_90) rfl (XT.ii_ge_t (by decide)) (by decide) (by decide)) ?_
    show Run p.tables e below (Tk8.setTop (mkF m 113 #[.val (.ref t), .val (.int i), .val (.ref s3), .val (.long ((0 : Int64) ||| ((1 : Int64) <<< (((2 : Int32)).toInt64 &&& 63)))), .second, .val (.ref s3), .val (.int (1 : Int32)), .val (.int (1 : Int32)), .val (.int (2 : Int32))] [])) _
    rw [show ((0 : Int64) ||| ((1 : Int64) <<< (((2 : Int32)).toInt64 &&& 63))) = (4 : Int32).toInt64 from by decide +kernel]
    exact JB _ _ _ _ Xk8 ek8
  · rw [own_cnt5, own_arr5] at Vs
    show Run p.tables e below (Tk8.setTop (mkF m 75 #[.val (.ref t), .val (.int i), .val (.ref s3), .val (.long (0 : Int64)), .second, .unset, .unset, .unset, .unset] [])) _
    refine own_go (fun _ => XS.aloadN Xk8.here hx rfl (hb hby dLST_75) rfl rfl) ?_
    show Run p.tables e below (Tk8.setTop (mkF m 76 #[.val (.ref t), .val (.int i), .val (.ref s3), .val (.long (0 : Int64)), .second, .unset, .unset, .unset, .unset] [(.ref s3)])) _
    refine own_go (fun _ => XS.astore Xk8.here hx rfl (hb hby dLST_76) rfl rfl (l' := #[.val (.ref t), .val (.int i), .val (.ref s3), .val (.long (0 : Int64)), .second, .val (.ref s3), .unset, .unset, .unset]) rfl) ?_
    show Run p.tables e below (Tk8.setTop (mkF m 78 #[.val (.ref t), .val (.int i), .val (.ref s3), .val (.long (0 : Int64)), .second, .val (.ref s3), .unset, .unset, .unset] [])) _
    refine own_go (fun _ => XS.aload Xk8.here hx rfl (hb hby dLST_78) rfl rfl) ?_
    show Run p.tables e below (Tk8.setTop (mkF m 80 #[.val (.ref t), .val (.int i), .val (.ref s3), .val (.long (0 : Int64)), .second, .val (.ref s3), .unset, .unset, .unset] [(.ref s3)])) _
    refine own_go (fun _ => own_alen Xk8 hx hZ ek8 Vs (g := (mkF m 80 #[.val (.ref t), .val (.int i), .val (.ref s3), .val (.long (0 : Int64)), .second, .val (.ref s3), .unset, .unset, .unset] [(.ref s3)])) rfl rfl (hb hby dLST_80) _) ?_
    show Run p.tables e below (Tk8.setTop (mkF m 81 #[.val (.ref t), .val (.int i), .val (.ref s3), .val (.long (0 : Int64)), .second, .val (.ref s3), .unset, .unset, .unset] [(.int (2 : Int32))])) _
    refine own_go (fun _ => XS.istore Xk8.here hx rfl (hb hby dLST_81) rfl (l' := #[.val (.ref t), .val (.int i), .val (.ref s3), .val (.long (0 : Int64)), .second, .val (.ref s3), .val (.int (2 : Int32)), .unset, .unset]) rfl) ?_
    show Run p.tables e below (Tk8.setTop (mkF m 83 #[.val (.ref t), .val (.int i), .val (.ref s3), .val (.long (0 : Int64)), .second, .val (.ref s3), .val (.int (2 : Int32)), .unset, .unset] [])) _
    refine own_go (fun _ => XS.iconst Xk8.here hx rfl (hb hby dLST_83)) ?_
    show Run p.tables e below (Tk8.setTop (mkF m 84 #[.val (.ref t), .val (.int i), .val (.ref s3), .val (.long (0 : Int64)), .second, .val (.ref s3), .val (.int (2 : Int32)), .unset, .unset] [(.int (0 : Int32))])) _
    refine own_go (fun _ => XS.istore Xk8.here hx rfl (hb hby dLST_84) rfl (l' := #[.val (.ref t), .val (.int i), .val (.ref s3), .val (.long (0 : Int64)), .second, .val (.ref s3), .val (.int (2 : Int32)), .val (.int (0 : Int32)), .unset]) rfl) ?_
    show Run p.tables e below (Tk8.setTop (mkF m 86 #[.val (.ref t), .val (.int i), .val (.ref s3), .val (.long (0 : Int64)), .second, .val (.ref s3), .val (.int (2 : Int32)), .val (.int (0 : Int32)), .unset] [])) _
    refine own_go (fun _ => XS.iload Xk8.here hx rfl (hb hby dLST_86) rfl) ?_
    show Run p.tables e below (Tk8.setTop (mkF m 88 #[.val (.ref t), .val (.int i), .val (.ref s3), .val (.long (0 : Int64)), .second, .val (.ref s3), .val (.int (2 : Int32)), .val (.int (0 : Int32)), .unset] [(.int (0 : Int32))])) _
    refine own_go (fun _ => XS.iload Xk8.here hx rfl (hb hby dLST_88) rfl) ?_
    show Run p.tables e below (Tk8.setTop (mkF m 90 #[.val (.ref t), .val (.int i), .val (.ref s3), .val (.long (0 : Int64)), .second, .val (.ref s3), .val (.int (2 : Int32)), .val (.int (0 : Int32)), .unset] [(.int (2 : Int32)), (.int (0 : Int32))])) _
    refine own_go (fun _ => XS.icmpNo Xk8.here hx rfl (hb hby dLST_90) rfl (XT.ii_ge_f (by decide))) ?_
    show Run p.tables e below (Tk8.setTop (mkF m 93 #[.val (.ref t), .val (.int i), .val (.ref s3), .val (.long (0 : Int64)), .second, .val (.ref s3), .val (.int (2 : Int32)), .val (.int (0 : Int32)), .unset] [])) _
    refine own_go (fun _ => XS.aload Xk8.here hx rfl (hb hby dLST_93) rfl rfl) ?_
    show Run p.tables e below (Tk8.setTop (mkF m 95 #[.val (.ref t), .val (.int i), .val (.ref s3), .val (.long (0 : Int64)), .second, .val (.ref s3), .val (.int (2 : Int32)), .val (.int (0 : Int32)), .unset] [(.ref s3)])) _
    refine own_go (fun _ => XS.iload Xk8.here hx rfl (hb hby dLST_95) rfl) ?_
    show Run p.tables e below (Tk8.setTop (mkF m 97 #[.val (.ref t), .val (.int i), .val (.ref s3), .val (.long (0 : Int64)), .second, .val (.ref s3), .val (.int (2 : Int32)), .val (.int (0 : Int32)), .unset] [(.int (0 : Int32)), (.ref s3)])) _
    refine own_go (fun _ => own_iaload Xk8 hx hZ ek8 Vs (j := (0 : Int32)) ⟨by decide, by decide⟩ (v := .int 2) rfl (g := (mkF m 97 #[.val (.ref t), .val (.int i), .val (.ref s3), .val (.long (0 : Int64)), .second, .val (.ref s3), .val (.int (2 : Int32)), .val (.int (0 : Int32)), .unset] [(.int (0 : Int32)), (.ref s3)])) rfl rfl (hb hby dLST_97) _) ?_
    show Run p.tables e below (Tk8.setTop (mkF m 98 #[.val (.ref t), .val (.int i), .val (.ref s3), .val (.long (0 : Int64)), .second, .val (.ref s3), .val (.int (2 : Int32)), .val (.int (0 : Int32)), .unset] [(.int (2 : Int32))])) _
    refine own_go (fun _ => XS.istore Xk8.here hx rfl (hb hby dLST_98) rfl (l' := #[.val (.ref t), .val (.int i), .val (.ref s3), .val (.long (0 : Int64)), .second, .val (.ref s3), .val (.int (2 : Int32)), .val (.int (0 : Int32)), .val (.int (2 : Int32))]) rfl) ?_
    show Run p.tables e below (Tk8.setTop (mkF m 100 #[.val (.ref t), .val (.int i), .val (.ref s3), .val (.long (0 : Int64)), .second, .val (.ref s3), .val (.int (2 : Int32)), .val (.int (0 : Int32)), .val (.int (2 : Int32))] [])) _
    refine own_go (fun _ => XT.lloadN Xk8.here hx rfl (hb hby dLST_100) rfl) ?_
    show Run p.tables e below (Tk8.setTop (mkF m 101 #[.val (.ref t), .val (.int i), .val (.ref s3), .val (.long (0 : Int64)), .second, .val (.ref s3), .val (.int (2 : Int32)), .val (.int (0 : Int32)), .val (.int (2 : Int32))] [(.long (0 : Int64))])) _
    refine own_go (fun _ => XT.lconst Xk8.here hx rfl (hb hby dLST_101)) ?_
    show Run p.tables e below (Tk8.setTop (mkF m 102 #[.val (.ref t), .val (.int i), .val (.ref s3), .val (.long (0 : Int64)), .second, .val (.ref s3), .val (.int (2 : Int32)), .val (.int (0 : Int32)), .val (.int (2 : Int32))] [(.long (1 : Int64)), (.long (0 : Int64))])) _
    refine own_go (fun _ => XS.iload Xk8.here hx rfl (hb hby dLST_102) rfl) ?_
    show Run p.tables e below (Tk8.setTop (mkF m 104 #[.val (.ref t), .val (.int i), .val (.ref s3), .val (.long (0 : Int64)), .second, .val (.ref s3), .val (.int (2 : Int32)), .val (.int (0 : Int32)), .val (.int (2 : Int32))] [(.int (2 : Int32)), (.long (1 : Int64)), (.long (0 : Int64))])) _
    refine own_go (fun _ => XT.lshl Xk8.here hx rfl (hb hby dLST_104) rfl) ?_
    show Run p.tables e below (Tk8.setTop (mkF m 105 #[.val (.ref t), .val (.int i), .val (.ref s3), .val (.long (0 : Int64)), .second, .val (.ref s3), .val (.int (2 : Int32)), .val (.int (0 : Int32)), .val (.int (2 : Int32))] [(.long ((1 : Int64) <<< (((2 : Int32)).toInt64 &&& 63))), (.long (0 : Int64))])) _
    refine own_go (fun _ => XT.lor Xk8.here hx rfl (hb hby dLST_105) rfl) ?_
    show Run p.tables e below (Tk8.setTop (mkF m 106 #[.val (.ref t), .val (.int i), .val (.ref s3), .val (.long (0 : Int64)), .second, .val (.ref s3), .val (.int (2 : Int32)), .val (.int (0 : Int32)), .val (.int (2 : Int32))] [(.long ((0 : Int64) ||| ((1 : Int64) <<< (((2 : Int32)).toInt64 &&& 63))))])) _
    refine own_go (fun _ => XT.lstoreN Xk8.here hx rfl (hb hby dLST_106) rfl (l' := #[.val (.ref t), .val (.int i), .val (.ref s3), .val (.long ((0 : Int64) ||| ((1 : Int64) <<< (((2 : Int32)).toInt64 &&& 63)))), .second, .val (.ref s3), .val (.int (2 : Int32)), .val (.int (0 : Int32)), .val (.int (2 : Int32))]) rfl) ?_
    show Run p.tables e below (Tk8.setTop (mkF m 107 #[.val (.ref t), .val (.int i), .val (.ref s3), .val (.long ((0 : Int64) ||| ((1 : Int64) <<< (((2 : Int32)).toInt64 &&& 63)))), .second, .val (.ref s3), .val (.int (2 : Int32)), .val (.int (0 : Int32)), .val (.int (2 : Int32))] [])) _
    refine own_go (fun _ => XS.iinc Xk8.here hx rfl (hb hby dLST_107) rfl (l' := #[.val (.ref t), .val (.int i), .val (.ref s3), .val (.long ((0 : Int64) ||| ((1 : Int64) <<< (((2 : Int32)).toInt64 &&& 63)))), .second, .val (.ref s3), .val (.int (2 : Int32)), .val (.int (1 : Int32)), .val (.int (2 : Int32))]) rfl) ?_
    show Run p.tables e below (Tk8.setTop (mkF m 110 #[.val (.ref t), .val (.int i), .val (.ref s3), .val (.long ((0 : Int64) ||| ((1 : Int64) <<< (((2 : Int32)).toInt64 &&& 63)))), .second, .val (.ref s3), .val (.int (2 : Int32)), .val (.int (1 : Int32)), .val (.int (2 : Int32))] [])) _
    refine own_go (fun _ => XS.goto Xk8.here hx rfl (pc0 := 110) (pc' := 86) rfl (hb hby dLST_110) (by decide) (by decide)) ?_
    show Run p.tables e below (Tk8.setTop (mkF m 86 #[.val (.ref t), .val (.int i), .val (.ref s3), .val (.long ((0 : Int64) ||| ((1 : Int64) <<< (((2 : Int32)).toInt64 &&& 63)))), .second, .val (.ref s3), .val (.int (2 : Int32)), .val (.int (1 : Int32)), .val (.int (2 : Int32))] [])) _
    refine own_go (fun _ => XS.iload Xk8.here hx rfl (hb hby dLST_86) rfl) ?_
    show Run p.tables e below (Tk8.setTop (mkF m 88 #[.val (.ref t), .val (.int i), .val (.ref s3), .val (.long ((0 : Int64) ||| ((1 : Int64) <<< (((2 : Int32)).toInt64 &&& 63)))), .second, .val (.ref s3), .val (.int (2 : Int32)), .val (.int (1 : Int32)), .val (.int (2 : Int32))] [(.int (1 : Int32))])) _
    refine own_go (fun _ => XS.iload Xk8.here hx rfl (hb hby dLST_88) rfl) ?_
    show Run p.tables e below (Tk8.setTop (mkF m 90 #[.val (.ref t), .val (.int i), .val (.ref s3), .val (.long ((0 : Int64) ||| ((1 : Int64) <<< (((2 : Int32)).toInt64 &&& 63)))), .second, .val (.ref s3), .val (.int (2 : Int32)), .val (.int (1 : Int32)), .val (.int (2 : Int32))] [(.int (2 : Int32)), (.int (1 : Int32))])) _
    refine own_go (fun _ => XS.icmpNo Xk8.here hx rfl (hb hby dLST_90) rfl (XT.ii_ge_f (by decide))) ?_
    show Run p.tables e below (Tk8.setTop (mkF m 93 #[.val (.ref t), .val (.int i), .val (.ref s3), .val (.long ((0 : Int64) ||| ((1 : Int64) <<< (((2 : Int32)).toInt64 &&& 63)))), .second, .val (.ref s3), .val (.int (2 : Int32)), .val (.int (1 : Int32)), .val (.int (2 : Int32))] [])) _
    refine own_go (fun _ => XS.aload Xk8.here hx rfl (hb hby dLST_93) rfl rfl) ?_
    show Run p.tables e below (Tk8.setTop (mkF m 95 #[.val (.ref t), .val (.int i), .val (.ref s3), .val (.long ((0 : Int64) ||| ((1 : Int64) <<< (((2 : Int32)).toInt64 &&& 63)))), .second, .val (.ref s3), .val (.int (2 : Int32)), .val (.int (1 : Int32)), .val (.int (2 : Int32))] [(.ref s3)])) _
    refine own_go (fun _ => XS.iload Xk8.here hx rfl (hb hby dLST_95) rfl) ?_
    show Run p.tables e below (Tk8.setTop (mkF m 97 #[.val (.ref t), .val (.int i), .val (.ref s3), .val (.long ((0 : Int64) ||| ((1 : Int64) <<< (((2 : Int32)).toInt64 &&& 63)))), .second, .val (.ref s3), .val (.int (2 : Int32)), .val (.int (1 : Int32)), .val (.int (2 : Int32))] [(.int (1 : Int32)), (.ref s3)])) _
    refine own_go (fun _ => own_iaload Xk8 hx hZ ek8 Vs (j := (1 : Int32)) ⟨by decide, by decide⟩ (v := .int 0) rfl (g := (mkF m 97 #[.val (.ref t), .val (.int i), .val (.ref s3), .val (.long ((0 : Int64) ||| ((1 : Int64) <<< (((2 : Int32)).toInt64 &&& 63)))), .second, .val (.ref s3), .val (.int (2 : Int32)), .val (.int (1 : Int32)), .val (.int (2 : Int32))] [(.int (1 : Int32)), (.ref s3)])) rfl rfl (hb hby dLST_97) _) ?_
    show Run p.tables e below (Tk8.setTop (mkF m 98 #[.val (.ref t), .val (.int i), .val (.ref s3), .val (.long ((0 : Int64) ||| ((1 : Int64) <<< (((2 : Int32)).toInt64 &&& 63)))), .second, .val (.ref s3), .val (.int (2 : Int32)), .val (.int (1 : Int32)), .val (.int (2 : Int32))] [(.int (0 : Int32))])) _
    refine own_go (fun _ => XS.istore Xk8.here hx rfl (hb hby dLST_98) rfl (l' := #[.val (.ref t), .val (.int i), .val (.ref s3), .val (.long ((0 : Int64) ||| ((1 : Int64) <<< (((2 : Int32)).toInt64 &&& 63)))), .second, .val (.ref s3), .val (.int (2 : Int32)), .val (.int (1 : Int32)), .val (.int (0 : Int32))]) rfl) ?_
    show Run p.tables e below (Tk8.setTop (mkF m 100 #[.val (.ref t), .val (.int i), .val (.ref s3), .val (.long ((0 : Int64) ||| ((1 : Int64) <<< (((2 : Int32)).toInt64 &&& 63)))), .second, .val (.ref s3), .val (.int (2 : Int32)), .val (.int (1 : Int32)), .val (.int (0 : Int32))] [])) _
    refine own_go (fun _ => XT.lloadN Xk8.here hx rfl (hb hby dLST_100) rfl) ?_
    show Run p.tables e below (Tk8.setTop (mkF m 101 #[.val (.ref t), .val (.int i), .val (.ref s3), .val (.long ((0 : Int64) ||| ((1 : Int64) <<< (((2 : Int32)).toInt64 &&& 63)))), .second, .val (.ref s3), .val (.int (2 : Int32)), .val (.int (1 : Int32)), .val (.int (0 : Int32))] [(.long ((0 : Int64) ||| ((1 : Int64) <<< (((2 : Int32)).toInt64 &&& 63))))])) _
    refine own_go (fun _ => XT.lconst Xk8.here hx rfl (hb hby dLST_101)) ?_
    show Run p.tables e below (Tk8.setTop (mkF m 102 #[.val (.ref t), .val (.int i), .val (.ref s3), .val (.long ((0 : Int64) ||| ((1 : Int64) <<< (((2 : Int32)).toInt64 &&& 63)))), .second, .val (.ref s3), .val (.int (2 : Int32)), .val (.int (1 : Int32)), .val (.int (0 : Int32))] [(.long (1 : Int64)), (.long ((0 : Int64) ||| ((1 : Int64) <<< (((2 : Int32)).toInt64 &&& 63))))])) _
    refine own_go (fun _ => XS.iload Xk8.here hx rfl (hb hby dLST_102) rfl) ?_
    show Run p.tables e below (Tk8.setTop (mkF m 104 #[.val (.ref t), .val (.int i), .val (.ref s3), .val (.long ((0 : Int64) ||| ((1 : Int64) <<< (((2 : Int32)).toInt64 &&& 63)))), .second, .val (.ref s3), .val (.int (2 : Int32)), .val (.int (1 : Int32)), .val (.int (0 : Int32))] [(.int (0 : Int32)), (.long (1 : Int64)), (.long ((0 : Int64) ||| ((1 : Int64) <<< (((2 : Int32)).toInt64 &&& 63))))])) _
    refine own_go (fun _ => XT.lshl Xk8.here hx rfl (hb hby dLST_104) rfl) ?_
    show Run p.tables e below (Tk8.setTop (mkF m 105 #[.val (.ref t), .val (.int i), .val (.ref s3), .val (.long ((0 : Int64) ||| ((1 : Int64) <<< (((2 : Int32)).toInt64 &&& 63)))), .second, .val (.ref s3), .val (.int (2 : Int32)), .val (.int (1 : Int32)), .val (.int (0 : Int32))] [(.long ((1 : Int64) <<< (((0 : Int32)).toInt64 &&& 63))), (.long ((0 : Int64) ||| ((1 : Int64) <<< (((2 : Int32)).toInt64 &&& 63))))])) _
    refine own_go (fun _ => XT.lor Xk8.here hx rfl (hb hby dLST_105) rfl) ?_
    show Run p.tables e below (Tk8.setTop (mkF m 106 #[.val (.ref t), .val (.int i), .val (.ref s3), .val (.long ((0 : Int64) ||| ((1 : Int64) <<< (((2 : Int32)).toInt64 &&& 63)))), .second, .val (.ref s3), .val (.int (2 : Int32)), .val (.int (1 : Int32)), .val (.int (0 : Int32))] [(.long (((0 : Int64) ||| ((1 : Int64) <<< (((2 : Int32)).toInt64 &&& 63))) ||| ((1 : Int64) <<< (((0 : Int32)).toInt64 &&& 63))))])) _
    refine own_go (fun _ => XT.lstoreN Xk8.here hx rfl (hb hby dLST_106) rfl (l' := #[.val (.ref t), .val (.int i), .val (.ref s3), .val (.long (((0 : Int64) ||| ((1 : Int64) <<< (((2 : Int32)).toInt64 &&& 63))) ||| ((1 : Int64) <<< (((0 : Int32)).toInt64 &&& 63)))), .second, .val (.ref s3), .val (.int (2 : Int32)), .val (.int (1 : Int32)), .val (.int (0 : Int32))]) rfl) ?_
    show Run p.tables e below (Tk8.setTop (mkF m 107 #[.val (.ref t), .val (.int i), .val (.ref s3), .val (.long (((0 : Int64) ||| ((1 : Int64) <<< (((2 : Int32)).toInt64 &&& 63))) ||| ((1 : Int64) <<< (((0 : Int32)).toInt64 &&& 63)))), .second, .val (.ref s3), .val (.int (2 : Int32)), .val (.int (1 : Int32)), .val (.int (0 : Int32))] [])) _
    refine own_go (fun _ => XS.iinc Xk8.here hx rfl (hb hby dLST_107) rfl (l' := #[.val (.ref t), .val (.int i), .val (.ref s3), .val (.long (((0 : Int64) ||| ((1 : Int64) <<< (((2 : Int32)).toInt64 &&& 63))) ||| ((1 : Int64) <<< (((0 : Int32)).toInt64 &&& 63)))), .second, .val (.ref s3), .val (.int (2 : Int32)), .val (.int (2 : Int32)), .val (.int (0 : Int32))]) rfl) ?_
    show Run p.tables e below (Tk8.setTop (mkF m 110 #[.val (.ref t), .val (.int i), .val (.ref s3), .val (.long (((0 : Int64) ||| ((1 : Int64) <<< (((2 : Int32)).toInt64 &&& 63))) ||| ((1 : Int64) <<< (((0 : Int32)).toInt64 &&& 63)))), .second, .val (.ref s3), .val (.int (2 : Int32)), .val (.int (2 : Int32)), .val (.int (0 : Int32))] [])) _
    refine own_go (fun _ => XS.goto Xk8.here hx rfl (pc0 := 110) (pc' := 86) rfl (hb hby dLST_110) (by decide) (by decide)) ?_
    show Run p.tables e below (Tk8.setTop (mkF m 86 #[.val (.ref t), .val (.int i), .val (.ref s3), .val (.long (((0 : Int64) ||| ((1 : Int64) <<< (((2 : Int32)).toInt64 &&& 63))) ||| ((1 : Int64) <<< (((0 : Int32)).toInt64 &&& 63)))), .second, .val (.ref s3), .val (.int (2 : Int32)), .val (.int (2 : Int32)), .val (.int (0 : Int32))] [])) _
    refine own_go (fun _ => XS.iload Xk8.here hx rfl (hb hby dLST_86) rfl) ?_
    show Run p.tables e below (Tk8.setTop (mkF m 88 #[.val (.ref t), .val (.int i), .val (.ref s3), .val (.long (((0 : Int64) ||| ((1 : Int64) <<< (((2 : Int32)).toInt64 &&& 63))) ||| ((1 : Int64) <<< (((0 : Int32)).toInt64 &&& 63)))), .second, .val (.ref s3), .val (.int (2 : Int32)), .val (.int (2 : Int32)), .val (.int (0 : Int32))] [(.int (2 : Int32))])) _
    refine own_go (fun _ => XS.iload Xk8.here hx rfl (hb hby dLST_88) rfl) ?_
    show Run p.tables e below (Tk8.setTop (mkF m 90 #[.val (.ref t), .val (.int i), .val (.ref s3), .val (.long (((0 : Int64) ||| ((1 : Int64) <<< (((2 : Int32)).toInt64 &&& 63))) ||| ((1 : Int64) <<< (((0 : Int32)).toInt64 &&& 63)))), .second, .val (.ref s3), .val (.int (2 : Int32)), .val (.int (2 : Int32)), .val (.int (0 : Int32))] [(.int (2 : Int32)), (.int (2 : Int32))])) _
    refine own_go (fun _ => XS.icmpYes Xk8.here hx rfl (pc0 := 90) (pc' := 113) rfl (hb hby dLST_90) rfl (XT.ii_ge_t (by decide)) (by decide) (by decide)) ?_
    show Run p.tables e below (Tk8.setTop (mkF m 113 #[.val (.ref t), .val (.int i), .val (.ref s3), .val (.long (((0 : Int64) ||| ((1 : Int64) <<< (((2 : Int32)).toInt64 &&& 63))) ||| ((1 : Int64) <<< (((0 : Int32)).toInt64 &&& 63)))), .second, .val (.ref s3), .val (.int (2 : Int32)), .val (.int (2 : Int32)), .val (.int (0 : Int32))] [])) _
    rw [show (((0 : Int64) ||| ((1 : Int64) <<< (((2 : Int32)).toInt64 &&& 63))) ||| ((1 : Int64) <<< (((0 : Int32)).toInt64 &&& 63))) = (5 : Int32).toInt64 from by decide +kernel]
    exact JB _ _ _ _ Xk8 ek8
  · rw [own_cnt6, own_arr6] at Vs
    show Run p.tables e below (Tk8.setTop (mkF m 75 #[.val (.ref t), .val (.int i), .val (.ref s3), .val (.long (0 : Int64)), .second, .unset, .unset, .unset, .unset] [])) _
    refine own_go (fun _ => XS.aloadN Xk8.here hx rfl (hb hby dLST_75) rfl rfl) ?_
    show Run p.tables e below (Tk8.setTop (mkF m 76 #[.val (.ref t), .val (.int i), .val (.ref s3), .val (.long (0 : Int64)), .second, .unset, .unset, .unset, .unset] [(.ref s3)])) _
    refine own_go (fun _ => XS.astore Xk8.here hx rfl (hb hby dLST_76) rfl rfl (l' := #[.val (.ref t), .val (.int i), .val (.ref s3), .val (.long (0 : Int64)), .second, .val (.ref s3), .unset, .unset, .unset]) rfl) ?_
    show Run p.tables e below (Tk8.setTop (mkF m 78 #[.val (.ref t), .val (.int i), .val (.ref s3), .val (.long (0 : Int64)), .second, .val (.ref s3), .unset, .unset, .unset] [])) _
    refine own_go (fun _ => XS.aload Xk8.here hx rfl (hb hby dLST_78) rfl rfl) ?_
    show Run p.tables e below (Tk8.setTop (mkF m 80 #[.val (.ref t), .val (.int i), .val (.ref s3), .val (.long (0 : Int64)), .second, .val (.ref s3), .unset, .unset, .unset] [(.ref s3)])) _
    refine own_go (fun _ => own_alen Xk8 hx hZ ek8 Vs (g := (mkF m 80 #[.val (.ref t), .val (.int i), .val (.ref s3), .val (.long (0 : Int64)), .second, .val (.ref s3), .unset, .unset, .unset] [(.ref s3)])) rfl rfl (hb hby dLST_80) _) ?_
    show Run p.tables e below (Tk8.setTop (mkF m 81 #[.val (.ref t), .val (.int i), .val (.ref s3), .val (.long (0 : Int64)), .second, .val (.ref s3), .unset, .unset, .unset] [(.int (2 : Int32))])) _
    refine own_go (fun _ => XS.istore Xk8.here hx rfl (hb hby dLST_81) rfl (l' := #[.val (.ref t), .val (.int i), .val (.ref s3), .val (.long (0 : Int64)), .second, .val (.ref s3), .val (.int (2 : Int32)), .unset, .unset]) rfl) ?_
    show Run p.tables e below (Tk8.setTop (mkF m 83 #[.val (.ref t), .val (.int i), .val (.ref s3), .val (.long (0 : Int64)), .second, .val (.ref s3), .val (.int (2 : Int32)), .unset, .unset] [])) _
    refine own_go (fun _ => XS.iconst Xk8.here hx rfl (hb hby dLST_83)) ?_
    show Run p.tables e below (Tk8.setTop (mkF m 84 #[.val (.ref t), .val (.int i), .val (.ref s3), .val (.long (0 : Int64)), .second, .val (.ref s3), .val (.int (2 : Int32)), .unset, .unset] [(.int (0 : Int32))])) _
    refine own_go (fun _ => XS.istore Xk8.here hx rfl (hb hby dLST_84) rfl (l' := #[.val (.ref t), .val (.int i), .val (.ref s3), .val (.long (0 : Int64)), .second, .val (.ref s3), .val (.int (2 : Int32)), .val (.int (0 : Int32)), .unset]) rfl) ?_
    show Run p.tables e below (Tk8.setTop (mkF m 86 #[.val (.ref t), .val (.int i), .val (.ref s3), .val (.long (0 : Int64)), .second, .val (.ref s3), .val (.int (2 : Int32)), .val (.int (0 : Int32)), .unset] [])) _
    refine own_go (fun _ => XS.iload Xk8.here hx rfl (hb hby dLST_86) rfl) ?_
    show Run p.tables e below (Tk8.setTop (mkF m 88 #[.val (.ref t), .val (.int i), .val (.ref s3), .val (.long (0 : Int64)), .second, .val (.ref s3), .val (.int (2 : Int32)), .val (.int (0 : Int32)), .unset] [(.int (0 : Int32))])) _
    refine own_go (fun _ => XS.iload Xk8.here hx rfl (hb hby dLST_88) rfl) ?_
    show Run p.tables e below (Tk8.setTop (mkF m 90 #[.val (.ref t), .val (.int i), .val (.ref s3), .val (.long (0 : Int64)), .second, .val (.ref s3), .val (.int (2 : Int32)), .val (.int (0 : Int32)), .unset] [(.int (2 : Int32)), (.int (0 : Int32))])) _
    refine own_go (fun _ => XS.icmpNo Xk8.here hx rfl (hb hby dLST_90) rfl (XT.ii_ge_f (by decide))) ?_
    show Run p.tables e below (Tk8.setTop (mkF m 93 #[.val (.ref t), .val (.int i), .val (.ref s3), .val (.long (0 : Int64)), .second, .val (.ref s3), .val (.int (2 : Int32)), .val (.int (0 : Int32)), .unset] [])) _
    refine own_go (fun _ => XS.aload Xk8.here hx rfl (hb hby dLST_93) rfl rfl) ?_
    show Run p.tables e below (Tk8.setTop (mkF m 95 #[.val (.ref t), .val (.int i), .val (.ref s3), .val (.long (0 : Int64)), .second, .val (.ref s3), .val (.int (2 : Int32)), .val (.int (0 : Int32)), .unset] [(.ref s3)])) _
    refine own_go (fun _ => XS.iload Xk8.here hx rfl (hb hby dLST_95) rfl) ?_
    show Run p.tables e below (Tk8.setTop (mkF m 97 #[.val (.ref t), .val (.int i), .val (.ref s3), .val (.long (0 : Int64)), .second, .val (.ref s3), .val (.int (2 : Int32)), .val (.int (0 : Int32)), .unset] [(.int (0 : Int32)), (.ref s3)])) _
    refine own_go (fun _ => own_iaload Xk8 hx hZ ek8 Vs (j := (0 : Int32)) ⟨by decide, by decide⟩ (v := .int 2) rfl (g := (mkF m 97 #[.val (.ref t), .val (.int i), .val (.ref s3), .val (.long (0 : Int64)), .second, .val (.ref s3), .val (.int (2 : Int32)), .val (.int (0 : Int32)), .unset] [(.int (0 : Int32)), (.ref s3)])) rfl rfl (hb hby dLST_97) _) ?_
    show Run p.tables e below (Tk8.setTop (mkF m 98 #[.val (.ref t), .val (.int i), .val (.ref s3), .val (.long (0 : Int64)), .second, .val (.ref s3), .val (.int (2 : Int32)), .val (.int (0 : Int32)), .unset] [(.int (2 : Int32))])) _
    refine own_go (fun _ => XS.istore Xk8.here hx rfl (hb hby dLST_98) rfl (l' := #[.val (.ref t), .val (.int i), .val (.ref s3), .val (.long (0 : Int64)), .second, .val (.ref s3), .val (.int (2 : Int32)), .val (.int (0 : Int32)), .val (.int (2 : Int32))]) rfl) ?_
    show Run p.tables e below (Tk8.setTop (mkF m 100 #[.val (.ref t), .val (.int i), .val (.ref s3), .val (.long (0 : Int64)), .second, .val (.ref s3), .val (.int (2 : Int32)), .val (.int (0 : Int32)), .val (.int (2 : Int32))] [])) _
    refine own_go (fun _ => XT.lloadN Xk8.here hx rfl (hb hby dLST_100) rfl) ?_
    show Run p.tables e below (Tk8.setTop (mkF m 101 #[.val (.ref t), .val (.int i), .val (.ref s3), .val (.long (0 : Int64)), .second, .val (.ref s3), .val (.int (2 : Int32)), .val (.int (0 : Int32)), .val (.int (2 : Int32))] [(.long (0 : Int64))])) _
    refine own_go (fun _ => XT.lconst Xk8.here hx rfl (hb hby dLST_101)) ?_
    show Run p.tables e below (Tk8.setTop (mkF m 102 #[.val (.ref t), .val (.int i), .val (.ref s3), .val (.long (0 : Int64)), .second, .val (.ref s3), .val (.int (2 : Int32)), .val (.int (0 : Int32)), .val (.int (2 : Int32))] [(.long (1 : Int64)), (.long (0 : Int64))])) _
    refine own_go (fun _ => XS.iload Xk8.here hx rfl (hb hby dLST_102) rfl) ?_
    show Run p.tables e below (Tk8.setTop (mkF m 104 #[.val (.ref t), .val (.int i), .val (.ref s3), .val (.long (0 : Int64)), .second, .val (.ref s3), .val (.int (2 : Int32)), .val (.int (0 : Int32)), .val (.int (2 : Int32))] [(.int (2 : Int32)), (.long (1 : Int64)), (.long (0 : Int64))])) _
    refine own_go (fun _ => XT.lshl Xk8.here hx rfl (hb hby dLST_104) rfl) ?_
    show Run p.tables e below (Tk8.setTop (mkF m 105 #[.val (.ref t), .val (.int i), .val (.ref s3), .val (.long (0 : Int64)), .second, .val (.ref s3), .val (.int (2 : Int32)), .val (.int (0 : Int32)), .val (.int (2 : Int32))] [(.long ((1 : Int64) <<< (((2 : Int32)).toInt64 &&& 63))), (.long (0 : Int64))])) _
    refine own_go (fun _ => XT.lor Xk8.here hx rfl (hb hby dLST_105) rfl) ?_
    show Run p.tables e below (Tk8.setTop (mkF m 106 #[.val (.ref t), .val (.int i), .val (.ref s3), .val (.long (0 : Int64)), .second, .val (.ref s3), .val (.int (2 : Int32)), .val (.int (0 : Int32)), .val (.int (2 : Int32))] [(.long ((0 : Int64) ||| ((1 : Int64) <<< (((2 : Int32)).toInt64 &&& 63))))])) _
    refine own_go (fun _ => XT.lstoreN Xk8.here hx rfl (hb hby dLST_106) rfl (l' := #[.val (.ref t), .val (.int i), .val (.ref s3), .val (.long ((0 : Int64) ||| ((1 : Int64) <<< (((2 : Int32)).toInt64 &&& 63)))), .second, .val (.ref s3), .val (.int (2 : Int32)), .val (.int (0 : Int32)), .val (.int (2 : Int32))]) rfl) ?_
    show Run p.tables e below (Tk8.setTop (mkF m 107 #[.val (.ref t), .val (.int i), .val (.ref s3), .val (.long ((0 : Int64) ||| ((1 : Int64) <<< (((2 : Int32)).toInt64 &&& 63)))), .second, .val (.ref s3), .val (.int (2 : Int32)), .val (.int (0 : Int32)), .val (.int (2 : Int32))] [])) _
    refine own_go (fun _ => XS.iinc Xk8.here hx rfl (hb hby dLST_107) rfl (l' := #[.val (.ref t), .val (.int i), .val (.ref s3), .val (.long ((0 : Int64) ||| ((1 : Int64) <<< (((2 : Int32)).toInt64 &&& 63)))), .second, .val (.ref s3), .val (.int (2 : Int32)), .val (.int (1 : Int32)), .val (.int (2 : Int32))]) rfl) ?_
    show Run p.tables e below (Tk8.setTop (mkF m 110 #[.val (.ref t), .val (.int i), .val (.ref s3), .val (.long ((0 : Int64) ||| ((1 : Int64) <<< (((2 : Int32)).toInt64 &&& 63)))), .second, .val (.ref s3), .val (.int (2 : Int32)), .val (.int (1 : Int32)), .val (.int (2 : Int32))] [])) _
    refine own_go (fun _ => XS.goto Xk8.here hx rfl (pc0 := 110) (pc' := 86) rfl (hb hby dLST_110) (by decide) (by decide)) ?_
    show Run p.tables e below (Tk8.setTop (mkF m 86 #[.val (.ref t), .val (.int i), .val (.ref s3), .val (.long ((0 : Int64) ||| ((1 : Int64) <<< (((2 : Int32)).toInt64 &&& 63)))), .second, .val (.ref s3), .val (.int (2 : Int32)), .val (.int (1 : Int32)), .val (.int (2 : Int32))] [])) _
    refine own_go (fun _ => XS.iload Xk8.here hx rfl (hb hby dLST_86) rfl) ?_
    show Run p.tables e below (Tk8.setTop (mkF m 88 #[.val (.ref t), .val (.int i), .val (.ref s3), .val (.long ((0 : Int64) ||| ((1 : Int64) <<< (((2 : Int32)).toInt64 &&& 63)))), .second, .val (.ref s3), .val (.int (2 : Int32)), .val (.int (1 : Int32)), .val (.int (2 : Int32))] [(.int (1 : Int32))])) _
    refine own_go (fun _ => XS.iload Xk8.here hx rfl (hb hby dLST_88) rfl) ?_
    show Run p.tables e below (Tk8.setTop (mkF m 90 #[.val (.ref t), .val (.int i), .val (.ref s3), .val (.long ((0 : Int64) ||| ((1 : Int64) <<< (((2 : Int32)).toInt64 &&& 63)))), .second, .val (.ref s3), .val (.int (2 : Int32)), .val (.int (1 : Int32)), .val (.int (2 : Int32))] [(.int (2 : Int32)), (.int (1 : Int32))])) _
    refine own_go (fun _ => XS.icmpNo Xk8.here hx rfl (hb hby dLST_90) rfl (XT.ii_ge_f (by decide))) ?_
    show Run p.tables e below (Tk8.setTop (mkF m 93 #[.val (.ref t), .val (.int i), .val (.ref s3), .val (.long ((0 : Int64) ||| ((1 : Int64) <<< (((2 : Int32)).toInt64 &&& 63)))), .second, .val (.ref s3), .val (.int (2 : Int32)), .val (.int (1 : Int32)), .val (.int (2 : Int32))] [])) _
    refine own_go (fun _ => XS.aload Xk8.here hx rfl (hb hby dLST_93) rfl rfl) ?_
    show Run p.tables e below (Tk8.setTop (mkF m 95 #[.val (.ref t), .val (.int i), .val (.ref s3), .val (.long ((0 : Int64) ||| ((1 : Int64) <<< (((2 : Int32)).toInt64 &&& 63)))), .second, .val (.ref s3), .val (.int (2 : Int32)), .val (.int (1 : Int32)), .val (.int (2 : Int32))] [(.ref s3)])) _
    refine own_go (fun _ => XS.iload Xk8.here hx rfl (hb hby dLST_95) rfl) ?_
    show Run p.tables e below (Tk8.setTop (mkF m 97 #[.val (.ref t), .val (.int i), .val (.ref s3), .val (.long ((0 : Int64) ||| ((1 : Int64) <<< (((2 : Int32)).toInt64 &&& 63)))), .second, .val (.ref s3), .val (.int (2 : Int32)), .val (.int (1 : Int32)), .val (.int (2 : Int32))] [(.int (1 : Int32)), (.ref s3)])) _
    refine own_go (fun _ => own_iaload Xk8 hx hZ ek8 Vs (j := (1 : Int32)) ⟨by decide, by decide⟩ (v := .int 1) rfl (g := (mkF m 97 #[.val (.ref t), .val (.int i), .val (.ref s3), .val (.long ((0 : Int64) ||| ((1 : Int64) <<< (((2 : Int32)).toInt64 &&& 63)))), .second, .val (.ref s3), .val (.int (2 : Int32)), .val (.int (1 : Int32)), .val (.int (2 : Int32))] [(.int (1 : Int32)), (.ref s3)])) rfl rfl (hb hby dLST_97) _) ?_
    show Run p.tables e below (Tk8.setTop (mkF m 98 #[.val (.ref t), .val (.int i), .val (.ref s3), .val (.long ((0 : Int64) ||| ((1 : Int64) <<< (((2 : Int32)).toInt64 &&& 63)))), .second, .val (.ref s3), .val (.int (2 : Int32)), .val (.int (1 : Int32)), .val (.int (2 : Int32))] [(.int (1 : Int32))])) _
    refine own_go (fun _ => XS.istore Xk8.here hx rfl (hb hby dLST_98) rfl (l' := #[.val (.ref t), .val (.int i), .val (.ref s3), .val (.long ((0 : Int64) ||| ((1 : Int64) <<< (((2 : Int32)).toInt64 &&& 63)))), .second, .val (.ref s3), .val (.int (2 : Int32)), .val (.int (1 : Int32)), .val (.int (1 : Int32))]) rfl) ?_
    show Run p.tables e below (Tk8.setTop (mkF m 100 #[.val (.ref t), .val (.int i), .val (.ref s3), .val (.long ((0 : Int64) ||| ((1 : Int64) <<< (((2 : Int32)).toInt64 &&& 63)))), .second, .val (.ref s3), .val (.int (2 : Int32)), .val (.int (1 : Int32)), .val (.int (1 : Int32))] [])) _
    refine own_go (fun _ => XT.lloadN Xk8.here hx rfl (hb hby dLST_100) rfl) ?_
    show Run p.tables e below (Tk8.setTop (mkF m 101 #[.val (.ref t), .val (.int i), .val (.ref s3), .val (.long ((0 : Int64) ||| ((1 : Int64) <<< (((2 : Int32)).toInt64 &&& 63)))), .second, .val (.ref s3), .val (.int (2 : Int32)), .val (.int (1 : Int32)), .val (.int (1 : Int32))] [(.long ((0 : Int64) ||| ((1 : Int64) <<< (((2 : Int32)).toInt64 &&& 63))))])) _
    refine own_go (fun _ => XT.lconst Xk8.here hx rfl (hb hby dLST_101)) ?_
    show Run p.tables e below (Tk8.setTop (mkF m 102 #[.val (.ref t), .val (.int i), .val (.ref s3), .val (.long ((0 : Int64) ||| ((1 : Int64) <<< (((2 : Int32)).toInt64 &&& 63)))), .second, .val (.ref s3), .val (.int (2 : Int32)), .val (.int (1 : Int32)), .val (.int (1 : Int32))] [(.long (1 : Int64)), (.long ((0 : Int64) ||| ((1 : Int64) <<< (((2 : Int32)).toInt64 &&& 63))))])) _
    refine own_go (fun _ => XS.iload Xk8.here hx rfl (hb hby dLST_102) rfl) ?_
    show Run p.tables e below (Tk8.setTop (mkF m 104 #[.val (.ref t), .val (.int i), .val (.ref s3), .val (.long ((0 : Int64) ||| ((1 : Int64) <<< (((2 : Int32)).toInt64 &&& 63)))), .second, .val (.ref s3), .val (.int (2 : Int32)), .val (.int (1 : Int32)), .val (.int (1 : Int32))] [(.int (1 : Int32)), (.long (1 : Int64)), (.long ((0 : Int64) ||| ((1 : Int64) <<< (((2 : Int32)).toInt64 &&& 63))))])) _
    refine own_go (fun _ => XT.lshl Xk8.here hx rfl (hb hby dLST_104) rfl) ?_
    show Run p.tables e below (Tk8.setTop (mkF m 105 #[.val (.ref t), .val (.int i), .val (.ref s3), .val (.long ((0 : Int64) ||| ((1 : Int64) <<< (((2 : Int32)).toInt64 &&& 63)))), .second, .val (.ref s3), .val (.int (2 : Int32)), .val (.int (1 : Int32)), .val (.int (1 : Int32))] [(.long ((1 : Int64) <<< (((1 : Int32)).toInt64 &&& 63))), (.long ((0 : Int64) ||| ((1 : Int64) <<< (((2 : Int32)).toInt64 &&& 63))))])) _
    refine own_go (fun _ => XT.lor Xk8.here hx rfl (hb hby dLST_105) rfl) ?_
    show Run p.tables e below (Tk8.setTop (mkF m 106 #[.val (.ref t), .val (.int i), .val (.ref s3), .val (.long ((0 : Int64) ||| ((1 : Int64) <<< (((2 : Int32)).toInt64 &&& 63)))), .second, .val (.ref s3), .val (.int (2 : Int32)), .val (.int (1 : Int32)), .val (.int (1 : Int32))] [(.long (((0 : Int64) ||| ((1 : Int64) <<< (((2 : Int32)).toInt64 &&& 63))) ||| ((1 : Int64) <<< (((1 : Int32)).toInt64 &&& 63))))])) _
    refine own_go (fun _ => XT.lstoreN Xk8.here hx rfl (hb hby dLST_106) rfl (l' := #[.val (.ref t), .val (.int i), .val (.ref s3), .val (.long (((0 : Int64) ||| ((1 : Int64) <<< (((2 : Int32)).toInt64 &&& 63))) ||| ((1 : Int64) <<< (((1 : Int32)).toInt64 &&& 63)))), .second, .val (.ref s3), .val (.int (2 : Int32)), .val (.int (1 : Int32)), .val (.int (1 : Int32))]) rfl) ?_
    show Run p.tables e below (Tk8.setTop (mkF m 107 #[.val (.ref t), .val (.int i), .val (.ref s3), .val (.long (((0 : Int64) ||| ((1 : Int64) <<< (((2 : Int32)).toInt64 &&& 63))) ||| ((1 : Int64) <<< (((1 : Int32)).toInt64 &&& 63)))), .second, .val (.ref s3), .val (.int (2 : Int32)), .val (.int (1 : Int32)), .val (.int (1 : Int32))] [])) _
    refine own_go (fun _ => XS.iinc Xk8.here hx rfl (hb hby dLST_107) rfl (l' := #[.val (.ref t), .val (.int i), .val (.ref s3), .val (.long (((0 : Int64) ||| ((1 : Int64) <<< (((2 : Int32)).toInt64 &&& 63))) ||| ((1 : Int64) <<< (((1 : Int32)).toInt64 &&& 63)))), .second, .val (.ref s3), .val (.int (2 : Int32)), .val (.int (2 : Int32)), .val (.int (1 : Int32))]) rfl) ?_
    show Run p.tables e below (Tk8.setTop (mkF m 110 #[.val (.ref t), .val (.int i), .val (.ref s3), .val (.long (((0 : Int64) ||| ((1 : Int64) <<< (((2 : Int32)).toInt64 &&& 63))) ||| ((1 : Int64) <<< (((1 : Int32)).toInt64 &&& 63)))), .second, .val (.ref s3), .val (.int (2 : Int32)), .val (.int (2 : Int32)), .val (.int (1 : Int32))] [])) _
    refine own_go (fun _ => XS.goto Xk8.here hx rfl (pc0 := 110) (pc' := 86) rfl (hb hby dLST_110) (by decide) (by decide)) ?_
    show Run p.tables e below (Tk8.setTop (mkF m 86 #[.val (.ref t), .val (.int i), .val (.ref s3), .val (.long (((0 : Int64) ||| ((1 : Int64) <<< (((2 : Int32)).toInt64 &&& 63))) ||| ((1 : Int64) <<< (((1 : Int32)).toInt64 &&& 63)))), .second, .val (.ref s3), .val (.int (2 : Int32)), .val (.int (2 : Int32)), .val (.int (1 : Int32))] [])) _
    refine own_go (fun _ => XS.iload Xk8.here hx rfl (hb hby dLST_86) rfl) ?_
    show Run p.tables e below (Tk8.setTop (mkF m 88 #[.val (.ref t), .val (.int i), .val (.ref s3), .val (.long (((0 : Int64) ||| ((1 : Int64) <<< (((2 : Int32)).toInt64 &&& 63))) ||| ((1 : Int64) <<< (((1 : Int32)).toInt64 &&& 63)))), .second, .val (.ref s3), .val (.int (2 : Int32)), .val (.int (2 : Int32)), .val (.int (1 : Int32))] [(.int (2 : Int32))])) _
    refine own_go (fun _ => XS.iload Xk8.here hx rfl (hb hby dLST_88) rfl) ?_
    show Run p.tables e below (Tk8.setTop (mkF m 90 #[.val (.ref t), .val (.int i), .val (.ref s3), .val (.long (((0 : Int64) ||| ((1 : Int64) <<< (((2 : Int32)).toInt64 &&& 63))) ||| ((1 : Int64) <<< (((1 : Int32)).toInt64 &&& 63)))), .second, .val (.ref s3), .val (.int (2 : Int32)), .val (.int (2 : Int32)), .val (.int (1 : Int32))] [(.int (2 : Int32)), (.int (2 : Int32))])) _
    refine own_go (fun _ => XS.icmpYes Xk8.here hx rfl (pc0 := 90) (pc' := 113) rfl (hb hby dLST_90) rfl (XT.ii_ge_t (by decide)) (by decide) (by decide)) ?_
    show Run p.tables e below (Tk8.setTop (mkF m 113 #[.val (.ref t), .val (.int i), .val (.ref s3), .val (.long (((0 : Int64) ||| ((1 : Int64) <<< (((2 : Int32)).toInt64 &&& 63))) ||| ((1 : Int64) <<< (((1 : Int32)).toInt64 &&& 63)))), .second, .val (.ref s3), .val (.int (2 : Int32)), .val (.int (2 : Int32)), .val (.int (1 : Int32))] [])) _
    rw [show (((0 : Int64) ||| ((1 : Int64) <<< (((2 : Int32)).toInt64 &&& 63))) ||| ((1 : Int64) <<< (((1 : Int32)).toInt64 &&& 63))) = (6 : Int32).toInt64 from by decide +kernel]
    exact JB _ _ _ _ Xk8 ek8
  · rw [own_cnt7, own_arr7] at Vs
    show Run p.tables e below (Tk8.setTop (mkF m 75 #[.val (.ref t), .val (.int i), .val (.ref s3), .val (.long (0 : Int64)), .second, .unset, .unset, .unset, .unset] [])) _
    refine own_go (fun _ => XS.aloadN Xk8.here hx rfl (hb hby dLST_75) rfl rfl) ?_
    show Run p.tables e below (Tk8.setTop (mkF m 76 #[.val (.ref t), .val (.int i), .val (.ref s3), .val (.long (0 : Int64)), .second, .unset, .unset, .unset, .unset] [(.ref s3)])) _
    refine own_go (fun _ => XS.astore Xk8.here hx rfl (hb hby dLST_76) rfl rfl (l' := #[.val (.ref t), .val (.int i), .val (.ref s3), .val (.long (0 : Int64)), .second, .val (.ref s3), .unset, .unset, .unset]) rfl) ?_
    show Run p.tables e below (Tk8.setTop (mkF m 78 #[.val (.ref t), .val (.int i), .val (.ref s3), .val (.long (0 : Int64)), .second, .val (.ref s3), .unset, .unset, .unset] [])) _
    refine own_go (fun _ => XS.aload Xk8.here hx rfl (hb hby dLST_78) rfl rfl) ?_
    show Run p.tables e below (Tk8.setTop (mkF m 80 #[.val (.ref t), .val (.int i), .val (.ref s3), .val (.long (0 : Int64)), .second, .val (.ref s3), .unset, .unset, .unset] [(.ref s3)])) _
    refine own_go (fun _ => own_alen Xk8 hx hZ ek8 Vs (g := (mkF m 80 #[.val (.ref t), .val (.int i), .val (.ref s3), .val (.long (0 : Int64)), .second, .val (.ref s3), .unset, .unset, .unset] [(.ref s3)])) rfl rfl (hb hby dLST_80) _) ?_
    show Run p.tables e below (Tk8.setTop (mkF m 81 #[.val (.ref t), .val (.int i), .val (.ref s3), .val (.long (0 : Int64)), .second, .val (.ref s3), .unset, .unset, .unset] [(.int (3 : Int32))])) _
    refine own_go (fun _ => XS.istore Xk8.here hx rfl (hb hby dLST_81) rfl (l' := #[.val (.ref t), .val (.int i), .val (.ref s3), .val (.long (0 : Int64)), .second, .val (.ref s3), .val (.int (3 : Int32)), .unset, .unset]) rfl) ?_
    show Run p.tables e below (Tk8.setTop (mkF m 83 #[.val (.ref t), .val (.int i), .val (.ref s3), .val (.long (0 : Int64)), .second, .val (.ref s3), .val (.int (3 : Int32)), .unset, .unset] [])) _
    refine own_go (fun _ => XS.iconst Xk8.here hx rfl (hb hby dLST_83)) ?_
    show Run p.tables e below (Tk8.setTop (mkF m 84 #[.val (.ref t), .val (.int i), .val (.ref s3), .val (.long (0 : Int64)), .second, .val (.ref s3), .val (.int (3 : Int32)), .unset, .unset] [(.int (0 : Int32))])) _
    refine own_go (fun _ => XS.istore Xk8.here hx rfl (hb hby dLST_84) rfl (l' := #[.val (.ref t), .val (.int i), .val (.ref s3), .val (.long (0 : Int64)), .second, .val (.ref s3), .val (.int (3 : Int32)), .val (.int (0 : Int32)), .unset]) rfl) ?_
    show Run p.tables e below (Tk8.setTop (mkF m 86 #[.val (.ref t), .val (.int i), .val (.ref s3), .val (.long (0 : Int64)), .second, .val (.ref s3), .val (.int (3 : Int32)), .val (.int (0 : Int32)), .unset] [])) _
    refine own_go (fun _ => XS.iload Xk8.here hx rfl (hb hby dLST_86) rfl) ?_
    show Run p.tables e below (Tk8.setTop (mkF m 88 #[.val (.ref t), .val (.int i), .val (.ref s3), .val (.long (0 : Int64)), .second, .val (.ref s3), .val (.int (3 : Int32)), .val (.int (0 : Int32)), .unset] [(.int (0 : Int32))])) _
    refine own_go (fun _ => XS.iload Xk8.here hx rfl (hb hby dLST_88) rfl) ?_
    show Run p.tables e below (Tk8.setTop (mkF m 90 #[.val (.ref t), .val (.int i), .val (.ref s3), .val (.long (0 : Int64)), .second, .val (.ref s3), .val (.int (3 : Int32)), .val (.int (0 : Int32)), .unset] [(.int (3 : Int32)), (.int (0 : Int32))])) _
    refine own_go (fun _ => XS.icmpNo Xk8.here hx rfl (hb hby dLST_90) rfl (XT.ii_ge_f (by decide))) ?_
    show Run p.tables e below (Tk8.setTop (mkF m 93 #[.val (.ref t), .val (.int i), .val (.ref s3), .val (.long (0 : Int64)), .second, .val (.ref s3), .val (.int (3 : Int32)), .val (.int (0 : Int32)), .unset] [])) _
    refine own_go (fun _ => XS.aload Xk8.here hx rfl (hb hby dLST_93) rfl rfl) ?_
    show Run p.tables e below (Tk8.setTop (mkF m 95 #[.val (.ref t), .val (.int i), .val (.ref s3), .val (.long (0 : Int64)), .second, .val (.ref s3), .val (.int (3 : Int32)), .val (.int (0 : Int32)), .unset] [(.ref s3)])) _
    refine own_go (fun _ => XS.iload Xk8.here hx rfl (hb hby dLST_95) rfl) ?_
    show Run p.tables e below (Tk8.setTop (mkF m 97 #[.val (.ref t), .val (.int i), .val (.ref s3), .val (.long (0 : Int64)), .second, .val (.ref s3), .val (.int (3 : Int32)), .val (.int (0 : Int32)), .unset] [(.int (0 : Int32)), (.ref s3)])) _
    refine own_go (fun _ => own_iaload Xk8 hx hZ ek8 Vs (j := (0 : Int32)) ⟨by decide, by decide⟩ (v := .int 2) rfl (g := (mkF m 97 #[.val (.ref t), .val (.int i), .val (.ref s3), .val (.long (0 : Int64)), .second, .val (.ref s3), .val (.int (3 : Int32)), .val (.int (0 : Int32)), .unset] [(.int (0 : Int32)), (.ref s3)])) rfl rfl (hb hby dLST_97) _) ?_
    show Run p.tables e below (Tk8.setTop (mkF m 98 #[.val (.ref t), .val (.int i), .val (.ref s3), .val (.long (0 : Int64)), .second, .val (.ref s3), .val (.int (3 : Int32)), .val (.int (0 : Int32)), .unset] [(.int (2 : Int32))])) _
    refine own_go (fun _ => XS.istore Xk8.here hx rfl (hb hby dLST_98) rfl (l' := #[.val (.ref t), .val (.int i), .val (.ref s3), .val (.long (0 : Int64)), .second, .val (.ref s3), .val (.int (3 : Int32)), .val (.int (0 : Int32)), .val (.int (2 : Int32))]) rfl) ?_
    show Run p.tables e below (Tk8.setTop (mkF m 100 #[.val (.ref t), .val (.int i), .val (.ref s3), .val (.long (0 : Int64)), .second, .val (.ref s3), .val (.int (3 : Int32)), .val (.int (0 : Int32)), .val (.int (2 : Int32))] [])) _
    refine own_go (fun _ => XT.lloadN Xk8.here hx rfl (hb hby dLST_100) rfl) ?_
    show Run p.tables e below (Tk8.setTop (mkF m 101 #[.val (.ref t), .val (.int i), .val (.ref s3), .val (.long (0 : Int64)), .second, .val (.ref s3), .val (.int (3 : Int32)), .val (.int (0 : Int32)), .val (.int (2 : Int32))] [(.long (0 : Int64))])) _
    refine own_go (fun _ => XT.lconst Xk8.here hx rfl (hb hby dLST_101)) ?_
    show Run p.tables e below (Tk8.setTop (mkF m 102 #[.val (.ref t), .val (.int i), .val (.ref s3), .val (.long (0 : Int64)), .second, .val (.ref s3), .val (.int (3 : Int32)), .val (.int (0 : Int32)), .val (.int (2 : Int32))] [(.long (1 : Int64)), (.long (0 : Int64))])) _
    refine own_go (fun _ => XS.iload Xk8.here hx rfl (hb hby dLST_102) rfl) ?_
    show Run p.tables e below (Tk8.setTop (mkF m 104 #[.val (.ref t), .val (.int i), .val (.ref s3), .val (.long (0 : Int64)), .second, .val (.ref s3), .val (.int (3 : Int32)), .val (.int (0 : Int32)), .val (.int (2 : Int32))] [(.int (2 : Int32)), (.long (1 : Int64)), (.long (0 : Int64))])) _
    refine own_go (fun _ => XT.lshl Xk8.here hx rfl (hb hby dLST_104) rfl) ?_
    show Run p.tables e below (Tk8.setTop (mkF m 105 #[.val (.ref t), .val (.int i), .val (.ref s3), .val (.long (0 : Int64)), .second, .val (.ref s3), .val (.int (3 : Int32)), .val (.int (0 : Int32)), .val (.int (2 : Int32))] [(.long ((1 : Int64) <<< (((2 : Int32)).toInt64 &&& 63))), (.long (0 : Int64))])) _
    refine own_go (fun _ => XT.lor Xk8.here hx rfl (hb hby dLST_105) rfl) ?_
    show Run p.tables e below (Tk8.setTop (mkF m 106 #[.val (.ref t), .val (.int i), .val (.ref s3), .val (.long (0 : Int64)), .second, .val (.ref s3), .val (.int (3 : Int32)), .val (.int (0 : Int32)), .val (.int (2 : Int32))] [(.long ((0 : Int64) ||| ((1 : Int64) <<< (((2 : Int32)).toInt64 &&& 63))))])) _
    refine own_go (fun _ => XT.lstoreN Xk8.here hx rfl (hb hby dLST_106) rfl (l' := #[.val (.ref t), .val (.int i), .val (.ref s3), .val (.long ((0 : Int64) ||| ((1 : Int64) <<< (((2 : Int32)).toInt64 &&& 63)))), .second, .val (.ref s3), .val (.int (3 : Int32)), .val (.int (0 : Int32)), .val (.int (2 : Int32))]) rfl) ?_
    show Run p.tables e below (Tk8.setTop (mkF m 107 #[.val (.ref t), .val (.int i), .val (.ref s3), .val (.long ((0 : Int64) ||| ((1 : Int64) <<< (((2 : Int32)).toInt64 &&& 63)))), .second, .val (.ref s3), .val (.int (3 : Int32)), .val (.int (0 : Int32)), .val (.int (2 : Int32))] [])) _
    refine own_go (fun _ => XS.iinc Xk8.here hx rfl (hb hby dLST_107) rfl (l' := #[.val (.ref t), .val (.int i), .val (.ref s3), .val (.long ((0 : Int64) ||| ((1 : Int64) <<< (((2 : Int32)).toInt64 &&& 63)))), .second, .val (.ref s3), .val (.int (3 : Int32)), .val (.int (1 : Int32)), .val (.int (2 : Int32))]) rfl) ?_
    show Run p.tables e below (Tk8.setTop (mkF m 110 #[.val (.ref t), .val (.int i), .val (.ref s3), .val (.long ((0 : Int64) ||| ((1 : Int64) <<< (((2 : Int32)).toInt64 &&& 63)))), .second, .val (.ref s3), .val (.int (3 : Int32)), .val (.int (1 : Int32)), .val (.int (2 : Int32))] [])) _
    refine own_go (fun _ => XS.goto Xk8.here hx rfl (pc0 := 110) (pc' := 86) rfl (hb hby dLST_110) (by decide) (by decide)) ?_
    show Run p.tables e below (Tk8.setTop (mkF m 86 #[.val (.ref t), .val (.int i), .val (.ref s3), .val (.long ((0 : Int64) ||| ((1 : Int64) <<< (((2 : Int32)).toInt64 &&& 63)))), .second, .val (.ref s3), .val (.int (3 : Int32)), .val (.int (1 : Int32)), .val (.int (2 : Int32))] [])) _
    refine own_go (fun _ => XS.iload Xk8.here hx rfl (hb hby dLST_86) rfl) ?_
    show Run p.tables e below (Tk8.setTop (mkF m 88 #[.val (.ref t), .val (.int i), .val (.ref s3), .val (.long ((0 : Int64) ||| ((1 : Int64) <<< (((2 : Int32)).toInt64 &&& 63)))), .second, .val (.ref s3), .val (.int (3 : Int32)), .val (.int (1 : Int32)), .val (.int (2 : Int32))] [(.int (1 : Int32))])) _
    refine own_go (fun _ => XS.iload Xk8.here hx rfl (hb hby dLST_88) rfl) ?_
    show Run p.tables e below (Tk8.setTop (mkF m 90 #[.val (.ref t), .val (.int i), .val (.ref s3), .val (.long ((0 : Int64) ||| ((1 : Int64) <<< (((2 : Int32)).toInt64 &&& 63)))), .second, .val (.ref s3), .val (.int (3 : Int32)), .val (.int (1 : Int32)), .val (.int (2 : Int32))] [(.int (3 : Int32)), (.int (1 : Int32))])) _
    refine own_go (fun _ => XS.icmpNo Xk8.here hx rfl (hb hby dLST_90) rfl (XT.ii_ge_f (by decide))) ?_
    show Run p.tables e below (Tk8.setTop (mkF m 93 #[.val (.ref t), .val (.int i), .val (.ref s3), .val (.long ((0 : Int64) ||| ((1 : Int64) <<< (((2 : Int32)).toInt64 &&& 63)))), .second, .val (.ref s3), .val (.int (3 : Int32)), .val (.int (1 : Int32)), .val (.int (2 : Int32))] [])) _
    refine own_go (fun _ => XS.aload Xk8.here hx rfl (hb hby dLST_93) rfl rfl) ?_
    show Run p.tables e below (Tk8.setTop (mkF m 95 #[.val (.ref t), .val (.int i), .val (.ref s3), .val (.long ((0 : Int64) ||| ((1 : Int64) <<< (((2 : Int32)).toInt64 &&& 63)))), .second, .val (.ref s3), .val (.int (3 : Int32)), .val (.int (1 : Int32)), .val (.int (2 : Int32))] [(.ref s3)])) _
    refine own_go (fun _ => XS.iload Xk8.here hx rfl (hb hby dLST_95) rfl) ?_
    show Run p.tables e below (Tk8.setTop (mkF m 97 #[.val (.ref t), .val (.int i), .val (.ref s3), .val (.long ((0 : Int64) ||| ((1 : Int64) <<< (((2 : Int32)).toInt64 &&& 63)))), .second, .val (.ref s3), .val (.int (3 : Int32)), .val (.int (1 : Int32)), .val (.int (2 : Int32))] [(.int (1 : Int32)), (.ref s3)])) _
    refine own_go (fun _ => own_iaload Xk8 hx hZ ek8 Vs (j := (1 : Int32)) ⟨by decide, by decide⟩ (v := .int 1) rfl (g := (mkF m 97 #[.val (.ref t), .val (.int i), .val (.ref s3), .val (.long ((0 : Int64) ||| ((1 : Int64) <<< (((2 : Int32)).toInt64 &&& 63)))), .second, .val (.ref s3), .val (.int (3 : Int32)), .val (.int (1 : Int32)), .val (.int (2 : Int32))] [(.int (1 : Int32)), (.ref s3)])) rfl rfl (hb hby dLST_97) _) ?_
    show Run p.tables e below (Tk8.setTop (mkF m 98 #[.val (.ref t), .val (.int i), .val (.ref s3), .val (.long ((0 : Int64) ||| ((1 : Int64) <<< (((2 : Int32)).toInt64 &&& 63)))), .second, .val (.ref s3), .val (.int (3 : Int32)), .val (.int (1 : Int32)), .val (.int (2 : Int32))] [(.int (1 : Int32))])) _
    refine own_go (fun _ => XS.istore Xk8.here hx rfl (hb hby dLST_98) rfl (l' := #[.val (.ref t), .val (.int i), .val (.ref s3), .val (.long ((0 : Int64) ||| ((1 : Int64) <<< (((2 : Int32)).toInt64 &&& 63)))), .second, .val (.ref s3), .val (.int (3 : Int32)), .val (.int (1 : Int32)), .val (.int (1 : Int32))]) rfl) ?_
    show Run p.tables e below (Tk8.setTop (mkF m 100 #[.val (.ref t), .val (.int i), .val (.ref s3), .val (.long ((0 : Int64) ||| ((1 : Int64) <<< (((2 : Int32)).toInt64 &&& 63)))), .second, .val (.ref s3), .val (.int (3 : Int32)), .val (.int (1 : Int32)), .val (.int (1 : Int32))] [])) _
    refine own_go (fun _ => XT.lloadN Xk8.here hx rfl (hb hby dLST_100) rfl) ?_
    show Run p.tables e below (Tk8.setTop (mkF m 101 #[.val (.ref t), .val (.int i), .val (.ref s3), .val (.long ((0 : Int64) ||| ((1 : Int64) <<< (((2 : Int32)).toInt64 &&& 63)))), .second, .val (.ref s3), .val (.int (3 : Int32)), .val (.int (1 : Int32)), .val (.int (1 : Int32))] [(.long ((0 : Int64) ||| ((1 : Int64) <<< (((2 : Int32)).toInt64 &&& 63))))])) _
    refine own_go (fun _ => XT.lconst Xk8.here hx rfl (hb hby dLST_101)) ?_
    show Run p.tables e below (Tk8.setTop (mkF m 102 #[.val (.ref t), .val (.int i), .val (.ref s3), .val (.long ((0 : Int64) ||| ((1 : Int64) <<< (((2 : Int32)).toInt64 &&& 63)))), .second, .val (.ref s3), .val (.int (3 : Int32)), .val (.int (1 : Int32)), .val (.int (1 : Int32))] [(.long (1 : Int64)), (.long ((0 : Int64) ||| ((1 : Int64) <<< (((2 : Int32)).toInt64 &&& 63))))])) _
    refine own_go (fun _ => XS.iload Xk8.here hx rfl (hb hby dLST_102) rfl) ?_
    show Run p.tables e below (Tk8.setTop (mkF m 104 #[.val (.ref t), .val (.int i), .val (.ref s3), .val (.long ((0 : Int64) ||| ((1 : Int64) <<< (((2 : Int32)).toInt64 &&& 63)))), .second, .val (.ref s3), .val (.int (3 : Int32)), .val (.int (1 : Int32)), .val (.int (1 : Int32))] [(.int (1 : Int32)), (.long (1 : Int64)), (.long ((0 : Int64) ||| ((1 : Int64) <<< (((2 : Int32)).toInt64 &&& 63))))])) _
    refine own_go (fun _ => XT.lshl Xk8.here hx rfl (hb hby dLST_104) rfl) ?_
    show Run p.tables e below (Tk8.setTop (mkF m 105 #[.val (.ref t), .val (.int i), .val (.ref s3), .val (.long ((0 : Int64) ||| ((1 : Int64) <<< (((2 : Int32)).toInt64 &&& 63)))), .second, .val (.ref s3), .val (.int (3 : Int32)), .val (.int (1 : Int32)), .val (.int (1 : Int32))] [(.long ((1 : Int64) <<< (((1 : Int32)).toInt64 &&& 63))), (.long ((0 : Int64) ||| ((1 : Int64) <<< (((2 : Int32)).toInt64 &&& 63))))])) _
    refine own_go (fun _ => XT.lor Xk8.here hx rfl (hb hby dLST_105) rfl) ?_
    show Run p.tables e below (Tk8.setTop (mkF m 106 #[.val (.ref t), .val (.int i), .val (.ref s3), .val (.long ((0 : Int64) ||| ((1 : Int64) <<< (((2 : Int32)).toInt64 &&& 63)))), .second, .val (.ref s3), .val (.int (3 : Int32)), .val (.int (1 : Int32)), .val (.int (1 : Int32))] [(.long (((0 : Int64) ||| ((1 : Int64) <<< (((2 : Int32)).toInt64 &&& 63))) ||| ((1 : Int64) <<< (((1 : Int32)).toInt64 &&& 63))))])) _
    refine own_go (fun _ => XT.lstoreN Xk8.here hx rfl (hb hby dLST_106) rfl (l' := #[.val (.ref t), .val (.int i), .val (.ref s3), .val (.long (((0 : Int64) ||| ((1 : Int64) <<< (((2 : Int32)).toInt64 &&& 63))) ||| ((1 : Int64) <<< (((1 : Int32)).toInt64 &&& 63)))), .second, .val (.ref s3), .val (.int (3 : Int32)), .val (.int (1 : Int32)), .val (.int (1 : Int32))]) rfl) ?_
    show Run p.tables e below (Tk8.setTop (mkF m 107 #[.val (.ref t), .val (.int i), .val (.ref s3), .val (.long (((0 : Int64) ||| ((1 : Int64) <<< (((2 : Int32)).toInt64 &&& 63))) ||| ((1 : Int64) <<< (((1 : Int32)).toInt64 &&& 63)))), .second, .val (.ref s3), .val (.int (3 : Int32)), .val (.int (1 : Int32)), .val (.int (1 : Int32))] [])) _
    refine own_go (fun _ => XS.iinc Xk8.here hx rfl (hb hby dLST_107) rfl (l' := #[.val (.ref t), .val (.int i), .val (.ref s3), .val (.long (((0 : Int64) ||| ((1 : Int64) <<< (((2 : Int32)).toInt64 &&& 63))) ||| ((1 : Int64) <<< (((1 : Int32)).toInt64 &&& 63)))), .second, .val (.ref s3), .val (.int (3 : Int32)), .val (.int (2 : Int32)), .val (.int (1 : Int32))]) rfl) ?_
    show Run p.tables e below (Tk8.setTop (mkF m 110 #[.val (.ref t), .val (.int i), .val (.ref s3), .val (.long (((0 : Int64) ||| ((1 : Int64) <<< (((2 : Int32)).toInt64 &&& 63))) ||| ((1 : Int64) <<< (((1 : Int32)).toInt64 &&& 63)))), .second, .val (.ref s3), .val (.int (3 : Int32)), .val (.int (2 : Int32)), .val (.int (1 : Int32))] [])) _
    refine own_go (fun _ => XS.goto Xk8.here hx rfl (pc0 := 110) (pc' := 86) rfl (hb hby dLST_110) (by decide) (by decide)) ?_
    show Run p.tables e below (Tk8.setTop (mkF m 86 #[.val (.ref t), .val (.int i), .val (.ref s3), .val (.long (((0 : Int64) ||| ((1 : Int64) <<< (((2 : Int32)).toInt64 &&& 63))) ||| ((1 : Int64) <<< (((1 : Int32)).toInt64 &&& 63)))), .second, .val (.ref s3), .val (.int (3 : Int32)), .val (.int (2 : Int32)), .val (.int (1 : Int32))] [])) _
    refine own_go (fun _ => XS.iload Xk8.here hx rfl (hb hby dLST_86) rfl) ?_
    show Run p.tables e below (Tk8.setTop (mkF m 88 #[.val (.ref t), .val (.int i), .val (.ref s3), .val (.long (((0 : Int64) ||| ((1 : Int64) <<< (((2 : Int32)).toInt64 &&& 63))) ||| ((1 : Int64) <<< (((1 : Int32)).toInt64 &&& 63)))), .second, .val (.ref s3), .val (.int (3 : Int32)), .val (.int (2 : Int32)), .val (.int (1 : Int32))] [(.int (2 : Int32))])) _
    refine own_go (fun _ => XS.iload Xk8.here hx rfl (hb hby dLST_88) rfl) ?_
    show Run p.tables e below (Tk8.setTop (mkF m 90 #[.val (.ref t), .val (.int i), .val (.ref s3), .val (.long (((0 : Int64) ||| ((1 : Int64) <<< (((2 : Int32)).toInt64 &&& 63))) ||| ((1 : Int64) <<< (((1 : Int32)).toInt64 &&& 63)))), .second, .val (.ref s3), .val (.int (3 : Int32)), .val (.int (2 : Int32)), .val (.int (1 : Int32))] [(.int (3 : Int32)), (.int (2 : Int32))])) _
    refine own_go (fun _ => XS.icmpNo Xk8.here hx rfl (hb hby dLST_90) rfl (XT.ii_ge_f (by decide))) ?_
    show Run p.tables e below (Tk8.setTop (mkF m 93 #[.val (.ref t), .val (.int i), .val (.ref s3), .val (.long (((0 : Int64) ||| ((1 : Int64) <<< (((2 : Int32)).toInt64 &&& 63))) ||| ((1 : Int64) <<< (((1 : Int32)).toInt64 &&& 63)))), .second, .val (.ref s3), .val (.int (3 : Int32)), .val (.int (2 : Int32)), .val (.int (1 : Int32))] [])) _
    refine own_go (fun _ => XS.aload Xk8.here hx rfl (hb hby dLST_93) rfl rfl) ?_
    show Run p.tables e below (Tk8.setTop (mkF m 95 #[.val (.ref t), .val (.int i), .val (.ref s3), .val (.long (((0 : Int64) ||| ((1 : Int64) <<< (((2 : Int32)).toInt64 &&& 63))) ||| ((1 : Int64) <<< (((1 : Int32)).toInt64 &&& 63)))), .second, .val (.ref s3), .val (.int (3 : Int32)), .val (.int (2 : Int32)), .val (.int (1 : Int32))] [(.ref s3)])) _
    refine own_go (fun _ => XS.iload Xk8.here hx rfl (hb hby dLST_95) rfl) ?_
    show Run p.tables e below (Tk8.setTop (mkF m 97 #[.val (.ref t), .val (.int i), .val (.ref s3), .val (.long (((0 : Int64) ||| ((1 : Int64) <<< (((2 : Int32)).toInt64 &&& 63))) ||| ((1 : Int64) <<< (((1 : Int32)).toInt64 &&& 63)))), .second, .val (.ref s3), .val (.int (3 : Int32)), .val (.int (2 : Int32)), .val (.int (1 : Int32))] [(.int (2 : Int32)), (.ref s3)])) _
    refine own_go (fun _ => own_iaload Xk8 hx hZ ek8 Vs (j := (2 : Int32)) ⟨by decide, by decide⟩ (v := .int 0) rfl (g := (mkF m 97 #[.val (.ref t), .val (.int i), .val (.ref s3), .val (.long (((0 : Int64) ||| ((1 : Int64) <<< (((2 : Int32)).toInt64 &&& 63))) ||| ((1 : Int64) <<< (((1 : Int32)).toInt64 &&& 63)))), .second, .val (.ref s3), .val (.int (3 : Int32)), .val (.int (2 : Int32)), .val (.int (1 : Int32))] [(.int (2 : Int32)), (.ref s3)])) rfl rfl (hb hby dLST_97) _) ?_
    show Run p.tables e below (Tk8.setTop (mkF m 98 #[.val (.ref t), .val (.int i), .val (.ref s3), .val (.long (((0 : Int64) ||| ((1 : Int64) <<< (((2 : Int32)).toInt64 &&& 63))) ||| ((1 : Int64) <<< (((1 : Int32)).toInt64 &&& 63)))), .second, .val (.ref s3), .val (.int (3 : Int32)), .val (.int (2 : Int32)), .val (.int (1 : Int32))] [(.int (0 : Int32))])) _
    refine own_go (fun _ => XS.istore Xk8.here hx rfl (hb hby dLST_98) rfl (l' := #[.val (.ref t), .val (.int i), .val (.ref s3), .val (.long (((0 : Int64) ||| ((1 : Int64) <<< (((2 : Int32)).toInt64 &&& 63))) ||| ((1 : Int64) <<< (((1 : Int32)).toInt64 &&& 63)))), .second, .val (.ref s3), .val (.int (3 : Int32)), .val (.int (2 : Int32)), .val (.int (0 : Int32))]) rfl) ?_
    show Run p.tables e below (Tk8.setTop (mkF m 100 #[.val (.ref t), .val (.int i), .val (.ref s3), .val (.long (((0 : Int64) ||| ((1 : Int64) <<< (((2 : Int32)).toInt64 &&& 63))) ||| ((1 : Int64) <<< (((1 : Int32)).toInt64 &&& 63)))), .second, .val (.ref s3), .val (.int (3 : Int32)), .val (.int (2 : Int32)), .val (.int (0 : Int32))] [])) _
    refine own_go (fun _ => XT.lloadN Xk8.here hx rfl (hb hby dLST_100) rfl) ?_
    show Run p.tables e below (Tk8.setTop (mkF m 101 #[.val (.ref t), .val (.int i), .val (.ref s3), .val (.long (((0 : Int64) ||| ((1 : Int64) <<< (((2 : Int32)).toInt64 &&& 63))) ||| ((1 : Int64) <<< (((1 : Int32)).toInt64 &&& 63)))), .second, .val (.ref s3), .val (.int (3 : Int32)), .val (.int (2 : Int32)), .val (.int (0 : Int32))] [(.long (((0 : Int64) ||| ((1 : Int64) <<< (((2 : Int32)).toInt64 &&& 63))) ||| ((1 : Int64) <<< (((1 : Int32)).toInt64 &&& 63))))])) _
    refine own_go (fun _ => XT.lconst Xk8.here hx rfl (hb hby dLST_101)) ?_
    show Run p.tables e below (Tk8.setTop (mkF m 102 #[.val (.ref t), .val (.int i), .val (.ref s3), .val (.long (((0 : Int64) ||| ((1 : Int64) <<< (((2 : Int32)).toInt64 &&& 63))) ||| ((1 : Int64) <<< (((1 : Int32)).toInt64 &&& 63)))), .second, .val (.ref s3), .val (.int (3 : Int32)), .val (.int (2 : Int32)), .val (.int (0 : Int32))] [(.long (1 : Int64)), (.long (((0 : Int64) ||| ((1 : Int64) <<< (((2 : Int32)).toInt64 &&& 63))) ||| ((1 : Int64) <<< (((1 : Int32)).toInt64 &&& 63))))])) _
    refine own_go (fun _ => XS.iload Xk8.here hx rfl (hb hby dLST_102) rfl) ?_
    show Run p.tables e below (Tk8.setTop (mkF m 104 #[.val (.ref t), .val (.int i), .val (.ref s3), .val (.long (((0 : Int64) ||| ((1 : Int64) <<< (((2 : Int32)).toInt64 &&& 63))) ||| ((1 : Int64) <<< (((1 : Int32)).toInt64 &&& 63)))), .second, .val (.ref s3), .val (.int (3 : Int32)), .val (.int (2 : Int32)), .val (.int (0 : Int32))] [(.int (0 : Int32)), (.long (1 : Int64)), (.long (((0 : Int64) ||| ((1 : Int64) <<< (((2 : Int32)).toInt64 &&& 63))) ||| ((1 : Int64) <<< (((1 : Int32)).toInt64 &&& 63))))])) _
    refine own_go (fun _ => XT.lshl Xk8.here hx rfl (hb hby dLST_104) rfl) ?_
    show Run p.tables e below (Tk8.setTop (mkF m 105 #[.val (.ref t), .val (.int i), .val (.ref s3), .val (.long (((0 : Int64) ||| ((1 : Int64) <<< (((2 : Int32)).toInt64 &&& 63))) ||| ((1 : Int64) <<< (((1 : Int32)).toInt64 &&& 63)))), .second, .val (.ref s3), .val (.int (3 : Int32)), .val (.int (2 : Int32)), .val (.int (0 : Int32))] [(.long ((1 : Int64) <<< (((0 : Int32)).toInt64 &&& 63))), (.long (((0 : Int64) ||| ((1 : Int64) <<< (((2 : Int32)).toInt64 &&& 63))) ||| ((1 : Int64) <<< (((1 : Int32)).toInt64 &&& 63))))])) _
    refine own_go (fun _ => XT.lor Xk8.here hx rfl (hb hby dLST_105) rfl) ?_
    show Run p.tables e below (Tk8.setTop (mkF m 106 #[.val (.ref t), .val (.int i), .val (.ref s3), .val (.long (((0 : Int64) ||| ((1 : Int64) <<< (((2 : Int32)).toInt64 &&& 63))) ||| ((1 : Int64) <<< (((1 : Int32)).toInt64 &&& 63)))), .second, .val (.ref s3), .val (.int (3 : Int32)), .val (.int (2 : Int32)), .val (.int (0 : Int32))] [(.long ((((0 : Int64) ||| ((1 : Int64) <<< (((2 : Int32)).toInt64 &&& 63))) ||| ((1 : Int64) <<< (((1 : Int32)).toInt64 &&& 63))) ||| ((1 : Int64) <<< (((0 : Int32)).toInt64 &&& 63))))])) _
    refine own_go (fun _ => XT.lstoreN Xk8.here hx rfl (hb hby dLST_106) rfl (l' := #[.val (.ref t), .val (.int i), .val (.ref s3), .val (.long ((((0 : Int64) ||| ((1 : Int64) <<< (((2 : Int32)).toInt64 &&& 63))) ||| ((1 : Int64) <<< (((1 : Int32)).toInt64 &&& 63))) ||| ((1 : Int64) <<< (((0 : Int32)).toInt64 &&& 63)))), .second, .val (.ref s3), .val (.int (3 : Int32)), .val (.int (2 : Int32)), .val (.int (0 : Int32))]) rfl) ?_
    show Run p.tables e below (Tk8.setTop (mkF m 107 #[.val (.ref t), .val (.int i), .val (.ref s3), .val (.long ((((0 : Int64) ||| ((1 : Int64) <<< (((2 : Int32)).toInt64 &&& 63))) ||| ((1 : Int64) <<< (((1 : Int32)).toInt64 &&& 63))) ||| ((1 : Int64) <<< (((0 : Int32)).toInt64 &&& 63)))), .second, .val (.ref s3), .val (.int (3 : Int32)), .val (.int (2 : Int32)), .val (.int (0 : Int32))] [])) _
    refine own_go (fun _ => XS.iinc Xk8.here hx rfl (hb hby dLST_107) rfl (l' := #[.val (.ref t), .val (.int i), .val (.ref s3), .val (.long ((((0 : Int64) ||| ((1 : Int64) <<< (((2 : Int32)).toInt64 &&& 63))) ||| ((1 : Int64) <<< (((1 : Int32)).toInt64 &&& 63))) ||| ((1 : Int64) <<< (((0 : Int32)).toInt64 &&& 63)))), .second, .val (.ref s3), .val (.int (3 : Int32)), .val (.int (3 : Int32)), .val (.int (0 : Int32))]) rfl) ?_
    show Run p.tables e below (Tk8.setTop (mkF m 110 #[.val (.ref t), .val (.int i), .val (.ref s3), .val (.long ((((0 : Int64) ||| ((1 : Int64) <<< (((2 : Int32)).toInt64 &&& 63))) ||| ((1 : Int64) <<< (((1 : Int32)).toInt64 &&& 63))) ||| ((1 : Int64) <<< (((0 : Int32)).toInt64 &&& 63)))), .second, .val (.ref s3), .val (.int (3 : Int32)), .val (.int (3 : Int32)), .val (.int (0 : Int32))] [])) _
    refine own_go (fun _ => XS.goto Xk8.here hx rfl (pc0 := 110) (pc' := 86) rfl (hb hby dLST_110) (by decide) (by decide)) ?_
    show Run p.tables e below (Tk8.setTop (mkF m 86 #[.val (.ref t), .val (.int i), .val (.ref s3), .val (.long ((((0 : Int64) ||| ((1 : Int64) <<< (((2 : Int32)).toInt64 &&& 63))) ||| ((1 : Int64) <<< (((1 : Int32)).toInt64 &&& 63))) ||| ((1 : Int64) <<< (((0 : Int32)).toInt64 &&& 63)))), .second, .val (.ref s3), .val (.int (3 : Int32)), .val (.int (3 : Int32)), .val (.int (0 : Int32))] [])) _
    refine own_go (fun _ => XS.iload Xk8.here hx rfl (hb hby dLST_86) rfl) ?_
    show Run p.tables e below (Tk8.setTop (mkF m 88 #[.val (.ref t), .val (.int i), .val (.ref s3), .val (.long ((((0 : Int64) ||| ((1 : Int64) <<< (((2 : Int32)).toInt64 &&& 63))) ||| ((1 : Int64) <<< (((1 : Int32)).toInt64 &&& 63))) ||| ((1 : Int64) <<< (((0 : Int32)).toInt64 &&& 63)))), .second, .val (.ref s3), .val (.int (3 : Int32)), .val (.int (3 : Int32)), .val (.int (0 : Int32))] [(.int (3 : Int32))])) _
    refine own_go (fun _ => XS.iload Xk8.here hx rfl (hb hby dLST_88) rfl) ?_
    show Run p.tables e below (Tk8.setTop (mkF m 90 #[.val (.ref t), .val (.int i), .val (.ref s3), .val (.long ((((0 : Int64) ||| ((1 : Int64) <<< (((2 : Int32)).toInt64 &&& 63))) ||| ((1 : Int64) <<< (((1 : Int32)).toInt64 &&& 63))) ||| ((1 : Int64) <<< (((0 : Int32)).toInt64 &&& 63)))), .second, .val (.ref s3), .val (.int (3 : Int32)), .val (.int (3 : Int32)), .val (.int (0 : Int32))] [(.int (3 : Int32)), (.int (3 : Int32))])) _
    refine own_go (fun _ => XS.icmpYes Xk8.here hx rfl (pc0 := 90) (pc' := 113) rfl (hb hby dLST_90) rfl (XT.ii_ge_t (by decide)) (by decide) (by decide)) ?_
    show Run p.tables e below (Tk8.setTop (mkF m 113 #[.val (.ref t), .val (.int i), .val (.ref s3), .val (.long ((((0 : Int64) ||| ((1 : Int64) <<< (((2 : Int32)).toInt64 &&& 63))) ||| ((1 : Int64) <<< (((1 : Int32)).toInt64 &&& 63))) ||| ((1 : Int64) <<< (((0 : Int32)).toInt64 &&& 63)))), .second, .val (.ref s3), .val (.int (3 : Int32)), .val (.int (3 : Int32)), .val (.int (0 : Int32))] [])) _
    rw [show ((((0 : Int64) ||| ((1 : Int64) <<< (((2 : Int32)).toInt64 &&& 63))) ||| ((1 : Int64) <<< (((1 : Int32)).toInt64 &&& 63))) ||| ((1 : Int64) <<< (((0 : Int32)).toInt64 &&& 63))) = (7 : Int32).toInt64 from by decide +kernel]
    exact JB _ _ _ _ Xk8 ek8
def own_Q0 (n0 : Nat) (v : Option Value) (h : Heap) (L : List Loc) : Prop := v = some (.int 1) ∧ Fr n0 L
set_option maxRecDepth 65536 in
set_option maxHeartbeats 40000000 in
theorem rm0 (l : Launch) (Z : State) (a0 : Array Value) (hw : ∀ d ∈ tables_1, d.before a0 Z = true) (ws : List Jvm.Cond) (p0 p1 p2 : Int32) (h0 : Heap) (n0 : Nat) (Z0 : n0 ≤ h0.size) :
    OwnCtr l x code maxLocals ret ws room_1 Z #[(.int p0), (.int p1), (.int p2)] h0 (own_Q0 n0) := by
  refine own_body own_pnL ?_
  intro p e s m below meth c s₁ X0 hx hby hml hown hnm hret hlk hZ e0
  refine own_go (fun _ k => castTop (ef_L m p0 p1 p2) k) ?_
  show Run p.tables e below (s₁.setTop (mkF m 0 #[.val (.int p0), .val (.int p1), .val (.int p2), .unset, .unset, .unset, .unset, .unset, .unset, .unset, .unset, .unset, .unset, .unset, .unset, .unset, .unset] [])) _
  refine own_go (fun _ => XS.iloadN X0.here hx rfl (hb hby at_0) rfl) ?_
  show Run p.tables e below (s₁.setTop (mkF m 1 #[.val (.int p0), .val (.int p1), .val (.int p2), .unset, .unset, .unset, .unset, .unset, .unset, .unset, .unset, .unset, .unset, .unset, .unset, .unset, .unset] [(.int p0)])) _
  refine own_go (fun _ => Jvm.Stand.ldcI X0 hx hown (mvT hZ (hw _ (List.mem_of_getElem? (i := 0) rfl))) rfl (hb hby at_1)) ?_
  show Run p.tables e below (s₁.setTop (mkF m 3 #[.val (.int p0), .val (.int p1), .val (.int p2), .unset, .unset, .unset, .unset, .unset, .unset, .unset, .unset, .unset, .unset, .unset, .unset, .unset, .unset] [(.int (65535 : Int32)), (.int p0)])) _
  refine own_go (fun _ => XS.iand X0.here hx rfl (hb hby at_3) rfl) ?_
  show Run p.tables e below (s₁.setTop (mkF m 4 #[.val (.int p0), .val (.int p1), .val (.int p2), .unset, .unset, .unset, .unset, .unset, .unset, .unset, .unset, .unset, .unset, .unset, .unset, .unset, .unset] [(.int (p0 &&& (65535 : Int32)))])) _
  refine own_go (fun _ => XS.iconst X0.here hx rfl (hb hby at_4)) ?_
  show Run p.tables e below (s₁.setTop (mkF m 5 #[.val (.int p0), .val (.int p1), .val (.int p2), .unset, .unset, .unset, .unset, .unset, .unset, .unset, .unset, .unset, .unset, .unset, .unset, .unset, .unset] [(.int (3 : Int32)), (.int (p0 &&& (65535 : Int32)))])) _
  refine own_go (fun _ => iremM X0 hx rfl (hb hby at_5) rfl (by decide)) ?_
  show Run p.tables e below (s₁.setTop (mkF m 6 #[.val (.int p0), .val (.int p1), .val (.int p2), .unset, .unset, .unset, .unset, .unset, .unset, .unset, .unset, .unset, .unset, .unset, .unset, .unset, .unset] [(.int ((p0 &&& (65535 : Int32)) % (3 : Int32)))])) _
  refine own_go (fun _ => XS.istoreN X0.here hx rfl (hb hby at_6) rfl (l' := #[.val (.int p0), .val (.int p1), .val (.int p2), .val (.int ((p0 &&& (65535 : Int32)) % (3 : Int32))), .unset, .unset, .unset, .unset, .unset, .unset, .unset, .unset, .unset, .unset, .unset, .unset, .unset]) rfl) ?_
  show Run p.tables e below (s₁.setTop (mkF m 7 #[.val (.int p0), .val (.int p1), .val (.int p2), .val (.int ((p0 &&& (65535 : Int32)) % (3 : Int32))), .unset, .unset, .unset, .unset, .unset, .unset, .unset, .unset, .unset, .unset, .unset, .unset, .unset] [])) _
  refine own_go (fun _ => XS.iloadN X0.here hx rfl (hb hby at_7) rfl) ?_
  show Run p.tables e below (s₁.setTop (mkF m 8 #[.val (.int p0), .val (.int p1), .val (.int p2), .val (.int ((p0 &&& (65535 : Int32)) % (3 : Int32))), .unset, .unset, .unset, .unset, .unset, .unset, .unset, .unset, .unset, .unset, .unset, .unset, .unset] [(.int p0)])) _
  refine own_go (fun _ => XS.bipush X0.here hx rfl (hb hby at_8)) ?_
  show Run p.tables e below (s₁.setTop (mkF m 10 #[.val (.int p0), .val (.int p1), .val (.int p2), .val (.int ((p0 &&& (65535 : Int32)) % (3 : Int32))), .unset, .unset, .unset, .unset, .unset, .unset, .unset, .unset, .unset, .unset, .unset, .unset, .unset] [(.int (16 : Int32)), (.int p0)])) _
  refine own_go (fun _ => XT.iushr X0.here hx rfl (hb hby at_10) rfl) ?_
  show Run p.tables e below (s₁.setTop (mkF m 11 #[.val (.int p0), .val (.int p1), .val (.int p2), .val (.int ((p0 &&& (65535 : Int32)) % (3 : Int32))), .unset, .unset, .unset, .unset, .unset, .unset, .unset, .unset, .unset, .unset, .unset, .unset, .unset] [(.int (XT.ushr p0 (16 : Int32)))])) _
  refine own_go (fun _ => XS.iconst X0.here hx rfl (hb hby at_11)) ?_
  show Run p.tables e below (s₁.setTop (mkF m 12 #[.val (.int p0), .val (.int p1), .val (.int p2), .val (.int ((p0 &&& (65535 : Int32)) % (3 : Int32))), .unset, .unset, .unset, .unset, .unset, .unset, .unset, .unset, .unset, .unset, .unset, .unset, .unset] [(.int (3 : Int32)), (.int (XT.ushr p0 (16 : Int32)))])) _
  refine own_go (fun _ => iremM X0 hx rfl (hb hby at_12) rfl (by decide)) ?_
  show Run p.tables e below (s₁.setTop (mkF m 13 #[.val (.int p0), .val (.int p1), .val (.int p2), .val (.int ((p0 &&& (65535 : Int32)) % (3 : Int32))), .unset, .unset, .unset, .unset, .unset, .unset, .unset, .unset, .unset, .unset, .unset, .unset, .unset] [(.int ((XT.ushr p0 (16 : Int32)) % (3 : Int32)))])) _
  refine own_go (fun _ => XS.istore X0.here hx rfl (hb hby at_13) rfl (l' := #[.val (.int p0), .val (.int p1), .val (.int p2), .val (.int ((p0 &&& (65535 : Int32)) % (3 : Int32))), .val (.int ((XT.ushr p0 (16 : Int32)) % (3 : Int32))), .unset, .unset, .unset, .unset, .unset, .unset, .unset, .unset, .unset, .unset, .unset, .unset]) rfl) ?_
  show Run p.tables e below (s₁.setTop (mkF m 15 #[.val (.int p0), .val (.int p1), .val (.int p2), .val (.int ((p0 &&& (65535 : Int32)) % (3 : Int32))), .val (.int ((XT.ushr p0 (16 : Int32)) % (3 : Int32))), .unset, .unset, .unset, .unset, .unset, .unset, .unset, .unset, .unset, .unset, .unset, .unset] [])) _
  refine own_go (fun _ => XS.iloadN X0.here hx rfl (hb hby at_15) rfl) ?_
  show Run p.tables e below (s₁.setTop (mkF m 16 #[.val (.int p0), .val (.int p1), .val (.int p2), .val (.int ((p0 &&& (65535 : Int32)) % (3 : Int32))), .val (.int ((XT.ushr p0 (16 : Int32)) % (3 : Int32))), .unset, .unset, .unset, .unset, .unset, .unset, .unset, .unset, .unset, .unset, .unset, .unset] [(.int p1)])) _
  refine own_go (fun _ => XS.bipush X0.here hx rfl (hb hby at_16)) ?_
  show Run p.tables e below (s₁.setTop (mkF m 18 #[.val (.int p0), .val (.int p1), .val (.int p2), .val (.int ((p0 &&& (65535 : Int32)) % (3 : Int32))), .val (.int ((XT.ushr p0 (16 : Int32)) % (3 : Int32))), .unset, .unset, .unset, .unset, .unset, .unset, .unset, .unset, .unset, .unset, .unset, .unset] [(.int (7 : Int32)), (.int p1)])) _
  refine own_go (fun _ => XS.iand X0.here hx rfl (hb hby at_18) rfl) ?_
  show Run p.tables e below (s₁.setTop (mkF m 19 #[.val (.int p0), .val (.int p1), .val (.int p2), .val (.int ((p0 &&& (65535 : Int32)) % (3 : Int32))), .val (.int ((XT.ushr p0 (16 : Int32)) % (3 : Int32))), .unset, .unset, .unset, .unset, .unset, .unset, .unset, .unset, .unset, .unset, .unset, .unset] [(.int (p1 &&& (7 : Int32)))])) _
  refine own_go (fun _ => XS.istore X0.here hx rfl (hb hby at_19) rfl (l' := #[.val (.int p0), .val (.int p1), .val (.int p2), .val (.int ((p0 &&& (65535 : Int32)) % (3 : Int32))), .val (.int ((XT.ushr p0 (16 : Int32)) % (3 : Int32))), .val (.int (p1 &&& (7 : Int32))), .unset, .unset, .unset, .unset, .unset, .unset, .unset, .unset, .unset, .unset, .unset]) rfl) ?_
  show Run p.tables e below (s₁.setTop (mkF m 21 #[.val (.int p0), .val (.int p1), .val (.int p2), .val (.int ((p0 &&& (65535 : Int32)) % (3 : Int32))), .val (.int ((XT.ushr p0 (16 : Int32)) % (3 : Int32))), .val (.int (p1 &&& (7 : Int32))), .unset, .unset, .unset, .unset, .unset, .unset, .unset, .unset, .unset, .unset, .unset] [])) _
  refine own_go (fun _ => XS.iloadN X0.here hx rfl (hb hby at_21) rfl) ?_
  show Run p.tables e below (s₁.setTop (mkF m 22 #[.val (.int p0), .val (.int p1), .val (.int p2), .val (.int ((p0 &&& (65535 : Int32)) % (3 : Int32))), .val (.int ((XT.ushr p0 (16 : Int32)) % (3 : Int32))), .val (.int (p1 &&& (7 : Int32))), .unset, .unset, .unset, .unset, .unset, .unset, .unset, .unset, .unset, .unset, .unset] [(.int p1)])) _
  refine own_go (fun _ => XS.iconst X0.here hx rfl (hb hby at_22)) ?_
  show Run p.tables e below (s₁.setTop (mkF m 23 #[.val (.int p0), .val (.int p1), .val (.int p2), .val (.int ((p0 &&& (65535 : Int32)) % (3 : Int32))), .val (.int ((XT.ushr p0 (16 : Int32)) % (3 : Int32))), .val (.int (p1 &&& (7 : Int32))), .unset, .unset, .unset, .unset, .unset, .unset, .unset, .unset, .unset, .unset, .unset] [(.int (3 : Int32)), (.int p1)])) _
  refine own_go (fun _ => XT.iushr X0.here hx rfl (hb hby at_23) rfl) ?_
  show Run p.tables e below (s₁.setTop (mkF m 24 #[.val (.int p0), .val (.int p1), .val (.int p2), .val (.int ((p0 &&& (65535 : Int32)) % (3 : Int32))), .val (.int ((XT.ushr p0 (16 : Int32)) % (3 : Int32))), .val (.int (p1 &&& (7 : Int32))), .unset, .unset, .unset, .unset, .unset, .unset, .unset, .unset, .unset, .unset, .unset] [(.int (XT.ushr p1 (3 : Int32)))])) _
  refine own_go (fun _ => XS.bipush X0.here hx rfl (hb hby at_24)) ?_
  show Run p.tables e below (s₁.setTop (mkF m 26 #[.val (.int p0), .val (.int p1), .val (.int p2), .val (.int ((p0 &&& (65535 : Int32)) % (3 : Int32))), .val (.int ((XT.ushr p0 (16 : Int32)) % (3 : Int32))), .val (.int (p1 &&& (7 : Int32))), .unset, .unset, .unset, .unset, .unset, .unset, .unset, .unset, .unset, .unset, .unset] [(.int (7 : Int32)), (.int (XT.ushr p1 (3 : Int32)))])) _
  refine own_go (fun _ => XS.iand X0.here hx rfl (hb hby at_26) rfl) ?_
  show Run p.tables e below (s₁.setTop (mkF m 27 #[.val (.int p0), .val (.int p1), .val (.int p2), .val (.int ((p0 &&& (65535 : Int32)) % (3 : Int32))), .val (.int ((XT.ushr p0 (16 : Int32)) % (3 : Int32))), .val (.int (p1 &&& (7 : Int32))), .unset, .unset, .unset, .unset, .unset, .unset, .unset, .unset, .unset, .unset, .unset] [(.int ((XT.ushr p1 (3 : Int32)) &&& (7 : Int32)))])) _
  refine own_go (fun _ => XS.istore X0.here hx rfl (hb hby at_27) rfl (l' := #[.val (.int p0), .val (.int p1), .val (.int p2), .val (.int ((p0 &&& (65535 : Int32)) % (3 : Int32))), .val (.int ((XT.ushr p0 (16 : Int32)) % (3 : Int32))), .val (.int (p1 &&& (7 : Int32))), .val (.int ((XT.ushr p1 (3 : Int32)) &&& (7 : Int32))), .unset, .unset, .unset, .unset, .unset, .unset, .unset, .unset, .unset, .unset]) rfl) ?_
  show Run p.tables e below (s₁.setTop (mkF m 29 #[.val (.int p0), .val (.int p1), .val (.int p2), .val (.int ((p0 &&& (65535 : Int32)) % (3 : Int32))), .val (.int ((XT.ushr p0 (16 : Int32)) % (3 : Int32))), .val (.int (p1 &&& (7 : Int32))), .val (.int ((XT.ushr p1 (3 : Int32)) &&& (7 : Int32))), .unset, .unset, .unset, .unset, .unset, .unset, .unset, .unset, .unset, .unset] [])) _
  refine own_go (fun _ => XS.iloadN X0.here hx rfl (hb hby at_29) rfl) ?_
  show Run p.tables e below (s₁.setTop (mkF m 30 #[.val (.int p0), .val (.int p1), .val (.int p2), .val (.int ((p0 &&& (65535 : Int32)) % (3 : Int32))), .val (.int ((XT.ushr p0 (16 : Int32)) % (3 : Int32))), .val (.int (p1 &&& (7 : Int32))), .val (.int ((XT.ushr p1 (3 : Int32)) &&& (7 : Int32))), .unset, .unset, .unset, .unset, .unset, .unset, .unset, .unset, .unset, .unset] [(.int p1)])) _
  refine own_go (fun _ => XS.bipush X0.here hx rfl (hb hby at_30)) ?_
  show Run p.tables e below (s₁.setTop (mkF m 32 #[.val (.int p0), .val (.int p1), .val (.int p2), .val (.int ((p0 &&& (65535 : Int32)) % (3 : Int32))), .val (.int ((XT.ushr p0 (16 : Int32)) % (3 : Int32))), .val (.int (p1 &&& (7 : Int32))), .val (.int ((XT.ushr p1 (3 : Int32)) &&& (7 : Int32))), .unset, .unset, .unset, .unset, .unset, .unset, .unset, .unset, .unset, .unset] [(.int (6 : Int32)), (.int p1)])) _
  refine own_go (fun _ => XT.iushr X0.here hx rfl (hb hby at_32) rfl) ?_
  show Run p.tables e below (s₁.setTop (mkF m 33 #[.val (.int p0), .val (.int p1), .val (.int p2), .val (.int ((p0 &&& (65535 : Int32)) % (3 : Int32))), .val (.int ((XT.ushr p0 (16 : Int32)) % (3 : Int32))), .val (.int (p1 &&& (7 : Int32))), .val (.int ((XT.ushr p1 (3 : Int32)) &&& (7 : Int32))), .unset, .unset, .unset, .unset, .unset, .unset, .unset, .unset, .unset, .unset] [(.int (XT.ushr p1 (6 : Int32)))])) _
  refine own_go (fun _ => XS.bipush X0.here hx rfl (hb hby at_33)) ?_
  show Run p.tables e below (s₁.setTop (mkF m 35 #[.val (.int p0), .val (.int p1), .val (.int p2), .val (.int ((p0 &&& (65535 : Int32)) % (3 : Int32))), .val (.int ((XT.ushr p0 (16 : Int32)) % (3 : Int32))), .val (.int (p1 &&& (7 : Int32))), .val (.int ((XT.ushr p1 (3 : Int32)) &&& (7 : Int32))), .unset, .unset, .unset, .unset, .unset, .unset, .unset, .unset, .unset, .unset] [(.int (7 : Int32)), (.int (XT.ushr p1 (6 : Int32)))])) _
  refine own_go (fun _ => XS.iand X0.here hx rfl (hb hby at_35) rfl) ?_
  show Run p.tables e below (s₁.setTop (mkF m 36 #[.val (.int p0), .val (.int p1), .val (.int p2), .val (.int ((p0 &&& (65535 : Int32)) % (3 : Int32))), .val (.int ((XT.ushr p0 (16 : Int32)) % (3 : Int32))), .val (.int (p1 &&& (7 : Int32))), .val (.int ((XT.ushr p1 (3 : Int32)) &&& (7 : Int32))), .unset, .unset, .unset, .unset, .unset, .unset, .unset, .unset, .unset, .unset] [(.int ((XT.ushr p1 (6 : Int32)) &&& (7 : Int32)))])) _
  refine own_go (fun _ => XS.istore X0.here hx rfl (hb hby at_36) rfl (l' := #[.val (.int p0), .val (.int p1), .val (.int p2), .val (.int ((p0 &&& (65535 : Int32)) % (3 : Int32))), .val (.int ((XT.ushr p0 (16 : Int32)) % (3 : Int32))), .val (.int (p1 &&& (7 : Int32))), .val (.int ((XT.ushr p1 (3 : Int32)) &&& (7 : Int32))), .val (.int ((XT.ushr p1 (6 : Int32)) &&& (7 : Int32))), .unset, .unset, .unset, .unset, .unset, .unset, .unset, .unset, .unset]) rfl) ?_
  show Run p.tables e below (s₁.setTop (mkF m 38 #[.val (.int p0), .val (.int p1), .val (.int p2), .val (.int ((p0 &&& (65535 : Int32)) % (3 : Int32))), .val (.int ((XT.ushr p0 (16 : Int32)) % (3 : Int32))), .val (.int (p1 &&& (7 : Int32))), .val (.int ((XT.ushr p1 (3 : Int32)) &&& (7 : Int32))), .val (.int ((XT.ushr p1 (6 : Int32)) &&& (7 : Int32))), .unset, .unset, .unset, .unset, .unset, .unset, .unset, .unset, .unset] [])) _
  have ha := own_rem3 (p0 &&& (65535 : Int32)) (own_m16 p0)
  have hb_ := own_rem3 (XT.ushr p0 (16 : Int32)) (own_ush p0 16 16 (by decide) (by decide))
  have h1_ := own_and7 p1
  have h2_ := own_and7 (XT.ushr p1 (3 : Int32))
  have h3_ := own_and7 (XT.ushr p1 (6 : Int32))
  generalize ((p0 &&& (65535 : Int32)) % (3 : Int32)) = a at ha ⊢
  generalize ((XT.ushr p0 (16 : Int32)) % (3 : Int32)) = b3 at hb_ ⊢
  generalize (p1 &&& (7 : Int32)) = m1 at h1_ ⊢
  generalize ((XT.ushr p1 (3 : Int32)) &&& (7 : Int32)) = m2 at h2_ ⊢
  generalize ((XT.ushr p1 (6 : Int32)) &&& (7 : Int32)) = m3 at h3_ ⊢
  show Run p.tables e below (s₁.setTop (mkF m 38 #[.val (.int p0), .val (.int p1), .val (.int p2), .val (.int a), .val (.int b3), .val (.int m1), .val (.int m2), .val (.int m3), .unset, .unset, .unset, .unset, .unset, .unset, .unset, .unset, .unset] [])) _
  have J : ∀ (q : Int32) (hq : ¬ q < 0), Run p.tables e below (s₁.setTop (mkF m 56 #[.val (.int p0), .val (.int p1), .val (.int p2), .val (.int a), .val (.int b3), .val (.int m1), .val (.int m2), .val (.int m3), .unset, .unset, .unset, .unset, .unset, .unset, .unset, .unset, .unset] [(.int q)])) (OwnFin s below (own_Q0 n0) room_1.cells room_1.slots) := by
    intro q hq
    show Run p.tables e below (s₁.setTop (mkF m 56 #[.val (.int p0), .val (.int p1), .val (.int p2), .val (.int a), .val (.int b3), .val (.int m1), .val (.int m2), .val (.int m3), .unset, .unset, .unset, .unset, .unset, .unset, .unset, .unset, .unset] [(.int q)])) _
    refine own_go (fun _ => XS.istore X0.here hx rfl (hb hby at_56) rfl (l' := #[.val (.int p0), .val (.int p1), .val (.int p2), .val (.int a), .val (.int b3), .val (.int m1), .val (.int m2), .val (.int m3), .val (.int q), .unset, .unset, .unset, .unset, .unset, .unset, .unset, .unset]) rfl) ?_
    show Run p.tables e below (s₁.setTop (mkF m 58 #[.val (.int p0), .val (.int p1), .val (.int p2), .val (.int a), .val (.int b3), .val (.int m1), .val (.int m2), .val (.int m3), .val (.int q), .unset, .unset, .unset, .unset, .unset, .unset, .unset, .unset] [])) _
    refine own_go (fun _ => XS.iload X0.here hx rfl (hb hby at_58) rfl) ?_
    show Run p.tables e below (s₁.setTop (mkF m 60 #[.val (.int p0), .val (.int p1), .val (.int p2), .val (.int a), .val (.int b3), .val (.int m1), .val (.int m2), .val (.int m3), .val (.int q), .unset, .unset, .unset, .unset, .unset, .unset, .unset, .unset] [(.int m1)])) _
    obtain ⟨vk1, Tk1, Lk1, Xk1, ⟨s1, k1, rfl, NA1, EA1, zs1, XS1, VS1⟩, stk1⟩ := own_callS X0 hx hZ hown (hw _ (List.mem_of_getElem? (i := 1) rfl)) (hw _ (List.mem_of_getElem? (i := 2) rfl)) (hw _ (List.mem_of_getElem? (i := 4) rfl)) (hw _ (List.mem_of_getElem? (i := 3) rfl)) (by decide) e0 (rmARR l Z a0 hw [] m1 h1_ h0 n0 Z0) (g := (mkF m 60 #[.val (.int p0), .val (.int p1), .val (.int p2), .val (.int a), .val (.int b3), .val (.int m1), .val (.int m2), .val (.int m3), .val (.int q), .unset, .unset, .unset, .unset, .unset, .unset, .unset, .unset] [(.int m1)])) rfl (by rw [hml]; rfl) (argsL := [(.int m1)]) (rest := []) own_pda rfl rfl rfl (W := 0) (by show 2 * 0 + _ ≤ _; exact Nat.le_of_eq rfl) (hb hby at_60) (by decide) (by decide) (by decide) (by decide)
    refine own_go stk1 ?_
    show Run p.tables e below (Tk1.setTop (mkF m 63 #[.val (.int p0), .val (.int p1), .val (.int p2), .val (.int a), .val (.int b3), .val (.int m1), .val (.int m2), .val (.int m3), .val (.int q), .unset, .unset, .unset, .unset, .unset, .unset, .unset, .unset] [(.ref s1)])) _
    have NN1 := Fr.app (Fr.nil n0) NA1
    have Zh1 : n0 ≤ Tk1.heap.size := Nat.le_trans Z0 EA1.1
    refine own_go (fun _ => XS.astore Xk1.here hx rfl (hb hby at_63) rfl rfl (l' := #[.val (.int p0), .val (.int p1), .val (.int p2), .val (.int a), .val (.int b3), .val (.int m1), .val (.int m2), .val (.int m3), .val (.int q), .val (.ref s1), .unset, .unset, .unset, .unset, .unset, .unset, .unset]) rfl) ?_
    show Run p.tables e below (Tk1.setTop (mkF m 65 #[.val (.int p0), .val (.int p1), .val (.int p2), .val (.int a), .val (.int b3), .val (.int m1), .val (.int m2), .val (.int m3), .val (.int q), .val (.ref s1), .unset, .unset, .unset, .unset, .unset, .unset, .unset] [])) _
    refine own_go (fun _ => XS.iload Xk1.here hx rfl (hb hby at_65) rfl) ?_
    show Run p.tables e below (Tk1.setTop (mkF m 67 #[.val (.int p0), .val (.int p1), .val (.int p2), .val (.int a), .val (.int b3), .val (.int m1), .val (.int m2), .val (.int m3), .val (.int q), .val (.ref s1), .unset, .unset, .unset, .unset, .unset, .unset, .unset] [(.int m2)])) _
    obtain ⟨vk2, Tk2, Lk2, Xk2, ⟨s2, k2, rfl, NA2, EA2, zs2, XS2, VS2⟩, stk2⟩ := own_callS Xk1 hx hZ hown (hw _ (List.mem_of_getElem? (i := 1) rfl)) (hw _ (List.mem_of_getElem? (i := 2) rfl)) (hw _ (List.mem_of_getElem? (i := 4) rfl)) (hw _ (List.mem_of_getElem? (i := 3) rfl)) (by decide) rfl (rmARR l Z a0 hw [] m2 h2_ Tk1.heap n0 Zh1) (g := (mkF m 67 #[.val (.int p0), .val (.int p1), .val (.int p2), .val (.int a), .val (.int b3), .val (.int m1), .val (.int m2), .val (.int m3), .val (.int q), .val (.ref s1), .unset, .unset, .unset, .unset, .unset, .unset, .unset] [(.int m2)])) rfl (by rw [hml]; rfl) (argsL := [(.int m2)]) (rest := []) own_pda rfl rfl rfl (W := 0) (by show 2 * 0 + _ ≤ _; exact Nat.le_of_eq rfl) (hb hby at_67) (by decide) (by decide) (by decide) (by decide)
    refine own_go stk2 ?_
    show Run p.tables e below (Tk2.setTop (mkF m 70 #[.val (.int p0), .val (.int p1), .val (.int p2), .val (.int a), .val (.int b3), .val (.int m1), .val (.int m2), .val (.int m3), .val (.int q), .val (.ref s1), .unset, .unset, .unset, .unset, .unset, .unset, .unset] [(.ref s2)])) _
    have NN2 := Fr.app NN1 NA2
    have Zh2 : n0 ≤ Tk2.heap.size := Nat.le_trans Zh1 EA2.1
    refine own_go (fun _ => XS.astore Xk2.here hx rfl (hb hby at_70) rfl rfl (l' := #[.val (.int p0), .val (.int p1), .val (.int p2), .val (.int a), .val (.int b3), .val (.int m1), .val (.int m2), .val (.int m3), .val (.int q), .val (.ref s1), .val (.ref s2), .unset, .unset, .unset, .unset, .unset, .unset]) rfl) ?_
    show Run p.tables e below (Tk2.setTop (mkF m 72 #[.val (.int p0), .val (.int p1), .val (.int p2), .val (.int a), .val (.int b3), .val (.int m1), .val (.int m2), .val (.int m3), .val (.int q), .val (.ref s1), .val (.ref s2), .unset, .unset, .unset, .unset, .unset, .unset] [])) _
    refine own_go (fun _ => XS.iload Xk2.here hx rfl (hb hby at_72) rfl) ?_
    show Run p.tables e below (Tk2.setTop (mkF m 74 #[.val (.int p0), .val (.int p1), .val (.int p2), .val (.int a), .val (.int b3), .val (.int m1), .val (.int m2), .val (.int m3), .val (.int q), .val (.ref s1), .val (.ref s2), .unset, .unset, .unset, .unset, .unset, .unset] [(.int m3)])) _
    obtain ⟨vk3, Tk3, Lk3, Xk3, ⟨s3, k3, rfl, NA3, EA3, zs3, XS3, VS3⟩, stk3⟩ := own_callS Xk2 hx hZ hown (hw _ (List.mem_of_getElem? (i := 1) rfl)) (hw _ (List.mem_of_getElem? (i := 2) rfl)) (hw _ (List.mem_of_getElem? (i := 4) rfl)) (hw _ (List.mem_of_getElem? (i := 3) rfl)) (by decide) rfl (rmARR l Z a0 hw [] m3 h3_ Tk2.heap n0 Zh2) (g := (mkF m 74 #[.val (.int p0), .val (.int p1), .val (.int p2), .val (.int a), .val (.int b3), .val (.int m1), .val (.int m2), .val (.int m3), .val (.int q), .val (.ref s1), .val (.ref s2), .unset, .unset, .unset, .unset, .unset, .unset] [(.int m3)])) rfl (by rw [hml]; rfl) (argsL := [(.int m3)]) (rest := []) own_pda rfl rfl rfl (W := 0) (by show 2 * 0 + _ ≤ _; exact Nat.le_of_eq rfl) (hb hby at_74) (by decide) (by decide) (by decide) (by decide)
    refine own_go stk3 ?_
    show Run p.tables e below (Tk3.setTop (mkF m 77 #[.val (.int p0), .val (.int p1), .val (.int p2), .val (.int a), .val (.int b3), .val (.int m1), .val (.int m2), .val (.int m3), .val (.int q), .val (.ref s1), .val (.ref s2), .unset, .unset, .unset, .unset, .unset, .unset] [(.ref s3)])) _
    have NN3 := Fr.app NN2 NA3
    have Zh3 : n0 ≤ Tk3.heap.size := Nat.le_trans Zh2 EA3.1
    have XS1a := (XS1.ext EA2).ext EA3
    have VS1a := (VS1.ext EA2).ext EA3
    have XS2a := XS2.ext EA3
    have VS2a := VS2.ext EA3
    have ls1 := XS1a.lt
    have ls2 := XS2a.lt
    have ls3 := XS3.lt
    obtain ⟨nz, hnz⟩ : ∃ z, z = Tk3.heap.size := ⟨_, rfl⟩
    rw [← hnz] at ls1 ls2 ls3
    have Znz : n0 ≤ nz := by rw [hnz]; exact Zh3
    refine own_go (fun _ => XS.astore Xk3.here hx rfl (hb hby at_77) rfl rfl (l' := #[.val (.int p0), .val (.int p1), .val (.int p2), .val (.int a), .val (.int b3), .val (.int m1), .val (.int m2), .val (.int m3), .val (.int q), .val (.ref s1), .val (.ref s2), .val (.ref s3), .unset, .unset, .unset, .unset, .unset]) rfl) ?_
    show Run p.tables e below (Tk3.setTop (mkF m 79 #[.val (.int p0), .val (.int p1), .val (.int p2), .val (.int a), .val (.int b3), .val (.int m1), .val (.int m2), .val (.int m3), .val (.int q), .val (.ref s1), .val (.ref s2), .val (.ref s3), .unset, .unset, .unset, .unset, .unset] [])) _
    obtain ⟨TT, hT, XT_, eT, ET, AT, DT, -, stT⟩ := newO Xk3 hx hZ hown (hw _ (List.mem_of_getElem? (i := 6) rfl)) (hw _ (List.mem_of_getElem? (i := 7) rfl)) (hw _ (List.mem_of_getElem? (i := 8) rfl)) rfl (g := (mkF m 79 #[.val (.int p0), .val (.int p1), .val (.int p2), .val (.int a), .val (.int b3), .val (.int m1), .val (.int m2), .val (.int m3), .val (.int q), .val (.ref s1), .val (.ref s2), .val (.ref s3), .unset, .unset, .unset, .unset, .unset] [])) rfl (hb hby at_79) (by decide) (by decide)
    obtain ⟨t, gt⟩ : ∃ z, z = Tk3.heap.size := ⟨_, rfl⟩
    rw [← gt] at AT DT stT
    refine own_go stT ?_
    show Run p.tables e below (TT.setTop (mkF m 82 #[.val (.int p0), .val (.int p1), .val (.int p2), .val (.int a), .val (.int b3), .val (.int m1), .val (.int m2), .val (.int m3), .val (.int q), .val (.ref s1), .val (.ref s2), .val (.ref s3), .unset, .unset, .unset, .unset, .unset] [(.ref t)])) _
    refine own_go (fun _ => XS.dup XT_.here hx rfl (hb hby at_82) rfl rfl) ?_
    show Run p.tables e below (TT.setTop (mkF m 83 #[.val (.int p0), .val (.int p1), .val (.int p2), .val (.int a), .val (.int b3), .val (.int m1), .val (.int m2), .val (.int m3), .val (.int q), .val (.ref s1), .val (.ref s2), .val (.ref s3), .unset, .unset, .unset, .unset, .unset] [(.ref t), (.ref t)])) _
    have FT_lists : Fld Z hT t "com/example/elect/elect/core/NeighbourTable" "lists" "[[I" .null := DT (Or.inl (hw _ (List.mem_of_getElem? (i := 31) rfl))) (ty := (.array (.array .int))) (by decide)
    have FT_listed : Fld Z hT t "com/example/elect/elect/core/NeighbourTable" "listed" "[J" .null := DT (Or.inl (hw _ (List.mem_of_getElem? (i := 34) rfl))) (ty := (.array .long)) (by decide)
    have FT_listers : Fld Z hT t "com/example/elect/elect/core/NeighbourTable" "listers" "[J" .null := DT (Or.inl (hw _ (List.mem_of_getElem? (i := 36) rfl))) (ty := (.array .long)) (by decide)
    have FT_numbers : Fld Z hT t "com/example/elect/elect/core/NeighbourTable" "numbers" "Lcom/example/elect/elect/core/IdIndex;" .null := DT (Or.inr (hw _ (List.mem_of_getElem? (i := 38) rfl))) (ty := (.object "com/example/elect/elect/core/IdIndex")) (by decide)
    obtain ⟨TI, hI, XI, eI, EI, AI, DI, -, stI_⟩ := newO XT_ hx hZ hown (hw _ (List.mem_of_getElem? (i := 9) rfl)) (hw _ (List.mem_of_getElem? (i := 10) rfl)) (hw _ (List.mem_of_getElem? (i := 11) rfl)) eT (g := (mkF m 83 #[.val (.int p0), .val (.int p1), .val (.int p2), .val (.int a), .val (.int b3), .val (.int m1), .val (.int m2), .val (.int m3), .val (.int q), .val (.ref s1), .val (.ref s2), .val (.ref s3), .unset, .unset, .unset, .unset, .unset] [(.ref t), (.ref t)])) rfl (hb hby at_83) (by decide) (by decide)
    obtain ⟨b, gb⟩ : ∃ z, z = hT.size := ⟨_, rfl⟩
    rw [← gb] at AI DI stI_
    have FI_ids : Fld Z hI b "com/example/elect/elect/core/IdIndex" "ids" "[I" .null := DI (Or.inl (hw _ (List.mem_of_getElem? (i := 19) rfl))) (ty := (.array .int)) (by decide)
    have FI_direct : Fld Z hI b "com/example/elect/elect/core/IdIndex" "direct" "[I" .null := DI (Or.inl (hw _ (List.mem_of_getElem? (i := 21) rfl))) (ty := (.array .int)) (by decide)
    have FI_slots : Fld Z hI b "com/example/elect/elect/core/IdIndex" "slots" "[I" .null := DI (Or.inl (hw _ (List.mem_of_getElem? (i := 23) rfl))) (ty := (.array .int)) (by decide)
    have FI_count : Fld Z hI b "com/example/elect/elect/core/IdIndex" "count" "I" (.int 0) := DI (Or.inl (hw _ (List.mem_of_getElem? (i := 55) rfl))) (ty := .int) (by decide)
    have zt : nz ≤ t := Nat.le_of_eq (hnz.trans gt.symm)
    have zb : nz ≤ b := by rw [gb]; exact Nat.le_trans (Nat.le_of_eq hnz) ET.1
    have zI : nz ≤ hI.size := Nat.le_trans (Nat.le_of_eq hnz) (Nat.le_trans ET.1 EI.1)
    have tb : t ≠ b := own_nelt AT.lt (Nat.le_of_eq gb.symm)
    refine own_go stI_ ?_
    show Run p.tables e below (TI.setTop (mkF m 86 #[.val (.int p0), .val (.int p1), .val (.int p2), .val (.int a), .val (.int b3), .val (.int m1), .val (.int m2), .val (.int m3), .val (.int q), .val (.ref s1), .val (.ref s2), .val (.ref s3), .unset, .unset, .unset, .unset, .unset] [(.ref b), (.ref t), (.ref t)])) _
    refine own_go (fun _ => XS.dup XI.here hx rfl (hb hby at_86) rfl rfl) ?_
    show Run p.tables e below (TI.setTop (mkF m 87 #[.val (.int p0), .val (.int p1), .val (.int p2), .val (.int a), .val (.int b3), .val (.int m1), .val (.int m2), .val (.int m3), .val (.int q), .val (.ref s1), .val (.ref s2), .val (.ref s3), .unset, .unset, .unset, .unset, .unset] [(.ref b), (.ref b), (.ref t), (.ref t)])) _
    obtain ⟨vk4, Tk4, Lk4, Xk4, ⟨rfl, NI, KI, ai, ad0, zai, zad, I0⟩, stk4⟩ := own_callI XI hx hZ hown rfl (hw _ (List.mem_of_getElem? (i := 12) rfl)) (hw _ (List.mem_of_getElem? (i := 13) rfl)) (hw _ (List.mem_of_getElem? (i := 14) rfl)) (hw _ (List.mem_of_getElem? (i := 11) rfl)) (by decide) eI (rmIXI l Z a0 hw [] b hI n0 (Nat.le_trans Znz zI) (Nat.le_trans Znz zb) AI FI_ids FI_direct FI_slots FI_count) (b := b) (g := (mkF m 87 #[.val (.int p0), .val (.int p1), .val (.int p2), .val (.int a), .val (.int b3), .val (.int m1), .val (.int m2), .val (.int m3), .val (.int q), .val (.ref s1), .val (.ref s2), .val (.ref s3), .unset, .unset, .unset, .unset, .unset] [(.ref b), (.ref b), (.ref t), (.ref t)])) rfl (by rw [hml]; rfl) (argsL := []) (rest := [(.ref b), (.ref t), (.ref t)]) own_pdb rfl rfl rfl (W := 3) (by show 2 * 0 + _ ≤ _; exact Nat.le_of_eq rfl) (hb hby at_87) (by decide) (by decide) (by decide) (by decide)
    refine own_go stk4 ?_
    show Run p.tables e below (Tk4.setTop (mkF m 90 #[.val (.int p0), .val (.int p1), .val (.int p2), .val (.int a), .val (.int b3), .val (.int m1), .val (.int m2), .val (.int m3), .val (.int q), .val (.ref s1), .val (.ref s2), .val (.ref s3), .unset, .unset, .unset, .unset, .unset] [(.ref b), (.ref t), (.ref t)])) _
    have NN4 := Fr.app NN3 NI
    have AT1 := (AT.ext EI).keep KI
    have GT_lists := (FT_lists.ext EI).keep KI (own_nin1 tb)
    have GT_listed := (FT_listed.ext EI).keep KI (own_nin1 tb)
    have GT_listers := (FT_listers.ext EI).keep KI (own_nin1 tb)
    have GT_numbers := (FT_numbers.ext EI).keep KI (own_nin1 tb)
    have z1 : nz ≤ Tk4.heap.size := Nat.le_trans zI KI.1
    have zai1 : nz ≤ ai := Nat.le_trans zI zai
    obtain ⟨vk5, Tk5, Lk5, Xk5, ⟨rfl, NT_, KT, al, aL, aR, zl, zL, zR, J0⟩, stk5⟩ := own_callI Xk4 hx hZ hown rfl (hw _ (List.mem_of_getElem? (i := 24) rfl)) (hw _ (List.mem_of_getElem? (i := 25) rfl)) (hw _ (List.mem_of_getElem? (i := 26) rfl)) (hw _ (List.mem_of_getElem? (i := 8) rfl)) (by decide) rfl (rmNTI l Z a0 hw [] t b Tk4.heap n0 (Nat.le_trans Znz z1) (Nat.le_trans Znz zt) AT1 GT_lists GT_listed GT_listers GT_numbers) (b := t) (g := (mkF m 90 #[.val (.int p0), .val (.int p1), .val (.int p2), .val (.int a), .val (.int b3), .val (.int m1), .val (.int m2), .val (.int m3), .val (.int q), .val (.ref s1), .val (.ref s2), .val (.ref s3), .unset, .unset, .unset, .unset, .unset] [(.ref b), (.ref t), (.ref t)])) rfl (by rw [hml]; rfl) (argsL := [(.ref b)]) (rest := [(.ref t)]) own_pdc rfl rfl rfl (W := 1) (by show 2 * 0 + _ ≤ _; exact Nat.le_of_eq rfl) (hb hby at_90) (by decide) (by decide) (by decide) (by decide)
    refine own_go stk5 ?_
    show Run p.tables e below (Tk5.setTop (mkF m 93 #[.val (.int p0), .val (.int p1), .val (.int p2), .val (.int a), .val (.int b3), .val (.int m1), .val (.int m2), .val (.int m3), .val (.int q), .val (.ref s1), .val (.ref s2), .val (.ref s3), .unset, .unset, .unset, .unset, .unset] [(.ref t)])) _
    have NN5 := Fr.app NN4 NT_
    obtain ⟨Eb0, Fi0, Fc0, Fd0, VI0, VD0, nid0⟩ := I0
    have tai : t ≠ ai := VI0.ne (a0 := a0) AT1 (hw _ (List.mem_of_getElem? (i := 7) rfl))
    have tad : t ≠ ad0 := VD0.ne (a0 := a0) AT1 (hw _ (List.mem_of_getElem? (i := 7) rfl))
    have I1 : own_Ix Z Tk5.heap b ai ad0 0 0 := ⟨Eb0.keep KT, Fi0.keep KT (own_nin1 (Ne.symm tb)), Fc0.keep KT (own_nin1 (Ne.symm tb)), Fd0.keep KT (own_nin1 (Ne.symm tb)), VI0.keep KT (own_nin1 (Ne.symm tai)), VD0.keep KT (own_nin1 (Ne.symm tad)), nid0⟩
    have bl : al ≠ b := Ne.symm (own_nelt Eb0.lt zl)
    have bL : aL ≠ b := Ne.symm (own_nelt Eb0.lt zL)
    have bR : aR ≠ b := Ne.symm (own_nelt Eb0.lt zR)
    have il : al ≠ ai := Ne.symm (own_nelt VI0.lt zl)
    have iL : aL ≠ ai := Ne.symm (own_nelt VI0.lt zL)
    have iR : aR ≠ ai := Ne.symm (own_nelt VI0.lt zR)
    have z2 : nz ≤ Tk5.heap.size := Nat.le_trans z1 KT.1
    have XS1b := (((XS1a.ext ET).ext EI).keep KI).keep KT
    have VS1b := (((VS1a.ext ET).ext EI).keep KI (own_nin1 (own_nelt ls1 zb))).keep KT (own_nin1 (own_nelt ls1 zt))
    have XS2b := (((XS2a.ext ET).ext EI).keep KI).keep KT
    have VS2b := (((VS2a.ext ET).ext EI).keep KI (own_nin1 (own_nelt ls2 zb))).keep KT (own_nin1 (own_nelt ls2 zt))
    have XS3b := (((XS3.ext ET).ext EI).keep KI).keep KT
    have VS3b := (((VS3.ext ET).ext EI).keep KI (own_nin1 (own_nelt ls3 zb))).keep KT (own_nin1 (own_nelt ls3 zt))
    have Znl : nz ≤ al := Nat.le_trans z1 zl
    have ZnL : nz ≤ aL := Nat.le_trans z1 zL
    have ZnR : nz ≤ aR := Nat.le_trans z1 zR
    refine own_go (fun _ => XS.astore Xk5.here hx rfl (hb hby at_93) rfl rfl (l' := #[.val (.int p0), .val (.int p1), .val (.int p2), .val (.int a), .val (.int b3), .val (.int m1), .val (.int m2), .val (.int m3), .val (.int q), .val (.ref s1), .val (.ref s2), .val (.ref s3), .val (.ref t), .unset, .unset, .unset, .unset]) rfl) ?_
    show Run p.tables e below (Tk5.setTop (mkF m 95 #[.val (.int p0), .val (.int p1), .val (.int p2), .val (.int a), .val (.int b3), .val (.int m1), .val (.int m2), .val (.int m3), .val (.int q), .val (.ref s1), .val (.ref s2), .val (.ref s3), .val (.ref t), .unset, .unset, .unset, .unset] [])) _
    refine own_go (fun _ => XS.aload Xk5.here hx rfl (hb hby at_95) rfl rfl) ?_
    show Run p.tables e below (Tk5.setTop (mkF m 97 #[.val (.int p0), .val (.int p1), .val (.int p2), .val (.int a), .val (.int b3), .val (.int m1), .val (.int m2), .val (.int m3), .val (.int q), .val (.ref s1), .val (.ref s2), .val (.ref s3), .val (.ref t), .unset, .unset, .unset, .unset] [(.ref t)])) _
    refine own_go (fun _ => XS.iconst Xk5.here hx rfl (hb hby at_97)) ?_
    show Run p.tables e below (Tk5.setTop (mkF m 98 #[.val (.int p0), .val (.int p1), .val (.int p2), .val (.int a), .val (.int b3), .val (.int m1), .val (.int m2), .val (.int m3), .val (.int q), .val (.ref s1), .val (.ref s2), .val (.ref s3), .val (.ref t), .unset, .unset, .unset, .unset] [(.int (0 : Int32)), (.ref t)])) _
    obtain ⟨vk6, Tk6, Lk6, Xk6, ⟨y5, ad5, rfl, ND5, KD5, zd5, ID5⟩, stk6⟩ := own_callV Xk5 hx hZ hown (hw _ (List.mem_of_getElem? (i := 39) rfl)) (hw _ (List.mem_of_getElem? (i := 41) rfl)) (hw _ (List.mem_of_getElem? (i := 42) rfl)) (hw _ (List.mem_of_getElem? (i := 43) rfl)) (hw _ (List.mem_of_getElem? (i := 8) rfl)) (by decide) rfl (rmNTA l Z a0 hw [] t b ai ad0 0 1 (Or.inl ⟨rfl, rfl⟩) Tk5.heap n0 (Nat.le_trans Znz z2) (Nat.le_trans Znz zb) (Nat.le_trans Znz zai1) I1 J0.2.1) J0.1 (g := (mkF m 98 #[.val (.int p0), .val (.int p1), .val (.int p2), .val (.int a), .val (.int b3), .val (.int m1), .val (.int m2), .val (.int m3), .val (.int q), .val (.ref s1), .val (.ref s2), .val (.ref s3), .val (.ref t), .unset, .unset, .unset, .unset] [(.int (0 : Int32)), (.ref t)])) rfl (by rw [hml]; rfl) (argsL := [(.int (0 : Int32))]) (rest := []) own_pdd rfl rfl rfl (W := 0) (by show 2 * 0 + _ ≤ _; exact Nat.le_of_eq rfl) (hb hby at_98) (by decide) (by decide) (by decide) (by decide)
    refine own_go stk6 ?_
    show Run p.tables e below (Tk6.setTop (mkF m 101 #[.val (.int p0), .val (.int p1), .val (.int p2), .val (.int a), .val (.int b3), .val (.int m1), .val (.int m2), .val (.int m3), .val (.int q), .val (.ref s1), .val (.ref s2), .val (.ref s3), .val (.ref t), .unset, .unset, .unset, .unset] [(.int y5)])) _
    have NN6 := Fr.app NN5 ND5
    have JD0 := J0.keep KD5 (own_nin2 tb tai) (own_nin2 bl il) (own_nin2 bL iL) (own_nin2 bR iR)
    have zD0 : nz ≤ Tk6.heap.size := Nat.le_trans z2 KD5.1
    have IE0 : own_Ix Z Tk6.heap b ai ad5 1 1 := ID5
    have XS1c0 := XS1b.keep KD5
    have VS1c0 := VS1b.keep KD5 (own_nin2 (own_nelt ls1 zb) (own_nelt ls1 zai1))
    have XS2c0 := XS2b.keep KD5
    have VS2c0 := VS2b.keep KD5 (own_nin2 (own_nelt ls2 zb) (own_nelt ls2 zai1))
    have XS3c0 := XS3b.keep KD5
    have VS3c0 := VS3b.keep KD5 (own_nin2 (own_nelt ls3 zb) (own_nelt ls3 zai1))
    refine own_go (fun _ => XT.pop Xk6.here hx rfl (hb hby at_101) rfl rfl) ?_
    show Run p.tables e below (Tk6.setTop (mkF m 102 #[.val (.int p0), .val (.int p1), .val (.int p2), .val (.int a), .val (.int b3), .val (.int m1), .val (.int m2), .val (.int m3), .val (.int q), .val (.ref s1), .val (.ref s2), .val (.ref s3), .val (.ref t), .unset, .unset, .unset, .unset] [])) _
    refine own_go (fun _ => XS.aload Xk6.here hx rfl (hb hby at_102) rfl rfl) ?_
    show Run p.tables e below (Tk6.setTop (mkF m 104 #[.val (.int p0), .val (.int p1), .val (.int p2), .val (.int a), .val (.int b3), .val (.int m1), .val (.int m2), .val (.int m3), .val (.int q), .val (.ref s1), .val (.ref s2), .val (.ref s3), .val (.ref t), .unset, .unset, .unset, .unset] [(.ref t)])) _
    refine own_go (fun _ => XS.iconst Xk6.here hx rfl (hb hby at_104)) ?_
    show Run p.tables e below (Tk6.setTop (mkF m 105 #[.val (.int p0), .val (.int p1), .val (.int p2), .val (.int a), .val (.int b3), .val (.int m1), .val (.int m2), .val (.int m3), .val (.int q), .val (.ref s1), .val (.ref s2), .val (.ref s3), .val (.ref t), .unset, .unset, .unset, .unset] [(.int (1 : Int32)), (.ref t)])) _
    obtain ⟨vk7, Tk7, Lk7, Xk7, ⟨y6, ad6, rfl, ND6, KD6, zd6, ID6⟩, stk7⟩ := own_callV Xk6 hx hZ hown (hw _ (List.mem_of_getElem? (i := 39) rfl)) (hw _ (List.mem_of_getElem? (i := 41) rfl)) (hw _ (List.mem_of_getElem? (i := 42) rfl)) (hw _ (List.mem_of_getElem? (i := 43) rfl)) (hw _ (List.mem_of_getElem? (i := 8) rfl)) (by decide) rfl (rmNTA l Z a0 hw [] t b ai ad5 1 2 (Or.inr (Or.inl ⟨rfl, rfl⟩)) Tk6.heap n0 (Nat.le_trans Znz zD0) (Nat.le_trans Znz zb) (Nat.le_trans Znz zai1) IE0 JD0.2.1) JD0.1 (g := (mkF m 105 #[.val (.int p0), .val (.int p1), .val (.int p2), .val (.int a), .val (.int b3), .val (.int m1), .val (.int m2), .val (.int m3), .val (.int q), .val (.ref s1), .val (.ref s2), .val (.ref s3), .val (.ref t), .unset, .unset, .unset, .unset] [(.int (1 : Int32)), (.ref t)])) rfl (by rw [hml]; rfl) (argsL := [(.int (1 : Int32))]) (rest := []) own_pdd rfl rfl rfl (W := 0) (by show 2 * 0 + _ ≤ _; exact Nat.le_of_eq rfl) (hb hby at_105) (by decide) (by decide) (by decide) (by decide)
    refine own_go stk7 ?_
    show Run p.tables e below (Tk7.setTop (mkF m 108 #[.val (.int p0), .val (.int p1), .val (.int p2), .val (.int a), .val (.int b3), .val (.int m1), .val (.int m2), .val (.int m3), .val (.int q), .val (.ref s1), .val (.ref s2), .val (.ref s3), .val (.ref t), .unset, .unset, .unset, .unset] [(.int y6)])) _
    have NN7 := Fr.app NN6 ND6
    have JD1 := JD0.keep KD6 (own_nin2 tb tai) (own_nin2 bl il) (own_nin2 bL iL) (own_nin2 bR iR)
    have zD1 : nz ≤ Tk7.heap.size := Nat.le_trans zD0 KD6.1
    have IE1 : own_Ix Z Tk7.heap b ai ad6 2 2 := ID6
    have XS1c1 := XS1c0.keep KD6
    have VS1c1 := VS1c0.keep KD6 (own_nin2 (own_nelt ls1 zb) (own_nelt ls1 zai1))
    have XS2c1 := XS2c0.keep KD6
    have VS2c1 := VS2c0.keep KD6 (own_nin2 (own_nelt ls2 zb) (own_nelt ls2 zai1))
    have XS3c1 := XS3c0.keep KD6
    have VS3c1 := VS3c0.keep KD6 (own_nin2 (own_nelt ls3 zb) (own_nelt ls3 zai1))
    refine own_go (fun _ => XT.pop Xk7.here hx rfl (hb hby at_108) rfl rfl) ?_
    show Run p.tables e below (Tk7.setTop (mkF m 109 #[.val (.int p0), .val (.int p1), .val (.int p2), .val (.int a), .val (.int b3), .val (.int m1), .val (.int m2), .val (.int m3), .val (.int q), .val (.ref s1), .val (.ref s2), .val (.ref s3), .val (.ref t), .unset, .unset, .unset, .unset] [])) _
    refine own_go (fun _ => XS.aload Xk7.here hx rfl (hb hby at_109) rfl rfl) ?_
    show Run p.tables e below (Tk7.setTop (mkF m 111 #[.val (.int p0), .val (.int p1), .val (.int p2), .val (.int a), .val (.int b3), .val (.int m1), .val (.int m2), .val (.int m3), .val (.int q), .val (.ref s1), .val (.ref s2), .val (.ref s3), .val (.ref t), .unset, .unset, .unset, .unset] [(.ref t)])) _
    refine own_go (fun _ => XS.iconst Xk7.here hx rfl (hb hby at_111)) ?_
    show Run p.tables e below (Tk7.setTop (mkF m 112 #[.val (.int p0), .val (.int p1), .val (.int p2), .val (.int a), .val (.int b3), .val (.int m1), .val (.int m2), .val (.int m3), .val (.int q), .val (.ref s1), .val (.ref s2), .val (.ref s3), .val (.ref t), .unset, .unset, .unset, .unset] [(.int (2 : Int32)), (.ref t)])) _
    obtain ⟨vk8, Tk8, Lk8, Xk8, ⟨y7, ad7, rfl, ND7, KD7, zd7, ID7⟩, stk8⟩ := own_callV Xk7 hx hZ hown (hw _ (List.mem_of_getElem? (i := 39) rfl)) (hw _ (List.mem_of_getElem? (i := 41) rfl)) (hw _ (List.mem_of_getElem? (i := 42) rfl)) (hw _ (List.mem_of_getElem? (i := 43) rfl)) (hw _ (List.mem_of_getElem? (i := 8) rfl)) (by decide) rfl (rmNTA l Z a0 hw [] t b ai ad6 2 4 (Or.inr (Or.inr ⟨rfl, rfl⟩)) Tk7.heap n0 (Nat.le_trans Znz zD1) (Nat.le_trans Znz zb) (Nat.le_trans Znz zai1) IE1 JD1.2.1) JD1.1 (g := (mkF m 112 #[.val (.int p0), .val (.int p1), .val (.int p2), .val (.int a), .val (.int b3), .val (.int m1), .val (.int m2), .val (.int m3), .val (.int q), .val (.ref s1), .val (.ref s2), .val (.ref s3), .val (.ref t), .unset, .unset, .unset, .unset] [(.int (2 : Int32)), (.ref t)])) rfl (by rw [hml]; rfl) (argsL := [(.int (2 : Int32))]) (rest := []) own_pdd rfl rfl rfl (W := 0) (by show 2 * 0 + _ ≤ _; exact Nat.le_of_eq rfl) (hb hby at_112) (by decide) (by decide) (by decide) (by decide)
    refine own_go stk8 ?_
    show Run p.tables e below (Tk8.setTop (mkF m 115 #[.val (.int p0), .val (.int p1), .val (.int p2), .val (.int a), .val (.int b3), .val (.int m1), .val (.int m2), .val (.int m3), .val (.int q), .val (.ref s1), .val (.ref s2), .val (.ref s3), .val (.ref t), .unset, .unset, .unset, .unset] [(.int y7)])) _
    have NN8 := Fr.app NN7 ND7
    have JD2 := JD1.keep KD7 (own_nin2 tb tai) (own_nin2 bl il) (own_nin2 bL iL) (own_nin2 bR iR)
    have zD2 : nz ≤ Tk8.heap.size := Nat.le_trans zD1 KD7.1
    have IE2 : own_Ix Z Tk8.heap b ai ad7 3 4 := ID7
    have XS1c2 := XS1c1.keep KD7
    have VS1c2 := VS1c1.keep KD7 (own_nin2 (own_nelt ls1 zb) (own_nelt ls1 zai1))
    have XS2c2 := XS2c1.keep KD7
    have VS2c2 := VS2c1.keep KD7 (own_nin2 (own_nelt ls2 zb) (own_nelt ls2 zai1))
    have XS3c2 := XS3c1.keep KD7
    have VS3c2 := VS3c1.keep KD7 (own_nin2 (own_nelt ls3 zb) (own_nelt ls3 zai1))
    refine own_go (fun _ => XT.pop Xk8.here hx rfl (hb hby at_115) rfl rfl) ?_
    show Run p.tables e below (Tk8.setTop (mkF m 116 #[.val (.int p0), .val (.int p1), .val (.int p2), .val (.int a), .val (.int b3), .val (.int m1), .val (.int m2), .val (.int m3), .val (.int q), .val (.ref s1), .val (.ref s2), .val (.ref s3), .val (.ref t), .unset, .unset, .unset, .unset] [])) _
    refine own_go (fun _ => XS.aload Xk8.here hx rfl (hb hby at_116) rfl rfl) ?_
    show Run p.tables e below (Tk8.setTop (mkF m 118 #[.val (.int p0), .val (.int p1), .val (.int p2), .val (.int a), .val (.int b3), .val (.int m1), .val (.int m2), .val (.int m3), .val (.int q), .val (.ref s1), .val (.ref s2), .val (.ref s3), .val (.ref t), .unset, .unset, .unset, .unset] [(.ref t)])) _
    refine own_go (fun _ => XS.iloadN Xk8.here hx rfl (hb hby at_118) rfl) ?_
    show Run p.tables e below (Tk8.setTop (mkF m 119 #[.val (.int p0), .val (.int p1), .val (.int p2), .val (.int a), .val (.int b3), .val (.int m1), .val (.int m2), .val (.int m3), .val (.int q), .val (.ref s1), .val (.ref s2), .val (.ref s3), .val (.ref t), .unset, .unset, .unset, .unset] [(.int a), (.ref t)])) _
    refine own_go (fun _ => XS.aload Xk8.here hx rfl (hb hby at_119) rfl rfl) ?_
    show Run p.tables e below (Tk8.setTop (mkF m 121 #[.val (.int p0), .val (.int p1), .val (.int p2), .val (.int a), .val (.int b3), .val (.int m1), .val (.int m2), .val (.int m3), .val (.int q), .val (.ref s1), .val (.ref s2), .val (.ref s3), .val (.ref t), .unset, .unset, .unset, .unset] [(.ref s1), (.int a), (.ref t)])) _
    have hF0 : ∀ j : Int32, own_07L ((fun _ => (0 : Int64)) j) := fun _ => Or.inl rfl
    obtain ⟨Ebx, -, Fcx, -, -, -, -⟩ := IE2
    have lbl : b ∉ [al, aL, aR] := own_nin3 (Ne.symm bl) (Ne.symm bL) (Ne.symm bR)
    obtain ⟨vk9, Tk9, Lk9, Xk9, ⟨rfl, NL1, KL1, JL1⟩, stk9⟩ := own_callV Xk8 hx hZ hown (hw _ (List.mem_of_getElem? (i := 72) rfl)) (hw _ (List.mem_of_getElem? (i := 74) rfl)) (hw _ (List.mem_of_getElem? (i := 75) rfl)) (hw _ (List.mem_of_getElem? (i := 76) rfl)) (hw _ (List.mem_of_getElem? (i := 8) rfl)) (by decide) rfl (rmLST l Z a0 hw [] t b al aL aR (fun _ => (0 : Int64)) Tk8.heap JD2 a m1 s1 k1 n0 (Nat.le_trans Znz Znl) (Nat.le_trans Znz ZnL) (Nat.le_trans Znz ZnR) ha h1_ (hF0 a) Ebx Fcx XS1c2 VS1c2) JD2.1 (g := (mkF m 121 #[.val (.int p0), .val (.int p1), .val (.int p2), .val (.int a), .val (.int b3), .val (.int m1), .val (.int m2), .val (.int m3), .val (.int q), .val (.ref s1), .val (.ref s2), .val (.ref s3), .val (.ref t), .unset, .unset, .unset, .unset] [(.ref s1), (.int a), (.ref t)])) rfl (by rw [hml]; rfl) (argsL := [(.int a), (.ref s1)]) (rest := []) own_pdg rfl rfl rfl (W := 0) (by show 2 * 0 + _ ≤ _; exact Nat.le_of_eq rfl) (hb hby at_121) (by decide) (by decide) (by decide) (by decide)
    refine own_go stk9 ?_
    show Run p.tables e below (Tk9.setTop (mkF m 124 #[.val (.int p0), .val (.int p1), .val (.int p2), .val (.int a), .val (.int b3), .val (.int m1), .val (.int m2), .val (.int m3), .val (.int q), .val (.ref s1), .val (.ref s2), .val (.ref s3), .val (.ref t), .unset, .unset, .unset, .unset] [])) _
    have NM1 := Fr.app NN8 NL1
    have hF1 : ∀ j, own_07L ((own_upd (fun _ => (0 : Int64)) a m1.toInt64) j) := own_updL hF0 (own_to h1_)
    have EbL1 := Ebx.keep KL1
    have FcL1 := Fcx.keep KL1 lbl
    have XS1l1 := XS1c2.keep KL1
    have VS1l1 := VS1c2.keep KL1 (own_nin3 (own_nelt ls1 Znl) (own_nelt ls1 ZnL) (own_nelt ls1 ZnR))
    have XS2l1 := XS2c2.keep KL1
    have VS2l1 := VS2c2.keep KL1 (own_nin3 (own_nelt ls2 Znl) (own_nelt ls2 ZnL) (own_nelt ls2 ZnR))
    have XS3l1 := XS3c2.keep KL1
    have VS3l1 := VS3c2.keep KL1 (own_nin3 (own_nelt ls3 Znl) (own_nelt ls3 ZnL) (own_nelt ls3 ZnR))
    refine own_go (fun _ => XS.aload Xk9.here hx rfl (hb hby at_124) rfl rfl) ?_
    show Run p.tables e below (Tk9.setTop (mkF m 126 #[.val (.int p0), .val (.int p1), .val (.int p2), .val (.int a), .val (.int b3), .val (.int m1), .val (.int m2), .val (.int m3), .val (.int q), .val (.ref s1), .val (.ref s2), .val (.ref s3), .val (.ref t), .unset, .unset, .unset, .unset] [(.ref t)])) _
    refine own_go (fun _ => XS.iload Xk9.here hx rfl (hb hby at_126) rfl) ?_
    show Run p.tables e below (Tk9.setTop (mkF m 128 #[.val (.int p0), .val (.int p1), .val (.int p2), .val (.int a), .val (.int b3), .val (.int m1), .val (.int m2), .val (.int m3), .val (.int q), .val (.ref s1), .val (.ref s2), .val (.ref s3), .val (.ref t), .unset, .unset, .unset, .unset] [(.int b3), (.ref t)])) _
    refine own_go (fun _ => XS.aload Xk9.here hx rfl (hb hby at_128) rfl rfl) ?_
    show Run p.tables e below (Tk9.setTop (mkF m 130 #[.val (.int p0), .val (.int p1), .val (.int p2), .val (.int a), .val (.int b3), .val (.int m1), .val (.int m2), .val (.int m3), .val (.int q), .val (.ref s1), .val (.ref s2), .val (.ref s3), .val (.ref t), .unset, .unset, .unset, .unset] [(.ref s2), (.int b3), (.ref t)])) _
    obtain ⟨vk10, Tk10, Lk10, Xk10, ⟨rfl, NL2, KL2, JL2⟩, stk10⟩ := own_callV Xk9 hx hZ hown (hw _ (List.mem_of_getElem? (i := 72) rfl)) (hw _ (List.mem_of_getElem? (i := 74) rfl)) (hw _ (List.mem_of_getElem? (i := 75) rfl)) (hw _ (List.mem_of_getElem? (i := 76) rfl)) (hw _ (List.mem_of_getElem? (i := 8) rfl)) (by decide) rfl (rmLST l Z a0 hw [] t b al aL aR (own_upd (fun _ => (0 : Int64)) a m1.toInt64) Tk9.heap JL1 b3 m2 s2 k2 n0 (Nat.le_trans Znz Znl) (Nat.le_trans Znz ZnL) (Nat.le_trans Znz ZnR) hb_ h2_ (hF1 b3) EbL1 FcL1 XS2l1 VS2l1) JL1.1 (g := (mkF m 130 #[.val (.int p0), .val (.int p1), .val (.int p2), .val (.int a), .val (.int b3), .val (.int m1), .val (.int m2), .val (.int m3), .val (.int q), .val (.ref s1), .val (.ref s2), .val (.ref s3), .val (.ref t), .unset, .unset, .unset, .unset] [(.ref s2), (.int b3), (.ref t)])) rfl (by rw [hml]; rfl) (argsL := [(.int b3), (.ref s2)]) (rest := []) own_pdg rfl rfl rfl (W := 0) (by show 2 * 0 + _ ≤ _; exact Nat.le_of_eq rfl) (hb hby at_130) (by decide) (by decide) (by decide) (by decide)
    refine own_go stk10 ?_
    show Run p.tables e below (Tk10.setTop (mkF m 133 #[.val (.int p0), .val (.int p1), .val (.int p2), .val (.int a), .val (.int b3), .val (.int m1), .val (.int m2), .val (.int m3), .val (.int q), .val (.ref s1), .val (.ref s2), .val (.ref s3), .val (.ref t), .unset, .unset, .unset, .unset] [])) _
    have NM2 := Fr.app NM1 NL2
    have hF2 : ∀ j, own_07L ((own_upd (own_upd (fun _ => (0 : Int64)) a m1.toInt64) b3 m2.toInt64) j) := own_updL hF1 (own_to h2_)
    have EbL2 := EbL1.keep KL2
    have FcL2 := FcL1.keep KL2 lbl
    have XS1l2 := XS1l1.keep KL2
    have VS1l2 := VS1l1.keep KL2 (own_nin3 (own_nelt ls1 Znl) (own_nelt ls1 ZnL) (own_nelt ls1 ZnR))
    have XS2l2 := XS2l1.keep KL2
    have VS2l2 := VS2l1.keep KL2 (own_nin3 (own_nelt ls2 Znl) (own_nelt ls2 ZnL) (own_nelt ls2 ZnR))
    have XS3l2 := XS3l1.keep KL2
    have VS3l2 := VS3l1.keep KL2 (own_nin3 (own_nelt ls3 Znl) (own_nelt ls3 ZnL) (own_nelt ls3 ZnR))
    refine own_go (fun _ => XS.aload Xk10.here hx rfl (hb hby at_133) rfl rfl) ?_
    show Run p.tables e below (Tk10.setTop (mkF m 135 #[.val (.int p0), .val (.int p1), .val (.int p2), .val (.int a), .val (.int b3), .val (.int m1), .val (.int m2), .val (.int m3), .val (.int q), .val (.ref s1), .val (.ref s2), .val (.ref s3), .val (.ref t), .unset, .unset, .unset, .unset] [(.ref t)])) _
    refine own_go (fun _ => XS.iloadN Xk10.here hx rfl (hb hby at_135) rfl) ?_
    show Run p.tables e below (Tk10.setTop (mkF m 136 #[.val (.int p0), .val (.int p1), .val (.int p2), .val (.int a), .val (.int b3), .val (.int m1), .val (.int m2), .val (.int m3), .val (.int q), .val (.ref s1), .val (.ref s2), .val (.ref s3), .val (.ref t), .unset, .unset, .unset, .unset] [(.int a), (.ref t)])) _
    refine own_go (fun _ => XS.aload Xk10.here hx rfl (hb hby at_136) rfl rfl) ?_
    show Run p.tables e below (Tk10.setTop (mkF m 138 #[.val (.int p0), .val (.int p1), .val (.int p2), .val (.int a), .val (.int b3), .val (.int m1), .val (.int m2), .val (.int m3), .val (.int q), .val (.ref s1), .val (.ref s2), .val (.ref s3), .val (.ref t), .unset, .unset, .unset, .unset] [(.ref s3), (.int a), (.ref t)])) _
    obtain ⟨vk11, Tk11, Lk11, Xk11, ⟨rfl, NL3, KL3, JL3⟩, stk11⟩ := own_callV Xk10 hx hZ hown (hw _ (List.mem_of_getElem? (i := 72) rfl)) (hw _ (List.mem_of_getElem? (i := 74) rfl)) (hw _ (List.mem_of_getElem? (i := 75) rfl)) (hw _ (List.mem_of_getElem? (i := 76) rfl)) (hw _ (List.mem_of_getElem? (i := 8) rfl)) (by decide) rfl (rmLST l Z a0 hw [] t b al aL aR (own_upd (own_upd (fun _ => (0 : Int64)) a m1.toInt64) b3 m2.toInt64) Tk10.heap JL2 a m3 s3 k3 n0 (Nat.le_trans Znz Znl) (Nat.le_trans Znz ZnL) (Nat.le_trans Znz ZnR) ha h3_ (hF2 a) EbL2 FcL2 XS3l2 VS3l2) JL2.1 (g := (mkF m 138 #[.val (.int p0), .val (.int p1), .val (.int p2), .val (.int a), .val (.int b3), .val (.int m1), .val (.int m2), .val (.int m3), .val (.int q), .val (.ref s1), .val (.ref s2), .val (.ref s3), .val (.ref t), .unset, .unset, .unset, .unset] [(.ref s3), (.int a), (.ref t)])) rfl (by rw [hml]; rfl) (argsL := [(.int a), (.ref s3)]) (rest := []) own_pdg rfl rfl rfl (W := 0) (by show 2 * 0 + _ ≤ _; exact Nat.le_of_eq rfl) (hb hby at_138) (by decide) (by decide) (by decide) (by decide)
    refine own_go stk11 ?_
    show Run p.tables e below (Tk11.setTop (mkF m 141 #[.val (.int p0), .val (.int p1), .val (.int p2), .val (.int a), .val (.int b3), .val (.int m1), .val (.int m2), .val (.int m3), .val (.int q), .val (.ref s1), .val (.ref s2), .val (.ref s3), .val (.ref t), .unset, .unset, .unset, .unset] [])) _
    have NM3 := Fr.app NM2 NL3
    have hF3 : ∀ j, own_07L ((own_upd (own_upd (own_upd (fun _ => (0 : Int64)) a m1.toInt64) b3 m2.toInt64) a m3.toInt64) j) := own_updL hF2 (own_to h3_)
    have EbL3 := EbL2.keep KL3
    have FcL3 := FcL2.keep KL3 lbl
    have XS1l3 := XS1l2.keep KL3
    have VS1l3 := VS1l2.keep KL3 (own_nin3 (own_nelt ls1 Znl) (own_nelt ls1 ZnL) (own_nelt ls1 ZnR))
    have XS2l3 := XS2l2.keep KL3
    have VS2l3 := VS2l2.keep KL3 (own_nin3 (own_nelt ls2 Znl) (own_nelt ls2 ZnL) (own_nelt ls2 ZnR))
    have XS3l3 := XS3l2.keep KL3
    have VS3l3 := VS3l2.keep KL3 (own_nin3 (own_nelt ls3 Znl) (own_nelt ls3 ZnL) (own_nelt ls3 ZnR))
    refine own_go (fun _ => XS.aload Xk11.here hx rfl (hb hby at_141) rfl rfl) ?_
    show Run p.tables e below (Tk11.setTop (mkF m 143 #[.val (.int p0), .val (.int p1), .val (.int p2), .val (.int a), .val (.int b3), .val (.int m1), .val (.int m2), .val (.int m3), .val (.int q), .val (.ref s1), .val (.ref s2), .val (.ref s3), .val (.ref t), .unset, .unset, .unset, .unset] [(.ref t)])) _
    refine own_go (fun _ => XS.iload Xk11.here hx rfl (hb hby at_143) rfl) ?_
    show Run p.tables e below (Tk11.setTop (mkF m 145 #[.val (.int p0), .val (.int p1), .val (.int p2), .val (.int a), .val (.int b3), .val (.int m1), .val (.int m2), .val (.int m3), .val (.int q), .val (.ref s1), .val (.ref s2), .val (.ref s3), .val (.ref t), .unset, .unset, .unset, .unset] [(.int q), (.ref t)])) _
    obtain ⟨vk12, Tk12, Lk12, Xk12, ⟨rfl, ek12, rfl⟩, stk12⟩ := own_callV Xk11 hx hZ hown (hw _ (List.mem_of_getElem? (i := 102) rfl)) (hw _ (List.mem_of_getElem? (i := 104) rfl)) (hw _ (List.mem_of_getElem? (i := 105) rfl)) (hw _ (List.mem_of_getElem? (i := 106) rfl)) (hw _ (List.mem_of_getElem? (i := 8) rfl)) (by decide) rfl (rmLBT l Z a0 hw [] t b al aL aR (own_upd (own_upd (own_upd (fun _ => (0 : Int64)) a m1.toInt64) b3 m2.toInt64) a m3.toInt64) Tk11.heap JL3 q hq) JL3.1 (g := (mkF m 145 #[.val (.int p0), .val (.int p1), .val (.int p2), .val (.int a), .val (.int b3), .val (.int m1), .val (.int m2), .val (.int m3), .val (.int q), .val (.ref s1), .val (.ref s2), .val (.ref s3), .val (.ref t), .unset, .unset, .unset, .unset] [(.int q), (.ref t)])) rfl (by rw [hml]; rfl) (argsL := [(.int q)]) (rest := []) own_pdk rfl rfl rfl (W := 0) (by show 2 * 0 + _ ≤ _; exact Nat.le_of_eq rfl) (hb hby at_145) (by decide) (by decide) (by decide) (by decide)
    refine own_go stk12 ?_
    show Run p.tables e below (Tk12.setTop (mkF m 148 #[.val (.int p0), .val (.int p1), .val (.int p2), .val (.int a), .val (.int b3), .val (.int m1), .val (.int m2), .val (.int m3), .val (.int q), .val (.ref s1), .val (.ref s2), .val (.ref s3), .val (.ref t), .unset, .unset, .unset, .unset] [(.long (own_get (own_upd (own_upd (own_upd (fun _ => (0 : Int64)) a m1.toInt64) b3 m2.toInt64) a m3.toInt64) q))])) _
    refine own_go (fun _ => XT.lstore Xk12.here hx rfl (hb hby at_148) rfl (l' := #[.val (.int p0), .val (.int p1), .val (.int p2), .val (.int a), .val (.int b3), .val (.int m1), .val (.int m2), .val (.int m3), .val (.int q), .val (.ref s1), .val (.ref s2), .val (.ref s3), .val (.ref t), .val (.long (own_get (own_upd (own_upd (own_upd (fun _ => (0 : Int64)) a m1.toInt64) b3 m2.toInt64) a m3.toInt64) q)), .second, .unset, .unset]) rfl) ?_
    show Run p.tables e below (Tk12.setTop (mkF m 150 #[.val (.int p0), .val (.int p1), .val (.int p2), .val (.int a), .val (.int b3), .val (.int m1), .val (.int m2), .val (.int m3), .val (.int q), .val (.ref s1), .val (.ref s2), .val (.ref s3), .val (.ref t), .val (.long (own_get (own_upd (own_upd (own_upd (fun _ => (0 : Int64)) a m1.toInt64) b3 m2.toInt64) a m3.toInt64) q)), .second, .unset, .unset] [])) _
    refine own_go (fun _ => XS.aload Xk12.here hx rfl (hb hby at_150) rfl rfl) ?_
    show Run p.tables e below (Tk12.setTop (mkF m 152 #[.val (.int p0), .val (.int p1), .val (.int p2), .val (.int a), .val (.int b3), .val (.int m1), .val (.int m2), .val (.int m3), .val (.int q), .val (.ref s1), .val (.ref s2), .val (.ref s3), .val (.ref t), .val (.long (own_get (own_upd (own_upd (own_upd (fun _ => (0 : Int64)) a m1.toInt64) b3 m2.toInt64) a m3.toInt64) q)), .second, .unset, .unset] [(.ref t)])) _
    refine own_go (fun _ => XS.iloadN Xk12.here hx rfl (hb hby at_152) rfl) ?_
    show Run p.tables e below (Tk12.setTop (mkF m 153 #[.val (.int p0), .val (.int p1), .val (.int p2), .val (.int a), .val (.int b3), .val (.int m1), .val (.int m2), .val (.int m3), .val (.int q), .val (.ref s1), .val (.ref s2), .val (.ref s3), .val (.ref t), .val (.long (own_get (own_upd (own_upd (own_upd (fun _ => (0 : Int64)) a m1.toInt64) b3 m2.toInt64) a m3.toInt64) q)), .second, .unset, .unset] [(.int a), (.ref t)])) _
    have hna : ¬ a < 0 := (own_n012 ha).1
    obtain ⟨vk13, Tk13, Lk13, Xk13, ⟨rfl, ek13, rfl⟩, stk13⟩ := own_callV Xk12 hx hZ hown (hw _ (List.mem_of_getElem? (i := 102) rfl)) (hw _ (List.mem_of_getElem? (i := 104) rfl)) (hw _ (List.mem_of_getElem? (i := 105) rfl)) (hw _ (List.mem_of_getElem? (i := 106) rfl)) (hw _ (List.mem_of_getElem? (i := 8) rfl)) (by decide) ek12 (rmLBT l Z a0 hw [] t b al aL aR (own_upd (own_upd (own_upd (fun _ => (0 : Int64)) a m1.toInt64) b3 m2.toInt64) a m3.toInt64) Tk11.heap JL3 a hna) JL3.1 (g := (mkF m 153 #[.val (.int p0), .val (.int p1), .val (.int p2), .val (.int a), .val (.int b3), .val (.int m1), .val (.int m2), .val (.int m3), .val (.int q), .val (.ref s1), .val (.ref s2), .val (.ref s3), .val (.ref t), .val (.long (own_get (own_upd (own_upd (own_upd (fun _ => (0 : Int64)) a m1.toInt64) b3 m2.toInt64) a m3.toInt64) q)), .second, .unset, .unset] [(.int a), (.ref t)])) rfl (by rw [hml]; rfl) (argsL := [(.int a)]) (rest := []) own_pdk rfl rfl rfl (W := 0) (by show 2 * 0 + _ ≤ _; exact Nat.le_of_eq rfl) (hb hby at_153) (by decide) (by decide) (by decide) (by decide)
    refine own_go stk13 ?_
    show Run p.tables e below (Tk13.setTop (mkF m 156 #[.val (.int p0), .val (.int p1), .val (.int p2), .val (.int a), .val (.int b3), .val (.int m1), .val (.int m2), .val (.int m3), .val (.int q), .val (.ref s1), .val (.ref s2), .val (.ref s3), .val (.ref t), .val (.long (own_get (own_upd (own_upd (own_upd (fun _ => (0 : Int64)) a m1.toInt64) b3 m2.toInt64) a m3.toInt64) q)), .second, .unset, .unset] [(.long (own_get (own_upd (own_upd (own_upd (fun _ => (0 : Int64)) a m1.toInt64) b3 m2.toInt64) a m3.toInt64) a))])) _
    refine own_go (fun _ => XT.lstore Xk13.here hx rfl (hb hby at_156) rfl (l' := #[.val (.int p0), .val (.int p1), .val (.int p2), .val (.int a), .val (.int b3), .val (.int m1), .val (.int m2), .val (.int m3), .val (.int q), .val (.ref s1), .val (.ref s2), .val (.ref s3), .val (.ref t), .val (.long (own_get (own_upd (own_upd (own_upd (fun _ => (0 : Int64)) a m1.toInt64) b3 m2.toInt64) a m3.toInt64) q)), .second, .val (.long (own_get (own_upd (own_upd (own_upd (fun _ => (0 : Int64)) a m1.toInt64) b3 m2.toInt64) a m3.toInt64) a)), .second]) rfl) ?_
    show Run p.tables e below (Tk13.setTop (mkF m 158 #[.val (.int p0), .val (.int p1), .val (.int p2), .val (.int a), .val (.int b3), .val (.int m1), .val (.int m2), .val (.int m3), .val (.int q), .val (.ref s1), .val (.ref s2), .val (.ref s3), .val (.ref t), .val (.long (own_get (own_upd (own_upd (own_upd (fun _ => (0 : Int64)) a m1.toInt64) b3 m2.toInt64) a m3.toInt64) q)), .second, .val (.long (own_get (own_upd (own_upd (own_upd (fun _ => (0 : Int64)) a m1.toInt64) b3 m2.toInt64) a m3.toInt64) a)), .second] [])) _
    refine own_go (fun _ => XT.lload Xk13.here hx rfl (hb hby at_158) rfl) ?_
    show Run p.tables e below (Tk13.setTop (mkF m 160 #[.val (.int p0), .val (.int p1), .val (.int p2), .val (.int a), .val (.int b3), .val (.int m1), .val (.int m2), .val (.int m3), .val (.int q), .val (.ref s1), .val (.ref s2), .val (.ref s3), .val (.ref t), .val (.long (own_get (own_upd (own_upd (own_upd (fun _ => (0 : Int64)) a m1.toInt64) b3 m2.toInt64) a m3.toInt64) q)), .second, .val (.long (own_get (own_upd (own_upd (own_upd (fun _ => (0 : Int64)) a m1.toInt64) b3 m2.toInt64) a m3.toInt64) a)), .second] [(.long (own_get (own_upd (own_upd (own_upd (fun _ => (0 : Int64)) a m1.toInt64) b3 m2.toInt64) a m3.toInt64) q))])) _
    refine own_go (fun _ => XS.iload Xk13.here hx rfl (hb hby at_160) rfl) ?_
    show Run p.tables e below (Tk13.setTop (mkF m 162 #[.val (.int p0), .val (.int p1), .val (.int p2), .val (.int a), .val (.int b3), .val (.int m1), .val (.int m2), .val (.int m3), .val (.int q), .val (.ref s1), .val (.ref s2), .val (.ref s3), .val (.ref t), .val (.long (own_get (own_upd (own_upd (own_upd (fun _ => (0 : Int64)) a m1.toInt64) b3 m2.toInt64) a m3.toInt64) q)), .second, .val (.long (own_get (own_upd (own_upd (own_upd (fun _ => (0 : Int64)) a m1.toInt64) b3 m2.toInt64) a m3.toInt64) a)), .second] [(.int q), (.long (own_get (own_upd (own_upd (own_upd (fun _ => (0 : Int64)) a m1.toInt64) b3 m2.toInt64) a m3.toInt64) q))])) _
    refine own_go (fun _ => XS.iloadN Xk13.here hx rfl (hb hby at_162) rfl) ?_
    show Run p.tables e below (Tk13.setTop (mkF m 163 #[.val (.int p0), .val (.int p1), .val (.int p2), .val (.int a), .val (.int b3), .val (.int m1), .val (.int m2), .val (.int m3), .val (.int q), .val (.ref s1), .val (.ref s2), .val (.ref s3), .val (.ref t), .val (.long (own_get (own_upd (own_upd (own_upd (fun _ => (0 : Int64)) a m1.toInt64) b3 m2.toInt64) a m3.toInt64) q)), .second, .val (.long (own_get (own_upd (own_upd (own_upd (fun _ => (0 : Int64)) a m1.toInt64) b3 m2.toInt64) a m3.toInt64) a)), .second] [(.int a), (.int q), (.long (own_get (own_upd (own_upd (own_upd (fun _ => (0 : Int64)) a m1.toInt64) b3 m2.toInt64) a m3.toInt64) q))])) _
    refine own_go (fun _ => XS.iload Xk13.here hx rfl (hb hby at_163) rfl) ?_
    show Run p.tables e below (Tk13.setTop (mkF m 165 #[.val (.int p0), .val (.int p1), .val (.int p2), .val (.int a), .val (.int b3), .val (.int m1), .val (.int m2), .val (.int m3), .val (.int q), .val (.ref s1), .val (.ref s2), .val (.ref s3), .val (.ref t), .val (.long (own_get (own_upd (own_upd (own_upd (fun _ => (0 : Int64)) a m1.toInt64) b3 m2.toInt64) a m3.toInt64) q)), .second, .val (.long (own_get (own_upd (own_upd (own_upd (fun _ => (0 : Int64)) a m1.toInt64) b3 m2.toInt64) a m3.toInt64) a)), .second] [(.int b3), (.int a), (.int q), (.long (own_get (own_upd (own_upd (own_upd (fun _ => (0 : Int64)) a m1.toInt64) b3 m2.toInt64) a m3.toInt64) q))])) _
    refine own_go (fun _ => XS.iload Xk13.here hx rfl (hb hby at_165) rfl) ?_
    show Run p.tables e below (Tk13.setTop (mkF m 167 #[.val (.int p0), .val (.int p1), .val (.int p2), .val (.int a), .val (.int b3), .val (.int m1), .val (.int m2), .val (.int m3), .val (.int q), .val (.ref s1), .val (.ref s2), .val (.ref s3), .val (.ref t), .val (.long (own_get (own_upd (own_upd (own_upd (fun _ => (0 : Int64)) a m1.toInt64) b3 m2.toInt64) a m3.toInt64) q)), .second, .val (.long (own_get (own_upd (own_upd (own_upd (fun _ => (0 : Int64)) a m1.toInt64) b3 m2.toInt64) a m3.toInt64) a)), .second] [(.int m2), (.int b3), (.int a), (.int q), (.long (own_get (own_upd (own_upd (own_upd (fun _ => (0 : Int64)) a m1.toInt64) b3 m2.toInt64) a m3.toInt64) q))])) _
    refine own_go (fun _ => XS.iload Xk13.here hx rfl (hb hby at_167) rfl) ?_
    show Run p.tables e below (Tk13.setTop (mkF m 169 #[.val (.int p0), .val (.int p1), .val (.int p2), .val (.int a), .val (.int b3), .val (.int m1), .val (.int m2), .val (.int m3), .val (.int q), .val (.ref s1), .val (.ref s2), .val (.ref s3), .val (.ref t), .val (.long (own_get (own_upd (own_upd (own_upd (fun _ => (0 : Int64)) a m1.toInt64) b3 m2.toInt64) a m3.toInt64) q)), .second, .val (.long (own_get (own_upd (own_upd (own_upd (fun _ => (0 : Int64)) a m1.toInt64) b3 m2.toInt64) a m3.toInt64) a)), .second] [(.int m3), (.int m2), (.int b3), (.int a), (.int q), (.long (own_get (own_upd (own_upd (own_upd (fun _ => (0 : Int64)) a m1.toInt64) b3 m2.toInt64) a m3.toInt64) q))])) _
    obtain ⟨vk14, Tk14, Lk14, Xk14, ⟨rfl, ek14, rfl⟩, stk14⟩ := own_callS Xk13 hx hZ hown (hw _ (List.mem_of_getElem? (i := 107) rfl)) (hw _ (List.mem_of_getElem? (i := 108) rfl)) (hw _ (List.mem_of_getElem? (i := 109) rfl)) (hw _ (List.mem_of_getElem? (i := 3) rfl)) (by decide) ek13 (rmEXP l Z a0 hw [] q a b3 m2 m3 Tk11.heap) (g := (mkF m 169 #[.val (.int p0), .val (.int p1), .val (.int p2), .val (.int a), .val (.int b3), .val (.int m1), .val (.int m2), .val (.int m3), .val (.int q), .val (.ref s1), .val (.ref s2), .val (.ref s3), .val (.ref t), .val (.long (own_get (own_upd (own_upd (own_upd (fun _ => (0 : Int64)) a m1.toInt64) b3 m2.toInt64) a m3.toInt64) q)), .second, .val (.long (own_get (own_upd (own_upd (own_upd (fun _ => (0 : Int64)) a m1.toInt64) b3 m2.toInt64) a m3.toInt64) a)), .second] [(.int m3), (.int m2), (.int b3), (.int a), (.int q), (.long (own_get (own_upd (own_upd (own_upd (fun _ => (0 : Int64)) a m1.toInt64) b3 m2.toInt64) a m3.toInt64) q))])) rfl (by rw [hml]; rfl) (argsL := [(.int q), (.int a), (.int b3), (.int m2), (.int m3)]) (rest := [(.long (own_get (own_upd (own_upd (own_upd (fun _ => (0 : Int64)) a m1.toInt64) b3 m2.toInt64) a m3.toInt64) q))]) own_pdl rfl rfl rfl (W := 2) (by show 2 * 0 + _ ≤ _; exact Nat.le_of_eq rfl) (hb hby at_169) (by decide) (by decide) (by decide) (by decide)
    refine own_go stk14 ?_
    show Run p.tables e below (Tk14.setTop (mkF m 172 #[.val (.int p0), .val (.int p1), .val (.int p2), .val (.int a), .val (.int b3), .val (.int m1), .val (.int m2), .val (.int m3), .val (.int q), .val (.ref s1), .val (.ref s2), .val (.ref s3), .val (.ref t), .val (.long (own_get (own_upd (own_upd (own_upd (fun _ => (0 : Int64)) a m1.toInt64) b3 m2.toInt64) a m3.toInt64) q)), .second, .val (.long (own_get (own_upd (own_upd (own_upd (fun _ => (0 : Int64)) a m1.toInt64) b3 m2.toInt64) a m3.toInt64) a)), .second] [(.long (own_ex q a b3 m2 m3)), (.long (own_get (own_upd (own_upd (own_upd (fun _ => (0 : Int64)) a m1.toInt64) b3 m2.toInt64) a m3.toInt64) q))])) _
    refine own_go (fun _ => XT.lcmp Xk14.here hx rfl (hb hby at_172) rfl) ?_
    show Run p.tables e below (Tk14.setTop (mkF m 173 #[.val (.int p0), .val (.int p1), .val (.int p2), .val (.int a), .val (.int b3), .val (.int m1), .val (.int m2), .val (.int m3), .val (.int q), .val (.ref s1), .val (.ref s2), .val (.ref s3), .val (.ref t), .val (.long (own_get (own_upd (own_upd (own_upd (fun _ => (0 : Int64)) a m1.toInt64) b3 m2.toInt64) a m3.toInt64) q)), .second, .val (.long (own_get (own_upd (own_upd (own_upd (fun _ => (0 : Int64)) a m1.toInt64) b3 m2.toInt64) a m3.toInt64) a)), .second] [(.int (XT.cmpL (own_get (own_upd (own_upd (own_upd (fun _ => (0 : Int64)) a m1.toInt64) b3 m2.toInt64) a m3.toInt64) q) (own_ex q a b3 m2 m3)))])) _
    refine own_go (fun _ => XS.ifNo Xk14.here hx rfl (hb hby at_173) rfl (XT.i0_ne_f (own_cmp (own_fin1 ha hb_)))) ?_
    show Run p.tables e below (Tk14.setTop (mkF m 176 #[.val (.int p0), .val (.int p1), .val (.int p2), .val (.int a), .val (.int b3), .val (.int m1), .val (.int m2), .val (.int m3), .val (.int q), .val (.ref s1), .val (.ref s2), .val (.ref s3), .val (.ref t), .val (.long (own_get (own_upd (own_upd (own_upd (fun _ => (0 : Int64)) a m1.toInt64) b3 m2.toInt64) a m3.toInt64) q)), .second, .val (.long (own_get (own_upd (own_upd (own_upd (fun _ => (0 : Int64)) a m1.toInt64) b3 m2.toInt64) a m3.toInt64) a)), .second] [])) _
    refine own_go (fun _ => XT.lload Xk14.here hx rfl (hb hby at_176) rfl) ?_
    show Run p.tables e below (Tk14.setTop (mkF m 178 #[.val (.int p0), .val (.int p1), .val (.int p2), .val (.int a), .val (.int b3), .val (.int m1), .val (.int m2), .val (.int m3), .val (.int q), .val (.ref s1), .val (.ref s2), .val (.ref s3), .val (.ref t), .val (.long (own_get (own_upd (own_upd (own_upd (fun _ => (0 : Int64)) a m1.toInt64) b3 m2.toInt64) a m3.toInt64) q)), .second, .val (.long (own_get (own_upd (own_upd (own_upd (fun _ => (0 : Int64)) a m1.toInt64) b3 m2.toInt64) a m3.toInt64) a)), .second] [(.long (own_get (own_upd (own_upd (own_upd (fun _ => (0 : Int64)) a m1.toInt64) b3 m2.toInt64) a m3.toInt64) a))])) _
    refine own_go (fun _ => XS.iload Xk14.here hx rfl (hb hby at_178) rfl) ?_
    show Run p.tables e below (Tk14.setTop (mkF m 180 #[.val (.int p0), .val (.int p1), .val (.int p2), .val (.int a), .val (.int b3), .val (.int m1), .val (.int m2), .val (.int m3), .val (.int q), .val (.ref s1), .val (.ref s2), .val (.ref s3), .val (.ref t), .val (.long (own_get (own_upd (own_upd (own_upd (fun _ => (0 : Int64)) a m1.toInt64) b3 m2.toInt64) a m3.toInt64) q)), .second, .val (.long (own_get (own_upd (own_upd (own_upd (fun _ => (0 : Int64)) a m1.toInt64) b3 m2.toInt64) a m3.toInt64) a)), .second] [(.int m3), (.long (own_get (own_upd (own_upd (own_upd (fun _ => (0 : Int64)) a m1.toInt64) b3 m2.toInt64) a m3.toInt64) a))])) _
    refine own_go (fun _ => XT.i2l Xk14.here hx rfl (hb hby at_180) rfl) ?_
    show Run p.tables e below (Tk14.setTop (mkF m 181 #[.val (.int p0), .val (.int p1), .val (.int p2), .val (.int a), .val (.int b3), .val (.int m1), .val (.int m2), .val (.int m3), .val (.int q), .val (.ref s1), .val (.ref s2), .val (.ref s3), .val (.ref t), .val (.long (own_get (own_upd (own_upd (own_upd (fun _ => (0 : Int64)) a m1.toInt64) b3 m2.toInt64) a m3.toInt64) q)), .second, .val (.long (own_get (own_upd (own_upd (own_upd (fun _ => (0 : Int64)) a m1.toInt64) b3 m2.toInt64) a m3.toInt64) a)), .second] [(.long (m3).toInt64), (.long (own_get (own_upd (own_upd (own_upd (fun _ => (0 : Int64)) a m1.toInt64) b3 m2.toInt64) a m3.toInt64) a))])) _
    refine own_go (fun _ => XT.lcmp Xk14.here hx rfl (hb hby at_181) rfl) ?_
    show Run p.tables e below (Tk14.setTop (mkF m 182 #[.val (.int p0), .val (.int p1), .val (.int p2), .val (.int a), .val (.int b3), .val (.int m1), .val (.int m2), .val (.int m3), .val (.int q), .val (.ref s1), .val (.ref s2), .val (.ref s3), .val (.ref t), .val (.long (own_get (own_upd (own_upd (own_upd (fun _ => (0 : Int64)) a m1.toInt64) b3 m2.toInt64) a m3.toInt64) q)), .second, .val (.long (own_get (own_upd (own_upd (own_upd (fun _ => (0 : Int64)) a m1.toInt64) b3 m2.toInt64) a m3.toInt64) a)), .second] [(.int (XT.cmpL (own_get (own_upd (own_upd (own_upd (fun _ => (0 : Int64)) a m1.toInt64) b3 m2.toInt64) a m3.toInt64) a) (m3).toInt64))])) _
    refine own_go (fun _ => XS.ifNo Xk14.here hx rfl (hb hby at_182) rfl (XT.i0_ne_f (own_cmp (own_fin2 ha hb_)))) ?_
    show Run p.tables e below (Tk14.setTop (mkF m 185 #[.val (.int p0), .val (.int p1), .val (.int p2), .val (.int a), .val (.int b3), .val (.int m1), .val (.int m2), .val (.int m3), .val (.int q), .val (.ref s1), .val (.ref s2), .val (.ref s3), .val (.ref t), .val (.long (own_get (own_upd (own_upd (own_upd (fun _ => (0 : Int64)) a m1.toInt64) b3 m2.toInt64) a m3.toInt64) q)), .second, .val (.long (own_get (own_upd (own_upd (own_upd (fun _ => (0 : Int64)) a m1.toInt64) b3 m2.toInt64) a m3.toInt64) a)), .second] [])) _
    refine own_go (fun _ => XS.iconst Xk14.here hx rfl (hb hby at_185)) ?_
    show Run p.tables e below (Tk14.setTop (mkF m 186 #[.val (.int p0), .val (.int p1), .val (.int p2), .val (.int a), .val (.int b3), .val (.int m1), .val (.int m2), .val (.int m3), .val (.int q), .val (.ref s1), .val (.ref s2), .val (.ref s3), .val (.ref t), .val (.long (own_get (own_upd (own_upd (own_upd (fun _ => (0 : Int64)) a m1.toInt64) b3 m2.toInt64) a m3.toInt64) q)), .second, .val (.long (own_get (own_upd (own_upd (own_upd (fun _ => (0 : Int64)) a m1.toInt64) b3 m2.toInt64) a m3.toInt64) a)), .second] [(.int (1 : Int32))])) _
    refine own_go (fun _ => XS.goto Xk14.here hx rfl (pc0 := 186) (pc' := 190) rfl (hb hby at_186) (by decide) (by decide)) ?_
    show Run p.tables e below (Tk14.setTop (mkF m 190 #[.val (.int p0), .val (.int p1), .val (.int p2), .val (.int a), .val (.int b3), .val (.int m1), .val (.int m2), .val (.int m3), .val (.int q), .val (.ref s1), .val (.ref s2), .val (.ref s3), .val (.ref t), .val (.long (own_get (own_upd (own_upd (own_upd (fun _ => (0 : Int64)) a m1.toInt64) b3 m2.toInt64) a m3.toInt64) q)), .second, .val (.long (own_get (own_upd (own_upd (own_upd (fun _ => (0 : Int64)) a m1.toInt64) b3 m2.toInt64) a m3.toInt64) a)), .second] [(.int (1 : Int32))])) _
    simp only [List.append_nil] at Xk14
    exact own_out Xk14 (v := some (.int (1 : Int32))) (fun q => by rw [hret] at q; cases q) hlk (fun fs hr => retN Xk14 hx (t := .boolean) hret (by simp) (hb hby at_190) hr) ⟨rfl, NM3⟩ (by decide) (by decide)
  refine own_go (fun _ => XS.iloadN X0.here hx rfl (hb hby at_38) rfl) ?_
  show Run p.tables e below (s₁.setTop (mkF m 39 #[.val (.int p0), .val (.int p1), .val (.int p2), .val (.int a), .val (.int b3), .val (.int m1), .val (.int m2), .val (.int m3), .unset, .unset, .unset, .unset, .unset, .unset, .unset, .unset, .unset] [(.int p2)])) _
  refine own_go (fun _ => XS.iconst X0.here hx rfl (hb hby at_39)) ?_
  show Run p.tables e below (s₁.setTop (mkF m 40 #[.val (.int p0), .val (.int p1), .val (.int p2), .val (.int a), .val (.int b3), .val (.int m1), .val (.int m2), .val (.int m3), .unset, .unset, .unset, .unset, .unset, .unset, .unset, .unset, .unset] [(.int (1 : Int32)), (.int p2)])) _
  refine own_go (fun _ => XS.iand X0.here hx rfl (hb hby at_40) rfl) ?_
  show Run p.tables e below (s₁.setTop (mkF m 41 #[.val (.int p0), .val (.int p1), .val (.int p2), .val (.int a), .val (.int b3), .val (.int m1), .val (.int m2), .val (.int m3), .unset, .unset, .unset, .unset, .unset, .unset, .unset, .unset, .unset] [(.int (p2 &&& (1 : Int32)))])) _
  have hu := own_ush p2 1 1 (by decide) (by decide)
  by_cases qq : (p2 &&& (1 : Int32)) = 0
  · show Run p.tables e below (s₁.setTop (mkF m 41 #[.val (.int p0), .val (.int p1), .val (.int p2), .val (.int a), .val (.int b3), .val (.int m1), .val (.int m2), .val (.int m3), .unset, .unset, .unset, .unset, .unset, .unset, .unset, .unset, .unset] [(.int (p2 &&& (1 : Int32)))])) _
    refine own_go (fun _ => XS.ifYes X0.here hx rfl (pc0 := 41) (pc' := 53) rfl (hb hby at_41) rfl (XT.i0_eq_t qq) (by decide) (by decide)) ?_
    show Run p.tables e below (s₁.setTop (mkF m 53 #[.val (.int p0), .val (.int p1), .val (.int p2), .val (.int a), .val (.int b3), .val (.int m1), .val (.int m2), .val (.int m3), .unset, .unset, .unset, .unset, .unset, .unset, .unset, .unset, .unset] [])) _
    refine own_go (fun _ => XS.iloadN X0.here hx rfl (hb hby at_53) rfl) ?_
    show Run p.tables e below (s₁.setTop (mkF m 54 #[.val (.int p0), .val (.int p1), .val (.int p2), .val (.int a), .val (.int b3), .val (.int m1), .val (.int m2), .val (.int m3), .unset, .unset, .unset, .unset, .unset, .unset, .unset, .unset, .unset] [(.int p2)])) _
    refine own_go (fun _ => XS.iconst X0.here hx rfl (hb hby at_54)) ?_
    show Run p.tables e below (s₁.setTop (mkF m 55 #[.val (.int p0), .val (.int p1), .val (.int p2), .val (.int a), .val (.int b3), .val (.int m1), .val (.int m2), .val (.int m3), .unset, .unset, .unset, .unset, .unset, .unset, .unset, .unset, .unset] [(.int (1 : Int32)), (.int p2)])) _
    refine own_go (fun _ => XT.iushr X0.here hx rfl (hb hby at_55) rfl) ?_
    show Run p.tables e below (s₁.setTop (mkF m 56 #[.val (.int p0), .val (.int p1), .val (.int p2), .val (.int a), .val (.int b3), .val (.int m1), .val (.int m2), .val (.int m3), .unset, .unset, .unset, .unset, .unset, .unset, .unset, .unset, .unset] [(.int (XT.ushr p2 (1 : Int32)))])) _
    exact J _ (own_nn hu)
  · show Run p.tables e below (s₁.setTop (mkF m 41 #[.val (.int p0), .val (.int p1), .val (.int p2), .val (.int a), .val (.int b3), .val (.int m1), .val (.int m2), .val (.int m3), .unset, .unset, .unset, .unset, .unset, .unset, .unset, .unset, .unset] [(.int (p2 &&& (1 : Int32)))])) _
    refine own_go (fun _ => XS.ifNo X0.here hx rfl (hb hby at_41) rfl (XT.i0_eq_f qq)) ?_
    show Run p.tables e below (s₁.setTop (mkF m 44 #[.val (.int p0), .val (.int p1), .val (.int p2), .val (.int a), .val (.int b3), .val (.int m1), .val (.int m2), .val (.int m3), .unset, .unset, .unset, .unset, .unset, .unset, .unset, .unset, .unset] [])) _
    refine own_go (fun _ => XS.iloadN X0.here hx rfl (hb hby at_44) rfl) ?_
    show Run p.tables e below (s₁.setTop (mkF m 45 #[.val (.int p0), .val (.int p1), .val (.int p2), .val (.int a), .val (.int b3), .val (.int m1), .val (.int m2), .val (.int m3), .unset, .unset, .unset, .unset, .unset, .unset, .unset, .unset, .unset] [(.int p2)])) _
    refine own_go (fun _ => XS.iconst X0.here hx rfl (hb hby at_45)) ?_
    show Run p.tables e below (s₁.setTop (mkF m 46 #[.val (.int p0), .val (.int p1), .val (.int p2), .val (.int a), .val (.int b3), .val (.int m1), .val (.int m2), .val (.int m3), .unset, .unset, .unset, .unset, .unset, .unset, .unset, .unset, .unset] [(.int (1 : Int32)), (.int p2)])) _
    refine own_go (fun _ => XT.iushr X0.here hx rfl (hb hby at_46) rfl) ?_
    show Run p.tables e below (s₁.setTop (mkF m 47 #[.val (.int p0), .val (.int p1), .val (.int p2), .val (.int a), .val (.int b3), .val (.int m1), .val (.int m2), .val (.int m3), .unset, .unset, .unset, .unset, .unset, .unset, .unset, .unset, .unset] [(.int (XT.ushr p2 (1 : Int32)))])) _
    refine own_go (fun _ => XS.bipush X0.here hx rfl (hb hby at_47)) ?_
    show Run p.tables e below (s₁.setTop (mkF m 49 #[.val (.int p0), .val (.int p1), .val (.int p2), .val (.int a), .val (.int b3), .val (.int m1), .val (.int m2), .val (.int m3), .unset, .unset, .unset, .unset, .unset, .unset, .unset, .unset, .unset] [(.int (7 : Int32)), (.int (XT.ushr p2 (1 : Int32)))])) _
    refine own_go (fun _ => XS.iand X0.here hx rfl (hb hby at_49) rfl) ?_
    show Run p.tables e below (s₁.setTop (mkF m 50 #[.val (.int p0), .val (.int p1), .val (.int p2), .val (.int a), .val (.int b3), .val (.int m1), .val (.int m2), .val (.int m3), .unset, .unset, .unset, .unset, .unset, .unset, .unset, .unset, .unset] [(.int ((XT.ushr p2 (1 : Int32)) &&& (7 : Int32)))])) _
    refine own_go (fun _ => XS.goto X0.here hx rfl (pc0 := 50) (pc' := 56) rfl (hb hby at_50) (by decide) (by decide)) ?_
    show Run p.tables e below (s₁.setTop (mkF m 56 #[.val (.int p0), .val (.int p1), .val (.int p2), .val (.int a), .val (.int b3), .val (.int m1), .val (.int m2), .val (.int m3), .unset, .unset, .unset, .unset, .unset, .unset, .unset, .unset, .unset] [(.int ((XT.ushr p2 (1 : Int32)) &&& (7 : Int32)))])) _
    exact J _ (own_nn (c_and _ 7 (by decide)).1)
set_option maxRecDepth 65536 in
set_option maxHeartbeats 40000000 in
theorem comes_1 {Post : Tables → Env → Array Value → State → Outcome → State → Prop} (hpost : ∀ tb e args s v u, (limb_1_1.after args s (.returned v) u = true ∧ limb_1_2.after args s (.returned v) u = true ∧ True) → FrameEnd s (.returned v) u (Jvm.fieldLocs frame_1_writes args s ++ Jvm.arrayLocs frame_1_arrays args s ++ Jvm.staticLocs frame_1_statics s) 40 256 → Post tb e args s (.returned v) u) :
    ArmFor flags0 classFile x code maxLocals ret World_1 tables_1 room_1 Calls_1 rest_1 Pre_1 Post := by
  intro l hfl _ _ p e ha hc hk s m args below hf hA hF happ hP
  obtain ⟨hcalls, hrest, hpre⟩ := hP
  obtain ⟨-, -, -, hnamed, -, -, -, hat⟩ := (Spec.applies_iff hf).mp happ
  obtain ⟨hg, hn⟩ := and_e (Cond.before_iff.mp (show (Jvm.Cond.and given_1 narrow_1).before args s = true from hpre))
  obtain ⟨h1, hg⟩ := and_e hg
  obtain ⟨w0, w1, w2, rfl⟩ : ∃ w0 w1 w2 : Value, args = #[w0, w1, w2] := by
    have hs : args.size = 3 := by simpa [Cond.value, given_1] using h1
    obtain ⟨L⟩ := args
    match L, hs with
    | [w0, w1, w2], _ => exact ⟨w0, w1, w2, rfl⟩
  have hw := fun d (hd : d ∈ tables_1) => atoms_spec (ws := Jvm.Cond.code x code maxLocals ret :: tables_1) hat d (List.mem_cons_of_mem _ hd)
  have hfit : Fit s := fun {y c} hc i hi => by
    obtain ⟨ha, rfl⟩ := Array.getElem?_eq_some_iff.mp hc
    have q := List.all_eq_true.mp ((Array.all_eq_true_iff_forall_mem.mp hF) _ (Array.getElem_mem ha)) i (List.mem_range.mpr hi)
    simpa [Array.getElem?_eq_getElem hi] using q
  obtain ⟨g0, hg⟩ := and_e hg
  obtain ⟨i0, q0⟩ := is_v g0
  obtain rfl : w0 = (.int i0) := Option.some.inj q0
  obtain ⟨g1, hg⟩ := and_e hg
  obtain ⟨i1, q1⟩ := is_v g1
  obtain rfl : w1 = (.int i1) := Option.some.inj q1
  have g2 := hg
  obtain ⟨i2, q2⟩ := is_v g2
  obtain rfl : w2 = (.int i2) := Option.some.inj q2
  obtain ⟨n, o, h1, h2, h3, _, L, rfl, ⟨rfl, N⟩, hq⟩ := rm0 l s _ hw tables_1 i0 i1 i2 s.heap s.heap.size (Nat.le_refl _) p e ha hc hk s m _ below hf ((Spec.applies_iff_loose hf).mp happ).1 ⟨rfl, State.Warmed39.refl s, rfl⟩ trivial
  refine ⟨n, _, h1, h2, h3, hpost _ _ _ _ _ _ ⟨Cond.after_iff.mpr rfl, Cond.after_iff.mpr (eq_i res_at (Term.int_eval (1)) rfl), trivial⟩ ⟨hq.1, hq.2.1, (hq.2.2.sift fun y hy => Or.inr (N y hy)).mono (by decide) (by decide)⟩⟩
theorem main_1_1 : Claimed_1_1 := comes_1 fun _ _ _ _ _ _ h hF => ⟨h.1, hF⟩
theorem main_1_2 : Claimed_1_2 := comes_1 fun _ _ _ _ _ _ h hF => ⟨h.2.1, hF⟩
end Jvm.Pilot.@@N@@
namespace Jvm.Pilot.@@N@@
open Jvm Jvm.ClassFile Sem Op Lib Jvm.Free Jvm.Stand Jvm.Pilot.@@N@@.Jvm.D
/-! MADE BY PROGRAM (witnessworld.py) out of the Statement's table words and the real class files: 21 classes; the members and pool entries that the words name. The judged class is class 1, her method 3. -/
namespace start1
open Jvm.ClassFile
def u (s : String) : CpInfo := .utf8 (stringToUtf16 s)
/-- a pool by its gaps: so many unusable entries, then the entry; so many at the end -/
def gap : Nat → List CpInfo → List CpInfo
  | 0, r => r
  | n + 1, r => .unusable :: gap n r
def poolList (es : List (Nat × CpInfo)) (last : Nat) : List CpInfo := es.foldr (fun e r => gap e.1 (e.2 :: r)) (gap last [])
def pool (es : List (Nat × CpInfo)) (last : Nat) : Array CpInfo := ⟨poolList es last⟩
def fileOf (pool : Array CpInfo) (this : Nat) (attrs : Array Attribute := #[]) (ms : Array MethodInfo := #[]) (fl : Nat := 33) (sup : Nat := 0) (ifs : Array Nat := #[]) (fds : Array FieldInfo := #[]) : ClassFile where
  minorVersion := 0
  majorVersion := 65
  constantPool := pool
  accessFlags := fl
  thisClass := this
  superClass := sup
  interfaces := ifs
  fields := fds
  methods := ms
  attributes := attrs
def plain (name : String) (sup : Option ClassId) : Class where
  name := name
  kind := .ordinary
  loader := none
  accessFlags := 33
  super := sup
  interfaces := #[]
  cf := none
  fields := #[]
  methods := #[]
  instanceTypes := #[]
  staticTypes := #[]
  resolved := #[]
  callSites := []
  init := .initialized
  statics := none
  mirror := none

def pool0 : Array CpInfo := pool [(5, u "<init>"), (0, u "()V"), (1, .class_ 10), (1, u "java/lang/Object")] 113

def k0c0 : Code := { maxStack := 0, maxLocals := 1, code := object_method_1_code, exceptionTable := #[], attributes := #[] }
def k0m0 : Method := { name := "<init>", desc := "()V", sig := { parameters := [], returnType := none }, accessFlags := 1, code := some k0c0 }
/-- java/lang/Object -/
def k0 : Class := { plain "java/lang/Object" none with
  accessFlags := 33
  interfaces := #[]
  cf := some (fileOf pool0 8 #[] #[{ accessFlags := 1, nameIndex := 5, descriptorIndex := 6, attributes := #[] }] 33 0 #[] #[])
  fields := #[]
  methods := #[k0m0]
  instanceTypes := #[]
  staticTypes := #[]
  resolved := Array.replicate 124 none
  statics := none }

def pool1 : Array CpInfo := pool [(2, .class_ 4), (0, .nameAndType 5 6), (0, u "java/lang/Object"), (0, u "<init>"), (0, u "()V"), (0, .integer 65535), (0, .methodref 9 10), (0, .class_ 11), (0, .nameAndType 12 13), (0, u "com/example/elect/elect/core/NeighbourTableListedBitsPinLaw"), (0, u "arr"), (0, u "(I)[I"), (0, .class_ 15), (0, u "com/example/elect/elect/core/NeighbourTable"), (0, .class_ 17), (0, u "com/example/elect/elect/core/IdIndex"), (0, .methodref 16 3), (0, .methodref 14 20), (0, .nameAndType 5 21), (0, u "(Lcom/example/elect/elect/core/IdIndex;)V"), (0, .methodref 14 23), (0, .nameAndType 24 25), (0, u "add"), (0, u "(I)I"), (0, .methodref 14 27), (0, .nameAndType 28 29), (0, u "list"), (0, u "(I[I)V"), (0, .methodref 14 31), (0, .nameAndType 32 33), (0, u "listedBits"), (0, u "(I)J"), (0, .methodref 9 35), (0, .nameAndType 36 37), (0, u "expected"), (0, u "(IIIII)J"), (5, u "law"), (0, u "(III)Z")] 2

def k1m0 : Method := { name := "<init>", desc := "()V", sig := { parameters := [], returnType := none }, accessFlags := 1, code := none }
def k1c1 : Code := { maxStack := 3, maxLocals := 4, code := method_2_code, exceptionTable := #[], attributes := #[] }
def k1m1 : Method := { name := "arr", desc := "(I)[I", sig := { parameters := [.int], returnType := some (.array .int) }, accessFlags := 10, code := some k1c1 }
def k1c2 : Code := { maxStack := 2, maxLocals := 5, code := method_3_code, exceptionTable := #[], attributes := #[] }
def k1m2 : Method := { name := "expected", desc := "(IIIII)J", sig := { parameters := [.int, .int, .int, .int, .int], returnType := some .long }, accessFlags := 10, code := some k1c2 }
def k1c3 : Code := { maxStack := 7, maxLocals := 17, code := code, exceptionTable := #[], attributes := #[] }
def k1m3 : Method := { name := "law", desc := "(III)Z", sig := { parameters := [.int, .int, .int], returnType := some .boolean }, accessFlags := 9, code := some k1c3 }
/-- com/example/elect/elect/core/NeighbourTableListedBitsPinLaw -/
def k1 : Class := { plain "com/example/elect/elect/core/NeighbourTableListedBitsPinLaw" (some 0) with
  accessFlags := 49
  interfaces := #[]
  cf := some (fileOf pool1 9 #[] #[{ accessFlags := 1, nameIndex := 5, descriptorIndex := 6, attributes := #[] }, { accessFlags := 10, nameIndex := 12, descriptorIndex := 13, attributes := #[] }, { accessFlags := 10, nameIndex := 36, descriptorIndex := 37, attributes := #[] }, { accessFlags := 9, nameIndex := 43, descriptorIndex := 44, attributes := #[] }] 49 2 #[] #[])
  fields := #[]
  methods := #[k1m0, k1m1, k1m2, k1m3]
  instanceTypes := #[]
  staticTypes := #[]
  resolved := Array.replicate 47 none
  statics := none }

def pool2 : Array CpInfo := pool [(1, .class_ 2), (0, u "com/example/elect/elect/core/IdIndex"), (1, .nameAndType 5 6), (0, u "<init>"), (0, u "()V"), (1, .class_ 10), (1, u "com/example/elect/elect/core/NeighbourTable"), (0, u "(Lcom/example/elect/elect/core/IdIndex;)V"), (0, .methodref 13 4), (0, .class_ 14), (0, u "java/lang/Object"), (0, .class_ 16), (0, u "[I"), (0, .fieldref 8 18), (0, .nameAndType 19 20), (0, u "lists"), (0, u "[[I"), (0, .fieldref 8 22), (0, .nameAndType 23 24), (0, u "listed"), (0, u "[J"), (0, .fieldref 8 26), (0, .nameAndType 27 24), (0, u "listers"), (0, .fieldref 8 29), (0, .nameAndType 30 31), (0, u "numbers"), (0, u "Lcom/example/elect/elect/core/IdIndex;"), (0, .methodref 1 33), (0, .nameAndType 34 35), (0, u "size"), (0, u "()I"), (3, u "(I)I"), (3, .methodref 1 44), (0, .nameAndType 45 39), (0, u "add"), (2, u "NONE"), (0, .methodref 8 33), (0, .methodref 51 52), (0, .class_ 53), (0, .nameAndType 54 55), (0, u "java/lang/Math"), (0, u "max"), (0, u "(II)I"), (10, .methodref 8 67), (0, .nameAndType 68 69), (0, u "hasBits"), (0, u "()Z"), (0, .methodref 71 72), (0, .class_ 73), (0, .nameAndType 74 75), (0, u "java/lang/Long"), (0, u "numberOfTrailingZeros"), (0, u "(J)I"), (2, u "MAX_BITS"), (0, u "I"), (7, u "list"), (0, u "(I[I)V"), (0, u "listedBits"), (0, u "(I)J")] 5

def k2m0 : Method := { name := "<init>", desc := "()V", sig := { parameters := [], returnType := none }, accessFlags := 1, code := none }
def k2c1 : Code := { maxStack := 2, maxLocals := 2, code := prog_44_method_2_code, exceptionTable := #[], attributes := #[] }
def k2m1 : Method := { name := "<init>", desc := "(Lcom/example/elect/elect/core/IdIndex;)V", sig := { parameters := [(.object "com/example/elect/elect/core/IdIndex")], returnType := none }, accessFlags := 0, code := some k2c1 }
def k2c2 : Code := { maxStack := 1, maxLocals := 1, code := prog_44_method_3_code, exceptionTable := #[], attributes := #[] }
def k2m2 : Method := { name := "size", desc := "()I", sig := { parameters := [], returnType := some .int }, accessFlags := 1, code := some k2c2 }
def k2c3 : Code := { maxStack := 2, maxLocals := 2, code := prog_44_method_6_code, exceptionTable := #[], attributes := #[] }
def k2m3 : Method := { name := "add", desc := "(I)I", sig := { parameters := [.int], returnType := some .int }, accessFlags := 1, code := some k2c3 }
def k2c4 : Code := { maxStack := 7, maxLocals := 9, code := prog_44_method_8_code, exceptionTable := #[], attributes := #[] }
def k2m4 : Method := { name := "list", desc := "(I[I)V", sig := { parameters := [.int, (.array .int)], returnType := none }, accessFlags := 1, code := some k2c4 }
def k2c5 : Code := { maxStack := 2, maxLocals := 1, code := prog_44_method_9_code, exceptionTable := #[], attributes := #[] }
def k2m5 : Method := { name := "hasBits", desc := "()Z", sig := { parameters := [], returnType := some .boolean }, accessFlags := 0, code := some k2c5 }
def k2c6 : Code := { maxStack := 2, maxLocals := 2, code := prog_44_method_10_code, exceptionTable := #[], attributes := #[] }
def k2m6 : Method := { name := "listedBits", desc := "(I)J", sig := { parameters := [.int], returnType := some .long }, accessFlags := 0, code := some k2c6 }
/-- com/example/elect/elect/core/NeighbourTable -/
def k2 : Class := { plain "com/example/elect/elect/core/NeighbourTable" (some 0) with
  accessFlags := 49
  interfaces := #[]
  cf := some (fileOf pool2 8 #[] #[{ accessFlags := 1, nameIndex := 5, descriptorIndex := 6, attributes := #[] }, { accessFlags := 0, nameIndex := 5, descriptorIndex := 11, attributes := #[] }, { accessFlags := 1, nameIndex := 34, descriptorIndex := 35, attributes := #[] }, { accessFlags := 1, nameIndex := 45, descriptorIndex := 39, attributes := #[] }, { accessFlags := 1, nameIndex := 87, descriptorIndex := 88, attributes := #[] }, { accessFlags := 0, nameIndex := 68, descriptorIndex := 69, attributes := #[] }, { accessFlags := 0, nameIndex := 89, descriptorIndex := 90, attributes := #[] }] 49 13 #[] #[{ accessFlags := 24, nameIndex := 78, descriptorIndex := 79, attributes := #[] }, { accessFlags := 26, nameIndex := 48, descriptorIndex := 16, attributes := #[] }, { accessFlags := 18, nameIndex := 30, descriptorIndex := 31, attributes := #[] }, { accessFlags := 2, nameIndex := 19, descriptorIndex := 20, attributes := #[] }, { accessFlags := 2, nameIndex := 23, descriptorIndex := 24, attributes := #[] }, { accessFlags := 2, nameIndex := 27, descriptorIndex := 24, attributes := #[] }])
  fields := #[{ name := "MAX_BITS", type := .int, accessFlags := 24, slot := 0, constantValue := 0 }, { name := "NONE", type := (.array .int), accessFlags := 26, slot := 1, constantValue := 0 }, { name := "numbers", type := (.object "com/example/elect/elect/core/IdIndex"), accessFlags := 18, slot := 0, constantValue := 0 }, { name := "lists", type := (.array (.array .int)), accessFlags := 2, slot := 1, constantValue := 0 }, { name := "listed", type := (.array .long), accessFlags := 2, slot := 2, constantValue := 0 }, { name := "listers", type := (.array .long), accessFlags := 2, slot := 3, constantValue := 0 }]
  methods := #[k2m0, k2m1, k2m2, k2m3, k2m4, k2m5, k2m6]
  instanceTypes := #[(.object "com/example/elect/elect/core/IdIndex"), (.array (.array .int)), (.array .long), (.array .long)]
  staticTypes := #[.int, (.array .int)]
  resolved := Array.replicate 96 none
  statics := none }

def pool3 : Array CpInfo := pool [(1, .methodref 2 3), (0, .class_ 4), (0, .nameAndType 5 6), (0, u "java/lang/Object"), (0, u "<init>"), (0, u "()V"), (0, .fieldref 8 9), (0, .class_ 10), (0, .nameAndType 11 12), (0, u "com/example/elect/elect/core/IdIndex"), (0, u "ids"), (0, u "[I"), (0, .fieldref 8 14), (0, .nameAndType 15 12), (0, u "direct"), (0, .fieldref 8 17), (0, .nameAndType 18 12), (0, u "slots"), (0, .fieldref 8 20), (0, .nameAndType 21 22), (0, u "count"), (0, u "I"), (12, u "(I)I"), (0, .methodref 8 37), (0, .nameAndType 38 35), (0, u "find"), (0, .methodref 40 41), (0, .class_ 42), (0, .nameAndType 43 44), (0, u "java/util/Arrays"), (0, u "copyOf"), (0, u "([II)[I"), (0, .methodref 46 47), (0, .class_ 48), (0, .nameAndType 49 50), (0, u "java/lang/Math"), (0, u "max"), (0, u "(II)I"), (0, .methodref 46 52), (0, .nameAndType 53 50), (0, u "min"), (0, .fieldref 8 55), (0, .nameAndType 56 22), (0, u "hashed"), (5, u "DIRECT"), (4, u "size"), (0, u "()I"), (2, u "add")] 17

def k3c0 : Code := { maxStack := 2, maxLocals := 1, code := prog_40_method_1_code, exceptionTable := #[], attributes := #[] }
def k3m0 : Method := { name := "<init>", desc := "()V", sig := { parameters := [], returnType := none }, accessFlags := 0, code := some k3c0 }
def k3c1 : Code := { maxStack := 1, maxLocals := 1, code := prog_40_method_2_code, exceptionTable := #[], attributes := #[] }
def k3m1 : Method := { name := "size", desc := "()I", sig := { parameters := [], returnType := some .int }, accessFlags := 1, code := some k3c1 }
def k3c2 : Code := { maxStack := 3, maxLocals := 4, code := prog_40_method_4_code, exceptionTable := #[], attributes := #[] }
def k3m2 : Method := { name := "find", desc := "(I)I", sig := { parameters := [.int], returnType := some .int }, accessFlags := 1, code := some k3c2 }
def k3c3 : Code := { maxStack := 6, maxLocals := 4, code := prog_40_method_5_code, exceptionTable := #[], attributes := #[] }
def k3m3 : Method := { name := "add", desc := "(I)I", sig := { parameters := [.int], returnType := some .int }, accessFlags := 1, code := some k3c3 }
/-- com/example/elect/elect/core/IdIndex -/
def k3 : Class := { plain "com/example/elect/elect/core/IdIndex" (some 0) with
  accessFlags := 48
  interfaces := #[]
  cf := some (fileOf pool3 8 #[] #[{ accessFlags := 0, nameIndex := 5, descriptorIndex := 6, attributes := #[] }, { accessFlags := 1, nameIndex := 67, descriptorIndex := 68, attributes := #[] }, { accessFlags := 1, nameIndex := 38, descriptorIndex := 35, attributes := #[] }, { accessFlags := 1, nameIndex := 71, descriptorIndex := 35, attributes := #[] }] 48 2 #[] #[{ accessFlags := 26, nameIndex := 62, descriptorIndex := 22, attributes := #[] }, { accessFlags := 2, nameIndex := 11, descriptorIndex := 12, attributes := #[] }, { accessFlags := 2, nameIndex := 21, descriptorIndex := 22, attributes := #[] }, { accessFlags := 2, nameIndex := 15, descriptorIndex := 12, attributes := #[] }, { accessFlags := 2, nameIndex := 18, descriptorIndex := 12, attributes := #[] }, { accessFlags := 2, nameIndex := 56, descriptorIndex := 22, attributes := #[] }])
  fields := #[{ name := "DIRECT", type := .int, accessFlags := 26, slot := 0, constantValue := 0 }, { name := "ids", type := (.array .int), accessFlags := 2, slot := 0, constantValue := 0 }, { name := "count", type := .int, accessFlags := 2, slot := 1, constantValue := 0 }, { name := "direct", type := (.array .int), accessFlags := 2, slot := 2, constantValue := 0 }, { name := "slots", type := (.array .int), accessFlags := 2, slot := 3, constantValue := 0 }, { name := "hashed", type := .int, accessFlags := 2, slot := 4, constantValue := 0 }]
  methods := #[k3m0, k3m1, k3m2, k3m3]
  instanceTypes := #[(.array .int), .int, (.array .int), (.array .int), .int]
  staticTypes := #[.int]
  resolved := Array.replicate 89 none
  statics := none }

def pool4 : Array CpInfo := pool [(1, .class_ 2), (0, u "java/lang/Math"), (1, .class_ 6), (1, u "java/lang/Object"), (0, u "<init>"), (0, u "()V"), (89, .class_ 100), (1, u "java/lang/Math$RandomNumberGeneratorHolder"), (71, u "negativeZeroFloatBits"), (0, u "J"), (2, u "negativeZeroDoubleBits"), (21, u "max"), (2, u "min"), (43, u "$assertionsDisabled"), (0, u "Z"), (88, u "(II)I"), (2, u "twoToTheDoubleScaleDown"), (0, u "D"), (4, u "twoToTheDoubleScaleUp"), (9, u "E"), (3, u "PI"), (2, u "TAU"), (2, u "DEGREES_TO_RADIANS"), (0, u "RADIANS_TO_DEGREES")] 94

def k4m0 : Method := { name := "<init>", desc := "()V", sig := { parameters := [], returnType := none }, accessFlags := 2, code := none }
def k4c1 : Code := { maxStack := 2, maxLocals := 2, code := jdk_29_method_65_code, exceptionTable := #[], attributes := #[] }
def k4m1 : Method := { name := "max", desc := "(II)I", sig := { parameters := [.int, .int], returnType := some .int }, accessFlags := 9, code := some k4c1 }
def k4c2 : Code := { maxStack := 2, maxLocals := 2, code := jdk_29_method_69_code, exceptionTable := #[], attributes := #[] }
def k4m2 : Method := { name := "min", desc := "(II)I", sig := { parameters := [.int, .int], returnType := some .int }, accessFlags := 9, code := some k4c2 }
/-- java/lang/Math -/
def k4 : Class := { plain "java/lang/Math" (some 0) with
  accessFlags := 49
  interfaces := #[]
  cf := some (fileOf pool4 1 #[.nestMembers #[98]] #[{ accessFlags := 2, nameIndex := 7, descriptorIndex := 8, attributes := #[] }, { accessFlags := 9, nameIndex := 198, descriptorIndex := 335, attributes := #[] }, { accessFlags := 9, nameIndex := 201, descriptorIndex := 335, attributes := #[] }] 49 4 #[] #[{ accessFlags := 25, nameIndex := 354, descriptorIndex := 339, attributes := #[] }, { accessFlags := 25, nameIndex := 358, descriptorIndex := 339, attributes := #[] }, { accessFlags := 25, nameIndex := 361, descriptorIndex := 339, attributes := #[] }, { accessFlags := 26, nameIndex := 364, descriptorIndex := 339, attributes := #[] }, { accessFlags := 26, nameIndex := 365, descriptorIndex := 339, attributes := #[] }, { accessFlags := 26, nameIndex := 172, descriptorIndex := 173, attributes := #[] }, { accessFlags := 26, nameIndex := 176, descriptorIndex := 173, attributes := #[] }, { accessFlags := 8, nameIndex := 344, descriptorIndex := 339, attributes := #[] }, { accessFlags := 8, nameIndex := 338, descriptorIndex := 339, attributes := #[] }, { accessFlags := 4120, nameIndex := 245, descriptorIndex := 246, attributes := #[] }])
  fields := #[{ name := "E", type := .double, accessFlags := 25, slot := 0, constantValue := 0 }, { name := "PI", type := .double, accessFlags := 25, slot := 1, constantValue := 0 }, { name := "TAU", type := .double, accessFlags := 25, slot := 2, constantValue := 0 }, { name := "DEGREES_TO_RADIANS", type := .double, accessFlags := 26, slot := 3, constantValue := 0 }, { name := "RADIANS_TO_DEGREES", type := .double, accessFlags := 26, slot := 4, constantValue := 0 }, { name := "negativeZeroFloatBits", type := .long, accessFlags := 26, slot := 5, constantValue := 0 }, { name := "negativeZeroDoubleBits", type := .long, accessFlags := 26, slot := 6, constantValue := 0 }, { name := "twoToTheDoubleScaleUp", type := .double, accessFlags := 8, slot := 7, constantValue := 0 }, { name := "twoToTheDoubleScaleDown", type := .double, accessFlags := 8, slot := 8, constantValue := 0 }, { name := "$assertionsDisabled", type := .boolean, accessFlags := 4120, slot := 9, constantValue := 0 }]
  methods := #[k4m0, k4m1, k4m2]
  instanceTypes := #[]
  staticTypes := #[.double, .double, .double, .double, .double, .long, .long, .double, .double, .boolean]
  resolved := Array.replicate 460 none
  statics := none }

def pool5 : Array CpInfo := pool [(2, .class_ 4), (1, u "java/lang/Object"), (0, u "<init>"), (0, u "()V"), (7, .class_ 16), (1, u "java/util/Arrays"), (57, .class_ 76), (1, u "java/util/Arrays$NaturalOrder"), (36, .class_ 115), (1, u "java/util/Arrays$LegacyMergeSort"), (1, u "Z"), (32, .methodref 151 152), (0, .class_ 153), (0, .nameAndType 154 155), (0, u "java/lang/System"), (0, u "arraycopy"), (0, u "(Ljava/lang/Object;ILjava/lang/Object;II)V"), (146, u "copyOf"), (1, .methodref 305 306), (0, .class_ 307), (0, .nameAndType 308 309), (0, u "java/lang/Math"), (0, u "min"), (0, u "(II)I"), (65, .class_ 376), (0, u "java/util/Arrays$ArrayList"), (68, u "$assertionsDisabled"), (269, u "MIN_ARRAY_SORT_GRAN"), (0, u "I"), (2, u "INSERTIONSORT_THRESHOLD"), (151, u "([II)[I"), (103, .class_ 976), (0, u "java/util/Arrays$ArrayItr")] 52

def k5m0 : Method := { name := "<init>", desc := "()V", sig := { parameters := [], returnType := none }, accessFlags := 2, code := none }
def k5c1 : Code := { maxStack := 6, maxLocals := 3, code := jdk_65_method_123_code, exceptionTable := #[], attributes := #[] }
def k5m1 : Method := { name := "copyOf", desc := "([II)[I", sig := { parameters := [(.array .int), .int], returnType := some (.array .int) }, accessFlags := 9, code := some k5c1 }
/-- java/util/Arrays -/
def k5 : Class := { plain "java/util/Arrays" (some 0) with
  accessFlags := 49
  interfaces := #[]
  cf := some (fileOf pool5 14 #[.nestMembers #[975, 375, 113, 74]] #[{ accessFlags := 2, nameIndex := 5, descriptorIndex := 6, attributes := #[] }, { accessFlags := 9, nameIndex := 302, descriptorIndex := 871, attributes := #[] }] 49 2 #[] #[{ accessFlags := 26, nameIndex := 715, descriptorIndex := 716, attributes := #[] }, { accessFlags := 26, nameIndex := 719, descriptorIndex := 716, attributes := #[] }, { accessFlags := 4120, nameIndex := 445, descriptorIndex := 117, attributes := #[] }])
  fields := #[{ name := "MIN_ARRAY_SORT_GRAN", type := .int, accessFlags := 26, slot := 0, constantValue := 0 }, { name := "INSERTIONSORT_THRESHOLD", type := .int, accessFlags := 26, slot := 1, constantValue := 0 }, { name := "$assertionsDisabled", type := .boolean, accessFlags := 4120, slot := 2, constantValue := 0 }]
  methods := #[k5m0, k5m1]
  instanceTypes := #[]
  staticTypes := #[.int, .int, .boolean]
  resolved := Array.replicate 1029 none
  statics := none }

def pool6 : Array CpInfo := pool [(2, .class_ 4), (1, u "java/lang/Object"), (0, u "<init>"), (0, u "()V"), (1, .class_ 10), (1, u "java/lang/System"), (0, u "allowSecurityManager"), (0, u "I"), (16, u "cons"), (0, u "Ljava/io/Console;"), (77, .class_ 110), (1, u "java/lang/System$CallersHolder"), (43, u "initialErrStream"), (0, u "Ljava/io/PrintStream;"), (19, u "security"), (0, u "Ljava/lang/SecurityManager;"), (31, .class_ 209), (0, u "java/lang/System$1"), (7, u "props"), (0, u "Ljava/util/Properties;"), (2, u "lineSeparator"), (0, u "Ljava/lang/String;"), (96, .class_ 321), (1, u "java/lang/System$LoggerFinder"), (5, .class_ 328), (0, u "java/lang/System$Logger"), (67, u "err"), (2, u "out"), (91, u "notSupportedJnuEncoding"), (15, u "in"), (17, u "initialIn"), (0, u "Ljava/io/InputStream;"), (35, u "bootLayer"), (0, u "Ljava/lang/ModuleLayer;"), (99, .class_ 664), (0, u "java/lang/System$2"), (9, u "NEVER"), (2, u "MAYBE"), (49, u "arraycopy"), (0, u "(Ljava/lang/Object;ILjava/lang/Object;II)V"), (72, .class_ 802), (0, u "java/lang/System$Logger$Level")] 31

def k6m0 : Method := { name := "<init>", desc := "()V", sig := { parameters := [], returnType := none }, accessFlags := 2, code := none }
def k6m1 : Method := { name := "arraycopy", desc := "(Ljava/lang/Object;ILjava/lang/Object;II)V", sig := { parameters := [(.object "java/lang/Object"), .int, (.object "java/lang/Object"), .int, .int], returnType := none }, accessFlags := 265, code := none }
/-- java/lang/System -/
def k6 : Class := { plain "java/lang/System" (some 0) with
  accessFlags := 49
  interfaces := #[]
  cf := some (fileOf pool6 8 #[.nestMembers #[319, 327, 801, 108, 663, 208]] #[{ accessFlags := 2, nameIndex := 5, descriptorIndex := 6, attributes := #[] }, { accessFlags := 265, nameIndex := 727, descriptorIndex := 728, attributes := #[] }] 49 2 #[] #[{ accessFlags := 25, nameIndex := 507, descriptorIndex := 526, attributes := #[] }, { accessFlags := 25, nameIndex := 399, descriptorIndex := 155, attributes := #[] }, { accessFlags := 25, nameIndex := 396, descriptorIndex := 155, attributes := #[] }, { accessFlags := 10, nameIndex := 525, descriptorIndex := 526, attributes := #[] }, { accessFlags := 26, nameIndex := 674, descriptorIndex := 12, attributes := #[] }, { accessFlags := 26, nameIndex := 677, descriptorIndex := 12, attributes := #[] }, { accessFlags := 10, nameIndex := 11, descriptorIndex := 12, attributes := #[] }, { accessFlags := 74, nameIndex := 175, descriptorIndex := 176, attributes := #[] }, { accessFlags := 10, nameIndex := 491, descriptorIndex := 222, attributes := #[] }, { accessFlags := 74, nameIndex := 29, descriptorIndex := 30, attributes := #[] }, { accessFlags := 74, nameIndex := 154, descriptorIndex := 155, attributes := #[] }, { accessFlags := 10, nameIndex := 217, descriptorIndex := 218, attributes := #[] }, { accessFlags := 10, nameIndex := 221, descriptorIndex := 222, attributes := #[] }, { accessFlags := 8, nameIndex := 562, descriptorIndex := 563, attributes := #[] }])
  fields := #[{ name := "in", type := (.object "java/io/InputStream"), accessFlags := 25, slot := 0, constantValue := 0 }, { name := "out", type := (.object "java/io/PrintStream"), accessFlags := 25, slot := 1, constantValue := 0 }, { name := "err", type := (.object "java/io/PrintStream"), accessFlags := 25, slot := 2, constantValue := 0 }, { name := "initialIn", type := (.object "java/io/InputStream"), accessFlags := 10, slot := 3, constantValue := 0 }, { name := "NEVER", type := .int, accessFlags := 26, slot := 4, constantValue := 0 }, { name := "MAYBE", type := .int, accessFlags := 26, slot := 5, constantValue := 0 }, { name := "allowSecurityManager", type := .int, accessFlags := 10, slot := 6, constantValue := 0 }, { name := "security", type := (.object "java/lang/SecurityManager"), accessFlags := 74, slot := 7, constantValue := 0 }, { name := "notSupportedJnuEncoding", type := (.object "java/lang/String"), accessFlags := 10, slot := 8, constantValue := 0 }, { name := "cons", type := (.object "java/io/Console"), accessFlags := 74, slot := 9, constantValue := 0 }, { name := "initialErrStream", type := (.object "java/io/PrintStream"), accessFlags := 74, slot := 10, constantValue := 0 }, { name := "props", type := (.object "java/util/Properties"), accessFlags := 10, slot := 11, constantValue := 0 }, { name := "lineSeparator", type := (.object "java/lang/String"), accessFlags := 10, slot := 12, constantValue := 0 }, { name := "bootLayer", type := (.object "java/lang/ModuleLayer"), accessFlags := 8, slot := 13, constantValue := 0 }]
  methods := #[k6m0, k6m1]
  instanceTypes := #[]
  staticTypes := #[(.object "java/io/InputStream"), (.object "java/io/PrintStream"), (.object "java/io/PrintStream"), (.object "java/io/InputStream"), .int, .int, .int, (.object "java/lang/SecurityManager"), (.object "java/lang/String"), (.object "java/io/Console"), (.object "java/io/PrintStream"), (.object "java/util/Properties"), (.object "java/lang/String"), (.object "java/lang/ModuleLayer")]
  resolved := Array.replicate 834 none
  statics := none }

def pool7 : Array CpInfo := pool [(1, .class_ 2), (0, u "java/io/Serializable"), (0, .class_ 4), (0, u "java/lang/Object")] 2

/-- java/io/Serializable -/
def k7 : Class := { plain "java/io/Serializable" (some 0) with
  accessFlags := 1537
  interfaces := #[]
  cf := some (fileOf pool7 1 #[] #[] 1537 3 #[] #[])
  fields := #[]
  methods := #[]
  instanceTypes := #[]
  staticTypes := #[]
  resolved := Array.replicate 7 none
  statics := none }

def pool8 : Array CpInfo := pool [(2, .class_ 4), (1, u "java/lang/Object"), (0, u "<init>"), (0, u "()V"), (1, .class_ 10), (1, u "java/lang/Number"), (2, .class_ 14), (0, u "java/io/Serializable"), (0, u "serialVersionUID"), (0, u "J")] 20

def k8m0 : Method := { name := "<init>", desc := "()V", sig := { parameters := [], returnType := none }, accessFlags := 1, code := none }
/-- java/lang/Number -/
def k8 : Class := { plain "java/lang/Number" (some 0) with
  accessFlags := 1057
  interfaces := #[7]
  cf := some (fileOf pool8 8 #[] #[{ accessFlags := 1, nameIndex := 5, descriptorIndex := 6, attributes := #[] }] 1057 2 #[13] #[{ accessFlags := 26, nameIndex := 15, descriptorIndex := 16, attributes := #[] }])
  fields := #[{ name := "serialVersionUID", type := .long, accessFlags := 26, slot := 0, constantValue := 0 }]
  methods := #[k8m0]
  instanceTypes := #[]
  staticTypes := #[.long]
  resolved := Array.replicate 37 none
  statics := none }

def pool9 : Array CpInfo := pool [(1, .class_ 2), (0, u "java/lang/Comparable"), (0, .class_ 4), (0, u "java/lang/Object")] 7

/-- java/lang/Comparable -/
def k9 : Class := { plain "java/lang/Comparable" (some 0) with
  accessFlags := 1537
  interfaces := #[]
  cf := some (fileOf pool9 1 #[] #[] 1537 3 #[] #[])
  fields := #[]
  methods := #[]
  instanceTypes := #[]
  staticTypes := #[]
  resolved := Array.replicate 12 none
  statics := none }

def pool10 : Array CpInfo := pool [(1, .class_ 2), (0, u "java/lang/constant/Constable"), (0, .class_ 4), (0, u "java/lang/Object")] 6

/-- java/lang/constant/Constable -/
def k10 : Class := { plain "java/lang/constant/Constable" (some 0) with
  accessFlags := 1537
  interfaces := #[]
  cf := some (fileOf pool10 1 #[] #[] 1537 3 #[] #[])
  fields := #[]
  methods := #[]
  instanceTypes := #[]
  staticTypes := #[]
  resolved := Array.replicate 11 none
  statics := none }

def pool11 : Array CpInfo := pool [(1, .class_ 2), (0, u "java/lang/constant/ConstantDesc"), (0, .class_ 4), (0, u "java/lang/Object")] 32

/-- java/lang/constant/ConstantDesc -/
def k11 : Class := { plain "java/lang/constant/ConstantDesc" (some 0) with
  accessFlags := 1537
  interfaces := #[]
  cf := some (fileOf pool11 1 #[] #[] 1537 3 #[] #[])
  fields := #[]
  methods := #[]
  instanceTypes := #[]
  staticTypes := #[]
  resolved := Array.replicate 37 none
  statics := none }

def pool12 : Array CpInfo := pool [(1, .class_ 2), (0, u "java/lang/Long"), (15, .class_ 20), (1, u "java/lang/Integer"), (80, u "(J)I"), (133, .class_ 237), (1, u "java/lang/Long$LongCache"), (33, .class_ 272), (0, u "java/lang/Number"), (2, u "value"), (0, u "J"), (33, u "(I)I"), (0, .methodref 18 312), (0, .nameAndType 313 310), (0, u "numberOfTrailingZeros"), (47, u "TYPE"), (0, u "Ljava/lang/Class;"), (0, .class_ 364), (0, u "java/lang/Comparable"), (0, .class_ 366), (0, u "java/lang/constant/Constable"), (0, .class_ 368), (0, u "java/lang/constant/ConstantDesc"), (0, u "MIN_VALUE"), (1, u "MAX_VALUE"), (4, u "SIZE"), (0, u "I"), (1, u "BYTES"), (1, u "serialVersionUID")] 142

def k12c0 : Code := { maxStack := 4, maxLocals := 3, code := jdk_35_method_49_code, exceptionTable := #[], attributes := #[] }
def k12m0 : Method := { name := "numberOfTrailingZeros", desc := "(J)I", sig := { parameters := [.long], returnType := some .int }, accessFlags := 9, code := some k12c0 }
/-- java/lang/Long -/
def k12 : Class := { plain "java/lang/Long" (some 8) with
  accessFlags := 49
  interfaces := #[9, 10, 11]
  cf := some (fileOf pool12 1 #[.nestMembers #[235]] #[{ accessFlags := 9, nameIndex := 313, descriptorIndex := 101, attributes := #[] }] 49 271 #[363, 365, 367] #[{ accessFlags := 25, nameIndex := 369, descriptorIndex := 276, attributes := #[] }, { accessFlags := 25, nameIndex := 371, descriptorIndex := 276, attributes := #[] }, { accessFlags := 25, nameIndex := 361, descriptorIndex := 362, attributes := #[] }, { accessFlags := 18, nameIndex := 275, descriptorIndex := 276, attributes := #[] }, { accessFlags := 25, nameIndex := 376, descriptorIndex := 377, attributes := #[] }, { accessFlags := 25, nameIndex := 379, descriptorIndex := 377, attributes := #[] }, { accessFlags := 26, nameIndex := 381, descriptorIndex := 276, attributes := #[] }])
  fields := #[{ name := "MIN_VALUE", type := .long, accessFlags := 25, slot := 0, constantValue := 0 }, { name := "MAX_VALUE", type := .long, accessFlags := 25, slot := 1, constantValue := 0 }, { name := "TYPE", type := (.object "java/lang/Class"), accessFlags := 25, slot := 2, constantValue := 0 }, { name := "value", type := .long, accessFlags := 18, slot := 0, constantValue := 0 }, { name := "SIZE", type := .int, accessFlags := 25, slot := 3, constantValue := 0 }, { name := "BYTES", type := .int, accessFlags := 25, slot := 4, constantValue := 0 }, { name := "serialVersionUID", type := .long, accessFlags := 26, slot := 5, constantValue := 0 }]
  methods := #[k12m0]
  instanceTypes := #[.long]
  staticTypes := #[.long, .long, (.object "java/lang/Class"), .int, .int, .long]
  resolved := Array.replicate 524 none
  statics := none }

def pool13 : Array CpInfo := pool [(1, .class_ 2), (0, u "java/lang/Integer"), (16, u "digits"), (0, u "[C"), (33, u "(I)I"), (30, u "DigitOnes"), (0, u "[B"), (2, u "DigitTens"), (99, .class_ 190), (0, u "java/lang/Integer$IntegerCache"), (3, u "I"), (8, .class_ 204), (0, u "java/lang/Number"), (2, u "value"), (56, .integer 65536), (37, u "TYPE"), (0, u "Ljava/lang/Class;"), (0, .class_ 305), (0, u "java/lang/Comparable"), (0, .class_ 307), (0, u "java/lang/constant/Constable"), (0, .class_ 309), (0, u "java/lang/constant/ConstantDesc"), (0, u "MIN_VALUE"), (1, u "MAX_VALUE"), (3, u "SIZE"), (1, u "BYTES"), (1, u "serialVersionUID"), (0, u "J"), (84, u "numberOfTrailingZeros")] 46

def k13c0 : Code := { maxStack := 3, maxLocals := 2, code := jdk_33_method_48_code, exceptionTable := #[], attributes := #[] }
def k13m0 : Method := { name := "numberOfTrailingZeros", desc := "(I)I", sig := { parameters := [.int], returnType := some .int }, accessFlags := 9, code := some k13c0 }
/-- java/lang/Integer -/
def k13 : Class := { plain "java/lang/Integer" (some 8) with
  accessFlags := 49
  interfaces := #[9, 10, 11]
  cf := some (fileOf pool13 1 #[.nestMembers #[189]] #[{ accessFlags := 9, nameIndex := 406, descriptorIndex := 54, attributes := #[] }] 49 203 #[304, 306, 308] #[{ accessFlags := 25, nameIndex := 310, descriptorIndex := 194, attributes := #[] }, { accessFlags := 25, nameIndex := 312, descriptorIndex := 194, attributes := #[] }, { accessFlags := 25, nameIndex := 302, descriptorIndex := 303, attributes := #[] }, { accessFlags := 24, nameIndex := 19, descriptorIndex := 20, attributes := #[] }, { accessFlags := 24, nameIndex := 89, descriptorIndex := 86, attributes := #[] }, { accessFlags := 24, nameIndex := 85, descriptorIndex := 86, attributes := #[] }, { accessFlags := 18, nameIndex := 207, descriptorIndex := 194, attributes := #[] }, { accessFlags := 25, nameIndex := 316, descriptorIndex := 194, attributes := #[] }, { accessFlags := 25, nameIndex := 318, descriptorIndex := 194, attributes := #[] }, { accessFlags := 26, nameIndex := 320, descriptorIndex := 321, attributes := #[] }])
  fields := #[{ name := "MIN_VALUE", type := .int, accessFlags := 25, slot := 0, constantValue := 0 }, { name := "MAX_VALUE", type := .int, accessFlags := 25, slot := 1, constantValue := 0 }, { name := "TYPE", type := (.object "java/lang/Class"), accessFlags := 25, slot := 2, constantValue := 0 }, { name := "digits", type := (.array .char), accessFlags := 24, slot := 3, constantValue := 0 }, { name := "DigitTens", type := (.array .byte), accessFlags := 24, slot := 4, constantValue := 0 }, { name := "DigitOnes", type := (.array .byte), accessFlags := 24, slot := 5, constantValue := 0 }, { name := "value", type := .int, accessFlags := 18, slot := 0, constantValue := 0 }, { name := "SIZE", type := .int, accessFlags := 25, slot := 6, constantValue := 0 }, { name := "BYTES", type := .int, accessFlags := 25, slot := 7, constantValue := 0 }, { name := "serialVersionUID", type := .long, accessFlags := 26, slot := 8, constantValue := 0 }]
  methods := #[k13m0]
  instanceTypes := #[.int]
  staticTypes := #[.int, .int, (.object "java/lang/Class"), (.array .char), (.array .byte), (.array .byte), .int, .int, .long]
  resolved := Array.replicate 453 none
  statics := none }

def pool14 : Array CpInfo := pool [(1, u "java/lang/Cloneable"), (0, .class_ 1), (0, u "java/lang/Object"), (0, .class_ 3)] 3

/-- java/lang/Cloneable -/
def k14 : Class := { plain "java/lang/Cloneable" (some 0) with
  accessFlags := 1537
  interfaces := #[]
  cf := some (fileOf pool14 2 #[] #[] 1537 4 #[] #[])
  fields := #[]
  methods := #[]
  instanceTypes := #[]
  staticTypes := #[]
  resolved := Array.replicate 8 none
  statics := none }

/-- the primitive byte -/
def k15 : Class := { plain "byte" none with kind := .primitive 'B', accessFlags := 0x411 }
/-- [B -/
def k16 : Class := { plain "[B" (some 0) with kind := .array 15 .byte, interfaces := #[14, 7], accessFlags := 1041 }

/-- the primitive int -/
def k17 : Class := { plain "int" none with kind := .primitive 'I', accessFlags := 0x411 }
/-- [I -/
def k18 : Class := { plain "[I" (some 0) with kind := .array 17 .int, interfaces := #[14, 7], accessFlags := 1041 }

/-- the primitive long -/
def k19 : Class := { plain "long" none with kind := .primitive 'J', accessFlags := 0x411 }
/-- [J -/
def k20 : Class := { plain "[J" (some 0) with kind := .array 19 .long, interfaces := #[14, 7], accessFlags := 1041 }
/-- [[I -/
def k21 : Class := { plain "[[I" (some 0) with kind := .array 18 (.array .int), interfaces := #[14, 7], accessFlags := 1041 }

def heap : Heap := #[]
def classes : Array Class := #[k0, k1, k2, k3, k4, k5, k6, k7, k8, k9, k10, k11, k12, k13, k14, k15, k16, k17, k18, k19, k20, k21]
def interned : List (Array UInt16 × Addr) := []
def slotsUsed : Nat := 0
def theMethod : MethodId := ⟨1, 3⟩
def args0 : Array Value := #[.int 5, .int 6, .int 7]
def aboutOver (below : List Frame) : State where
  vm := { classes := classes, interned := interned.toArray }
  heap := heap
  slotsUsed := slotsUsed
  threads := #[{ frames := .invoking theMethod args0 :: below }]
def below0 : List Frame := [.native { method := ⟨0, 0⟩, args := #[] }]
def about1 : State := aboutOver below0
def p0 : Program := .bare "" "" ""
def e0 : Env := launch0.env 0 0 0
theorem w_frames : about1.frames = Frame.invoking theMethod args0 :: below0 := rfl
set_option maxRecDepth 65536 in
theorem w_args : argsFit about1.vm theMethod args0 = true := by decide +kernel
set_option maxRecDepth 65536 in
theorem w_heap : heapFits about1 = true := by decide +kernel
set_option maxRecDepth 65536 in
theorem w_runnable : about1.curStatus? = some .runnable := by decide +kernel
set_option maxRecDepth 65536 in
theorem w_alone : about1.alone = true := by decide +kernel
set_option maxRecDepth 65536 in
theorem w_named : about1.methodNamed? x = some theMethod := by decide +kernel
set_option maxRecDepth 65536 in
theorem w_hears : about1.hears theMethod below0 = true := by decide +kernel
set_option maxRecDepth 65536 in
theorem w_ripe : about1.ripe theMethod args0 below0 = true := by decide +kernel
theorem w_running : about1.status = .running := rfl
set_option maxRecDepth 65536 in
theorem w_room : about1.hasRoom e0.platform room_1 = true :=
  launch0.hasRoom_least _ room_1 (by decide +kernel) (by decide +kernel) (by decide +kernel) (by decide +kernel) (by decide +kernel) (by decide +kernel)
theorem allAtoms_all (ts : List Jvm.Cond) (a : Array Jvm.Value) (st : Jvm.State) : (allAtoms ts).before a st = ts.all (fun c => c.before a st) := by
  induction ts with
  | nil => rfl
  | cons c t ih =>
    show (Jvm.Cond.and c (allAtoms t)).before a st = _
    rw [Jvm.Cond.before_and, ih, List.all_cons]
def words1 : List Jvm.Cond := Jvm.Cond.code x code maxLocals ret :: tables_1
/-- a 'code' word, met by the world's own term for the bytes: nothing is compared byte by byte -/
theorem code_word {y : MethodName} {bytes : ByteArray} {mx : Nat} {rt : Option FieldType} {a : Array Value} {s : State} {m : MethodId} {meth : Method} {c : Code} (h1 : s.methodNamed? y = some m) (h2 : s.vm.method? m = some meth) (h3 : meth.code = some c) (h4 : c.code = bytes)
    (h5 : (c.maxLocals == mx && c.exceptionTable.isEmpty && decide (c.maxStack ≤ mostOperands) && decide (meth.sig.returnType = rt) && !meth.locks && decide (parseMethodDescriptor y.desc = some meth.sig)) = true) : (Jvm.Cond.code y bytes mx rt).before a s = true := by
  simp only [Bool.and_eq_true, beq_iff_eq, Bool.not_eq_true', decide_eq_true_eq] at h5
  obtain ⟨⟨⟨⟨⟨g1, g2⟩, g3⟩, g4⟩, g5⟩, g6⟩ := h5
  simp [Cond.before, Cond.holds, Cond.value, h1, h2, h3, h4, g1, g2, g3, g4, g5, g6]
def isCode : Jvm.Cond → Bool
  | .code _ _ _ _ => true
  | _ => false
theorem all_split {L : List Jvm.Cond} {P : Jvm.Cond → Bool} (h1 : L.all (fun c => isCode c || P c) = true) (h2 : ∀ c ∈ L.filter isCode, P c = true) : L.all P = true := by
  refine List.all_eq_true.mpr fun c hc => ?_
  have h := List.all_eq_true.mp h1 c hc
  rcases Bool.eq_false_or_eq_true (isCode c) with hi | hi
  · exact h2 c (List.mem_filter.mpr ⟨hc, hi⟩)
  · simpa [hi] using h
set_option maxRecDepth 65536 in
theorem w_c0 : (Jvm.Cond.code x code maxLocals ret).before args0 about1 = true := code_word (m := ⟨1, 3⟩) (meth := k1m3) (c := k1c3) (by decide +kernel) rfl rfl rfl (by decide +kernel)
set_option maxRecDepth 65536 in
theorem w_c1 : (Jvm.Cond.code ({ cls := "com/example/elect/elect/core/NeighbourTableListedBitsPinLaw", name := "arr", desc := "(I)[I" } : Jvm.MethodName) method_2_code (4 : Nat) (Option.some (Jvm.ClassFile.FieldType.array Jvm.ClassFile.FieldType.int))).before args0 about1 = true := code_word (m := ⟨1, 1⟩) (meth := k1m1) (c := k1c1) (by decide +kernel) rfl rfl rfl (by decide +kernel)
set_option maxRecDepth 65536 in
theorem w_c2 : (Jvm.Cond.code ({ cls := "com/example/elect/elect/core/IdIndex", name := "<init>", desc := "()V" } : Jvm.MethodName) prog_40_method_1_code (1 : Nat) (Option.none : Option Jvm.ClassFile.FieldType)).before args0 about1 = true := code_word (m := ⟨3, 0⟩) (meth := k3m0) (c := k3c0) (by decide +kernel) rfl rfl rfl (by decide +kernel)
set_option maxRecDepth 65536 in
theorem w_c3 : (Jvm.Cond.code ({ cls := "java/lang/Object", name := "<init>", desc := "()V" } : Jvm.MethodName) object_method_1_code (1 : Nat) (Option.none : Option Jvm.ClassFile.FieldType)).before args0 about1 = true := code_word (m := ⟨0, 0⟩) (meth := k0m0) (c := k0c0) (by decide +kernel) rfl rfl rfl (by decide +kernel)
set_option maxRecDepth 65536 in
theorem w_c4 : (Jvm.Cond.code ({ cls := "com/example/elect/elect/core/NeighbourTable", name := "<init>", desc := "(Lcom/example/elect/elect/core/IdIndex;)V" } : Jvm.MethodName) prog_44_method_2_code (2 : Nat) (Option.none : Option Jvm.ClassFile.FieldType)).before args0 about1 = true := code_word (m := ⟨2, 1⟩) (meth := k2m1) (c := k2c1) (by decide +kernel) rfl rfl rfl (by decide +kernel)
set_option maxRecDepth 65536 in
theorem w_c5 : (Jvm.Cond.code ({ cls := "com/example/elect/elect/core/NeighbourTable", name := "add", desc := "(I)I" } : Jvm.MethodName) prog_44_method_6_code (2 : Nat) (Option.some Jvm.ClassFile.FieldType.int)).before args0 about1 = true := code_word (m := ⟨2, 3⟩) (meth := k2m3) (c := k2c3) (by decide +kernel) rfl rfl rfl (by decide +kernel)
set_option maxRecDepth 65536 in
theorem w_c6 : (Jvm.Cond.code ({ cls := "com/example/elect/elect/core/IdIndex", name := "add", desc := "(I)I" } : Jvm.MethodName) prog_40_method_5_code (4 : Nat) (Option.some Jvm.ClassFile.FieldType.int)).before args0 about1 = true := code_word (m := ⟨3, 3⟩) (meth := k3m3) (c := k3c3) (by decide +kernel) rfl rfl rfl (by decide +kernel)
set_option maxRecDepth 65536 in
theorem w_c7 : (Jvm.Cond.code ({ cls := "com/example/elect/elect/core/IdIndex", name := "find", desc := "(I)I" } : Jvm.MethodName) prog_40_method_4_code (4 : Nat) (Option.some Jvm.ClassFile.FieldType.int)).before args0 about1 = true := code_word (m := ⟨3, 2⟩) (meth := k3m2) (c := k3c2) (by decide +kernel) rfl rfl rfl (by decide +kernel)
set_option maxRecDepth 65536 in
theorem w_c8 : (Jvm.Cond.code ({ cls := "java/lang/Math", name := "max", desc := "(II)I" } : Jvm.MethodName) jdk_29_method_65_code (2 : Nat) (Option.some Jvm.ClassFile.FieldType.int)).before args0 about1 = true := code_word (m := ⟨4, 1⟩) (meth := k4m1) (c := k4c1) (by decide +kernel) rfl rfl rfl (by decide +kernel)
set_option maxRecDepth 65536 in
theorem w_c9 : (Jvm.Cond.code ({ cls := "java/lang/Math", name := "min", desc := "(II)I" } : Jvm.MethodName) jdk_29_method_69_code (2 : Nat) (Option.some Jvm.ClassFile.FieldType.int)).before args0 about1 = true := code_word (m := ⟨4, 2⟩) (meth := k4m2) (c := k4c2) (by decide +kernel) rfl rfl rfl (by decide +kernel)
set_option maxRecDepth 65536 in
theorem w_c10 : (Jvm.Cond.code ({ cls := "java/util/Arrays", name := "copyOf", desc := "([II)[I" } : Jvm.MethodName) jdk_65_method_123_code (3 : Nat) (Option.some (Jvm.ClassFile.FieldType.array Jvm.ClassFile.FieldType.int))).before args0 about1 = true := code_word (m := ⟨5, 1⟩) (meth := k5m1) (c := k5c1) (by decide +kernel) rfl rfl rfl (by decide +kernel)
set_option maxRecDepth 65536 in
theorem w_c11 : (Jvm.Cond.code ({ cls := "com/example/elect/elect/core/NeighbourTable", name := "list", desc := "(I[I)V" } : Jvm.MethodName) prog_44_method_8_code (9 : Nat) (Option.none : Option Jvm.ClassFile.FieldType)).before args0 about1 = true := code_word (m := ⟨2, 4⟩) (meth := k2m4) (c := k2c4) (by decide +kernel) rfl rfl rfl (by decide +kernel)
set_option maxRecDepth 65536 in
theorem w_c12 : (Jvm.Cond.code ({ cls := "com/example/elect/elect/core/NeighbourTable", name := "size", desc := "()I" } : Jvm.MethodName) prog_44_method_3_code (1 : Nat) (Option.some Jvm.ClassFile.FieldType.int)).before args0 about1 = true := code_word (m := ⟨2, 2⟩) (meth := k2m2) (c := k2c2) (by decide +kernel) rfl rfl rfl (by decide +kernel)
set_option maxRecDepth 65536 in
theorem w_c13 : (Jvm.Cond.code ({ cls := "com/example/elect/elect/core/IdIndex", name := "size", desc := "()I" } : Jvm.MethodName) prog_40_method_2_code (1 : Nat) (Option.some Jvm.ClassFile.FieldType.int)).before args0 about1 = true := code_word (m := ⟨3, 1⟩) (meth := k3m1) (c := k3c1) (by decide +kernel) rfl rfl rfl (by decide +kernel)
set_option maxRecDepth 65536 in
theorem w_c14 : (Jvm.Cond.code ({ cls := "com/example/elect/elect/core/NeighbourTable", name := "hasBits", desc := "()Z" } : Jvm.MethodName) prog_44_method_9_code (1 : Nat) (Option.some Jvm.ClassFile.FieldType.boolean)).before args0 about1 = true := code_word (m := ⟨2, 5⟩) (meth := k2m5) (c := k2c5) (by decide +kernel) rfl rfl rfl (by decide +kernel)
set_option maxRecDepth 65536 in
theorem w_c15 : (Jvm.Cond.code ({ cls := "java/lang/Long", name := "numberOfTrailingZeros", desc := "(J)I" } : Jvm.MethodName) jdk_35_method_49_code (3 : Nat) (Option.some Jvm.ClassFile.FieldType.int)).before args0 about1 = true := code_word (m := ⟨12, 0⟩) (meth := k12m0) (c := k12c0) (by decide +kernel) rfl rfl rfl (by decide +kernel)
set_option maxRecDepth 65536 in
theorem w_c16 : (Jvm.Cond.code ({ cls := "java/lang/Integer", name := "numberOfTrailingZeros", desc := "(I)I" } : Jvm.MethodName) jdk_33_method_48_code (2 : Nat) (Option.some Jvm.ClassFile.FieldType.int)).before args0 about1 = true := code_word (m := ⟨13, 0⟩) (meth := k13m0) (c := k13c0) (by decide +kernel) rfl rfl rfl (by decide +kernel)
set_option maxRecDepth 65536 in
theorem w_c17 : (Jvm.Cond.code ({ cls := "com/example/elect/elect/core/NeighbourTable", name := "listedBits", desc := "(I)J" } : Jvm.MethodName) prog_44_method_10_code (2 : Nat) (Option.some Jvm.ClassFile.FieldType.long)).before args0 about1 = true := code_word (m := ⟨2, 6⟩) (meth := k2m6) (c := k2c6) (by decide +kernel) rfl rfl rfl (by decide +kernel)
set_option maxRecDepth 65536 in
theorem w_c18 : (Jvm.Cond.code ({ cls := "com/example/elect/elect/core/NeighbourTableListedBitsPinLaw", name := "expected", desc := "(IIIII)J" } : Jvm.MethodName) method_3_code (5 : Nat) (Option.some Jvm.ClassFile.FieldType.long)).before args0 about1 = true := code_word (m := ⟨1, 2⟩) (meth := k1m2) (c := k1c2) (by decide +kernel) rfl rfl rfl (by decide +kernel)
def codes1 : List Jvm.Cond := [Jvm.Cond.code x code maxLocals ret, Jvm.Cond.code ({ cls := "com/example/elect/elect/core/NeighbourTableListedBitsPinLaw", name := "arr", desc := "(I)[I" } : Jvm.MethodName) method_2_code (4 : Nat) (Option.some (Jvm.ClassFile.FieldType.array Jvm.ClassFile.FieldType.int)), Jvm.Cond.code ({ cls := "com/example/elect/elect/core/IdIndex", name := "<init>", desc := "()V" } : Jvm.MethodName) prog_40_method_1_code (1 : Nat) (Option.none : Option Jvm.ClassFile.FieldType), Jvm.Cond.code ({ cls := "java/lang/Object", name := "<init>", desc := "()V" } : Jvm.MethodName) object_method_1_code (1 : Nat) (Option.none : Option Jvm.ClassFile.FieldType), Jvm.Cond.code ({ cls := "com/example/elect/elect/core/NeighbourTable", name := "<init>", desc := "(Lcom/example/elect/elect/core/IdIndex;)V" } : Jvm.MethodName) prog_44_method_2_code (2 : Nat) (Option.none : Option Jvm.ClassFile.FieldType), Jvm.Cond.code ({ cls := "com/example/elect/elect/core/NeighbourTable", name := "add", desc := "(I)I" } : Jvm.MethodName) prog_44_method_6_code (2 : Nat) (Option.some Jvm.ClassFile.FieldType.int), Jvm.Cond.code ({ cls := "com/example/elect/elect/core/IdIndex", name := "add", desc := "(I)I" } : Jvm.MethodName) prog_40_method_5_code (4 : Nat) (Option.some Jvm.ClassFile.FieldType.int), Jvm.Cond.code ({ cls := "com/example/elect/elect/core/IdIndex", name := "find", desc := "(I)I" } : Jvm.MethodName) prog_40_method_4_code (4 : Nat) (Option.some Jvm.ClassFile.FieldType.int), Jvm.Cond.code ({ cls := "java/lang/Math", name := "max", desc := "(II)I" } : Jvm.MethodName) jdk_29_method_65_code (2 : Nat) (Option.some Jvm.ClassFile.FieldType.int), Jvm.Cond.code ({ cls := "java/lang/Math", name := "min", desc := "(II)I" } : Jvm.MethodName) jdk_29_method_69_code (2 : Nat) (Option.some Jvm.ClassFile.FieldType.int), Jvm.Cond.code ({ cls := "java/util/Arrays", name := "copyOf", desc := "([II)[I" } : Jvm.MethodName) jdk_65_method_123_code (3 : Nat) (Option.some (Jvm.ClassFile.FieldType.array Jvm.ClassFile.FieldType.int)), Jvm.Cond.code ({ cls := "com/example/elect/elect/core/NeighbourTable", name := "list", desc := "(I[I)V" } : Jvm.MethodName) prog_44_method_8_code (9 : Nat) (Option.none : Option Jvm.ClassFile.FieldType), Jvm.Cond.code ({ cls := "com/example/elect/elect/core/NeighbourTable", name := "size", desc := "()I" } : Jvm.MethodName) prog_44_method_3_code (1 : Nat) (Option.some Jvm.ClassFile.FieldType.int), Jvm.Cond.code ({ cls := "com/example/elect/elect/core/IdIndex", name := "size", desc := "()I" } : Jvm.MethodName) prog_40_method_2_code (1 : Nat) (Option.some Jvm.ClassFile.FieldType.int), Jvm.Cond.code ({ cls := "com/example/elect/elect/core/NeighbourTable", name := "hasBits", desc := "()Z" } : Jvm.MethodName) prog_44_method_9_code (1 : Nat) (Option.some Jvm.ClassFile.FieldType.boolean), Jvm.Cond.code ({ cls := "java/lang/Long", name := "numberOfTrailingZeros", desc := "(J)I" } : Jvm.MethodName) jdk_35_method_49_code (3 : Nat) (Option.some Jvm.ClassFile.FieldType.int), Jvm.Cond.code ({ cls := "java/lang/Integer", name := "numberOfTrailingZeros", desc := "(I)I" } : Jvm.MethodName) jdk_33_method_48_code (2 : Nat) (Option.some Jvm.ClassFile.FieldType.int), Jvm.Cond.code ({ cls := "com/example/elect/elect/core/NeighbourTable", name := "listedBits", desc := "(I)J" } : Jvm.MethodName) prog_44_method_10_code (2 : Nat) (Option.some Jvm.ClassFile.FieldType.long), Jvm.Cond.code ({ cls := "com/example/elect/elect/core/NeighbourTableListedBitsPinLaw", name := "expected", desc := "(IIIII)J" } : Jvm.MethodName) method_3_code (5 : Nat) (Option.some Jvm.ClassFile.FieldType.long)]
set_option maxRecDepth 65536 in
theorem codes_eq : words1.filter isCode = codes1 := rfl
theorem w_codes : ∀ c ∈ words1.filter isCode, c.before args0 about1 = true := by
  rw [codes_eq]
  intro c hc
  simp only [codes1, List.mem_cons, List.not_mem_nil, or_false] at hc
  rcases hc with rfl | rfl | rfl | rfl | rfl | rfl | rfl | rfl | rfl | rfl | rfl | rfl | rfl | rfl | rfl | rfl | rfl | rfl | rfl
  · exact w_c0
  · exact w_c1
  · exact w_c2
  · exact w_c3
  · exact w_c4
  · exact w_c5
  · exact w_c6
  · exact w_c7
  · exact w_c8
  · exact w_c9
  · exact w_c10
  · exact w_c11
  · exact w_c12
  · exact w_c13
  · exact w_c14
  · exact w_c15
  · exact w_c16
  · exact w_c17
  · exact w_c18
set_option maxRecDepth 65536 in
theorem w_t1 : (words1.take 24).all (fun c => isCode c || c.before args0 about1) = true := by decide +kernel
set_option maxRecDepth 65536 in
theorem w_t2 : ((words1.drop 24).take 24).all (fun c => isCode c || c.before args0 about1) = true := by decide +kernel
set_option maxRecDepth 65536 in
theorem w_t3 : (((words1.drop 24).drop 24).take 24).all (fun c => isCode c || c.before args0 about1) = true := by decide +kernel
set_option maxRecDepth 65536 in
theorem w_t4 : ((((words1.drop 24).drop 24).drop 24).take 24).all (fun c => isCode c || c.before args0 about1) = true := by decide +kernel
set_option maxRecDepth 65536 in
theorem w_t5 : ((((words1.drop 24).drop 24).drop 24).drop 24).all (fun c => isCode c || c.before args0 about1) = true := by decide +kernel
theorem w_tables : (allAtoms (Jvm.Cond.code x code maxLocals ret :: tables_1)).before args0 about1 = true := by
  rw [allAtoms_all]
  show words1.all (fun c => c.before args0 about1) = true
  refine all_split ?_ w_codes
  rw [← List.take_append_drop 24 words1, List.all_append, w_t1, ← List.take_append_drop 24 (words1.drop 24), List.all_append, w_t2, ← List.take_append_drop 24 ((words1.drop 24).drop 24), List.all_append, w_t3, ← List.take_append_drop 24 (((words1.drop 24).drop 24).drop 24), List.all_append, w_t4, w_t5]
  rfl
set_option maxRecDepth 65536 in
theorem w_case : (Jvm.Cond.and given_1 narrow_1).before args0 about1 = true := by decide +kernel
theorem w_applies : (headSpec (Jvm.Cond.code x code maxLocals ret :: tables_1) room_1).applies x e0.platform about1 = true :=
  (Spec.applies_iff w_frames).mpr ⟨w_running, w_runnable, w_alone, w_named, w_hears, w_ripe, w_room, w_tables⟩
theorem atStart : AtStart classFile x code maxLocals ret World_1 tables_1 room_1 Calls_1 rest_1 Pre_1 launch0 p0 e0 about1 theMethod args0 below0 :=
  ⟨lists_1, trivial, launch0.admits_env _ _ _, launch0.least_env, fairChoices_fair.cas, fairChoices_fair.clock, w_frames, w_args, w_heap, w_applies, trivial, trivial, w_case⟩
end start1
theorem witness_1 : WitnessClaimed_1 := ⟨start1.p0, start1.e0, start1.about1, start1.theMethod, start1.args0, start1.below0, start1.atStart⟩
end Jvm.Pilot.@@N@@
