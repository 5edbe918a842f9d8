import JvmDerived
import JvmDerived.Pilot.@@N@@Statement
import JvmDerived.Pilot.@@N@@Code
set_option linter.unusedVariables false
set_option linter.unusedSimpArgs false
namespace Jvm.RoadKit
open Sem ClassFile Op Lib Jvm.Stand Jvm.Free Jvm.LawKit
section New
variable {p : Program} {l : Launch} {e : Env} {R : Room} {s : State} {m : MethodId} {args : Array Value} {below : List Frame} {meth : Method} {c : Code} {T : State} {locs : List Loc} {cells slots : Nat}
theorem retI (X : Stand p l e R s m args below meth c T locs cells slots) (hx : p.tables.exec = Jvm.exec) {pc : Nat} {Ls : Array Slot} {z : Int32} {rest : List Value} (hret : meth.sig.returnType = some .int) (hd : decode c.code pc = .ok (.ireturn, 1)) {fs : List Frame}
    (hl : ∀ (f : JFrame) (acts : List Action), f.method = m → f.locked = none → f.entered = [] → (doReturn e (T.setTop f) acts (some (.int z))).1 = T.setFrames fs) : Steps p.tables e below (T.setTop (mkF m pc Ls (.int z :: rest))) (T.setFrames fs) := by
  have hm' : T.vm.method? m = some meth := X.method'
  have hn : narrow .int (.int z) = .int z := rfl
  show Steps p.tables e below (T.setTop { method := m, pc := pc, locals := Ls, stack := _ :: rest, locked := none }) _
  jvm_step X.here [X.here.top, hx, hd, hm', hret, hn]
  first | (intro acts; rw [hl _ acts rfl rfl rfl]) | rw [hl _ _ rfl rfl rfl]
  exact Steps.refl _
end New
end Jvm.RoadKit
namespace Jvm.Pilot.@@N@@
open Jvm Jvm.ClassFile Sem Op Lib Jvm.Free Jvm.Stand Jvm.LawKit Jvm.RoadKit Bundle Jvm.Pilot.@@N@@.Jvm.D
/-! own_..: a walk as a goal: from here some run ends as the contract says; steps are taken off its front -/
section Own
variable {p : Program} {l : Launch} {e : Env} {R : Room} {s : State} {m : MethodId} {args : Array Value} {below : List Frame} {meth : Method} {c : Code} {T : State} {locs : List Loc} {cells slots : Nat} {Z : State} {a0 : Array Value} {h : Heap}
def Run (tb : Tables) (e : Env) (below : List Frame) (A : State) (G : State → Outcome → Prop) : Prop := ∃ t o, Steps tb e below A t ∧ G t o
theorem own_go {tb : Tables} {A B : State} {G : State → Outcome → Prop} (st : ∀ t, Steps tb e below B t → Steps tb e below A t) (k : Run tb e below B G) : Run tb e below A G := by
  obtain ⟨t, o, h1, h2⟩ := k
  exact ⟨t, o, st t h1, h2⟩
def OwnFin (s : State) (below : List Frame) (Q : Option Value → Heap → List Loc → Prop) (ck sk : Nat) : State → Outcome → Prop :=
  fun t o => t.status = .running ∧ Ended t below o ∧ ∃ v L, o = .returned v ∧ Q v t.heap L ∧ FrameEnd s o t L ck sk
def OwnCtr (l : Launch) (y : MethodName) (bytes : ByteArray) (maxL : Nat) (ret : Option FieldType) (ws : List Jvm.Cond) (rm : Room) (Z : State) (as' : Array Value) (h : Heap) (Q : Option Value → Heap → List Loc → Prop) : Prop :=
  MetFree l y (head1 (Jvm.Cond.code y bytes maxL ret :: ws) rm) (fun a U => a = as' ∧ Z.Warmed39 U.vm ∧ U.heap = h) (fun _ _ _ _ _ => True) (fun _ U o U' => ∃ v L, o = .returned v ∧ Q v U'.heap L ∧ FrameEnd U o U' L rm.cells rm.slots)
theorem own_body {y : MethodName} {bytes : ByteArray} {maxL : Nat} {ret : Option FieldType} {ws : List Jvm.Cond} {rm : Room} {as' : Array Value} {Q : Option Value → Heap → List Loc → Prop} (pn : plainName y.cls = true)
    (H : ∀ (p : Program) (e : Env) (s : State) (m : MethodId) (below : List Frame) (meth : Method) (c : Code) (s₁ : State), Stand p l e rm s m as' below meth c s₁ [] 0 0 → p.tables.exec = Jvm.exec → c.code = bytes → c.maxLocals = maxL →
      s.vm.findClass y.cls = some m.cls → meth.name = y.name → meth.sig.returnType = ret → meth.locks = false → Z.Warmed39 s.vm → s₁.heap = h → Run p.tables e below (s₁.setTop (entryFrame m as' maxL)) (OwnFin s below Q rm.cells rm.slots)) :
    OwnCtr l y bytes maxL ret ws rm Z as' h Q := by
  refine MetFree.of_bodySF (plainFor_of_name pn) hisR ?_
  intro p e s m args below meth c s₁ Bd hml0 hP hK
  obtain ⟨rfl, hZ, hh⟩ := hP
  exact H p e s m below meth c s₁ (Stand.of_body Bd) Bd.exec Bd.bytes hml0 (findClass_of_methodNamed Bd.named) (name_of_methodNamed Bd.named Bd.method).1 Bd.returns (BodyLoose.notSynchronized Bd) hZ (by rw [← hh, Bd.state]; rfl)
theorem own_out (X : Stand p l e R s m args below meth c T locs cells slots) {v : Option Value} (hv : meth.sig.returnType = none → v = none) (hlk : meth.locks = false) {g : JFrame} {Q : Option Value → Heap → List Loc → Prop} {ck sk : Nat}
    (hst : ∀ fs, (∀ (f : JFrame) (acts : List Action), f.method = m → f.locked = none → f.entered = [] → (doReturn e (T.setTop f) acts v).1 = T.setFrames fs) → Steps p.tables e below (T.setTop g) (T.setFrames fs))
    (hQ : Q v T.heap locs) (hc : cells ≤ ck) (hs : slots ≤ sk) : Run p.tables e below (T.setTop g) (OwnFin s below Q ck sk) := by
  obtain ⟨fs, hr, hrun, hended, hW, hsame⟩ := X.leave (v := v) hv hlk
  exact ⟨_, _, hst fs hr, hrun, hended, v, locs, rfl, hQ, ⟨_, rfl⟩, hW, hsame.mono hc hs⟩
theorem own_callV (X : Stand p l e R s m args below meth c T locs cells slots) (hx : p.tables.exec = Jvm.exec) (hZ : Z.Warmed39 s.vm) {own C : String} {index : Nat} {y : MethodName} {bytes : ByteArray} {maxL : Nat} {ret : Option FieldType}
    (hown : s.vm.findClass own = some m.cls) (w1 : (Jvm.Cond.methodLink own index y).before a0 Z = true) (w2 : (Jvm.Cond.instanceMethod y).before a0 Z = true) (w3 : (Jvm.Cond.selects C y y).before a0 Z = true)
    (w4 : (Jvm.Cond.code y bytes maxL ret).before a0 Z = true) (w5 : (Jvm.Cond.initialized y.cls).before a0 Z = true) (hy : y.cls ≠ "java/lang/invoke/MethodHandle" ∧ y.cls ≠ "java/lang/invoke/VarHandle")
    (eT : T.heap = h) {rm : Room} {as' : Array Value} {Q : Option Value → Heap → List Loc → Prop} (hM : OwnCtr l y bytes maxL ret [] rm Z as' h Q)
    {b : Addr} (E : Exa Z h b C) {g : JFrame} (hg : g.method = m) (hsize : g.locals.size = c.maxLocals) {argsL rest : List Value} {ps : List FieldType} {rt : Option FieldType} (hpd : parseMethodDescriptor y.desc = some ⟨ps, rt⟩) (hlen : argsL.length = ps.length)
    (hs : g.stack = argsL.reverse ++ .ref b :: rest) (has : as' = (Value.ref b :: argsL).toArray) {W : Nat} (hW : 2 * g.monitorRoom + (rest.map fun v => v.category).sum ≤ W) (hd : decode c.code g.pc = .ok (.invokevirtual index, 3))
    (hf : rm.frames + 1 ≤ R.frames) (hl : W + (maxL + 11) + rm.locals ≤ R.locals) (hc : cells + rm.cells ≤ R.cells) (hsl : slots + rm.slots ≤ R.slots) :
    ∃ (v : Option Value) (T' : State) (L : List Loc), Stand p l e R s m args below meth c T' (locs ++ L) (cells + rm.cells) (slots + rm.slots) ∧ Q v T'.heap L ∧
      ∀ target, Steps p.tables e below (T'.setTop { g with pc := g.pc + 3, stack := v.toList ++ rest }) target → Steps p.tables e below (T.setTop g) target := by
  obtain ⟨cell, k, h1, h2, h3, h4, -⟩ := E
  obtain ⟨v, vm₁, ⟨T', L', k', n'⟩, -, X', ⟨L, hQ, l1, l2, l3⟩, st⟩ := Jvm.LawKit.callV X hx hown (mvT hZ w1) (mvT hZ w2) (mvT hZ w3) (mvT hZ w4) hy (backOf (W := W) hM hZ w4 w5 hf hl) (b := b) (cellB := cell) (by rw [eT]; exact h1) h4 (by rw [hZ.alike.findClass]; exact h2) hg hsize (lenOf hpd hlen) hs hW hd (fun _ _ => ⟨has.symm, eT, hc, hsl⟩)
  dsimp only [Pt.U, Pt.locs, Pt.cells, Pt.slots] at X' l1 l2 l3 st hQ
  subst l1 l2 l3
  exact ⟨v, T', L, X', hQ, st⟩
theorem own_callVU (X : Stand p l e R s m args below meth c T locs cells slots) (hx : p.tables.exec = Jvm.exec) (hZ : Z.Warmed39 s.vm) {own C owner : String} {index : Nat} {x y : MethodName} {bytes : ByteArray} {maxL : Nat} {ret : Option FieldType}
    (hown : s.vm.findClass own = some m.cls) (w1 : (Jvm.Cond.methodLink own index x).before a0 Z = true) (w1' : (Jvm.Cond.sameMethod x.cls owner x.name x.desc).before a0 Z = true) (w1'' : (Jvm.Cond.declares ⟨owner, x.name, x.desc⟩).before a0 Z = true) (w2 : (Jvm.Cond.instanceMethod y).before a0 Z = true) (w3 : (Jvm.Cond.selects C x y).before a0 Z = true)
    (w4 : (Jvm.Cond.code y bytes maxL ret).before a0 Z = true) (w5 : (Jvm.Cond.initialized y.cls).before a0 Z = true) (hy : owner ≠ "java/lang/invoke/MethodHandle" ∧ owner ≠ "java/lang/invoke/VarHandle")
    (eT : T.heap = h) {rm : Room} {as' : Array Value} {Q : Option Value → Heap → List Loc → Prop} (hM : OwnCtr l y bytes maxL ret [] rm Z as' h Q)
    {b : Addr} (E : Exa Z h b C) {g : JFrame} (hg : g.method = m) (hsize : g.locals.size = c.maxLocals) {argsL rest : List Value} {ps : List FieldType} {rt : Option FieldType} (hpd : parseMethodDescriptor x.desc = some ⟨ps, rt⟩) (hlen : argsL.length = ps.length)
    (hs : g.stack = argsL.reverse ++ .ref b :: rest) (has : as' = (Value.ref b :: argsL).toArray) {W : Nat} (hW : 2 * g.monitorRoom + (rest.map fun v => v.category).sum ≤ W) (hd : decode c.code g.pc = .ok (.invokevirtual index, 3))
    (hf : rm.frames + 1 ≤ R.frames) (hl : W + (maxL + 11) + rm.locals ≤ R.locals) (hc : cells + rm.cells ≤ R.cells) (hsl : slots + rm.slots ≤ R.slots) :
    ∃ (v : Option Value) (T' : State) (L : List Loc), Stand p l e R s m args below meth c T' (locs ++ L) (cells + rm.cells) (slots + rm.slots) ∧ Q v T'.heap L ∧
      ∀ target, Steps p.tables e below (T'.setTop { g with pc := g.pc + 3, stack := v.toList ++ rest }) target → Steps p.tables e below (T.setTop g) target := by
  obtain ⟨cB, kB, q1, q2, q3⟩ := isOf hZ eT E
  obtain ⟨v, vm₁, ⟨T', L', k', n'⟩, -, X', ⟨L, hQ, l1, l2, l3⟩, st⟩ := X.virtualBackUp hx hown (mvT hZ w1) (mvT hZ w1') (mvT hZ w1'') hy (mvT hZ w3) (mvT hZ w2) (backOf (W := W) hM hZ w4 w5 hf hl) q1 q3 hg hsize (Steps.refl _) (lenOf hpd hlen) hs hW hd (fun _ _ => ⟨has.symm, eT, hc, hsl⟩)
  dsimp only [Pt.U, Pt.locs, Pt.cells, Pt.slots] at X' l1 l2 l3 st hQ
  subst l1 l2 l3
  exact ⟨v, T', L, X', hQ, fun _ k => st.trans k⟩
theorem own_callS (X : Stand p l e R s m args below meth c T locs cells slots) (hx : p.tables.exec = Jvm.exec) (hZ : Z.Warmed39 s.vm) {own : String} {index : Nat} {y : MethodName} {bytes : ByteArray} {maxL : Nat} {ret : Option FieldType}
    (hown : s.vm.findClass own = some m.cls) (w1 : (Jvm.Cond.methodLink own index y).before a0 Z = true) (w2 : (Jvm.Cond.static y).before a0 Z = true)
    (w4 : (Jvm.Cond.code y bytes maxL ret).before a0 Z = true) (w5 : (Jvm.Cond.initialized y.cls).before a0 Z = true) (hy : y.cls ≠ "java/lang/invoke/MethodHandle" ∧ y.cls ≠ "java/lang/invoke/VarHandle")
    (eT : T.heap = h) {rm : Room} {as' : Array Value} {Q : Option Value → Heap → List Loc → Prop} (hM : OwnCtr l y bytes maxL ret [] rm Z as' h Q)
    {g : JFrame} (hg : g.method = m) (hsize : g.locals.size = c.maxLocals) {argsL rest : List Value} {ps : List FieldType} {rt : Option FieldType} (hpd : parseMethodDescriptor y.desc = some ⟨ps, rt⟩) (hlen : argsL.length = ps.length)
    (hs : g.stack = argsL.reverse ++ rest) (has : as' = argsL.toArray) {W : Nat} (hW : 2 * g.monitorRoom + (rest.map fun v => v.category).sum ≤ W) (hd : decode c.code g.pc = .ok (.invokestatic index, 3))
    (hf : rm.frames + 1 ≤ R.frames) (hl : W + (maxL + 11) + rm.locals ≤ R.locals) (hc : cells + rm.cells ≤ R.cells) (hsl : slots + rm.slots ≤ R.slots) :
    ∃ (v : Option Value) (T' : State) (L : List Loc), Stand p l e R s m args below meth c T' (locs ++ L) (cells + rm.cells) (slots + rm.slots) ∧ Q v T'.heap L ∧
      ∀ target, Steps p.tables e below (T'.setTop { g with pc := g.pc + 3, stack := v.toList ++ rest }) target → Steps p.tables e below (T.setTop g) target := by
  obtain ⟨v, vm₁, ⟨T', L', k', n'⟩, -, X', ⟨L, hQ, l1, l2, l3⟩, st⟩ := Jvm.LawKit.callS X hx hown (mvT hZ w1) (mvT hZ w2) (mvT hZ w5) (mvT hZ w4) hy (backOf (W := W) hM hZ w4 w5 hf hl) hg hsize (lenOf hpd hlen) hs hW hd (fun _ _ => ⟨has.symm, eT, hc, hsl⟩)
  dsimp only [Pt.U, Pt.locs, Pt.cells, Pt.slots] at X' l1 l2 l3 st hQ
  subst l1 l2 l3
  exact ⟨v, T', L, X', hQ, st⟩
theorem own_callI (X : Stand p l e R s m args below meth c T locs cells slots) (hx : p.tables.exec = Jvm.exec) (hZ : Z.Warmed39 s.vm) {own : String} {index : Nat} {y : MethodName} {bytes : ByteArray} {maxL : Nat}
    (hown : s.vm.findClass own = some m.cls) (hy1 : y.name = "<init>") (w1 : (Jvm.Cond.methodLink own index y).before a0 Z = true) (w2 : (Jvm.Cond.instanceMethod y).before a0 Z = true)
    (w4 : (Jvm.Cond.code y bytes maxL none).before a0 Z = true) (w5 : (Jvm.Cond.initialized y.cls).before a0 Z = true) (hy : y.cls ≠ "java/lang/invoke/MethodHandle" ∧ y.cls ≠ "java/lang/invoke/VarHandle")
    (eT : T.heap = h) {rm : Room} {as' : Array Value} {Q : Option Value → Heap → List Loc → Prop} (hM : OwnCtr l y bytes maxL none [] rm Z as' h Q)
    {b : Addr} {g : JFrame} (hg : g.method = m) (hsize : g.locals.size = c.maxLocals) {argsL rest : List Value} {ps : List FieldType} {rt : Option FieldType} (hpd : parseMethodDescriptor y.desc = some ⟨ps, rt⟩) (hlen : argsL.length = ps.length)
    (hs : g.stack = argsL.reverse ++ .ref b :: rest) (has : as' = (Value.ref b :: argsL).toArray) {W : Nat} (hW : 2 * g.monitorRoom + (rest.map fun v => v.category).sum ≤ W) (hd : decode c.code g.pc = .ok (.invokespecial index, 3))
    (hf : rm.frames + 1 ≤ R.frames) (hl : W + (maxL + 11) + rm.locals ≤ R.locals) (hc : cells + rm.cells ≤ R.cells) (hsl : slots + rm.slots ≤ R.slots) :
    ∃ (v : Option Value) (T' : State) (L : List Loc), Stand p l e R s m args below meth c T' (locs ++ L) (cells + rm.cells) (slots + rm.slots) ∧ Q v T'.heap L ∧
      ∀ target, Steps p.tables e below (T'.setTop { g with pc := g.pc + 3, stack := v.toList ++ rest }) target → Steps p.tables e below (T.setTop g) target := by
  obtain ⟨v, vm₁, ⟨T', L', k', n'⟩, -, X', ⟨L, hQ, l1, l2, l3⟩, st⟩ := Jvm.LawKit.callI X hx hown hy1 (mvT hZ w1) (mvT hZ w2) (mvT hZ w4) hy (backOf (W := W) hM hZ w4 w5 hf hl) hg hsize (a := b) (lenOf hpd hlen) hs hW hd (fun _ _ => ⟨has.symm, eT, hc, hsl⟩)
  dsimp only [Pt.U, Pt.locs, Pt.cells, Pt.slots] at X' l1 l2 l3 st hQ
  subst l1 l2 l3
  exact ⟨v, T', L, X', hQ, st⟩
theorem own_fld {t : Term} {u : Addr} {C n d : String} {k : Int32} (ev : t.eval args s none [] s = some (.ref u)) (w : (Jvm.Cond.eq (.field t C n d) (.int k)).value args s none s [] = some true) : Fld s s.heap u C n d (.int k) :=
  Fld.start (by rw [← fld_at (args := args) (first := s) (o := none) (idx := []) ev]; exact Cond.eq_int (beq_iff_eq.mpr w) (Term.int_eval k))
theorem own_rne {a b : Addr} (q : a ≠ b) : ¬ Value.ref a = .ref b := fun w => q (Value.ref.inj w)
end Own
section Own2
variable {p : Program} {l : Launch} {e : Env} {R : Room} {s : State} {m : MethodId} {args : Array Value} {below : List Frame} {meth : Method} {c : Code} {T : State} {locs : List Loc} {cells slots : Nat} {Z : State} {a0 : Array Value} {h : Heap}
theorem own_extwr {h0 h h' : Heap} {a : Addr} {sl : Nat} {v : Value} (E : Ext h0 h) (W : Wr h h' a sl v) (q : h0.size ≤ a) : Ext h0 h' := by
  refine ⟨by rw [W.size]; exact E.1, fun b c hb => ?_⟩
  have hlt : b < h0.size := (Array.getElem?_eq_some_iff.mp hb).1
  obtain ⟨c', e1, -, -, -, e5, -⟩ := wr_at W (E.2 _ _ hb)
  rw [e1, e5 (Nat.ne_of_lt (Nat.lt_of_lt_of_le hlt q))]
theorem own_exttr {h0 h h' : Heap} (E : Ext h0 h) (E' : Ext h h') : Ext h0 h' := ⟨Nat.le_trans E.1 E'.1, fun a c q => E'.2 _ _ (E.2 _ _ q)⟩
theorem own_extrf (h : Heap) : Ext h h := ⟨Nat.le_refl _, fun _ _ q => q⟩
theorem own_stR (X : Stand p l e R s m args below meth c T locs cells slots) (hx : p.tables.exec = Jvm.exec) (hZ : Z.Warmed39 s.vm) (eT : T.heap = h) {a : Addr} {k : ClassId} {ty : FieldType} {z : Int32} {vs : List Value} (V : Arv Z h a k ty z vs .null) (hty : ty.isReference = true)
    {j : Int32} (hj : ¬ j < 0 ∧ j < z) (i : Nat) (hi : j.toNatClampNeg = i) (hl : i < vs.length) {C : String} {y : Addr} (O : Ovr Z k C) (I : Exa Z h y C) (hv : fits ty (.ref y) = true) {h0 : Heap} (E : Ext h0 h) (ge : h0.size ≤ a) {n0 : Nat} (N : Fr n0 locs) (ge0 : n0 ≤ a)
    {g : JFrame} (hg : g.method = m) {rest : List Value} (hs : g.stack = .ref y :: .int j :: .ref a :: rest) (hd : decode c.code g.pc = .ok (.aastore, 1)) :
    ∃ (T' : State) (h' : Heap) (L : List Loc), Stand p l e R s m args below meth c T' L cells slots ∧ T'.heap = h' ∧ Ext h0 h' ∧ Arv Z h' a k ty z (vs.set i (.ref y)) .null ∧ Fr n0 L ∧
      ∀ target, Steps p.tables e below (T'.setTop { g with pc := g.pc + 1, stack := rest }) target → Steps p.tables e below (T.setTop g) target := by
  obtain ⟨cl, A, q1, S, q3, H, G⟩ := V
  obtain ⟨T', h', X', e', W, st⟩ := stR X hx hZ eT A (inb_of S hj) hty (Sto.ofV A q1 O (Ins.self I)) hg hs hd
  exact ⟨T', h', _, X', e', own_extwr E W ge, Arv.set A q1 S q3 H G hv W i hi hl, Fr.snoc X' N ge0, st⟩
theorem own_aaload (X : Stand p l e R s m args below meth c T locs cells slots) (hx : p.tables.exec = Jvm.exec) (hZ : Z.Warmed39 s.vm) (eT : T.heap = h) {a : Addr} {k : ClassId} {ty : FieldType} {z : Int32} {vs : List Value} {dv : Value} (V : Arv Z h a k ty z vs dv) (hty : ty.isReference = true)
    {j : Int32} (hj : ¬ j < 0 ∧ j < z) {v : Value} (u : vs.getD j.toNatClampNeg dv = v)
    {g : JFrame} (hg : g.method = m) {rest : List Value} (hs : g.stack = .int j :: .ref a :: rest) (hd : decode c.code g.pc = .ok (.aaload, 1)) :
    ∀ target, Steps p.tables e below (T.setTop { g with pc := g.pc + 1, stack := v :: rest }) target → Steps p.tables e below (T.setTop g) target := by
  obtain ⟨cl, A, q1, S, q3, H, G⟩ := V
  exact X.aaload hx (j := j) (v := v) (by rw [eT]; exact A.1) (State.isArrayOf_alike hZ.alike A.2.1) hty A.2.2 (inb_of S hj) (Has.at H (inb_of S hj) u) hg hs hd
theorem own_alen (X : Stand p l e R s m args below meth c T locs cells slots) (hx : p.tables.exec = Jvm.exec) (hZ : Z.Warmed39 s.vm) (eT : T.heap = h) {a : Addr} {k : ClassId} {ty : FieldType} {z : Int32} {vs : List Value} {dv : Value} (V : Arv Z h a k ty z vs dv)
    {g : JFrame} (hg : g.method = m) {rest : List Value} (hs : g.stack = .ref a :: rest) (hd : decode c.code g.pc = .ok (.arraylength, 1)) :
    ∀ target, Steps p.tables e below (T.setTop { g with pc := g.pc + 1, stack := .int z :: rest }) target → Steps p.tables e below (T.setTop g) target := by
  obtain ⟨cl, A, q1, S, q3, H, G⟩ := V
  rw [← len_of S q3]
  exact X.arraylength hx (by rw [eT]; exact A.1) (State.isArrayOf_alike hZ.alike A.2.1) hg hs hd
end Own2

theorem d1_0 : decode prog_12_method_1_code 0 = .ok (.aload_n 0, 1) := by decide +kernel
theorem d1_1 : decode prog_12_method_1_code 1 = .ok (.invokespecial 1, 3) := by decide +kernel
theorem d1_4 : decode prog_12_method_1_code 4 = .ok (.aload_n 0, 1) := by decide +kernel
theorem d1_5 : decode prog_12_method_1_code 5 = .ok (.iload_n 1, 1) := by decide +kernel
theorem d1_6 : decode prog_12_method_1_code 6 = .ok (.putfield 7, 3) := by decide +kernel
theorem d1_9 : decode prog_12_method_1_code 9 = .ok (.aload_n 0, 1) := by decide +kernel
theorem d1_10 : decode prog_12_method_1_code 10 = .ok (.iload_n 2, 1) := by decide +kernel
theorem d1_11 : decode prog_12_method_1_code 11 = .ok (.putfield 13, 3) := by decide +kernel
theorem d1_14 : decode prog_12_method_1_code 14 = .ok (.aload_n 0, 1) := by decide +kernel
theorem d1_15 : decode prog_12_method_1_code 15 = .ok (.iload_n 3, 1) := by decide +kernel
theorem d1_16 : decode prog_12_method_1_code 16 = .ok (.putfield 16, 3) := by decide +kernel
theorem d1_19 : decode prog_12_method_1_code 19 = .ok (.aload_n 0, 1) := by decide +kernel
theorem d1_20 : decode prog_12_method_1_code 20 = .ok (.iload 4, 2) := by decide +kernel
theorem d1_22 : decode prog_12_method_1_code 22 = .ok (.putfield 19, 3) := by decide +kernel
theorem d1_25 : decode prog_12_method_1_code 25 = .ok (.return_, 1) := by decide +kernel
theorem d2_0 : decode jdk_30_method_1_code 0 = .ok (.aload_n 0, 1) := by decide +kernel
theorem d2_1 : decode jdk_30_method_1_code 1 = .ok (.invokespecial 1, 3) := by decide +kernel
theorem d2_4 : decode jdk_30_method_1_code 4 = .ok (.return_, 1) := by decide +kernel
theorem d4_0 : decode prog_13_method_8_code 0 = .ok (.aload_n 1, 1) := by decide +kernel
theorem d4_1 : decode prog_13_method_8_code 1 = .ok (.getfield 82, 3) := by decide +kernel
theorem d4_4 : decode prog_13_method_8_code 4 = .ok (.ifCond .eq 10, 3) := by decide +kernel
theorem d4_7 : decode prog_13_method_8_code 7 = .ok (.aload_n 0, 1) := by decide +kernel
theorem d4_8 : decode prog_13_method_8_code 8 = .ok (.getfield 46, 3) := by decide +kernel
theorem d4_11 : decode prog_13_method_8_code 11 = .ok (.goto 4, 3) := by decide +kernel
theorem d4_14 : decode prog_13_method_8_code 14 = .ok (.iconst 0, 1) := by decide +kernel
theorem d4_15 : decode prog_13_method_8_code 15 = .ok (.aload_n 1, 1) := by decide +kernel
theorem d4_16 : decode prog_13_method_8_code 16 = .ok (.getfield 85, 3) := by decide +kernel
theorem d4_19 : decode prog_13_method_8_code 19 = .ok (.ifCond .eq 10, 3) := by decide +kernel
theorem d4_22 : decode prog_13_method_8_code 22 = .ok (.aload_n 0, 1) := by decide +kernel
theorem d4_23 : decode prog_13_method_8_code 23 = .ok (.getfield 49, 3) := by decide +kernel
theorem d4_26 : decode prog_13_method_8_code 26 = .ok (.goto 4, 3) := by decide +kernel
theorem d4_29 : decode prog_13_method_8_code 29 = .ok (.iconst 0, 1) := by decide +kernel
theorem d4_30 : decode prog_13_method_8_code 30 = .ok (.ior, 1) := by decide +kernel
theorem d4_31 : decode prog_13_method_8_code 31 = .ok (.aload_n 1, 1) := by decide +kernel
theorem d4_32 : decode prog_13_method_8_code 32 = .ok (.getfield 87, 3) := by decide +kernel
theorem d4_35 : decode prog_13_method_8_code 35 = .ok (.ifCond .eq 10, 3) := by decide +kernel
theorem d4_38 : decode prog_13_method_8_code 38 = .ok (.aload_n 0, 1) := by decide +kernel
theorem d4_39 : decode prog_13_method_8_code 39 = .ok (.getfield 52, 3) := by decide +kernel
theorem d4_42 : decode prog_13_method_8_code 42 = .ok (.goto 4, 3) := by decide +kernel
theorem d4_45 : decode prog_13_method_8_code 45 = .ok (.iconst 0, 1) := by decide +kernel
theorem d4_46 : decode prog_13_method_8_code 46 = .ok (.ior, 1) := by decide +kernel
theorem d4_47 : decode prog_13_method_8_code 47 = .ok (.aload_n 1, 1) := by decide +kernel
theorem d4_48 : decode prog_13_method_8_code 48 = .ok (.getfield 89, 3) := by decide +kernel
theorem d4_51 : decode prog_13_method_8_code 51 = .ok (.ifCond .eq 10, 3) := by decide +kernel
theorem d4_54 : decode prog_13_method_8_code 54 = .ok (.aload_n 0, 1) := by decide +kernel
theorem d4_55 : decode prog_13_method_8_code 55 = .ok (.getfield 55, 3) := by decide +kernel
theorem d4_58 : decode prog_13_method_8_code 58 = .ok (.goto 4, 3) := by decide +kernel
theorem d4_61 : decode prog_13_method_8_code 61 = .ok (.iconst 0, 1) := by decide +kernel
theorem d4_62 : decode prog_13_method_8_code 62 = .ok (.ior, 1) := by decide +kernel
theorem d4_63 : decode prog_13_method_8_code 63 = .ok (.ireturn, 1) := by decide +kernel
theorem own_pn0 : plainName "com/example/interlace/interlace/ElementsHeaderBitsPinLaw" = true := by first | (simp [plainName, overriddenIn]; done) | decide +kernel
theorem own_pn1 : plainName "com/example/interlace/interlace/ElementsHeader" = true := by first | (simp [plainName, overriddenIn]; done) | decide +kernel
theorem own_pn2 : plainName "java/lang/Record" = true := by first | (simp [plainName, overriddenIn]; done) | decide +kernel
theorem own_pn4 : plainName "com/example/interlace/interlace/ElementsHeader$Side" = true := by first | (simp [plainName, overriddenIn]; done) | decide +kernel
theorem own_pd1 : parseMethodDescriptor "(ZZZZ)V" = some ⟨[.boolean, .boolean, .boolean, .boolean], none⟩ := by decide +kernel
theorem own_pd2 : parseMethodDescriptor "()V" = some ⟨[], none⟩ := by decide +kernel
theorem own_pd4 : parseMethodDescriptor "(Lcom/example/interlace/interlace/ElementsHeader;)I" = some ⟨[.object "com/example/interlace/interlace/ElementsHeader"], some .int⟩ := by decide +kernel
theorem ef_0 (m : MethodId) (x0 : Int32) (x1 : Int32) : entryFrame m #[(.int x0), (.int x1)] maxLocals = mkF m 0 #[.val (.int x0), .val (.int x1), .unset, .unset, .unset, .unset, .unset, .unset, .unset, .unset, .unset, .unset, .unset, .unset] [] := by first | (simp [entryFrame, mkF, argsToLocals, Value.category, maxLocals]; done) | rfl
theorem ef_1 (m : MethodId) (x0 : Addr) (x1 : Int32) (x2 : Int32) (x3 : Int32) (x4 : Int32) : entryFrame m #[(.ref x0), (.int x1), (.int x2), (.int x3), (.int x4)] 5 = mkF m 0 #[.val (.ref x0), .val (.int x1), .val (.int x2), .val (.int x3), .val (.int x4)] [] := by first | (simp [entryFrame, mkF, argsToLocals, Value.category]; done) | rfl
theorem ef_2 (m : MethodId) (x0 : Addr) : entryFrame m #[(.ref x0)] 1 = mkF m 0 #[.val (.ref x0)] [] := by first | (simp [entryFrame, mkF, argsToLocals, Value.category]; done) | rfl
theorem ef_4 (m : MethodId) (x0 : Addr) (x1 : Addr) : entryFrame m #[(.ref x0), (.ref x1)] 2 = mkF m 0 #[.val (.ref x0), .val (.ref x1)] [] := by first | (simp [entryFrame, mkF, argsToLocals, Value.category]; done) | rfl
def own_b01 (b : Int32) : Prop := b = 0 ∨ b = 1
theorem own_bn {b : Int32} (h : own_b01 b) : narrow .boolean (.int b) = .int b := by rcases h with rfl | rfl <;> rfl
theorem own_bf {b : Int32} (h : own_b01 b) : fits .boolean (.int b) = true := by rcases h with rfl | rfl <;> rfl
def own_bit (x : Int32) : Int32 := if x = 0 then 0 else 1
theorem own_bit01 (x : Int32) : own_b01 (own_bit x) := by
  by_cases q : x = 0
  · exact Or.inl (if_pos q)
  · exact Or.inr (if_neg q)
def own_sel (b k : Int32) : Int32 := if b = 0 then 0 else k
def own_add (b k e : Int32) : Int32 := if b = 0 then e else e + k
def own_three (k0 k1 k2 k3 : Int32) : Prop := (k0 = 1 ∧ k1 = 2 ∧ k2 = 4 ∧ k3 = 8) ∨ (k0 = 1 ∧ k1 = 2 ∧ k2 = 8 ∧ k3 = 4) ∨ (k0 = 16 ∧ k1 = 32 ∧ k2 = 128 ∧ k3 = 64)
def own_or4 (b0 b1 b2 b3 k0 k1 k2 k3 : Int32) : Int32 := ((own_sel b0 k0 ||| own_sel b1 k1) ||| own_sel b2 k2) ||| own_sel b3 k3
theorem own_sum {b0 b1 b2 b3 k0 k1 k2 k3 : Int32} (h0 : own_b01 b0) (h1 : own_b01 b1) (h2 : own_b01 b2) (h3 : own_b01 b3) (hk : own_three k0 k1 k2 k3) :
    own_or4 b0 b1 b2 b3 k0 k1 k2 k3 = own_add b3 k3 (own_add b2 k2 (own_add b1 k1 (own_add b0 k0 0))) := by
  rcases hk with ⟨rfl, rfl, rfl, rfl⟩ | ⟨rfl, rfl, rfl, rfl⟩ | ⟨rfl, rfl, rfl, rfl⟩ <;> rcases h0 with rfl | rfl <;> rcases h1 with rfl | rfl <;> rcases h2 with rfl | rfl <;> rcases h3 with rfl | rfl <;> decide
abbrev own_R0 : Room := { frames := 0, cells := 0, slots := 0, locals := 0 }
abbrev own_R1 : Room := { frames := 1, cells := 0, slots := 0, locals := 12 }
abbrev own_R2 : Room := { frames := 2, cells := 0, slots := 0, locals := 24 }
set_option maxRecDepth 65536 in
set_option maxHeartbeats 40000000 in
theorem rm2 (l : Launch) (Z : State) (a0 : Array Value) (hw : ∀ d ∈ tables_1, d.before a0 Z = true) (ws : List Jvm.Cond) (a : Addr) (h0 : Heap) :
    OwnCtr l (⟨"java/lang/Record", "<init>", "()V"⟩ : MethodName) jdk_30_method_1_code 1 none ws own_R1 Z #[(.ref a)] h0 (fun v h L => v = none ∧ h = h0 ∧ L = []) := by
  refine own_body own_pn2 ?_
  intro p e s m below meth c s₁ X0 hx hby hml hown hnm hret hlk hZ e0
  refine own_go (fun _ k => castTop (ef_2 m a) k) ?_
  show Run p.tables e below (s₁.setTop (mkF m 0 #[.val (.ref a)] [])) _
  refine own_go (fun _ => XS.aloadN X0.here hx rfl (hb hby d2_0) rfl rfl) ?_
  show Run p.tables e below (s₁.setTop (mkF m 1 #[.val (.ref a)] [(.ref a)])) _
  obtain ⟨T1, X1, e1, st1⟩ := initO X0 hx hZ hown (hw _ (List.mem_of_getElem? (i := 15) rfl)) (hw _ (List.mem_of_getElem? (i := 16) rfl)) (hw _ (List.mem_of_getElem? (i := 17) rfl)) e0 (g := (mkF m 1 #[.val (.ref a)] [(.ref a)])) rfl (by rw [hml]; rfl) rfl (hb hby d2_1) (by decide) (W := 0) (by show 2 * 0 + _ ≤ _; exact Nat.le_of_eq rfl) (by decide)
  refine own_go st1 ?_
  show Run p.tables e below (T1.setTop (mkF m 4 #[.val (.ref a)] [])) _
  exact own_out X1 (v := none) (fun _ => rfl) hlk (fun fs hr => X1.returnOut hx hret (hb hby d2_4) hr) ⟨rfl, e1, rfl⟩ (by decide) (by decide)
def own_Q1 (Z : State) (a : Addr) (b0 b1 b2 b3 : Int32) (h0 : Heap) (n0 : Nat) (v : Option Value) (h : Heap) (L : List Loc) : Prop := v = none ∧ Fr n0 L ∧ Keep h0 h [a] ∧ Fld Z h a "com/example/interlace/interlace/ElementsHeader" "tracked" "Z" (.int b0) ∧ Fld Z h a "com/example/interlace/interlace/ElementsHeader" "nullable" "Z" (.int b1) ∧ Fld Z h a "com/example/interlace/interlace/ElementsHeader" "undeclared" "Z" (.int b2) ∧ Fld Z h a "com/example/interlace/interlace/ElementsHeader" "differ" "Z" (.int b3)
set_option maxRecDepth 65536 in
set_option maxHeartbeats 40000000 in
theorem rm1 (l : Launch) (Z : State) (a0 : Array Value) (hw : ∀ d ∈ tables_1, d.before a0 Z = true) (ws : List Jvm.Cond) (a : Addr) (b0 b1 b2 b3 : Int32) (h0 : Heap) (n0 : Nat) (ge : n0 ≤ a) (E0 : Exa Z h0 a "com/example/interlace/interlace/ElementsHeader") (F00 : Fld Z h0 a "com/example/interlace/interlace/ElementsHeader" "tracked" "Z" (.int 0)) (F10 : Fld Z h0 a "com/example/interlace/interlace/ElementsHeader" "nullable" "Z" (.int 0)) (F20 : Fld Z h0 a "com/example/interlace/interlace/ElementsHeader" "undeclared" "Z" (.int 0)) (F30 : Fld Z h0 a "com/example/interlace/interlace/ElementsHeader" "differ" "Z" (.int 0)) (c0 : own_b01 b0) (c1 : own_b01 b1) (c2 : own_b01 b2) (c3 : own_b01 b3) :
    OwnCtr l (⟨"com/example/interlace/interlace/ElementsHeader", "<init>", "(ZZZZ)V"⟩ : MethodName) prog_12_method_1_code 5 none ws own_R2 Z #[(.ref a), (.int b0), (.int b1), (.int b2), (.int b3)] h0 (own_Q1 Z a b0 b1 b2 b3 h0 n0) := by
  refine own_body own_pn1 ?_
  intro p e s m below meth c s₁ X0 hx hby hml hown hnm hret hlk hZ e0
  refine own_go (fun _ k => castTop (ef_1 m a b0 b1 b2 b3) k) ?_
  show Run p.tables e below (s₁.setTop (mkF m 0 #[.val (.ref a), .val (.int b0), .val (.int b1), .val (.int b2), .val (.int b3)] [])) _
  refine own_go (fun _ => XS.aloadN X0.here hx rfl (hb hby d1_0) rfl rfl) ?_
  show Run p.tables e below (s₁.setTop (mkF m 1 #[.val (.ref a), .val (.int b0), .val (.int b1), .val (.int b2), .val (.int b3)] [(.ref a)])) _
  obtain ⟨vk1, Tk1, Lk1, Xk1, ⟨rfl, ek1, rfl⟩, stk1⟩ := own_callI X0 hx hZ hown rfl (hw _ (List.mem_of_getElem? (i := 10) rfl)) (hw _ (List.mem_of_getElem? (i := 11) rfl)) (hw _ (List.mem_of_getElem? (i := 14) rfl)) (hw _ (List.mem_of_getElem? (i := 13) rfl)) (by decide) e0 (rm2 l Z a0 hw [] a h0) (b := a) (g := (mkF m 1 #[.val (.ref a), .val (.int b0), .val (.int b1), .val (.int b2), .val (.int b3)] [(.ref a)])) rfl (by rw [hml]; rfl) (argsL := []) (rest := []) own_pd2 rfl rfl rfl (W := 0) (by show 2 * 0 + _ ≤ _; exact Nat.le_of_eq rfl) (hb hby d1_1) (by decide) (by decide) (by decide) (by decide)
  replace Xk1 : Stand p l e own_R2 s m #[(.ref a), (.int b0), (.int b1), (.int b2), (.int b3)] below meth c Tk1 [] 0 0 := Xk1
  refine own_go stk1 ?_
  show Run p.tables e below (Tk1.setTop (mkF m 4 #[.val (.ref a), .val (.int b0), .val (.int b1), .val (.int b2), .val (.int b3)] [])) _
  have N0 := Fr.nil n0
  refine own_go (fun _ => XS.aloadN Xk1.here hx rfl (hb hby d1_4) rfl rfl) ?_
  show Run p.tables e below (Tk1.setTop (mkF m 5 #[.val (.ref a), .val (.int b0), .val (.int b1), .val (.int b2), .val (.int b3)] [(.ref a)])) _
  refine own_go (fun _ => XS.iloadN Xk1.here hx rfl (hb hby d1_5) rfl) ?_
  show Run p.tables e below (Tk1.setTop (mkF m 6 #[.val (.ref a), .val (.int b0), .val (.int b1), .val (.int b2), .val (.int b3)] [(.int b0), (.ref a)])) _
  obtain ⟨T1, h1, X1, e1, W1, st1⟩ := putF Xk1 hx hZ hown (host := "") (Or.inl (hw _ (List.mem_of_getElem? (i := 18) rfl))) Via.refl ek1 F00 E0 (Or.inr ⟨(hw _ (List.mem_of_getElem? (i := 19) rfl)), rfl, hnm⟩) (hw _ (List.mem_of_getElem? (i := 5) rfl)) (ty := .boolean) (by decide) (own_bn c0) (own_bf c0) (g := (mkF m 6 #[.val (.ref a), .val (.int b0), .val (.int b1), .val (.int b2), .val (.int b3)] [(.int b0), (.ref a)])) rfl rfl (hb hby d1_6)
  have N1 := Fr.snoc X1 N0 ge
  have F01 : Fld Z h1 a "com/example/interlace/interlace/ElementsHeader" "tracked" "Z" (.int b0) := F00.same W1
  have F11 : Fld Z h1 a "com/example/interlace/interlace/ElementsHeader" "nullable" "Z" (.int 0) := F10.other W1 (Or.inr (slot_ne (C := "com/example/interlace/interlace/ElementsHeader") (a0 := a0) (Or.inr (hw _ (List.mem_of_getElem? (i := 21) rfl))) (Or.inr (hw _ (List.mem_of_getElem? (i := 19) rfl))) (by decide) (t := .boolean) (by decide) (t' := .boolean) (by decide)))
  have F21 : Fld Z h1 a "com/example/interlace/interlace/ElementsHeader" "undeclared" "Z" (.int 0) := F20.other W1 (Or.inr (slot_ne (C := "com/example/interlace/interlace/ElementsHeader") (a0 := a0) (Or.inr (hw _ (List.mem_of_getElem? (i := 23) rfl))) (Or.inr (hw _ (List.mem_of_getElem? (i := 19) rfl))) (by decide) (t := .boolean) (by decide) (t' := .boolean) (by decide)))
  have F31 : Fld Z h1 a "com/example/interlace/interlace/ElementsHeader" "differ" "Z" (.int 0) := F30.other W1 (Or.inr (slot_ne (C := "com/example/interlace/interlace/ElementsHeader") (a0 := a0) (Or.inr (hw _ (List.mem_of_getElem? (i := 25) rfl))) (Or.inr (hw _ (List.mem_of_getElem? (i := 19) rfl))) (by decide) (t := .boolean) (by decide) (t' := .boolean) (by decide)))
  have E1 : Exa Z h1 a "com/example/interlace/interlace/ElementsHeader" := E0.wr W1
  refine own_go st1 ?_
  show Run p.tables e below (T1.setTop (mkF m 9 #[.val (.ref a), .val (.int b0), .val (.int b1), .val (.int b2), .val (.int b3)] [])) _
  refine own_go (fun _ => XS.aloadN X1.here hx rfl (hb hby d1_9) rfl rfl) ?_
  show Run p.tables e below (T1.setTop (mkF m 10 #[.val (.ref a), .val (.int b0), .val (.int b1), .val (.int b2), .val (.int b3)] [(.ref a)])) _
  refine own_go (fun _ => XS.iloadN X1.here hx rfl (hb hby d1_10) rfl) ?_
  show Run p.tables e below (T1.setTop (mkF m 11 #[.val (.ref a), .val (.int b0), .val (.int b1), .val (.int b2), .val (.int b3)] [(.int b1), (.ref a)])) _
  obtain ⟨T2, h2, X2, e2, W2, st2⟩ := putF X1 hx hZ hown (host := "") (Or.inl (hw _ (List.mem_of_getElem? (i := 20) rfl))) Via.refl e1 F11 E1 (Or.inr ⟨(hw _ (List.mem_of_getElem? (i := 21) rfl)), rfl, hnm⟩) (hw _ (List.mem_of_getElem? (i := 5) rfl)) (ty := .boolean) (by decide) (own_bn c1) (own_bf c1) (g := (mkF m 11 #[.val (.ref a), .val (.int b0), .val (.int b1), .val (.int b2), .val (.int b3)] [(.int b1), (.ref a)])) rfl rfl (hb hby d1_11)
  have N2 := Fr.snoc X2 N1 ge
  have F02 : Fld Z h2 a "com/example/interlace/interlace/ElementsHeader" "tracked" "Z" (.int b0) := F01.other W2 (Or.inr (slot_ne (C := "com/example/interlace/interlace/ElementsHeader") (a0 := a0) (Or.inr (hw _ (List.mem_of_getElem? (i := 19) rfl))) (Or.inr (hw _ (List.mem_of_getElem? (i := 21) rfl))) (by decide) (t := .boolean) (by decide) (t' := .boolean) (by decide)))
  have F12 : Fld Z h2 a "com/example/interlace/interlace/ElementsHeader" "nullable" "Z" (.int b1) := F11.same W2
  have F22 : Fld Z h2 a "com/example/interlace/interlace/ElementsHeader" "undeclared" "Z" (.int 0) := F21.other W2 (Or.inr (slot_ne (C := "com/example/interlace/interlace/ElementsHeader") (a0 := a0) (Or.inr (hw _ (List.mem_of_getElem? (i := 23) rfl))) (Or.inr (hw _ (List.mem_of_getElem? (i := 21) rfl))) (by decide) (t := .boolean) (by decide) (t' := .boolean) (by decide)))
  have F32 : Fld Z h2 a "com/example/interlace/interlace/ElementsHeader" "differ" "Z" (.int 0) := F31.other W2 (Or.inr (slot_ne (C := "com/example/interlace/interlace/ElementsHeader") (a0 := a0) (Or.inr (hw _ (List.mem_of_getElem? (i := 25) rfl))) (Or.inr (hw _ (List.mem_of_getElem? (i := 21) rfl))) (by decide) (t := .boolean) (by decide) (t' := .boolean) (by decide)))
  have E2 : Exa Z h2 a "com/example/interlace/interlace/ElementsHeader" := E1.wr W2
  refine own_go st2 ?_
  show Run p.tables e below (T2.setTop (mkF m 14 #[.val (.ref a), .val (.int b0), .val (.int b1), .val (.int b2), .val (.int b3)] [])) _
  refine own_go (fun _ => XS.aloadN X2.here hx rfl (hb hby d1_14) rfl rfl) ?_
  show Run p.tables e below (T2.setTop (mkF m 15 #[.val (.ref a), .val (.int b0), .val (.int b1), .val (.int b2), .val (.int b3)] [(.ref a)])) _
  refine own_go (fun _ => XS.iloadN X2.here hx rfl (hb hby d1_15) rfl) ?_
  show Run p.tables e below (T2.setTop (mkF m 16 #[.val (.ref a), .val (.int b0), .val (.int b1), .val (.int b2), .val (.int b3)] [(.int b2), (.ref a)])) _
  obtain ⟨T3, h3, X3, e3, W3, st3⟩ := putF X2 hx hZ hown (host := "") (Or.inl (hw _ (List.mem_of_getElem? (i := 22) rfl))) Via.refl e2 F22 E2 (Or.inr ⟨(hw _ (List.mem_of_getElem? (i := 23) rfl)), rfl, hnm⟩) (hw _ (List.mem_of_getElem? (i := 5) rfl)) (ty := .boolean) (by decide) (own_bn c2) (own_bf c2) (g := (mkF m 16 #[.val (.ref a), .val (.int b0), .val (.int b1), .val (.int b2), .val (.int b3)] [(.int b2), (.ref a)])) rfl rfl (hb hby d1_16)
  have N3 := Fr.snoc X3 N2 ge
  have F03 : Fld Z h3 a "com/example/interlace/interlace/ElementsHeader" "tracked" "Z" (.int b0) := F02.other W3 (Or.inr (slot_ne (C := "com/example/interlace/interlace/ElementsHeader") (a0 := a0) (Or.inr (hw _ (List.mem_of_getElem? (i := 19) rfl))) (Or.inr (hw _ (List.mem_of_getElem? (i := 23) rfl))) (by decide) (t := .boolean) (by decide) (t' := .boolean) (by decide)))
  have F13 : Fld Z h3 a "com/example/interlace/interlace/ElementsHeader" "nullable" "Z" (.int b1) := F12.other W3 (Or.inr (slot_ne (C := "com/example/interlace/interlace/ElementsHeader") (a0 := a0) (Or.inr (hw _ (List.mem_of_getElem? (i := 21) rfl))) (Or.inr (hw _ (List.mem_of_getElem? (i := 23) rfl))) (by decide) (t := .boolean) (by decide) (t' := .boolean) (by decide)))
  have F23 : Fld Z h3 a "com/example/interlace/interlace/ElementsHeader" "undeclared" "Z" (.int b2) := F22.same W3
  have F33 : Fld Z h3 a "com/example/interlace/interlace/ElementsHeader" "differ" "Z" (.int 0) := F32.other W3 (Or.inr (slot_ne (C := "com/example/interlace/interlace/ElementsHeader") (a0 := a0) (Or.inr (hw _ (List.mem_of_getElem? (i := 25) rfl))) (Or.inr (hw _ (List.mem_of_getElem? (i := 23) rfl))) (by decide) (t := .boolean) (by decide) (t' := .boolean) (by decide)))
  have E3 : Exa Z h3 a "com/example/interlace/interlace/ElementsHeader" := E2.wr W3
  refine own_go st3 ?_
  show Run p.tables e below (T3.setTop (mkF m 19 #[.val (.ref a), .val (.int b0), .val (.int b1), .val (.int b2), .val (.int b3)] [])) _
  refine own_go (fun _ => XS.aloadN X3.here hx rfl (hb hby d1_19) rfl rfl) ?_
  show Run p.tables e below (T3.setTop (mkF m 20 #[.val (.ref a), .val (.int b0), .val (.int b1), .val (.int b2), .val (.int b3)] [(.ref a)])) _
  refine own_go (fun _ => XS.iload X3.here hx rfl (hb hby d1_20) rfl) ?_
  show Run p.tables e below (T3.setTop (mkF m 22 #[.val (.ref a), .val (.int b0), .val (.int b1), .val (.int b2), .val (.int b3)] [(.int b3), (.ref a)])) _
  obtain ⟨T4, h4, X4, e4, W4, st4⟩ := putF X3 hx hZ hown (host := "") (Or.inl (hw _ (List.mem_of_getElem? (i := 24) rfl))) Via.refl e3 F33 E3 (Or.inr ⟨(hw _ (List.mem_of_getElem? (i := 25) rfl)), rfl, hnm⟩) (hw _ (List.mem_of_getElem? (i := 5) rfl)) (ty := .boolean) (by decide) (own_bn c3) (own_bf c3) (g := (mkF m 22 #[.val (.ref a), .val (.int b0), .val (.int b1), .val (.int b2), .val (.int b3)] [(.int b3), (.ref a)])) rfl rfl (hb hby d1_22)
  have N4 := Fr.snoc X4 N3 ge
  have F04 : Fld Z h4 a "com/example/interlace/interlace/ElementsHeader" "tracked" "Z" (.int b0) := F03.other W4 (Or.inr (slot_ne (C := "com/example/interlace/interlace/ElementsHeader") (a0 := a0) (Or.inr (hw _ (List.mem_of_getElem? (i := 19) rfl))) (Or.inr (hw _ (List.mem_of_getElem? (i := 25) rfl))) (by decide) (t := .boolean) (by decide) (t' := .boolean) (by decide)))
  have F14 : Fld Z h4 a "com/example/interlace/interlace/ElementsHeader" "nullable" "Z" (.int b1) := F13.other W4 (Or.inr (slot_ne (C := "com/example/interlace/interlace/ElementsHeader") (a0 := a0) (Or.inr (hw _ (List.mem_of_getElem? (i := 21) rfl))) (Or.inr (hw _ (List.mem_of_getElem? (i := 25) rfl))) (by decide) (t := .boolean) (by decide) (t' := .boolean) (by decide)))
  have F24 : Fld Z h4 a "com/example/interlace/interlace/ElementsHeader" "undeclared" "Z" (.int b2) := F23.other W4 (Or.inr (slot_ne (C := "com/example/interlace/interlace/ElementsHeader") (a0 := a0) (Or.inr (hw _ (List.mem_of_getElem? (i := 23) rfl))) (Or.inr (hw _ (List.mem_of_getElem? (i := 25) rfl))) (by decide) (t := .boolean) (by decide) (t' := .boolean) (by decide)))
  have F34 : Fld Z h4 a "com/example/interlace/interlace/ElementsHeader" "differ" "Z" (.int b3) := F33.same W4
  have E4 : Exa Z h4 a "com/example/interlace/interlace/ElementsHeader" := E3.wr W4
  refine own_go st4 ?_
  show Run p.tables e below (T4.setTop (mkF m 25 #[.val (.ref a), .val (.int b0), .val (.int b1), .val (.int b2), .val (.int b3)] [])) _
  have KK : Keep h0 h4 [a] := ((((Keep.refl h0 [a]).wr W1 (Or.inl (List.mem_singleton.mpr rfl))).wr W2 (Or.inl (List.mem_singleton.mpr rfl))).wr W3 (Or.inl (List.mem_singleton.mpr rfl))).wr W4 (Or.inl (List.mem_singleton.mpr rfl))
  subst e4
  exact own_out X4 (v := none) (fun _ => rfl) hlk (fun fs hr => X4.returnOut hx hret (hb hby d1_25) hr) ⟨rfl, N4, KK, F04, F14, F24, F34⟩ (by decide) (by decide)
set_option maxRecDepth 65536 in
set_option maxHeartbeats 40000000 in
theorem rm4 (l : Launch) (Z : State) (a0 : Array Value) (hw : ∀ d ∈ tables_1, d.before a0 Z = true) (ws : List Jvm.Cond) (a b : Addr) (b0 b1 b2 b3 k0 k1 k2 k3 : Int32) (h0 : Heap) (G0 : Fld Z h0 a "com/example/interlace/interlace/ElementsHeader$Side" "tracked" "I" (.int k0)) (G1 : Fld Z h0 a "com/example/interlace/interlace/ElementsHeader$Side" "nullable" "I" (.int k1)) (G2 : Fld Z h0 a "com/example/interlace/interlace/ElementsHeader$Side" "undeclared" "I" (.int k2)) (G3 : Fld Z h0 a "com/example/interlace/interlace/ElementsHeader$Side" "differ" "I" (.int k3)) (F0 : Fld Z h0 b "com/example/interlace/interlace/ElementsHeader" "tracked" "Z" (.int b0)) (F1 : Fld Z h0 b "com/example/interlace/interlace/ElementsHeader" "nullable" "Z" (.int b1)) (F2 : Fld Z h0 b "com/example/interlace/interlace/ElementsHeader" "undeclared" "Z" (.int b2)) (F3 : Fld Z h0 b "com/example/interlace/interlace/ElementsHeader" "differ" "Z" (.int b3)) :
    OwnCtr l (⟨"com/example/interlace/interlace/ElementsHeader$Side", "bits", "(Lcom/example/interlace/interlace/ElementsHeader;)I"⟩ : MethodName) prog_13_method_8_code 2 (some .int) ws own_R0 Z #[(.ref a), (.ref b)] h0 (fun v h L => v = some (.int (own_or4 b0 b1 b2 b3 k0 k1 k2 k3)) ∧ h = h0 ∧ L = []) := by
  refine own_body own_pn4 ?_
  intro p e s m below meth c s₁ X0 hx hby hml hown hnm hret hlk hZ e0
  have J3 : ∀ (T : State) (X : Stand p l e own_R0 s m #[(.ref a), (.ref b)] below meth c T [] 0 0) (eT : T.heap = h0), Run p.tables e below (T.setTop (mkF m 62 #[.val (.ref a), .val (.ref b)] [(.int (own_sel b3 k3)), (.int (((own_sel b0 k0) ||| (own_sel b1 k1)) ||| (own_sel b2 k2)))])) (OwnFin s below (fun v h L => v = some (.int (own_or4 b0 b1 b2 b3 k0 k1 k2 k3)) ∧ h = h0 ∧ L = []) own_R0.cells own_R0.slots) := by
    intro T X eT
    show Run p.tables e below (T.setTop (mkF m 62 #[.val (.ref a), .val (.ref b)] [(.int (own_sel b3 k3)), (.int (((own_sel b0 k0) ||| (own_sel b1 k1)) ||| (own_sel b2 k2)))])) _
    refine own_go (fun _ => XT.ior X.here hx rfl (hb hby d4_62) rfl) ?_
    show Run p.tables e below (T.setTop (mkF m 63 #[.val (.ref a), .val (.ref b)] [(.int ((((own_sel b0 k0) ||| (own_sel b1 k1)) ||| (own_sel b2 k2)) ||| (own_sel b3 k3)))])) _
    exact own_out X (v := some (.int ((((own_sel b0 k0) ||| (own_sel b1 k1)) ||| (own_sel b2 k2)) ||| (own_sel b3 k3)))) (fun q => by rw [hret] at q; cases q) hlk (fun fs hr => retI X hx hret (hb hby d4_63) hr) ⟨rfl, eT, rfl⟩ (by decide) (by decide)
  have J2 : ∀ (T : State) (X : Stand p l e own_R0 s m #[(.ref a), (.ref b)] below meth c T [] 0 0) (eT : T.heap = h0), Run p.tables e below (T.setTop (mkF m 46 #[.val (.ref a), .val (.ref b)] [(.int (own_sel b2 k2)), (.int ((own_sel b0 k0) ||| (own_sel b1 k1)))])) (OwnFin s below (fun v h L => v = some (.int (own_or4 b0 b1 b2 b3 k0 k1 k2 k3)) ∧ h = h0 ∧ L = []) own_R0.cells own_R0.slots) := by
    intro T X eT
    show Run p.tables e below (T.setTop (mkF m 46 #[.val (.ref a), .val (.ref b)] [(.int (own_sel b2 k2)), (.int ((own_sel b0 k0) ||| (own_sel b1 k1)))])) _
    refine own_go (fun _ => XT.ior X.here hx rfl (hb hby d4_46) rfl) ?_
    show Run p.tables e below (T.setTop (mkF m 47 #[.val (.ref a), .val (.ref b)] [(.int (((own_sel b0 k0) ||| (own_sel b1 k1)) ||| (own_sel b2 k2)))])) _
    refine own_go (fun _ => XS.aloadN X.here hx rfl (hb hby d4_47) rfl rfl) ?_
    show Run p.tables e below (T.setTop (mkF m 48 #[.val (.ref a), .val (.ref b)] [(.ref b), (.int (((own_sel b0 k0) ||| (own_sel b1 k1)) ||| (own_sel b2 k2)))])) _
    obtain ⟨Tk1, Xk1, ek1, stk1⟩ := getF X hx hZ hown (Or.inr (hw _ (List.mem_of_getElem? (i := 38) rfl))) Via.refl eT F3 (g := (mkF m 48 #[.val (.ref a), .val (.ref b)] [(.ref b), (.int (((own_sel b0 k0) ||| (own_sel b1 k1)) ||| (own_sel b2 k2)))])) rfl rfl (hb hby d4_48)
    refine own_go stk1 ?_
    show Run p.tables e below (Tk1.setTop (mkF m 51 #[.val (.ref a), .val (.ref b)] [(.int b3), (.int (((own_sel b0 k0) ||| (own_sel b1 k1)) ||| (own_sel b2 k2)))])) _
    by_cases q : b3 = 0
    · show Run p.tables e below (Tk1.setTop (mkF m 51 #[.val (.ref a), .val (.ref b)] [(.int b3), (.int (((own_sel b0 k0) ||| (own_sel b1 k1)) ||| (own_sel b2 k2)))])) _
      refine own_go (fun _ => XS.ifYes Xk1.here hx rfl (pc0 := 51) (pc' := 61) rfl (hb hby d4_51) rfl (XT.i0_eq_t q) (by decide) (by decide)) ?_
      show Run p.tables e below (Tk1.setTop (mkF m 61 #[.val (.ref a), .val (.ref b)] [(.int (((own_sel b0 k0) ||| (own_sel b1 k1)) ||| (own_sel b2 k2)))])) _
      refine own_go (fun _ => XS.iconst Xk1.here hx rfl (hb hby d4_61)) ?_
      show Run p.tables e below (Tk1.setTop (mkF m 62 #[.val (.ref a), .val (.ref b)] [(.int (0 : Int32)), (.int (((own_sel b0 k0) ||| (own_sel b1 k1)) ||| (own_sel b2 k2)))])) _
      rw [show own_sel b3 k3 = 0 from if_pos q] at J3
      exact J3 _ Xk1 ek1
    · show Run p.tables e below (Tk1.setTop (mkF m 51 #[.val (.ref a), .val (.ref b)] [(.int b3), (.int (((own_sel b0 k0) ||| (own_sel b1 k1)) ||| (own_sel b2 k2)))])) _
      refine own_go (fun _ => XS.ifNo Xk1.here hx rfl (hb hby d4_51) rfl (XT.i0_eq_f q)) ?_
      show Run p.tables e below (Tk1.setTop (mkF m 54 #[.val (.ref a), .val (.ref b)] [(.int (((own_sel b0 k0) ||| (own_sel b1 k1)) ||| (own_sel b2 k2)))])) _
      refine own_go (fun _ => XS.aloadN Xk1.here hx rfl (hb hby d4_54) rfl rfl) ?_
      show Run p.tables e below (Tk1.setTop (mkF m 55 #[.val (.ref a), .val (.ref b)] [(.ref a), (.int (((own_sel b0 k0) ||| (own_sel b1 k1)) ||| (own_sel b2 k2)))])) _
      obtain ⟨Tk2, Xk2, ek2, stk2⟩ := getF Xk1 hx hZ hown (host := "") (Or.inl (hw _ (List.mem_of_getElem? (i := 45) rfl))) Via.refl ek1 G3 (g := (mkF m 55 #[.val (.ref a), .val (.ref b)] [(.ref a), (.int (((own_sel b0 k0) ||| (own_sel b1 k1)) ||| (own_sel b2 k2)))])) rfl rfl (hb hby d4_55)
      refine own_go stk2 ?_
      show Run p.tables e below (Tk2.setTop (mkF m 58 #[.val (.ref a), .val (.ref b)] [(.int k3), (.int (((own_sel b0 k0) ||| (own_sel b1 k1)) ||| (own_sel b2 k2)))])) _
      refine own_go (fun _ => XS.goto Xk2.here hx rfl (pc0 := 58) (pc' := 62) rfl (hb hby d4_58) (by decide) (by decide)) ?_
      show Run p.tables e below (Tk2.setTop (mkF m 62 #[.val (.ref a), .val (.ref b)] [(.int k3), (.int (((own_sel b0 k0) ||| (own_sel b1 k1)) ||| (own_sel b2 k2)))])) _
      rw [show own_sel b3 k3 = k3 from if_neg q] at J3
      exact J3 _ Xk2 ek2
  have J1 : ∀ (T : State) (X : Stand p l e own_R0 s m #[(.ref a), (.ref b)] below meth c T [] 0 0) (eT : T.heap = h0), Run p.tables e below (T.setTop (mkF m 30 #[.val (.ref a), .val (.ref b)] [(.int (own_sel b1 k1)), (.int (own_sel b0 k0))])) (OwnFin s below (fun v h L => v = some (.int (own_or4 b0 b1 b2 b3 k0 k1 k2 k3)) ∧ h = h0 ∧ L = []) own_R0.cells own_R0.slots) := by
    intro T X eT
    show Run p.tables e below (T.setTop (mkF m 30 #[.val (.ref a), .val (.ref b)] [(.int (own_sel b1 k1)), (.int (own_sel b0 k0))])) _
    refine own_go (fun _ => XT.ior X.here hx rfl (hb hby d4_30) rfl) ?_
    show Run p.tables e below (T.setTop (mkF m 31 #[.val (.ref a), .val (.ref b)] [(.int ((own_sel b0 k0) ||| (own_sel b1 k1)))])) _
    refine own_go (fun _ => XS.aloadN X.here hx rfl (hb hby d4_31) rfl rfl) ?_
    show Run p.tables e below (T.setTop (mkF m 32 #[.val (.ref a), .val (.ref b)] [(.ref b), (.int ((own_sel b0 k0) ||| (own_sel b1 k1)))])) _
    obtain ⟨Tk3, Xk3, ek3, stk3⟩ := getF X hx hZ hown (Or.inr (hw _ (List.mem_of_getElem? (i := 37) rfl))) Via.refl eT F2 (g := (mkF m 32 #[.val (.ref a), .val (.ref b)] [(.ref b), (.int ((own_sel b0 k0) ||| (own_sel b1 k1)))])) rfl rfl (hb hby d4_32)
    refine own_go stk3 ?_
    show Run p.tables e below (Tk3.setTop (mkF m 35 #[.val (.ref a), .val (.ref b)] [(.int b2), (.int ((own_sel b0 k0) ||| (own_sel b1 k1)))])) _
    by_cases q : b2 = 0
    · show Run p.tables e below (Tk3.setTop (mkF m 35 #[.val (.ref a), .val (.ref b)] [(.int b2), (.int ((own_sel b0 k0) ||| (own_sel b1 k1)))])) _
      refine own_go (fun _ => XS.ifYes Xk3.here hx rfl (pc0 := 35) (pc' := 45) rfl (hb hby d4_35) rfl (XT.i0_eq_t q) (by decide) (by decide)) ?_
      show Run p.tables e below (Tk3.setTop (mkF m 45 #[.val (.ref a), .val (.ref b)] [(.int ((own_sel b0 k0) ||| (own_sel b1 k1)))])) _
      refine own_go (fun _ => XS.iconst Xk3.here hx rfl (hb hby d4_45)) ?_
      show Run p.tables e below (Tk3.setTop (mkF m 46 #[.val (.ref a), .val (.ref b)] [(.int (0 : Int32)), (.int ((own_sel b0 k0) ||| (own_sel b1 k1)))])) _
      rw [show own_sel b2 k2 = 0 from if_pos q] at J2
      exact J2 _ Xk3 ek3
    · show Run p.tables e below (Tk3.setTop (mkF m 35 #[.val (.ref a), .val (.ref b)] [(.int b2), (.int ((own_sel b0 k0) ||| (own_sel b1 k1)))])) _
      refine own_go (fun _ => XS.ifNo Xk3.here hx rfl (hb hby d4_35) rfl (XT.i0_eq_f q)) ?_
      show Run p.tables e below (Tk3.setTop (mkF m 38 #[.val (.ref a), .val (.ref b)] [(.int ((own_sel b0 k0) ||| (own_sel b1 k1)))])) _
      refine own_go (fun _ => XS.aloadN Xk3.here hx rfl (hb hby d4_38) rfl rfl) ?_
      show Run p.tables e below (Tk3.setTop (mkF m 39 #[.val (.ref a), .val (.ref b)] [(.ref a), (.int ((own_sel b0 k0) ||| (own_sel b1 k1)))])) _
      obtain ⟨Tk4, Xk4, ek4, stk4⟩ := getF Xk3 hx hZ hown (host := "") (Or.inl (hw _ (List.mem_of_getElem? (i := 41) rfl))) Via.refl ek3 G2 (g := (mkF m 39 #[.val (.ref a), .val (.ref b)] [(.ref a), (.int ((own_sel b0 k0) ||| (own_sel b1 k1)))])) rfl rfl (hb hby d4_39)
      refine own_go stk4 ?_
      show Run p.tables e below (Tk4.setTop (mkF m 42 #[.val (.ref a), .val (.ref b)] [(.int k2), (.int ((own_sel b0 k0) ||| (own_sel b1 k1)))])) _
      refine own_go (fun _ => XS.goto Xk4.here hx rfl (pc0 := 42) (pc' := 46) rfl (hb hby d4_42) (by decide) (by decide)) ?_
      show Run p.tables e below (Tk4.setTop (mkF m 46 #[.val (.ref a), .val (.ref b)] [(.int k2), (.int ((own_sel b0 k0) ||| (own_sel b1 k1)))])) _
      rw [show own_sel b2 k2 = k2 from if_neg q] at J2
      exact J2 _ Xk4 ek4
  have J0 : ∀ (T : State) (X : Stand p l e own_R0 s m #[(.ref a), (.ref b)] below meth c T [] 0 0) (eT : T.heap = h0), Run p.tables e below (T.setTop (mkF m 15 #[.val (.ref a), .val (.ref b)] [(.int (own_sel b0 k0))])) (OwnFin s below (fun v h L => v = some (.int (own_or4 b0 b1 b2 b3 k0 k1 k2 k3)) ∧ h = h0 ∧ L = []) own_R0.cells own_R0.slots) := by
    intro T X eT
    show Run p.tables e below (T.setTop (mkF m 15 #[.val (.ref a), .val (.ref b)] [(.int (own_sel b0 k0))])) _
    refine own_go (fun _ => XS.aloadN X.here hx rfl (hb hby d4_15) rfl rfl) ?_
    show Run p.tables e below (T.setTop (mkF m 16 #[.val (.ref a), .val (.ref b)] [(.ref b), (.int (own_sel b0 k0))])) _
    obtain ⟨Tk5, Xk5, ek5, stk5⟩ := getF X hx hZ hown (Or.inr (hw _ (List.mem_of_getElem? (i := 34) rfl))) Via.refl eT F1 (g := (mkF m 16 #[.val (.ref a), .val (.ref b)] [(.ref b), (.int (own_sel b0 k0))])) rfl rfl (hb hby d4_16)
    refine own_go stk5 ?_
    show Run p.tables e below (Tk5.setTop (mkF m 19 #[.val (.ref a), .val (.ref b)] [(.int b1), (.int (own_sel b0 k0))])) _
    by_cases q : b1 = 0
    · show Run p.tables e below (Tk5.setTop (mkF m 19 #[.val (.ref a), .val (.ref b)] [(.int b1), (.int (own_sel b0 k0))])) _
      refine own_go (fun _ => XS.ifYes Xk5.here hx rfl (pc0 := 19) (pc' := 29) rfl (hb hby d4_19) rfl (XT.i0_eq_t q) (by decide) (by decide)) ?_
      show Run p.tables e below (Tk5.setTop (mkF m 29 #[.val (.ref a), .val (.ref b)] [(.int (own_sel b0 k0))])) _
      refine own_go (fun _ => XS.iconst Xk5.here hx rfl (hb hby d4_29)) ?_
      show Run p.tables e below (Tk5.setTop (mkF m 30 #[.val (.ref a), .val (.ref b)] [(.int (0 : Int32)), (.int (own_sel b0 k0))])) _
      rw [show own_sel b1 k1 = 0 from if_pos q] at J1
      exact J1 _ Xk5 ek5
    · show Run p.tables e below (Tk5.setTop (mkF m 19 #[.val (.ref a), .val (.ref b)] [(.int b1), (.int (own_sel b0 k0))])) _
      refine own_go (fun _ => XS.ifNo Xk5.here hx rfl (hb hby d4_19) rfl (XT.i0_eq_f q)) ?_
      show Run p.tables e below (Tk5.setTop (mkF m 22 #[.val (.ref a), .val (.ref b)] [(.int (own_sel b0 k0))])) _
      refine own_go (fun _ => XS.aloadN Xk5.here hx rfl (hb hby d4_22) rfl rfl) ?_
      show Run p.tables e below (Tk5.setTop (mkF m 23 #[.val (.ref a), .val (.ref b)] [(.ref a), (.int (own_sel b0 k0))])) _
      obtain ⟨Tk6, Xk6, ek6, stk6⟩ := getF Xk5 hx hZ hown (host := "") (Or.inl (hw _ (List.mem_of_getElem? (i := 35) rfl))) Via.refl ek5 G1 (g := (mkF m 23 #[.val (.ref a), .val (.ref b)] [(.ref a), (.int (own_sel b0 k0))])) rfl rfl (hb hby d4_23)
      refine own_go stk6 ?_
      show Run p.tables e below (Tk6.setTop (mkF m 26 #[.val (.ref a), .val (.ref b)] [(.int k1), (.int (own_sel b0 k0))])) _
      refine own_go (fun _ => XS.goto Xk6.here hx rfl (pc0 := 26) (pc' := 30) rfl (hb hby d4_26) (by decide) (by decide)) ?_
      show Run p.tables e below (Tk6.setTop (mkF m 30 #[.val (.ref a), .val (.ref b)] [(.int k1), (.int (own_sel b0 k0))])) _
      rw [show own_sel b1 k1 = k1 from if_neg q] at J1
      exact J1 _ Xk6 ek6
  refine own_go (fun _ k => castTop (ef_4 m a b) k) ?_
  show Run p.tables e below (s₁.setTop (mkF m 0 #[.val (.ref a), .val (.ref b)] [])) _
  refine own_go (fun _ => XS.aloadN X0.here hx rfl (hb hby d4_0) rfl rfl) ?_
  show Run p.tables e below (s₁.setTop (mkF m 1 #[.val (.ref a), .val (.ref b)] [(.ref b)])) _
  obtain ⟨Tk7, Xk7, ek7, stk7⟩ := getF X0 hx hZ hown (Or.inr (hw _ (List.mem_of_getElem? (i := 31) rfl))) Via.refl e0 F0 (g := (mkF m 1 #[.val (.ref a), .val (.ref b)] [(.ref b)])) rfl rfl (hb hby d4_1)
  refine own_go stk7 ?_
  show Run p.tables e below (Tk7.setTop (mkF m 4 #[.val (.ref a), .val (.ref b)] [(.int b0)])) _
  by_cases q : b0 = 0
  · show Run p.tables e below (Tk7.setTop (mkF m 4 #[.val (.ref a), .val (.ref b)] [(.int b0)])) _
    refine own_go (fun _ => XS.ifYes Xk7.here hx rfl (pc0 := 4) (pc' := 14) rfl (hb hby d4_4) rfl (XT.i0_eq_t q) (by decide) (by decide)) ?_
    show Run p.tables e below (Tk7.setTop (mkF m 14 #[.val (.ref a), .val (.ref b)] [])) _
    refine own_go (fun _ => XS.iconst Xk7.here hx rfl (hb hby d4_14)) ?_
    show Run p.tables e below (Tk7.setTop (mkF m 15 #[.val (.ref a), .val (.ref b)] [(.int (0 : Int32))])) _
    rw [show own_sel b0 k0 = 0 from if_pos q] at J0
    exact J0 _ Xk7 ek7
  · show Run p.tables e below (Tk7.setTop (mkF m 4 #[.val (.ref a), .val (.ref b)] [(.int b0)])) _
    refine own_go (fun _ => XS.ifNo Xk7.here hx rfl (hb hby d4_4) rfl (XT.i0_eq_f q)) ?_
    show Run p.tables e below (Tk7.setTop (mkF m 7 #[.val (.ref a), .val (.ref b)] [])) _
    refine own_go (fun _ => XS.aloadN Xk7.here hx rfl (hb hby d4_7) rfl rfl) ?_
    show Run p.tables e below (Tk7.setTop (mkF m 8 #[.val (.ref a), .val (.ref b)] [(.ref a)])) _
    obtain ⟨Tk8, Xk8, ek8, stk8⟩ := getF Xk7 hx hZ hown (host := "") (Or.inl (hw _ (List.mem_of_getElem? (i := 32) rfl))) Via.refl ek7 G0 (g := (mkF m 8 #[.val (.ref a), .val (.ref b)] [(.ref a)])) rfl rfl (hb hby d4_8)
    refine own_go stk8 ?_
    show Run p.tables e below (Tk8.setTop (mkF m 11 #[.val (.ref a), .val (.ref b)] [(.int k0)])) _
    refine own_go (fun _ => XS.goto Xk8.here hx rfl (pc0 := 11) (pc' := 15) rfl (hb hby d4_11) (by decide) (by decide)) ?_
    show Run p.tables e below (Tk8.setTop (mkF m 15 #[.val (.ref a), .val (.ref b)] [(.int k0)])) _
    rw [show own_sel b0 k0 = k0 from if_neg q] at J0
    exact J0 _ Xk8 ek8
def own_Q0 (n0 : Nat) (v : Option Value) (h : Heap) (L : List Loc) : Prop := v = some (.int 1) ∧ Fr n0 L
def own_Sd (Z : State) (h : Heap) (a : Addr) (k0 k1 k2 k3 : Int32) : Prop := Exa Z h a "com/example/interlace/interlace/ElementsHeader$Side" ∧ Fld Z h a "com/example/interlace/interlace/ElementsHeader$Side" "tracked" "I" (.int k0) ∧ Fld Z h a "com/example/interlace/interlace/ElementsHeader$Side" "nullable" "I" (.int k1) ∧ Fld Z h a "com/example/interlace/interlace/ElementsHeader$Side" "undeclared" "I" (.int k2) ∧ Fld Z h a "com/example/interlace/interlace/ElementsHeader$Side" "differ" "I" (.int k3)
set_option maxRecDepth 65536 in
set_option maxHeartbeats 40000000 in
theorem rm0 (l : Launch) (Z : State) (a0 : Array Value) (hw : ∀ d ∈ tables_1, d.before a0 Z = true) (ws : List Jvm.Cond) (p0 p1 : Int32) (a_ELEMENTS a_KEYS a_VALUES : Addr) (h0 : Heap) (n0 : Nat) (Z0 : n0 ≤ h0.size) (S_ELEMENTS : Sta Z h0 "com/example/interlace/interlace/ElementsHeader$Side" "ELEMENTS" "Lcom/example/interlace/interlace/ElementsHeader$Side;" (.ref a_ELEMENTS)) (S_KEYS : Sta Z h0 "com/example/interlace/interlace/ElementsHeader$Side" "KEYS" "Lcom/example/interlace/interlace/ElementsHeader$Side;" (.ref a_KEYS)) (S_VALUES : Sta Z h0 "com/example/interlace/interlace/ElementsHeader$Side" "VALUES" "Lcom/example/interlace/interlace/ElementsHeader$Side;" (.ref a_VALUES)) (K_ELEMENTS : own_Sd Z h0 a_ELEMENTS 1 2 4 8) (K_KEYS : own_Sd Z h0 a_KEYS 1 2 8 4) (K_VALUES : own_Sd Z h0 a_VALUES 16 32 128 64) :
    OwnCtr l x code maxLocals ret ws room_1 Z #[(.int p0), (.int p1)] h0 (own_Q0 n0) := by
  refine own_body own_pn0 ?_
  intro p e s m below meth c s₁ X0 hx hby hml hown hnm hret hlk hZ e0
  refine own_go (fun _ k => castTop (ef_0 m p0 p1) k) ?_
  show Run p.tables e below (s₁.setTop (mkF m 0 #[.val (.int p0), .val (.int p1), .unset, .unset, .unset, .unset, .unset, .unset, .unset, .unset, .unset, .unset, .unset, .unset] [])) _
  refine own_go (fun _ => XS.iloadN X0.here hx rfl (hb hby at_0) rfl) ?_
  show Run p.tables e below (s₁.setTop (mkF m 1 #[.val (.int p0), .val (.int p1), .unset, .unset, .unset, .unset, .unset, .unset, .unset, .unset, .unset, .unset, .unset, .unset] [(.int p0)])) _
  refine own_go (fun _ => Jvm.Stand.ldcI X0 hx hown (mvT hZ (hw _ (List.mem_of_getElem? (i := 0) rfl))) rfl (hb hby at_1)) ?_
  show Run p.tables e below (s₁.setTop (mkF m 3 #[.val (.int p0), .val (.int p1), .unset, .unset, .unset, .unset, .unset, .unset, .unset, .unset, .unset, .unset, .unset, .unset] [(.int (2147483647 : Int32)), (.int p0)])) _
  refine own_go (fun _ => XS.iand X0.here hx rfl (hb hby at_3) rfl) ?_
  show Run p.tables e below (s₁.setTop (mkF m 4 #[.val (.int p0), .val (.int p1), .unset, .unset, .unset, .unset, .unset, .unset, .unset, .unset, .unset, .unset, .unset, .unset] [(.int (p0 &&& (2147483647 : Int32)))])) _
  refine own_go (fun _ => XS.iconst X0.here hx rfl (hb hby at_4)) ?_
  show Run p.tables e below (s₁.setTop (mkF m 5 #[.val (.int p0), .val (.int p1), .unset, .unset, .unset, .unset, .unset, .unset, .unset, .unset, .unset, .unset, .unset, .unset] [(.int (3 : Int32)), (.int (p0 &&& (2147483647 : Int32)))])) _
  refine own_go (fun _ => iremM X0 hx rfl (hb hby at_5) rfl (by decide)) ?_
  show Run p.tables e below (s₁.setTop (mkF m 6 #[.val (.int p0), .val (.int p1), .unset, .unset, .unset, .unset, .unset, .unset, .unset, .unset, .unset, .unset, .unset, .unset] [(.int ((p0 &&& (2147483647 : Int32)) % (3 : Int32)))])) _
  refine own_go (fun _ => XS.istoreN X0.here hx rfl (hb hby at_6) rfl (l' := #[.val (.int p0), .val (.int p1), .val (.int ((p0 &&& (2147483647 : Int32)) % (3 : Int32))), .unset, .unset, .unset, .unset, .unset, .unset, .unset, .unset, .unset, .unset, .unset]) rfl) ?_
  show Run p.tables e below (s₁.setTop (mkF m 7 #[.val (.int p0), .val (.int p1), .val (.int ((p0 &&& (2147483647 : Int32)) % (3 : Int32))), .unset, .unset, .unset, .unset, .unset, .unset, .unset, .unset, .unset, .unset, .unset] [])) _
  generalize ((p0 &&& (2147483647 : Int32)) % (3 : Int32)) = s3
  show Run p.tables e below (s₁.setTop (mkF m 7 #[.val (.int p0), .val (.int p1), .val (.int s3), .unset, .unset, .unset, .unset, .unset, .unset, .unset, .unset, .unset, .unset, .unset] [])) _
  obtain ⟨t0, ht0⟩ : ∃ z, z = own_bit (p1 &&& (1 : Int32)) := ⟨_, rfl⟩
  obtain ⟨t1, ht1⟩ : ∃ z, z = own_bit (p1 &&& (2 : Int32)) := ⟨_, rfl⟩
  obtain ⟨t2, ht2⟩ : ∃ z, z = own_bit (p1 &&& (4 : Int32)) := ⟨_, rfl⟩
  obtain ⟨t3, ht3⟩ : ∃ z, z = own_bit (p1 &&& (8 : Int32)) := ⟨_, rfl⟩
  have c0 : own_b01 t0 := by rw [ht0]; exact own_bit01 _
  have c1 : own_b01 t1 := by rw [ht1]; exact own_bit01 _
  have c2 : own_b01 t2 := by rw [ht2]; exact own_bit01 _
  have c3 : own_b01 t3 := by rw [ht3]; exact own_bit01 _
  have JE : ∀ (T : State) (X : Stand p l e room_1 s m #[(.int p0), (.int p1)] below meth c T [] 0 0) (eT : T.heap = h0) (a : Addr) (k0 k1 k2 k3 : Int32) (Kd : own_Sd Z h0 a k0 k1 k2 k3) (hk : own_three k0 k1 k2 k3), Run p.tables e below (T.setTop (mkF m 182 #[.val (.int p0), .val (.int p1), .val (.int s3), .val (.int t0), .val (.int t1), .val (.int t2), .val (.int t3), .val (.ref a), .val (.int k0), .val (.int k1), .val (.int k2), .val (.int k3), .val (.int (own_add t3 k3 (own_add t2 k2 (own_add t1 k1 (own_add t0 k0 (0 : Int32)))))), .unset] [])) (OwnFin s below (own_Q0 n0) room_1.cells room_1.slots) := by
    intro T X eT a k0 k1 k2 k3 Kd hk
    show Run p.tables e below (T.setTop (mkF m 182 #[.val (.int p0), .val (.int p1), .val (.int s3), .val (.int t0), .val (.int t1), .val (.int t2), .val (.int t3), .val (.ref a), .val (.int k0), .val (.int k1), .val (.int k2), .val (.int k3), .val (.int (own_add t3 k3 (own_add t2 k2 (own_add t1 k1 (own_add t0 k0 (0 : Int32)))))), .unset] [])) _
    obtain ⟨Es, G0, G1, G2, G3⟩ := Kd
    obtain ⟨TN, hN, XN, eN, EN, AN, DN, -, stN⟩ := newO X hx hZ hown (hw _ (List.mem_of_getElem? (i := 4) rfl)) (hw _ (List.mem_of_getElem? (i := 5) rfl)) (hw _ (List.mem_of_getElem? (i := 6) rfl)) eT (g := (mkF m 182 #[.val (.int p0), .val (.int p1), .val (.int s3), .val (.int t0), .val (.int t1), .val (.int t2), .val (.int t3), .val (.ref a), .val (.int k0), .val (.int k1), .val (.int k2), .val (.int k3), .val (.int (own_add t3 k3 (own_add t2 k2 (own_add t1 k1 (own_add t0 k0 (0 : Int32)))))), .unset] [])) rfl (hb hby at_182) (by decide) (by decide)
    obtain ⟨b, gb⟩ : ∃ z, z = h0.size := ⟨_, rfl⟩
    rw [← gb] at AN DN stN
    have ne : a ≠ b := Nat.ne_of_lt (Nat.lt_of_lt_of_le Es.lt (Nat.le_of_eq gb.symm))
    have FN0 : Fld Z hN b "com/example/interlace/interlace/ElementsHeader" "tracked" "Z" (.int (0 : Int32)) := DN (Or.inr (hw _ (List.mem_of_getElem? (i := 19) rfl))) (ty := .boolean) (by decide)
    have FN1 : Fld Z hN b "com/example/interlace/interlace/ElementsHeader" "nullable" "Z" (.int (0 : Int32)) := DN (Or.inr (hw _ (List.mem_of_getElem? (i := 21) rfl))) (ty := .boolean) (by decide)
    have FN2 : Fld Z hN b "com/example/interlace/interlace/ElementsHeader" "undeclared" "Z" (.int (0 : Int32)) := DN (Or.inr (hw _ (List.mem_of_getElem? (i := 23) rfl))) (ty := .boolean) (by decide)
    have FN3 : Fld Z hN b "com/example/interlace/interlace/ElementsHeader" "differ" "Z" (.int (0 : Int32)) := DN (Or.inr (hw _ (List.mem_of_getElem? (i := 25) rfl))) (ty := .boolean) (by decide)
    refine own_go stN ?_
    show Run p.tables e below (TN.setTop (mkF m 185 #[.val (.int p0), .val (.int p1), .val (.int s3), .val (.int t0), .val (.int t1), .val (.int t2), .val (.int t3), .val (.ref a), .val (.int k0), .val (.int k1), .val (.int k2), .val (.int k3), .val (.int (own_add t3 k3 (own_add t2 k2 (own_add t1 k1 (own_add t0 k0 (0 : Int32)))))), .unset] [(.ref b)])) _
    refine own_go (fun _ => XS.dup XN.here hx rfl (hb hby at_185) rfl rfl) ?_
    show Run p.tables e below (TN.setTop (mkF m 186 #[.val (.int p0), .val (.int p1), .val (.int s3), .val (.int t0), .val (.int t1), .val (.int t2), .val (.int t3), .val (.ref a), .val (.int k0), .val (.int k1), .val (.int k2), .val (.int k3), .val (.int (own_add t3 k3 (own_add t2 k2 (own_add t1 k1 (own_add t0 k0 (0 : Int32)))))), .unset] [(.ref b), (.ref b)])) _
    refine own_go (fun _ => XS.iloadN XN.here hx rfl (hb hby at_186) rfl) ?_
    show Run p.tables e below (TN.setTop (mkF m 187 #[.val (.int p0), .val (.int p1), .val (.int s3), .val (.int t0), .val (.int t1), .val (.int t2), .val (.int t3), .val (.ref a), .val (.int k0), .val (.int k1), .val (.int k2), .val (.int k3), .val (.int (own_add t3 k3 (own_add t2 k2 (own_add t1 k1 (own_add t0 k0 (0 : Int32)))))), .unset] [(.int t0), (.ref b), (.ref b)])) _
    refine own_go (fun _ => XS.iload XN.here hx rfl (hb hby at_187) rfl) ?_
    show Run p.tables e below (TN.setTop (mkF m 189 #[.val (.int p0), .val (.int p1), .val (.int s3), .val (.int t0), .val (.int t1), .val (.int t2), .val (.int t3), .val (.ref a), .val (.int k0), .val (.int k1), .val (.int k2), .val (.int k3), .val (.int (own_add t3 k3 (own_add t2 k2 (own_add t1 k1 (own_add t0 k0 (0 : Int32)))))), .unset] [(.int t1), (.int t0), (.ref b), (.ref b)])) _
    refine own_go (fun _ => XS.iload XN.here hx rfl (hb hby at_189) rfl) ?_
    show Run p.tables e below (TN.setTop (mkF m 191 #[.val (.int p0), .val (.int p1), .val (.int s3), .val (.int t0), .val (.int t1), .val (.int t2), .val (.int t3), .val (.ref a), .val (.int k0), .val (.int k1), .val (.int k2), .val (.int k3), .val (.int (own_add t3 k3 (own_add t2 k2 (own_add t1 k1 (own_add t0 k0 (0 : Int32)))))), .unset] [(.int t2), (.int t1), (.int t0), (.ref b), (.ref b)])) _
    refine own_go (fun _ => XS.iload XN.here hx rfl (hb hby at_191) rfl) ?_
    show Run p.tables e below (TN.setTop (mkF m 193 #[.val (.int p0), .val (.int p1), .val (.int s3), .val (.int t0), .val (.int t1), .val (.int t2), .val (.int t3), .val (.ref a), .val (.int k0), .val (.int k1), .val (.int k2), .val (.int k3), .val (.int (own_add t3 k3 (own_add t2 k2 (own_add t1 k1 (own_add t0 k0 (0 : Int32)))))), .unset] [(.int t3), (.int t2), (.int t1), (.int t0), (.ref b), (.ref b)])) _
    obtain ⟨vk1, Tk1, Lk1, Xk1, ⟨rfl, NC, KC, B0, B1, B2, B3⟩, stk1⟩ := own_callI XN hx hZ hown rfl (hw _ (List.mem_of_getElem? (i := 7) rfl)) (hw _ (List.mem_of_getElem? (i := 8) rfl)) (hw _ (List.mem_of_getElem? (i := 9) rfl)) (hw _ (List.mem_of_getElem? (i := 6) rfl)) (by decide) eN (rm1 l Z a0 hw [] b t0 t1 t2 t3 hN n0 (Nat.le_trans Z0 (Nat.le_of_eq gb.symm)) AN FN0 FN1 FN2 FN3 c0 c1 c2 c3) (b := b) (g := (mkF m 193 #[.val (.int p0), .val (.int p1), .val (.int s3), .val (.int t0), .val (.int t1), .val (.int t2), .val (.int t3), .val (.ref a), .val (.int k0), .val (.int k1), .val (.int k2), .val (.int k3), .val (.int (own_add t3 k3 (own_add t2 k2 (own_add t1 k1 (own_add t0 k0 (0 : Int32)))))), .unset] [(.int t3), (.int t2), (.int t1), (.int t0), (.ref b), (.ref b)])) rfl (by rw [hml]; rfl) (argsL := [(.int t0), (.int t1), (.int t2), (.int t3)]) (rest := [(.ref b)]) own_pd1 rfl rfl rfl (W := 1) (by show 2 * 0 + _ ≤ _; exact Nat.le_of_eq rfl) (hb hby at_193) (by decide) (by decide) (by decide) (by decide)
    refine own_go stk1 ?_
    show Run p.tables e below (Tk1.setTop (mkF m 196 #[.val (.int p0), .val (.int p1), .val (.int s3), .val (.int t0), .val (.int t1), .val (.int t2), .val (.int t3), .val (.ref a), .val (.int k0), .val (.int k1), .val (.int k2), .val (.int k3), .val (.int (own_add t3 k3 (own_add t2 k2 (own_add t1 k1 (own_add t0 k0 (0 : Int32)))))), .unset] [(.ref b)])) _
    refine own_go (fun _ => XS.astore Xk1.here hx rfl (hb hby at_196) rfl rfl (l' := #[.val (.int p0), .val (.int p1), .val (.int s3), .val (.int t0), .val (.int t1), .val (.int t2), .val (.int t3), .val (.ref a), .val (.int k0), .val (.int k1), .val (.int k2), .val (.int k3), .val (.int (own_add t3 k3 (own_add t2 k2 (own_add t1 k1 (own_add t0 k0 (0 : Int32)))))), .val (.ref b)]) rfl) ?_
    show Run p.tables e below (Tk1.setTop (mkF m 198 #[.val (.int p0), .val (.int p1), .val (.int s3), .val (.int t0), .val (.int t1), .val (.int t2), .val (.int t3), .val (.ref a), .val (.int k0), .val (.int k1), .val (.int k2), .val (.int k3), .val (.int (own_add t3 k3 (own_add t2 k2 (own_add t1 k1 (own_add t0 k0 (0 : Int32)))))), .val (.ref b)] [])) _
    refine own_go (fun _ => XS.aload Xk1.here hx rfl (hb hby at_198) rfl rfl) ?_
    show Run p.tables e below (Tk1.setTop (mkF m 200 #[.val (.int p0), .val (.int p1), .val (.int s3), .val (.int t0), .val (.int t1), .val (.int t2), .val (.int t3), .val (.ref a), .val (.int k0), .val (.int k1), .val (.int k2), .val (.int k3), .val (.int (own_add t3 k3 (own_add t2 k2 (own_add t1 k1 (own_add t0 k0 (0 : Int32)))))), .val (.ref b)] [(.ref a)])) _
    refine own_go (fun _ => XS.aload Xk1.here hx rfl (hb hby at_200) rfl rfl) ?_
    show Run p.tables e below (Tk1.setTop (mkF m 202 #[.val (.int p0), .val (.int p1), .val (.int s3), .val (.int t0), .val (.int t1), .val (.int t2), .val (.int t3), .val (.ref a), .val (.int k0), .val (.int k1), .val (.int k2), .val (.int k3), .val (.int (own_add t3 k3 (own_add t2 k2 (own_add t1 k1 (own_add t0 k0 (0 : Int32)))))), .val (.ref b)] [(.ref b), (.ref a)])) _
    have EsC := (Es.ext EN).keep KC
    have GC0 := (G0.ext EN).keep KC (ninS ne nin0)
    have GC1 := (G1.ext EN).keep KC (ninS ne nin0)
    have GC2 := (G2.ext EN).keep KC (ninS ne nin0)
    have GC3 := (G3.ext EN).keep KC (ninS ne nin0)
    obtain ⟨vk2, Tk2, Lk2, Xk2, ⟨rfl, ek2, rfl⟩, stk2⟩ := own_callV Xk1 hx hZ hown (hw _ (List.mem_of_getElem? (i := 26) rfl)) (hw _ (List.mem_of_getElem? (i := 28) rfl)) (hw _ (List.mem_of_getElem? (i := 29) rfl)) (hw _ (List.mem_of_getElem? (i := 30) rfl)) (hw _ (List.mem_of_getElem? (i := 2) rfl)) (by decide) rfl (rm4 l Z a0 hw [] a b t0 t1 t2 t3 k0 k1 k2 k3 Tk1.heap GC0 GC1 GC2 GC3 B0 B1 B2 B3) EsC (g := (mkF m 202 #[.val (.int p0), .val (.int p1), .val (.int s3), .val (.int t0), .val (.int t1), .val (.int t2), .val (.int t3), .val (.ref a), .val (.int k0), .val (.int k1), .val (.int k2), .val (.int k3), .val (.int (own_add t3 k3 (own_add t2 k2 (own_add t1 k1 (own_add t0 k0 (0 : Int32)))))), .val (.ref b)] [(.ref b), (.ref a)])) rfl (by rw [hml]; rfl) (argsL := [(.ref b)]) (rest := []) own_pd4 rfl rfl rfl (W := 0) (by show 2 * 0 + _ ≤ _; exact Nat.le_of_eq rfl) (hb hby at_202) (by decide) (by decide) (by decide) (by decide)
    refine own_go stk2 ?_
    show Run p.tables e below (Tk2.setTop (mkF m 205 #[.val (.int p0), .val (.int p1), .val (.int s3), .val (.int t0), .val (.int t1), .val (.int t2), .val (.int t3), .val (.ref a), .val (.int k0), .val (.int k1), .val (.int k2), .val (.int k3), .val (.int (own_add t3 k3 (own_add t2 k2 (own_add t1 k1 (own_add t0 k0 (0 : Int32)))))), .val (.ref b)] [(.int (own_or4 t0 t1 t2 t3 k0 k1 k2 k3))])) _
    refine own_go (fun _ => XS.iload Xk2.here hx rfl (hb hby at_205) rfl) ?_
    show Run p.tables e below (Tk2.setTop (mkF m 207 #[.val (.int p0), .val (.int p1), .val (.int s3), .val (.int t0), .val (.int t1), .val (.int t2), .val (.int t3), .val (.ref a), .val (.int k0), .val (.int k1), .val (.int k2), .val (.int k3), .val (.int (own_add t3 k3 (own_add t2 k2 (own_add t1 k1 (own_add t0 k0 (0 : Int32)))))), .val (.ref b)] [(.int (own_add t3 k3 (own_add t2 k2 (own_add t1 k1 (own_add t0 k0 (0 : Int32)))))), (.int (own_or4 t0 t1 t2 t3 k0 k1 k2 k3))])) _
    refine own_go (fun _ => XS.icmpNo Xk2.here hx rfl (hb hby at_207) rfl (XT.ii_ne_f (own_sum c0 c1 c2 c3 hk))) ?_
    show Run p.tables e below (Tk2.setTop (mkF m 210 #[.val (.int p0), .val (.int p1), .val (.int s3), .val (.int t0), .val (.int t1), .val (.int t2), .val (.int t3), .val (.ref a), .val (.int k0), .val (.int k1), .val (.int k2), .val (.int k3), .val (.int (own_add t3 k3 (own_add t2 k2 (own_add t1 k1 (own_add t0 k0 (0 : Int32)))))), .val (.ref b)] [])) _
    refine own_go (fun _ => XS.iconst Xk2.here hx rfl (hb hby at_210)) ?_
    show Run p.tables e below (Tk2.setTop (mkF m 211 #[.val (.int p0), .val (.int p1), .val (.int s3), .val (.int t0), .val (.int t1), .val (.int t2), .val (.int t3), .val (.ref a), .val (.int k0), .val (.int k1), .val (.int k2), .val (.int k3), .val (.int (own_add t3 k3 (own_add t2 k2 (own_add t1 k1 (own_add t0 k0 (0 : Int32)))))), .val (.ref b)] [(.int (1 : Int32))])) _
    refine own_go (fun _ => XS.goto Xk2.here hx rfl (pc0 := 211) (pc' := 215) rfl (hb hby at_211) (by decide) (by decide)) ?_
    show Run p.tables e below (Tk2.setTop (mkF m 215 #[.val (.int p0), .val (.int p1), .val (.int s3), .val (.int t0), .val (.int t1), .val (.int t2), .val (.int t3), .val (.ref a), .val (.int k0), .val (.int k1), .val (.int k2), .val (.int k3), .val (.int (own_add t3 k3 (own_add t2 k2 (own_add t1 k1 (own_add t0 k0 (0 : Int32)))))), .val (.ref b)] [(.int (1 : Int32))])) _
    simp only [List.append_nil, List.nil_append] at Xk2
    exact own_out Xk2 (v := some (.int (1 : Int32))) (fun q => by rw [hret] at q; cases q) hlk (fun fs hr => retN Xk2 hx (t := .boolean) hret (by simp) (hb hby at_215) hr) ⟨rfl, NC⟩ (by decide) (by decide)
  have JE3 : ∀ (T : State) (X : Stand p l e room_1 s m #[(.int p0), (.int p1)] below meth c T [] 0 0) (eT : T.heap = h0) (a : Addr) (k0 k1 k2 k3 : Int32) (Kd : own_Sd Z h0 a k0 k1 k2 k3) (hk : own_three k0 k1 k2 k3), Run p.tables e below (T.setTop (mkF m 170 #[.val (.int p0), .val (.int p1), .val (.int s3), .val (.int t0), .val (.int t1), .val (.int t2), .val (.int t3), .val (.ref a), .val (.int k0), .val (.int k1), .val (.int k2), .val (.int k3), .val (.int (own_add t2 k2 (own_add t1 k1 (own_add t0 k0 (0 : Int32))))), .unset] [])) (OwnFin s below (own_Q0 n0) room_1.cells room_1.slots) := by
    intro T X eT a k0 k1 k2 k3 Kd hk
    show Run p.tables e below (T.setTop (mkF m 170 #[.val (.int p0), .val (.int p1), .val (.int s3), .val (.int t0), .val (.int t1), .val (.int t2), .val (.int t3), .val (.ref a), .val (.int k0), .val (.int k1), .val (.int k2), .val (.int k3), .val (.int (own_add t2 k2 (own_add t1 k1 (own_add t0 k0 (0 : Int32))))), .unset] [])) _
    refine own_go (fun _ => XS.iload X.here hx rfl (hb hby at_170) rfl) ?_
    show Run p.tables e below (T.setTop (mkF m 172 #[.val (.int p0), .val (.int p1), .val (.int s3), .val (.int t0), .val (.int t1), .val (.int t2), .val (.int t3), .val (.ref a), .val (.int k0), .val (.int k1), .val (.int k2), .val (.int k3), .val (.int (own_add t2 k2 (own_add t1 k1 (own_add t0 k0 (0 : Int32))))), .unset] [(.int t3)])) _
    have nx := JE T X eT a k0 k1 k2 k3 Kd hk
    by_cases q : t3 = 0
    · show Run p.tables e below (T.setTop (mkF m 172 #[.val (.int p0), .val (.int p1), .val (.int s3), .val (.int t0), .val (.int t1), .val (.int t2), .val (.int t3), .val (.ref a), .val (.int k0), .val (.int k1), .val (.int k2), .val (.int k3), .val (.int (own_add t2 k2 (own_add t1 k1 (own_add t0 k0 (0 : Int32))))), .unset] [(.int t3)])) _
      refine own_go (fun _ => XS.ifYes X.here hx rfl (pc0 := 172) (pc' := 182) rfl (hb hby at_172) rfl (XT.i0_eq_t q) (by decide) (by decide)) ?_
      show Run p.tables e below (T.setTop (mkF m 182 #[.val (.int p0), .val (.int p1), .val (.int s3), .val (.int t0), .val (.int t1), .val (.int t2), .val (.int t3), .val (.ref a), .val (.int k0), .val (.int k1), .val (.int k2), .val (.int k3), .val (.int (own_add t2 k2 (own_add t1 k1 (own_add t0 k0 (0 : Int32))))), .unset] [])) _
      rw [show (own_add t3 k3 (own_add t2 k2 (own_add t1 k1 (own_add t0 k0 (0 : Int32))))) = (own_add t2 k2 (own_add t1 k1 (own_add t0 k0 (0 : Int32)))) from if_pos q] at nx
      exact nx
    · show Run p.tables e below (T.setTop (mkF m 172 #[.val (.int p0), .val (.int p1), .val (.int s3), .val (.int t0), .val (.int t1), .val (.int t2), .val (.int t3), .val (.ref a), .val (.int k0), .val (.int k1), .val (.int k2), .val (.int k3), .val (.int (own_add t2 k2 (own_add t1 k1 (own_add t0 k0 (0 : Int32))))), .unset] [(.int t3)])) _
      refine own_go (fun _ => XS.ifNo X.here hx rfl (hb hby at_172) rfl (XT.i0_eq_f q)) ?_
      show Run p.tables e below (T.setTop (mkF m 175 #[.val (.int p0), .val (.int p1), .val (.int s3), .val (.int t0), .val (.int t1), .val (.int t2), .val (.int t3), .val (.ref a), .val (.int k0), .val (.int k1), .val (.int k2), .val (.int k3), .val (.int (own_add t2 k2 (own_add t1 k1 (own_add t0 k0 (0 : Int32))))), .unset] [])) _
      refine own_go (fun _ => XS.iload X.here hx rfl (hb hby at_175) rfl) ?_
      show Run p.tables e below (T.setTop (mkF m 177 #[.val (.int p0), .val (.int p1), .val (.int s3), .val (.int t0), .val (.int t1), .val (.int t2), .val (.int t3), .val (.ref a), .val (.int k0), .val (.int k1), .val (.int k2), .val (.int k3), .val (.int (own_add t2 k2 (own_add t1 k1 (own_add t0 k0 (0 : Int32))))), .unset] [(.int (own_add t2 k2 (own_add t1 k1 (own_add t0 k0 (0 : Int32)))))])) _
      refine own_go (fun _ => XS.iload X.here hx rfl (hb hby at_177) rfl) ?_
      show Run p.tables e below (T.setTop (mkF m 179 #[.val (.int p0), .val (.int p1), .val (.int s3), .val (.int t0), .val (.int t1), .val (.int t2), .val (.int t3), .val (.ref a), .val (.int k0), .val (.int k1), .val (.int k2), .val (.int k3), .val (.int (own_add t2 k2 (own_add t1 k1 (own_add t0 k0 (0 : Int32))))), .unset] [(.int k3), (.int (own_add t2 k2 (own_add t1 k1 (own_add t0 k0 (0 : Int32)))))])) _
      refine own_go (fun _ => XS.iadd X.here hx rfl (hb hby at_179) rfl) ?_
      show Run p.tables e below (T.setTop (mkF m 180 #[.val (.int p0), .val (.int p1), .val (.int s3), .val (.int t0), .val (.int t1), .val (.int t2), .val (.int t3), .val (.ref a), .val (.int k0), .val (.int k1), .val (.int k2), .val (.int k3), .val (.int (own_add t2 k2 (own_add t1 k1 (own_add t0 k0 (0 : Int32))))), .unset] [(.int ((own_add t2 k2 (own_add t1 k1 (own_add t0 k0 (0 : Int32)))) + k3))])) _
      refine own_go (fun _ => XS.istore X.here hx rfl (hb hby at_180) rfl (l' := #[.val (.int p0), .val (.int p1), .val (.int s3), .val (.int t0), .val (.int t1), .val (.int t2), .val (.int t3), .val (.ref a), .val (.int k0), .val (.int k1), .val (.int k2), .val (.int k3), .val (.int ((own_add t2 k2 (own_add t1 k1 (own_add t0 k0 (0 : Int32)))) + k3)), .unset]) rfl) ?_
      show Run p.tables e below (T.setTop (mkF m 182 #[.val (.int p0), .val (.int p1), .val (.int s3), .val (.int t0), .val (.int t1), .val (.int t2), .val (.int t3), .val (.ref a), .val (.int k0), .val (.int k1), .val (.int k2), .val (.int k3), .val (.int ((own_add t2 k2 (own_add t1 k1 (own_add t0 k0 (0 : Int32)))) + k3)), .unset] [])) _
      rw [show (own_add t3 k3 (own_add t2 k2 (own_add t1 k1 (own_add t0 k0 (0 : Int32))))) = (own_add t2 k2 (own_add t1 k1 (own_add t0 k0 (0 : Int32)))) + k3 from if_neg q] at nx
      exact nx
  have JE2 : ∀ (T : State) (X : Stand p l e room_1 s m #[(.int p0), (.int p1)] below meth c T [] 0 0) (eT : T.heap = h0) (a : Addr) (k0 k1 k2 k3 : Int32) (Kd : own_Sd Z h0 a k0 k1 k2 k3) (hk : own_three k0 k1 k2 k3), Run p.tables e below (T.setTop (mkF m 158 #[.val (.int p0), .val (.int p1), .val (.int s3), .val (.int t0), .val (.int t1), .val (.int t2), .val (.int t3), .val (.ref a), .val (.int k0), .val (.int k1), .val (.int k2), .val (.int k3), .val (.int (own_add t1 k1 (own_add t0 k0 (0 : Int32)))), .unset] [])) (OwnFin s below (own_Q0 n0) room_1.cells room_1.slots) := by
    intro T X eT a k0 k1 k2 k3 Kd hk
    show Run p.tables e below (T.setTop (mkF m 158 #[.val (.int p0), .val (.int p1), .val (.int s3), .val (.int t0), .val (.int t1), .val (.int t2), .val (.int t3), .val (.ref a), .val (.int k0), .val (.int k1), .val (.int k2), .val (.int k3), .val (.int (own_add t1 k1 (own_add t0 k0 (0 : Int32)))), .unset] [])) _
    refine own_go (fun _ => XS.iload X.here hx rfl (hb hby at_158) rfl) ?_
    show Run p.tables e below (T.setTop (mkF m 160 #[.val (.int p0), .val (.int p1), .val (.int s3), .val (.int t0), .val (.int t1), .val (.int t2), .val (.int t3), .val (.ref a), .val (.int k0), .val (.int k1), .val (.int k2), .val (.int k3), .val (.int (own_add t1 k1 (own_add t0 k0 (0 : Int32)))), .unset] [(.int t2)])) _
    have nx := JE3 T X eT a k0 k1 k2 k3 Kd hk
    by_cases q : t2 = 0
    · show Run p.tables e below (T.setTop (mkF m 160 #[.val (.int p0), .val (.int p1), .val (.int s3), .val (.int t0), .val (.int t1), .val (.int t2), .val (.int t3), .val (.ref a), .val (.int k0), .val (.int k1), .val (.int k2), .val (.int k3), .val (.int (own_add t1 k1 (own_add t0 k0 (0 : Int32)))), .unset] [(.int t2)])) _
      refine own_go (fun _ => XS.ifYes X.here hx rfl (pc0 := 160) (pc' := 170) rfl (hb hby at_160) rfl (XT.i0_eq_t q) (by decide) (by decide)) ?_
      show Run p.tables e below (T.setTop (mkF m 170 #[.val (.int p0), .val (.int p1), .val (.int s3), .val (.int t0), .val (.int t1), .val (.int t2), .val (.int t3), .val (.ref a), .val (.int k0), .val (.int k1), .val (.int k2), .val (.int k3), .val (.int (own_add t1 k1 (own_add t0 k0 (0 : Int32)))), .unset] [])) _
      rw [show (own_add t2 k2 (own_add t1 k1 (own_add t0 k0 (0 : Int32)))) = (own_add t1 k1 (own_add t0 k0 (0 : Int32))) from if_pos q] at nx
      exact nx
    · show Run p.tables e below (T.setTop (mkF m 160 #[.val (.int p0), .val (.int p1), .val (.int s3), .val (.int t0), .val (.int t1), .val (.int t2), .val (.int t3), .val (.ref a), .val (.int k0), .val (.int k1), .val (.int k2), .val (.int k3), .val (.int (own_add t1 k1 (own_add t0 k0 (0 : Int32)))), .unset] [(.int t2)])) _
      refine own_go (fun _ => XS.ifNo X.here hx rfl (hb hby at_160) rfl (XT.i0_eq_f q)) ?_
      show Run p.tables e below (T.setTop (mkF m 163 #[.val (.int p0), .val (.int p1), .val (.int s3), .val (.int t0), .val (.int t1), .val (.int t2), .val (.int t3), .val (.ref a), .val (.int k0), .val (.int k1), .val (.int k2), .val (.int k3), .val (.int (own_add t1 k1 (own_add t0 k0 (0 : Int32)))), .unset] [])) _
      refine own_go (fun _ => XS.iload X.here hx rfl (hb hby at_163) rfl) ?_
      show Run p.tables e below (T.setTop (mkF m 165 #[.val (.int p0), .val (.int p1), .val (.int s3), .val (.int t0), .val (.int t1), .val (.int t2), .val (.int t3), .val (.ref a), .val (.int k0), .val (.int k1), .val (.int k2), .val (.int k3), .val (.int (own_add t1 k1 (own_add t0 k0 (0 : Int32)))), .unset] [(.int (own_add t1 k1 (own_add t0 k0 (0 : Int32))))])) _
      refine own_go (fun _ => XS.iload X.here hx rfl (hb hby at_165) rfl) ?_
      show Run p.tables e below (T.setTop (mkF m 167 #[.val (.int p0), .val (.int p1), .val (.int s3), .val (.int t0), .val (.int t1), .val (.int t2), .val (.int t3), .val (.ref a), .val (.int k0), .val (.int k1), .val (.int k2), .val (.int k3), .val (.int (own_add t1 k1 (own_add t0 k0 (0 : Int32)))), .unset] [(.int k2), (.int (own_add t1 k1 (own_add t0 k0 (0 : Int32))))])) _
      refine own_go (fun _ => XS.iadd X.here hx rfl (hb hby at_167) rfl) ?_
      show Run p.tables e below (T.setTop (mkF m 168 #[.val (.int p0), .val (.int p1), .val (.int s3), .val (.int t0), .val (.int t1), .val (.int t2), .val (.int t3), .val (.ref a), .val (.int k0), .val (.int k1), .val (.int k2), .val (.int k3), .val (.int (own_add t1 k1 (own_add t0 k0 (0 : Int32)))), .unset] [(.int ((own_add t1 k1 (own_add t0 k0 (0 : Int32))) + k2))])) _
      refine own_go (fun _ => XS.istore X.here hx rfl (hb hby at_168) rfl (l' := #[.val (.int p0), .val (.int p1), .val (.int s3), .val (.int t0), .val (.int t1), .val (.int t2), .val (.int t3), .val (.ref a), .val (.int k0), .val (.int k1), .val (.int k2), .val (.int k3), .val (.int ((own_add t1 k1 (own_add t0 k0 (0 : Int32))) + k2)), .unset]) rfl) ?_
      show Run p.tables e below (T.setTop (mkF m 170 #[.val (.int p0), .val (.int p1), .val (.int s3), .val (.int t0), .val (.int t1), .val (.int t2), .val (.int t3), .val (.ref a), .val (.int k0), .val (.int k1), .val (.int k2), .val (.int k3), .val (.int ((own_add t1 k1 (own_add t0 k0 (0 : Int32))) + k2)), .unset] [])) _
      rw [show (own_add t2 k2 (own_add t1 k1 (own_add t0 k0 (0 : Int32)))) = (own_add t1 k1 (own_add t0 k0 (0 : Int32))) + k2 from if_neg q] at nx
      exact nx
  have JE1 : ∀ (T : State) (X : Stand p l e room_1 s m #[(.int p0), (.int p1)] below meth c T [] 0 0) (eT : T.heap = h0) (a : Addr) (k0 k1 k2 k3 : Int32) (Kd : own_Sd Z h0 a k0 k1 k2 k3) (hk : own_three k0 k1 k2 k3), Run p.tables e below (T.setTop (mkF m 146 #[.val (.int p0), .val (.int p1), .val (.int s3), .val (.int t0), .val (.int t1), .val (.int t2), .val (.int t3), .val (.ref a), .val (.int k0), .val (.int k1), .val (.int k2), .val (.int k3), .val (.int (own_add t0 k0 (0 : Int32))), .unset] [])) (OwnFin s below (own_Q0 n0) room_1.cells room_1.slots) := by
    intro T X eT a k0 k1 k2 k3 Kd hk
    show Run p.tables e below (T.setTop (mkF m 146 #[.val (.int p0), .val (.int p1), .val (.int s3), .val (.int t0), .val (.int t1), .val (.int t2), .val (.int t3), .val (.ref a), .val (.int k0), .val (.int k1), .val (.int k2), .val (.int k3), .val (.int (own_add t0 k0 (0 : Int32))), .unset] [])) _
    refine own_go (fun _ => XS.iload X.here hx rfl (hb hby at_146) rfl) ?_
    show Run p.tables e below (T.setTop (mkF m 148 #[.val (.int p0), .val (.int p1), .val (.int s3), .val (.int t0), .val (.int t1), .val (.int t2), .val (.int t3), .val (.ref a), .val (.int k0), .val (.int k1), .val (.int k2), .val (.int k3), .val (.int (own_add t0 k0 (0 : Int32))), .unset] [(.int t1)])) _
    have nx := JE2 T X eT a k0 k1 k2 k3 Kd hk
    by_cases q : t1 = 0
    · show Run p.tables e below (T.setTop (mkF m 148 #[.val (.int p0), .val (.int p1), .val (.int s3), .val (.int t0), .val (.int t1), .val (.int t2), .val (.int t3), .val (.ref a), .val (.int k0), .val (.int k1), .val (.int k2), .val (.int k3), .val (.int (own_add t0 k0 (0 : Int32))), .unset] [(.int t1)])) _
      refine own_go (fun _ => XS.ifYes X.here hx rfl (pc0 := 148) (pc' := 158) rfl (hb hby at_148) rfl (XT.i0_eq_t q) (by decide) (by decide)) ?_
      show Run p.tables e below (T.setTop (mkF m 158 #[.val (.int p0), .val (.int p1), .val (.int s3), .val (.int t0), .val (.int t1), .val (.int t2), .val (.int t3), .val (.ref a), .val (.int k0), .val (.int k1), .val (.int k2), .val (.int k3), .val (.int (own_add t0 k0 (0 : Int32))), .unset] [])) _
      rw [show (own_add t1 k1 (own_add t0 k0 (0 : Int32))) = (own_add t0 k0 (0 : Int32)) from if_pos q] at nx
      exact nx
    · show Run p.tables e below (T.setTop (mkF m 148 #[.val (.int p0), .val (.int p1), .val (.int s3), .val (.int t0), .val (.int t1), .val (.int t2), .val (.int t3), .val (.ref a), .val (.int k0), .val (.int k1), .val (.int k2), .val (.int k3), .val (.int (own_add t0 k0 (0 : Int32))), .unset] [(.int t1)])) _
      refine own_go (fun _ => XS.ifNo X.here hx rfl (hb hby at_148) rfl (XT.i0_eq_f q)) ?_
      show Run p.tables e below (T.setTop (mkF m 151 #[.val (.int p0), .val (.int p1), .val (.int s3), .val (.int t0), .val (.int t1), .val (.int t2), .val (.int t3), .val (.ref a), .val (.int k0), .val (.int k1), .val (.int k2), .val (.int k3), .val (.int (own_add t0 k0 (0 : Int32))), .unset] [])) _
      refine own_go (fun _ => XS.iload X.here hx rfl (hb hby at_151) rfl) ?_
      show Run p.tables e below (T.setTop (mkF m 153 #[.val (.int p0), .val (.int p1), .val (.int s3), .val (.int t0), .val (.int t1), .val (.int t2), .val (.int t3), .val (.ref a), .val (.int k0), .val (.int k1), .val (.int k2), .val (.int k3), .val (.int (own_add t0 k0 (0 : Int32))), .unset] [(.int (own_add t0 k0 (0 : Int32)))])) _
      refine own_go (fun _ => XS.iload X.here hx rfl (hb hby at_153) rfl) ?_
      show Run p.tables e below (T.setTop (mkF m 155 #[.val (.int p0), .val (.int p1), .val (.int s3), .val (.int t0), .val (.int t1), .val (.int t2), .val (.int t3), .val (.ref a), .val (.int k0), .val (.int k1), .val (.int k2), .val (.int k3), .val (.int (own_add t0 k0 (0 : Int32))), .unset] [(.int k1), (.int (own_add t0 k0 (0 : Int32)))])) _
      refine own_go (fun _ => XS.iadd X.here hx rfl (hb hby at_155) rfl) ?_
      show Run p.tables e below (T.setTop (mkF m 156 #[.val (.int p0), .val (.int p1), .val (.int s3), .val (.int t0), .val (.int t1), .val (.int t2), .val (.int t3), .val (.ref a), .val (.int k0), .val (.int k1), .val (.int k2), .val (.int k3), .val (.int (own_add t0 k0 (0 : Int32))), .unset] [(.int ((own_add t0 k0 (0 : Int32)) + k1))])) _
      refine own_go (fun _ => XS.istore X.here hx rfl (hb hby at_156) rfl (l' := #[.val (.int p0), .val (.int p1), .val (.int s3), .val (.int t0), .val (.int t1), .val (.int t2), .val (.int t3), .val (.ref a), .val (.int k0), .val (.int k1), .val (.int k2), .val (.int k3), .val (.int ((own_add t0 k0 (0 : Int32)) + k1)), .unset]) rfl) ?_
      show Run p.tables e below (T.setTop (mkF m 158 #[.val (.int p0), .val (.int p1), .val (.int s3), .val (.int t0), .val (.int t1), .val (.int t2), .val (.int t3), .val (.ref a), .val (.int k0), .val (.int k1), .val (.int k2), .val (.int k3), .val (.int ((own_add t0 k0 (0 : Int32)) + k1)), .unset] [])) _
      rw [show (own_add t1 k1 (own_add t0 k0 (0 : Int32))) = (own_add t0 k0 (0 : Int32)) + k1 from if_neg q] at nx
      exact nx
  have JE0 : ∀ (T : State) (X : Stand p l e room_1 s m #[(.int p0), (.int p1)] below meth c T [] 0 0) (eT : T.heap = h0) (a : Addr) (k0 k1 k2 k3 : Int32) (Kd : own_Sd Z h0 a k0 k1 k2 k3) (hk : own_three k0 k1 k2 k3), Run p.tables e below (T.setTop (mkF m 135 #[.val (.int p0), .val (.int p1), .val (.int s3), .val (.int t0), .val (.int t1), .val (.int t2), .val (.int t3), .val (.ref a), .val (.int k0), .val (.int k1), .val (.int k2), .val (.int k3), .val (.int (0 : Int32)), .unset] [])) (OwnFin s below (own_Q0 n0) room_1.cells room_1.slots) := by
    intro T X eT a k0 k1 k2 k3 Kd hk
    show Run p.tables e below (T.setTop (mkF m 135 #[.val (.int p0), .val (.int p1), .val (.int s3), .val (.int t0), .val (.int t1), .val (.int t2), .val (.int t3), .val (.ref a), .val (.int k0), .val (.int k1), .val (.int k2), .val (.int k3), .val (.int (0 : Int32)), .unset] [])) _
    refine own_go (fun _ => XS.iloadN X.here hx rfl (hb hby at_135) rfl) ?_
    show Run p.tables e below (T.setTop (mkF m 136 #[.val (.int p0), .val (.int p1), .val (.int s3), .val (.int t0), .val (.int t1), .val (.int t2), .val (.int t3), .val (.ref a), .val (.int k0), .val (.int k1), .val (.int k2), .val (.int k3), .val (.int (0 : Int32)), .unset] [(.int t0)])) _
    have nx := JE1 T X eT a k0 k1 k2 k3 Kd hk
    by_cases q : t0 = 0
    · show Run p.tables e below (T.setTop (mkF m 136 #[.val (.int p0), .val (.int p1), .val (.int s3), .val (.int t0), .val (.int t1), .val (.int t2), .val (.int t3), .val (.ref a), .val (.int k0), .val (.int k1), .val (.int k2), .val (.int k3), .val (.int (0 : Int32)), .unset] [(.int t0)])) _
      refine own_go (fun _ => XS.ifYes X.here hx rfl (pc0 := 136) (pc' := 146) rfl (hb hby at_136) rfl (XT.i0_eq_t q) (by decide) (by decide)) ?_
      show Run p.tables e below (T.setTop (mkF m 146 #[.val (.int p0), .val (.int p1), .val (.int s3), .val (.int t0), .val (.int t1), .val (.int t2), .val (.int t3), .val (.ref a), .val (.int k0), .val (.int k1), .val (.int k2), .val (.int k3), .val (.int (0 : Int32)), .unset] [])) _
      rw [show (own_add t0 k0 (0 : Int32)) = (0 : Int32) from if_pos q] at nx
      exact nx
    · show Run p.tables e below (T.setTop (mkF m 136 #[.val (.int p0), .val (.int p1), .val (.int s3), .val (.int t0), .val (.int t1), .val (.int t2), .val (.int t3), .val (.ref a), .val (.int k0), .val (.int k1), .val (.int k2), .val (.int k3), .val (.int (0 : Int32)), .unset] [(.int t0)])) _
      refine own_go (fun _ => XS.ifNo X.here hx rfl (hb hby at_136) rfl (XT.i0_eq_f q)) ?_
      show Run p.tables e below (T.setTop (mkF m 139 #[.val (.int p0), .val (.int p1), .val (.int s3), .val (.int t0), .val (.int t1), .val (.int t2), .val (.int t3), .val (.ref a), .val (.int k0), .val (.int k1), .val (.int k2), .val (.int k3), .val (.int (0 : Int32)), .unset] [])) _
      refine own_go (fun _ => XS.iload X.here hx rfl (hb hby at_139) rfl) ?_
      show Run p.tables e below (T.setTop (mkF m 141 #[.val (.int p0), .val (.int p1), .val (.int s3), .val (.int t0), .val (.int t1), .val (.int t2), .val (.int t3), .val (.ref a), .val (.int k0), .val (.int k1), .val (.int k2), .val (.int k3), .val (.int (0 : Int32)), .unset] [(.int (0 : Int32))])) _
      refine own_go (fun _ => XS.iload X.here hx rfl (hb hby at_141) rfl) ?_
      show Run p.tables e below (T.setTop (mkF m 143 #[.val (.int p0), .val (.int p1), .val (.int s3), .val (.int t0), .val (.int t1), .val (.int t2), .val (.int t3), .val (.ref a), .val (.int k0), .val (.int k1), .val (.int k2), .val (.int k3), .val (.int (0 : Int32)), .unset] [(.int k0), (.int (0 : Int32))])) _
      refine own_go (fun _ => XS.iadd X.here hx rfl (hb hby at_143) rfl) ?_
      show Run p.tables e below (T.setTop (mkF m 144 #[.val (.int p0), .val (.int p1), .val (.int s3), .val (.int t0), .val (.int t1), .val (.int t2), .val (.int t3), .val (.ref a), .val (.int k0), .val (.int k1), .val (.int k2), .val (.int k3), .val (.int (0 : Int32)), .unset] [(.int ((0 : Int32) + k0))])) _
      refine own_go (fun _ => XS.istore X.here hx rfl (hb hby at_144) rfl (l' := #[.val (.int p0), .val (.int p1), .val (.int s3), .val (.int t0), .val (.int t1), .val (.int t2), .val (.int t3), .val (.ref a), .val (.int k0), .val (.int k1), .val (.int k2), .val (.int k3), .val (.int ((0 : Int32) + k0)), .unset]) rfl) ?_
      show Run p.tables e below (T.setTop (mkF m 146 #[.val (.int p0), .val (.int p1), .val (.int s3), .val (.int t0), .val (.int t1), .val (.int t2), .val (.int t3), .val (.ref a), .val (.int k0), .val (.int k1), .val (.int k2), .val (.int k3), .val (.int ((0 : Int32) + k0)), .unset] [])) _
      rw [show (own_add t0 k0 (0 : Int32)) = (0 : Int32) + k0 from if_neg q] at nx
      exact nx
  have JC : Run p.tables e below (s₁.setTop (mkF m 59 #[.val (.int p0), .val (.int p1), .val (.int s3), .val (.int t0), .val (.int t1), .val (.int t2), .val (.int t3), .unset, .unset, .unset, .unset, .unset, .unset, .unset] [])) (OwnFin s below (own_Q0 n0) room_1.cells room_1.slots) := by
    show Run p.tables e below (s₁.setTop (mkF m 59 #[.val (.int p0), .val (.int p1), .val (.int s3), .val (.int t0), .val (.int t1), .val (.int t2), .val (.int t3), .unset, .unset, .unset, .unset, .unset, .unset, .unset] [])) _
    refine own_go (fun _ => XS.iloadN X0.here hx rfl (hb hby at_59) rfl) ?_
    show Run p.tables e below (s₁.setTop (mkF m 60 #[.val (.int p0), .val (.int p1), .val (.int s3), .val (.int t0), .val (.int t1), .val (.int t2), .val (.int t3), .unset, .unset, .unset, .unset, .unset, .unset, .unset] [(.int s3)])) _
    by_cases q0 : s3 = 0
    · show Run p.tables e below (s₁.setTop (mkF m 60 #[.val (.int p0), .val (.int p1), .val (.int s3), .val (.int t0), .val (.int t1), .val (.int t2), .val (.int t3), .unset, .unset, .unset, .unset, .unset, .unset, .unset] [(.int s3)])) _
      refine own_go (fun _ => XS.ifNo X0.here hx rfl (hb hby at_60) rfl (XT.i0_ne_f q0)) ?_
      show Run p.tables e below (s₁.setTop (mkF m 63 #[.val (.int p0), .val (.int p1), .val (.int s3), .val (.int t0), .val (.int t1), .val (.int t2), .val (.int t3), .unset, .unset, .unset, .unset, .unset, .unset, .unset] [])) _
      obtain ⟨Tk3, Xk3, ek3, stk3⟩ := getS X0 hx hZ hown (host := "") (hw _ (List.mem_of_getElem? (i := 1) rfl)) Via.refl e0 S_ELEMENTS (g := (mkF m 63 #[.val (.int p0), .val (.int p1), .val (.int s3), .val (.int t0), .val (.int t1), .val (.int t2), .val (.int t3), .unset, .unset, .unset, .unset, .unset, .unset, .unset] [])) rfl (hb hby at_63)
      refine own_go stk3 ?_
      show Run p.tables e below (Tk3.setTop (mkF m 66 #[.val (.int p0), .val (.int p1), .val (.int s3), .val (.int t0), .val (.int t1), .val (.int t2), .val (.int t3), .unset, .unset, .unset, .unset, .unset, .unset, .unset] [(.ref a_ELEMENTS)])) _
      refine own_go (fun _ => XS.astore Xk3.here hx rfl (hb hby at_66) rfl rfl (l' := #[.val (.int p0), .val (.int p1), .val (.int s3), .val (.int t0), .val (.int t1), .val (.int t2), .val (.int t3), .val (.ref a_ELEMENTS), .unset, .unset, .unset, .unset, .unset, .unset]) rfl) ?_
      show Run p.tables e below (Tk3.setTop (mkF m 68 #[.val (.int p0), .val (.int p1), .val (.int s3), .val (.int t0), .val (.int t1), .val (.int t2), .val (.int t3), .val (.ref a_ELEMENTS), .unset, .unset, .unset, .unset, .unset, .unset] [])) _
      refine own_go (fun _ => XS.iconst Xk3.here hx rfl (hb hby at_68)) ?_
      show Run p.tables e below (Tk3.setTop (mkF m 69 #[.val (.int p0), .val (.int p1), .val (.int s3), .val (.int t0), .val (.int t1), .val (.int t2), .val (.int t3), .val (.ref a_ELEMENTS), .unset, .unset, .unset, .unset, .unset, .unset] [(.int (1 : Int32))])) _
      refine own_go (fun _ => XS.istore Xk3.here hx rfl (hb hby at_69) rfl (l' := #[.val (.int p0), .val (.int p1), .val (.int s3), .val (.int t0), .val (.int t1), .val (.int t2), .val (.int t3), .val (.ref a_ELEMENTS), .val (.int (1 : Int32)), .unset, .unset, .unset, .unset, .unset]) rfl) ?_
      show Run p.tables e below (Tk3.setTop (mkF m 71 #[.val (.int p0), .val (.int p1), .val (.int s3), .val (.int t0), .val (.int t1), .val (.int t2), .val (.int t3), .val (.ref a_ELEMENTS), .val (.int (1 : Int32)), .unset, .unset, .unset, .unset, .unset] [])) _
      refine own_go (fun _ => XS.iconst Xk3.here hx rfl (hb hby at_71)) ?_
      show Run p.tables e below (Tk3.setTop (mkF m 72 #[.val (.int p0), .val (.int p1), .val (.int s3), .val (.int t0), .val (.int t1), .val (.int t2), .val (.int t3), .val (.ref a_ELEMENTS), .val (.int (1 : Int32)), .unset, .unset, .unset, .unset, .unset] [(.int (2 : Int32))])) _
      refine own_go (fun _ => XS.istore Xk3.here hx rfl (hb hby at_72) rfl (l' := #[.val (.int p0), .val (.int p1), .val (.int s3), .val (.int t0), .val (.int t1), .val (.int t2), .val (.int t3), .val (.ref a_ELEMENTS), .val (.int (1 : Int32)), .val (.int (2 : Int32)), .unset, .unset, .unset, .unset]) rfl) ?_
      show Run p.tables e below (Tk3.setTop (mkF m 74 #[.val (.int p0), .val (.int p1), .val (.int s3), .val (.int t0), .val (.int t1), .val (.int t2), .val (.int t3), .val (.ref a_ELEMENTS), .val (.int (1 : Int32)), .val (.int (2 : Int32)), .unset, .unset, .unset, .unset] [])) _
      refine own_go (fun _ => XS.iconst Xk3.here hx rfl (hb hby at_74)) ?_
      show Run p.tables e below (Tk3.setTop (mkF m 75 #[.val (.int p0), .val (.int p1), .val (.int s3), .val (.int t0), .val (.int t1), .val (.int t2), .val (.int t3), .val (.ref a_ELEMENTS), .val (.int (1 : Int32)), .val (.int (2 : Int32)), .unset, .unset, .unset, .unset] [(.int (4 : Int32))])) _
      refine own_go (fun _ => XS.istore Xk3.here hx rfl (hb hby at_75) rfl (l' := #[.val (.int p0), .val (.int p1), .val (.int s3), .val (.int t0), .val (.int t1), .val (.int t2), .val (.int t3), .val (.ref a_ELEMENTS), .val (.int (1 : Int32)), .val (.int (2 : Int32)), .val (.int (4 : Int32)), .unset, .unset, .unset]) rfl) ?_
      show Run p.tables e below (Tk3.setTop (mkF m 77 #[.val (.int p0), .val (.int p1), .val (.int s3), .val (.int t0), .val (.int t1), .val (.int t2), .val (.int t3), .val (.ref a_ELEMENTS), .val (.int (1 : Int32)), .val (.int (2 : Int32)), .val (.int (4 : Int32)), .unset, .unset, .unset] [])) _
      refine own_go (fun _ => XS.bipush Xk3.here hx rfl (hb hby at_77)) ?_
      show Run p.tables e below (Tk3.setTop (mkF m 79 #[.val (.int p0), .val (.int p1), .val (.int s3), .val (.int t0), .val (.int t1), .val (.int t2), .val (.int t3), .val (.ref a_ELEMENTS), .val (.int (1 : Int32)), .val (.int (2 : Int32)), .val (.int (4 : Int32)), .unset, .unset, .unset] [(.int (8 : Int32))])) _
      refine own_go (fun _ => XS.istore Xk3.here hx rfl (hb hby at_79) rfl (l' := #[.val (.int p0), .val (.int p1), .val (.int s3), .val (.int t0), .val (.int t1), .val (.int t2), .val (.int t3), .val (.ref a_ELEMENTS), .val (.int (1 : Int32)), .val (.int (2 : Int32)), .val (.int (4 : Int32)), .val (.int (8 : Int32)), .unset, .unset]) rfl) ?_
      show Run p.tables e below (Tk3.setTop (mkF m 81 #[.val (.int p0), .val (.int p1), .val (.int s3), .val (.int t0), .val (.int t1), .val (.int t2), .val (.int t3), .val (.ref a_ELEMENTS), .val (.int (1 : Int32)), .val (.int (2 : Int32)), .val (.int (4 : Int32)), .val (.int (8 : Int32)), .unset, .unset] [])) _
      refine own_go (fun _ => XS.goto Xk3.here hx rfl (pc0 := 81) (pc' := 132) rfl (hb hby at_81) (by decide) (by decide)) ?_
      show Run p.tables e below (Tk3.setTop (mkF m 132 #[.val (.int p0), .val (.int p1), .val (.int s3), .val (.int t0), .val (.int t1), .val (.int t2), .val (.int t3), .val (.ref a_ELEMENTS), .val (.int (1 : Int32)), .val (.int (2 : Int32)), .val (.int (4 : Int32)), .val (.int (8 : Int32)), .unset, .unset] [])) _
      refine own_go (fun _ => XS.iconst Xk3.here hx rfl (hb hby at_132)) ?_
      show Run p.tables e below (Tk3.setTop (mkF m 133 #[.val (.int p0), .val (.int p1), .val (.int s3), .val (.int t0), .val (.int t1), .val (.int t2), .val (.int t3), .val (.ref a_ELEMENTS), .val (.int (1 : Int32)), .val (.int (2 : Int32)), .val (.int (4 : Int32)), .val (.int (8 : Int32)), .unset, .unset] [(.int (0 : Int32))])) _
      refine own_go (fun _ => XS.istore Xk3.here hx rfl (hb hby at_133) rfl (l' := #[.val (.int p0), .val (.int p1), .val (.int s3), .val (.int t0), .val (.int t1), .val (.int t2), .val (.int t3), .val (.ref a_ELEMENTS), .val (.int (1 : Int32)), .val (.int (2 : Int32)), .val (.int (4 : Int32)), .val (.int (8 : Int32)), .val (.int (0 : Int32)), .unset]) rfl) ?_
      show Run p.tables e below (Tk3.setTop (mkF m 135 #[.val (.int p0), .val (.int p1), .val (.int s3), .val (.int t0), .val (.int t1), .val (.int t2), .val (.int t3), .val (.ref a_ELEMENTS), .val (.int (1 : Int32)), .val (.int (2 : Int32)), .val (.int (4 : Int32)), .val (.int (8 : Int32)), .val (.int (0 : Int32)), .unset] [])) _
      exact JE0 _ Xk3 ek3 a_ELEMENTS 1 2 4 8 K_ELEMENTS (Or.inl ⟨rfl, rfl, rfl, rfl⟩)
    · show Run p.tables e below (s₁.setTop (mkF m 60 #[.val (.int p0), .val (.int p1), .val (.int s3), .val (.int t0), .val (.int t1), .val (.int t2), .val (.int t3), .unset, .unset, .unset, .unset, .unset, .unset, .unset] [(.int s3)])) _
      refine own_go (fun _ => XS.ifYes X0.here hx rfl (pc0 := 60) (pc' := 84) rfl (hb hby at_60) rfl (XT.i0_ne_t q0) (by decide) (by decide)) ?_
      show Run p.tables e below (s₁.setTop (mkF m 84 #[.val (.int p0), .val (.int p1), .val (.int s3), .val (.int t0), .val (.int t1), .val (.int t2), .val (.int t3), .unset, .unset, .unset, .unset, .unset, .unset, .unset] [])) _
      refine own_go (fun _ => XS.iloadN X0.here hx rfl (hb hby at_84) rfl) ?_
      show Run p.tables e below (s₁.setTop (mkF m 85 #[.val (.int p0), .val (.int p1), .val (.int s3), .val (.int t0), .val (.int t1), .val (.int t2), .val (.int t3), .unset, .unset, .unset, .unset, .unset, .unset, .unset] [(.int s3)])) _
      refine own_go (fun _ => XS.iconst X0.here hx rfl (hb hby at_85)) ?_
      show Run p.tables e below (s₁.setTop (mkF m 86 #[.val (.int p0), .val (.int p1), .val (.int s3), .val (.int t0), .val (.int t1), .val (.int t2), .val (.int t3), .unset, .unset, .unset, .unset, .unset, .unset, .unset] [(.int (1 : Int32)), (.int s3)])) _
      by_cases q1 : s3 = 1
      · show Run p.tables e below (s₁.setTop (mkF m 86 #[.val (.int p0), .val (.int p1), .val (.int s3), .val (.int t0), .val (.int t1), .val (.int t2), .val (.int t3), .unset, .unset, .unset, .unset, .unset, .unset, .unset] [(.int (1 : Int32)), (.int s3)])) _
        refine own_go (fun _ => XS.icmpNo X0.here hx rfl (hb hby at_86) rfl (XT.ii_ne_f q1)) ?_
        show Run p.tables e below (s₁.setTop (mkF m 89 #[.val (.int p0), .val (.int p1), .val (.int s3), .val (.int t0), .val (.int t1), .val (.int t2), .val (.int t3), .unset, .unset, .unset, .unset, .unset, .unset, .unset] [])) _
        obtain ⟨Tk4, Xk4, ek4, stk4⟩ := getS X0 hx hZ hown (host := "") (hw _ (List.mem_of_getElem? (i := 43) rfl)) Via.refl e0 S_KEYS (g := (mkF m 89 #[.val (.int p0), .val (.int p1), .val (.int s3), .val (.int t0), .val (.int t1), .val (.int t2), .val (.int t3), .unset, .unset, .unset, .unset, .unset, .unset, .unset] [])) rfl (hb hby at_89)
        refine own_go stk4 ?_
        show Run p.tables e below (Tk4.setTop (mkF m 92 #[.val (.int p0), .val (.int p1), .val (.int s3), .val (.int t0), .val (.int t1), .val (.int t2), .val (.int t3), .unset, .unset, .unset, .unset, .unset, .unset, .unset] [(.ref a_KEYS)])) _
        refine own_go (fun _ => XS.astore Xk4.here hx rfl (hb hby at_92) rfl rfl (l' := #[.val (.int p0), .val (.int p1), .val (.int s3), .val (.int t0), .val (.int t1), .val (.int t2), .val (.int t3), .val (.ref a_KEYS), .unset, .unset, .unset, .unset, .unset, .unset]) rfl) ?_
        show Run p.tables e below (Tk4.setTop (mkF m 94 #[.val (.int p0), .val (.int p1), .val (.int s3), .val (.int t0), .val (.int t1), .val (.int t2), .val (.int t3), .val (.ref a_KEYS), .unset, .unset, .unset, .unset, .unset, .unset] [])) _
        refine own_go (fun _ => XS.iconst Xk4.here hx rfl (hb hby at_94)) ?_
        show Run p.tables e below (Tk4.setTop (mkF m 95 #[.val (.int p0), .val (.int p1), .val (.int s3), .val (.int t0), .val (.int t1), .val (.int t2), .val (.int t3), .val (.ref a_KEYS), .unset, .unset, .unset, .unset, .unset, .unset] [(.int (1 : Int32))])) _
        refine own_go (fun _ => XS.istore Xk4.here hx rfl (hb hby at_95) rfl (l' := #[.val (.int p0), .val (.int p1), .val (.int s3), .val (.int t0), .val (.int t1), .val (.int t2), .val (.int t3), .val (.ref a_KEYS), .val (.int (1 : Int32)), .unset, .unset, .unset, .unset, .unset]) rfl) ?_
        show Run p.tables e below (Tk4.setTop (mkF m 97 #[.val (.int p0), .val (.int p1), .val (.int s3), .val (.int t0), .val (.int t1), .val (.int t2), .val (.int t3), .val (.ref a_KEYS), .val (.int (1 : Int32)), .unset, .unset, .unset, .unset, .unset] [])) _
        refine own_go (fun _ => XS.iconst Xk4.here hx rfl (hb hby at_97)) ?_
        show Run p.tables e below (Tk4.setTop (mkF m 98 #[.val (.int p0), .val (.int p1), .val (.int s3), .val (.int t0), .val (.int t1), .val (.int t2), .val (.int t3), .val (.ref a_KEYS), .val (.int (1 : Int32)), .unset, .unset, .unset, .unset, .unset] [(.int (2 : Int32))])) _
        refine own_go (fun _ => XS.istore Xk4.here hx rfl (hb hby at_98) rfl (l' := #[.val (.int p0), .val (.int p1), .val (.int s3), .val (.int t0), .val (.int t1), .val (.int t2), .val (.int t3), .val (.ref a_KEYS), .val (.int (1 : Int32)), .val (.int (2 : Int32)), .unset, .unset, .unset, .unset]) rfl) ?_
        show Run p.tables e below (Tk4.setTop (mkF m 100 #[.val (.int p0), .val (.int p1), .val (.int s3), .val (.int t0), .val (.int t1), .val (.int t2), .val (.int t3), .val (.ref a_KEYS), .val (.int (1 : Int32)), .val (.int (2 : Int32)), .unset, .unset, .unset, .unset] [])) _
        refine own_go (fun _ => XS.bipush Xk4.here hx rfl (hb hby at_100)) ?_
        show Run p.tables e below (Tk4.setTop (mkF m 102 #[.val (.int p0), .val (.int p1), .val (.int s3), .val (.int t0), .val (.int t1), .val (.int t2), .val (.int t3), .val (.ref a_KEYS), .val (.int (1 : Int32)), .val (.int (2 : Int32)), .unset, .unset, .unset, .unset] [(.int (8 : Int32))])) _
        refine own_go (fun _ => XS.istore Xk4.here hx rfl (hb hby at_102) rfl (l' := #[.val (.int p0), .val (.int p1), .val (.int s3), .val (.int t0), .val (.int t1), .val (.int t2), .val (.int t3), .val (.ref a_KEYS), .val (.int (1 : Int32)), .val (.int (2 : Int32)), .val (.int (8 : Int32)), .unset, .unset, .unset]) rfl) ?_
        show Run p.tables e below (Tk4.setTop (mkF m 104 #[.val (.int p0), .val (.int p1), .val (.int s3), .val (.int t0), .val (.int t1), .val (.int t2), .val (.int t3), .val (.ref a_KEYS), .val (.int (1 : Int32)), .val (.int (2 : Int32)), .val (.int (8 : Int32)), .unset, .unset, .unset] [])) _
        refine own_go (fun _ => XS.iconst Xk4.here hx rfl (hb hby at_104)) ?_
        show Run p.tables e below (Tk4.setTop (mkF m 105 #[.val (.int p0), .val (.int p1), .val (.int s3), .val (.int t0), .val (.int t1), .val (.int t2), .val (.int t3), .val (.ref a_KEYS), .val (.int (1 : Int32)), .val (.int (2 : Int32)), .val (.int (8 : Int32)), .unset, .unset, .unset] [(.int (4 : Int32))])) _
        refine own_go (fun _ => XS.istore Xk4.here hx rfl (hb hby at_105) rfl (l' := #[.val (.int p0), .val (.int p1), .val (.int s3), .val (.int t0), .val (.int t1), .val (.int t2), .val (.int t3), .val (.ref a_KEYS), .val (.int (1 : Int32)), .val (.int (2 : Int32)), .val (.int (8 : Int32)), .val (.int (4 : Int32)), .unset, .unset]) rfl) ?_
        show Run p.tables e below (Tk4.setTop (mkF m 107 #[.val (.int p0), .val (.int p1), .val (.int s3), .val (.int t0), .val (.int t1), .val (.int t2), .val (.int t3), .val (.ref a_KEYS), .val (.int (1 : Int32)), .val (.int (2 : Int32)), .val (.int (8 : Int32)), .val (.int (4 : Int32)), .unset, .unset] [])) _
        refine own_go (fun _ => XS.goto Xk4.here hx rfl (pc0 := 107) (pc' := 132) rfl (hb hby at_107) (by decide) (by decide)) ?_
        show Run p.tables e below (Tk4.setTop (mkF m 132 #[.val (.int p0), .val (.int p1), .val (.int s3), .val (.int t0), .val (.int t1), .val (.int t2), .val (.int t3), .val (.ref a_KEYS), .val (.int (1 : Int32)), .val (.int (2 : Int32)), .val (.int (8 : Int32)), .val (.int (4 : Int32)), .unset, .unset] [])) _
        refine own_go (fun _ => XS.iconst Xk4.here hx rfl (hb hby at_132)) ?_
        show Run p.tables e below (Tk4.setTop (mkF m 133 #[.val (.int p0), .val (.int p1), .val (.int s3), .val (.int t0), .val (.int t1), .val (.int t2), .val (.int t3), .val (.ref a_KEYS), .val (.int (1 : Int32)), .val (.int (2 : Int32)), .val (.int (8 : Int32)), .val (.int (4 : Int32)), .unset, .unset] [(.int (0 : Int32))])) _
        refine own_go (fun _ => XS.istore Xk4.here hx rfl (hb hby at_133) rfl (l' := #[.val (.int p0), .val (.int p1), .val (.int s3), .val (.int t0), .val (.int t1), .val (.int t2), .val (.int t3), .val (.ref a_KEYS), .val (.int (1 : Int32)), .val (.int (2 : Int32)), .val (.int (8 : Int32)), .val (.int (4 : Int32)), .val (.int (0 : Int32)), .unset]) rfl) ?_
        show Run p.tables e below (Tk4.setTop (mkF m 135 #[.val (.int p0), .val (.int p1), .val (.int s3), .val (.int t0), .val (.int t1), .val (.int t2), .val (.int t3), .val (.ref a_KEYS), .val (.int (1 : Int32)), .val (.int (2 : Int32)), .val (.int (8 : Int32)), .val (.int (4 : Int32)), .val (.int (0 : Int32)), .unset] [])) _
        exact JE0 _ Xk4 ek4 a_KEYS 1 2 8 4 K_KEYS (Or.inr (Or.inl ⟨rfl, rfl, rfl, rfl⟩))
      · show Run p.tables e below (s₁.setTop (mkF m 86 #[.val (.int p0), .val (.int p1), .val (.int s3), .val (.int t0), .val (.int t1), .val (.int t2), .val (.int t3), .unset, .unset, .unset, .unset, .unset, .unset, .unset] [(.int (1 : Int32)), (.int s3)])) _
        refine own_go (fun _ => XS.icmpYes X0.here hx rfl (pc0 := 86) (pc' := 110) rfl (hb hby at_86) rfl (XT.ii_ne_t q1) (by decide) (by decide)) ?_
        show Run p.tables e below (s₁.setTop (mkF m 110 #[.val (.int p0), .val (.int p1), .val (.int s3), .val (.int t0), .val (.int t1), .val (.int t2), .val (.int t3), .unset, .unset, .unset, .unset, .unset, .unset, .unset] [])) _
        obtain ⟨Tk5, Xk5, ek5, stk5⟩ := getS X0 hx hZ hown (host := "") (hw _ (List.mem_of_getElem? (i := 39) rfl)) Via.refl e0 S_VALUES (g := (mkF m 110 #[.val (.int p0), .val (.int p1), .val (.int s3), .val (.int t0), .val (.int t1), .val (.int t2), .val (.int t3), .unset, .unset, .unset, .unset, .unset, .unset, .unset] [])) rfl (hb hby at_110)
        refine own_go stk5 ?_
        show Run p.tables e below (Tk5.setTop (mkF m 113 #[.val (.int p0), .val (.int p1), .val (.int s3), .val (.int t0), .val (.int t1), .val (.int t2), .val (.int t3), .unset, .unset, .unset, .unset, .unset, .unset, .unset] [(.ref a_VALUES)])) _
        refine own_go (fun _ => XS.astore Xk5.here hx rfl (hb hby at_113) rfl rfl (l' := #[.val (.int p0), .val (.int p1), .val (.int s3), .val (.int t0), .val (.int t1), .val (.int t2), .val (.int t3), .val (.ref a_VALUES), .unset, .unset, .unset, .unset, .unset, .unset]) rfl) ?_
        show Run p.tables e below (Tk5.setTop (mkF m 115 #[.val (.int p0), .val (.int p1), .val (.int s3), .val (.int t0), .val (.int t1), .val (.int t2), .val (.int t3), .val (.ref a_VALUES), .unset, .unset, .unset, .unset, .unset, .unset] [])) _
        refine own_go (fun _ => XS.bipush Xk5.here hx rfl (hb hby at_115)) ?_
        show Run p.tables e below (Tk5.setTop (mkF m 117 #[.val (.int p0), .val (.int p1), .val (.int s3), .val (.int t0), .val (.int t1), .val (.int t2), .val (.int t3), .val (.ref a_VALUES), .unset, .unset, .unset, .unset, .unset, .unset] [(.int (16 : Int32))])) _
        refine own_go (fun _ => XS.istore Xk5.here hx rfl (hb hby at_117) rfl (l' := #[.val (.int p0), .val (.int p1), .val (.int s3), .val (.int t0), .val (.int t1), .val (.int t2), .val (.int t3), .val (.ref a_VALUES), .val (.int (16 : Int32)), .unset, .unset, .unset, .unset, .unset]) rfl) ?_
        show Run p.tables e below (Tk5.setTop (mkF m 119 #[.val (.int p0), .val (.int p1), .val (.int s3), .val (.int t0), .val (.int t1), .val (.int t2), .val (.int t3), .val (.ref a_VALUES), .val (.int (16 : Int32)), .unset, .unset, .unset, .unset, .unset] [])) _
        refine own_go (fun _ => XS.bipush Xk5.here hx rfl (hb hby at_119)) ?_
        show Run p.tables e below (Tk5.setTop (mkF m 121 #[.val (.int p0), .val (.int p1), .val (.int s3), .val (.int t0), .val (.int t1), .val (.int t2), .val (.int t3), .val (.ref a_VALUES), .val (.int (16 : Int32)), .unset, .unset, .unset, .unset, .unset] [(.int (32 : Int32))])) _
        refine own_go (fun _ => XS.istore Xk5.here hx rfl (hb hby at_121) rfl (l' := #[.val (.int p0), .val (.int p1), .val (.int s3), .val (.int t0), .val (.int t1), .val (.int t2), .val (.int t3), .val (.ref a_VALUES), .val (.int (16 : Int32)), .val (.int (32 : Int32)), .unset, .unset, .unset, .unset]) rfl) ?_
        show Run p.tables e below (Tk5.setTop (mkF m 123 #[.val (.int p0), .val (.int p1), .val (.int s3), .val (.int t0), .val (.int t1), .val (.int t2), .val (.int t3), .val (.ref a_VALUES), .val (.int (16 : Int32)), .val (.int (32 : Int32)), .unset, .unset, .unset, .unset] [])) _
        refine own_go (fun _ => XS.sipush Xk5.here hx rfl (hb hby at_123)) ?_
        show Run p.tables e below (Tk5.setTop (mkF m 126 #[.val (.int p0), .val (.int p1), .val (.int s3), .val (.int t0), .val (.int t1), .val (.int t2), .val (.int t3), .val (.ref a_VALUES), .val (.int (16 : Int32)), .val (.int (32 : Int32)), .unset, .unset, .unset, .unset] [(.int (128 : Int32))])) _
        refine own_go (fun _ => XS.istore Xk5.here hx rfl (hb hby at_126) rfl (l' := #[.val (.int p0), .val (.int p1), .val (.int s3), .val (.int t0), .val (.int t1), .val (.int t2), .val (.int t3), .val (.ref a_VALUES), .val (.int (16 : Int32)), .val (.int (32 : Int32)), .val (.int (128 : Int32)), .unset, .unset, .unset]) rfl) ?_
        show Run p.tables e below (Tk5.setTop (mkF m 128 #[.val (.int p0), .val (.int p1), .val (.int s3), .val (.int t0), .val (.int t1), .val (.int t2), .val (.int t3), .val (.ref a_VALUES), .val (.int (16 : Int32)), .val (.int (32 : Int32)), .val (.int (128 : Int32)), .unset, .unset, .unset] [])) _
        refine own_go (fun _ => XS.bipush Xk5.here hx rfl (hb hby at_128)) ?_
        show Run p.tables e below (Tk5.setTop (mkF m 130 #[.val (.int p0), .val (.int p1), .val (.int s3), .val (.int t0), .val (.int t1), .val (.int t2), .val (.int t3), .val (.ref a_VALUES), .val (.int (16 : Int32)), .val (.int (32 : Int32)), .val (.int (128 : Int32)), .unset, .unset, .unset] [(.int (64 : Int32))])) _
        refine own_go (fun _ => XS.istore Xk5.here hx rfl (hb hby at_130) rfl (l' := #[.val (.int p0), .val (.int p1), .val (.int s3), .val (.int t0), .val (.int t1), .val (.int t2), .val (.int t3), .val (.ref a_VALUES), .val (.int (16 : Int32)), .val (.int (32 : Int32)), .val (.int (128 : Int32)), .val (.int (64 : Int32)), .unset, .unset]) rfl) ?_
        show Run p.tables e below (Tk5.setTop (mkF m 132 #[.val (.int p0), .val (.int p1), .val (.int s3), .val (.int t0), .val (.int t1), .val (.int t2), .val (.int t3), .val (.ref a_VALUES), .val (.int (16 : Int32)), .val (.int (32 : Int32)), .val (.int (128 : Int32)), .val (.int (64 : Int32)), .unset, .unset] [])) _
        refine own_go (fun _ => XS.iconst Xk5.here hx rfl (hb hby at_132)) ?_
        show Run p.tables e below (Tk5.setTop (mkF m 133 #[.val (.int p0), .val (.int p1), .val (.int s3), .val (.int t0), .val (.int t1), .val (.int t2), .val (.int t3), .val (.ref a_VALUES), .val (.int (16 : Int32)), .val (.int (32 : Int32)), .val (.int (128 : Int32)), .val (.int (64 : Int32)), .unset, .unset] [(.int (0 : Int32))])) _
        refine own_go (fun _ => XS.istore Xk5.here hx rfl (hb hby at_133) rfl (l' := #[.val (.int p0), .val (.int p1), .val (.int s3), .val (.int t0), .val (.int t1), .val (.int t2), .val (.int t3), .val (.ref a_VALUES), .val (.int (16 : Int32)), .val (.int (32 : Int32)), .val (.int (128 : Int32)), .val (.int (64 : Int32)), .val (.int (0 : Int32)), .unset]) rfl) ?_
        show Run p.tables e below (Tk5.setTop (mkF m 135 #[.val (.int p0), .val (.int p1), .val (.int s3), .val (.int t0), .val (.int t1), .val (.int t2), .val (.int t3), .val (.ref a_VALUES), .val (.int (16 : Int32)), .val (.int (32 : Int32)), .val (.int (128 : Int32)), .val (.int (64 : Int32)), .val (.int (0 : Int32)), .unset] [])) _
        exact JE0 _ Xk5 ek5 a_VALUES 16 32 128 64 K_VALUES (Or.inr (Or.inr ⟨rfl, rfl, rfl, rfl⟩))
  have JF3 : Run p.tables e below (s₁.setTop (mkF m 45 #[.val (.int p0), .val (.int p1), .val (.int s3), .val (.int t0), .val (.int t1), .val (.int t2), .unset, .unset, .unset, .unset, .unset, .unset, .unset, .unset] [])) (OwnFin s below (own_Q0 n0) room_1.cells room_1.slots) := by
    show Run p.tables e below (s₁.setTop (mkF m 45 #[.val (.int p0), .val (.int p1), .val (.int s3), .val (.int t0), .val (.int t1), .val (.int t2), .unset, .unset, .unset, .unset, .unset, .unset, .unset, .unset] [])) _
    refine own_go (fun _ => XS.iloadN X0.here hx rfl (hb hby at_45) rfl) ?_
    show Run p.tables e below (s₁.setTop (mkF m 46 #[.val (.int p0), .val (.int p1), .val (.int s3), .val (.int t0), .val (.int t1), .val (.int t2), .unset, .unset, .unset, .unset, .unset, .unset, .unset, .unset] [(.int p1)])) _
    refine own_go (fun _ => XS.bipush X0.here hx rfl (hb hby at_46)) ?_
    show Run p.tables e below (s₁.setTop (mkF m 48 #[.val (.int p0), .val (.int p1), .val (.int s3), .val (.int t0), .val (.int t1), .val (.int t2), .unset, .unset, .unset, .unset, .unset, .unset, .unset, .unset] [(.int (8 : Int32)), (.int p1)])) _
    refine own_go (fun _ => XS.iand X0.here hx rfl (hb hby at_48) rfl) ?_
    show Run p.tables e below (s₁.setTop (mkF m 49 #[.val (.int p0), .val (.int p1), .val (.int s3), .val (.int t0), .val (.int t1), .val (.int t2), .unset, .unset, .unset, .unset, .unset, .unset, .unset, .unset] [(.int (p1 &&& (8 : Int32)))])) _
    by_cases q : (p1 &&& (8 : Int32)) = 0
    · show Run p.tables e below (s₁.setTop (mkF m 49 #[.val (.int p0), .val (.int p1), .val (.int s3), .val (.int t0), .val (.int t1), .val (.int t2), .unset, .unset, .unset, .unset, .unset, .unset, .unset, .unset] [(.int (p1 &&& (8 : Int32)))])) _
      refine own_go (fun _ => XS.ifYes X0.here hx rfl (pc0 := 49) (pc' := 56) rfl (hb hby at_49) rfl (XT.i0_eq_t q) (by decide) (by decide)) ?_
      show Run p.tables e below (s₁.setTop (mkF m 56 #[.val (.int p0), .val (.int p1), .val (.int s3), .val (.int t0), .val (.int t1), .val (.int t2), .unset, .unset, .unset, .unset, .unset, .unset, .unset, .unset] [])) _
      refine own_go (fun _ => XS.iconst X0.here hx rfl (hb hby at_56)) ?_
      show Run p.tables e below (s₁.setTop (mkF m 57 #[.val (.int p0), .val (.int p1), .val (.int s3), .val (.int t0), .val (.int t1), .val (.int t2), .unset, .unset, .unset, .unset, .unset, .unset, .unset, .unset] [(.int (0 : Int32))])) _
      have hz : t3 = 0 := by rw [ht3]; exact if_pos q
      rw [← hz]
      show Run p.tables e below (s₁.setTop (mkF m 57 #[.val (.int p0), .val (.int p1), .val (.int s3), .val (.int t0), .val (.int t1), .val (.int t2), .unset, .unset, .unset, .unset, .unset, .unset, .unset, .unset] [(.int t3)])) _
      refine own_go (fun _ => XS.istore X0.here hx rfl (hb hby at_57) rfl (l' := #[.val (.int p0), .val (.int p1), .val (.int s3), .val (.int t0), .val (.int t1), .val (.int t2), .val (.int t3), .unset, .unset, .unset, .unset, .unset, .unset, .unset]) rfl) ?_
      show Run p.tables e below (s₁.setTop (mkF m 59 #[.val (.int p0), .val (.int p1), .val (.int s3), .val (.int t0), .val (.int t1), .val (.int t2), .val (.int t3), .unset, .unset, .unset, .unset, .unset, .unset, .unset] [])) _
      exact JC
    · show Run p.tables e below (s₁.setTop (mkF m 49 #[.val (.int p0), .val (.int p1), .val (.int s3), .val (.int t0), .val (.int t1), .val (.int t2), .unset, .unset, .unset, .unset, .unset, .unset, .unset, .unset] [(.int (p1 &&& (8 : Int32)))])) _
      refine own_go (fun _ => XS.ifNo X0.here hx rfl (hb hby at_49) rfl (XT.i0_eq_f q)) ?_
      show Run p.tables e below (s₁.setTop (mkF m 52 #[.val (.int p0), .val (.int p1), .val (.int s3), .val (.int t0), .val (.int t1), .val (.int t2), .unset, .unset, .unset, .unset, .unset, .unset, .unset, .unset] [])) _
      refine own_go (fun _ => XS.iconst X0.here hx rfl (hb hby at_52)) ?_
      show Run p.tables e below (s₁.setTop (mkF m 53 #[.val (.int p0), .val (.int p1), .val (.int s3), .val (.int t0), .val (.int t1), .val (.int t2), .unset, .unset, .unset, .unset, .unset, .unset, .unset, .unset] [(.int (1 : Int32))])) _
      refine own_go (fun _ => XS.goto X0.here hx rfl (pc0 := 53) (pc' := 57) rfl (hb hby at_53) (by decide) (by decide)) ?_
      show Run p.tables e below (s₁.setTop (mkF m 57 #[.val (.int p0), .val (.int p1), .val (.int s3), .val (.int t0), .val (.int t1), .val (.int t2), .unset, .unset, .unset, .unset, .unset, .unset, .unset, .unset] [(.int (1 : Int32))])) _
      have hz : t3 = 1 := by rw [ht3]; exact if_neg q
      rw [← hz]
      show Run p.tables e below (s₁.setTop (mkF m 57 #[.val (.int p0), .val (.int p1), .val (.int s3), .val (.int t0), .val (.int t1), .val (.int t2), .unset, .unset, .unset, .unset, .unset, .unset, .unset, .unset] [(.int t3)])) _
      refine own_go (fun _ => XS.istore X0.here hx rfl (hb hby at_57) rfl (l' := #[.val (.int p0), .val (.int p1), .val (.int s3), .val (.int t0), .val (.int t1), .val (.int t2), .val (.int t3), .unset, .unset, .unset, .unset, .unset, .unset, .unset]) rfl) ?_
      show Run p.tables e below (s₁.setTop (mkF m 59 #[.val (.int p0), .val (.int p1), .val (.int s3), .val (.int t0), .val (.int t1), .val (.int t2), .val (.int t3), .unset, .unset, .unset, .unset, .unset, .unset, .unset] [])) _
      exact JC
  have JF2 : Run p.tables e below (s₁.setTop (mkF m 32 #[.val (.int p0), .val (.int p1), .val (.int s3), .val (.int t0), .val (.int t1), .unset, .unset, .unset, .unset, .unset, .unset, .unset, .unset, .unset] [])) (OwnFin s below (own_Q0 n0) room_1.cells room_1.slots) := by
    show Run p.tables e below (s₁.setTop (mkF m 32 #[.val (.int p0), .val (.int p1), .val (.int s3), .val (.int t0), .val (.int t1), .unset, .unset, .unset, .unset, .unset, .unset, .unset, .unset, .unset] [])) _
    refine own_go (fun _ => XS.iloadN X0.here hx rfl (hb hby at_32) rfl) ?_
    show Run p.tables e below (s₁.setTop (mkF m 33 #[.val (.int p0), .val (.int p1), .val (.int s3), .val (.int t0), .val (.int t1), .unset, .unset, .unset, .unset, .unset, .unset, .unset, .unset, .unset] [(.int p1)])) _
    refine own_go (fun _ => XS.iconst X0.here hx rfl (hb hby at_33)) ?_
    show Run p.tables e below (s₁.setTop (mkF m 34 #[.val (.int p0), .val (.int p1), .val (.int s3), .val (.int t0), .val (.int t1), .unset, .unset, .unset, .unset, .unset, .unset, .unset, .unset, .unset] [(.int (4 : Int32)), (.int p1)])) _
    refine own_go (fun _ => XS.iand X0.here hx rfl (hb hby at_34) rfl) ?_
    show Run p.tables e below (s₁.setTop (mkF m 35 #[.val (.int p0), .val (.int p1), .val (.int s3), .val (.int t0), .val (.int t1), .unset, .unset, .unset, .unset, .unset, .unset, .unset, .unset, .unset] [(.int (p1 &&& (4 : Int32)))])) _
    by_cases q : (p1 &&& (4 : Int32)) = 0
    · show Run p.tables e below (s₁.setTop (mkF m 35 #[.val (.int p0), .val (.int p1), .val (.int s3), .val (.int t0), .val (.int t1), .unset, .unset, .unset, .unset, .unset, .unset, .unset, .unset, .unset] [(.int (p1 &&& (4 : Int32)))])) _
      refine own_go (fun _ => XS.ifYes X0.here hx rfl (pc0 := 35) (pc' := 42) rfl (hb hby at_35) rfl (XT.i0_eq_t q) (by decide) (by decide)) ?_
      show Run p.tables e below (s₁.setTop (mkF m 42 #[.val (.int p0), .val (.int p1), .val (.int s3), .val (.int t0), .val (.int t1), .unset, .unset, .unset, .unset, .unset, .unset, .unset, .unset, .unset] [])) _
      refine own_go (fun _ => XS.iconst X0.here hx rfl (hb hby at_42)) ?_
      show Run p.tables e below (s₁.setTop (mkF m 43 #[.val (.int p0), .val (.int p1), .val (.int s3), .val (.int t0), .val (.int t1), .unset, .unset, .unset, .unset, .unset, .unset, .unset, .unset, .unset] [(.int (0 : Int32))])) _
      have hz : t2 = 0 := by rw [ht2]; exact if_pos q
      rw [← hz]
      show Run p.tables e below (s₁.setTop (mkF m 43 #[.val (.int p0), .val (.int p1), .val (.int s3), .val (.int t0), .val (.int t1), .unset, .unset, .unset, .unset, .unset, .unset, .unset, .unset, .unset] [(.int t2)])) _
      refine own_go (fun _ => XS.istore X0.here hx rfl (hb hby at_43) rfl (l' := #[.val (.int p0), .val (.int p1), .val (.int s3), .val (.int t0), .val (.int t1), .val (.int t2), .unset, .unset, .unset, .unset, .unset, .unset, .unset, .unset]) rfl) ?_
      show Run p.tables e below (s₁.setTop (mkF m 45 #[.val (.int p0), .val (.int p1), .val (.int s3), .val (.int t0), .val (.int t1), .val (.int t2), .unset, .unset, .unset, .unset, .unset, .unset, .unset, .unset] [])) _
      exact JF3
    · show Run p.tables e below (s₁.setTop (mkF m 35 #[.val (.int p0), .val (.int p1), .val (.int s3), .val (.int t0), .val (.int t1), .unset, .unset, .unset, .unset, .unset, .unset, .unset, .unset, .unset] [(.int (p1 &&& (4 : Int32)))])) _
      refine own_go (fun _ => XS.ifNo X0.here hx rfl (hb hby at_35) rfl (XT.i0_eq_f q)) ?_
      show Run p.tables e below (s₁.setTop (mkF m 38 #[.val (.int p0), .val (.int p1), .val (.int s3), .val (.int t0), .val (.int t1), .unset, .unset, .unset, .unset, .unset, .unset, .unset, .unset, .unset] [])) _
      refine own_go (fun _ => XS.iconst X0.here hx rfl (hb hby at_38)) ?_
      show Run p.tables e below (s₁.setTop (mkF m 39 #[.val (.int p0), .val (.int p1), .val (.int s3), .val (.int t0), .val (.int t1), .unset, .unset, .unset, .unset, .unset, .unset, .unset, .unset, .unset] [(.int (1 : Int32))])) _
      refine own_go (fun _ => XS.goto X0.here hx rfl (pc0 := 39) (pc' := 43) rfl (hb hby at_39) (by decide) (by decide)) ?_
      show Run p.tables e below (s₁.setTop (mkF m 43 #[.val (.int p0), .val (.int p1), .val (.int s3), .val (.int t0), .val (.int t1), .unset, .unset, .unset, .unset, .unset, .unset, .unset, .unset, .unset] [(.int (1 : Int32))])) _
      have hz : t2 = 1 := by rw [ht2]; exact if_neg q
      rw [← hz]
      show Run p.tables e below (s₁.setTop (mkF m 43 #[.val (.int p0), .val (.int p1), .val (.int s3), .val (.int t0), .val (.int t1), .unset, .unset, .unset, .unset, .unset, .unset, .unset, .unset, .unset] [(.int t2)])) _
      refine own_go (fun _ => XS.istore X0.here hx rfl (hb hby at_43) rfl (l' := #[.val (.int p0), .val (.int p1), .val (.int s3), .val (.int t0), .val (.int t1), .val (.int t2), .unset, .unset, .unset, .unset, .unset, .unset, .unset, .unset]) rfl) ?_
      show Run p.tables e below (s₁.setTop (mkF m 45 #[.val (.int p0), .val (.int p1), .val (.int s3), .val (.int t0), .val (.int t1), .val (.int t2), .unset, .unset, .unset, .unset, .unset, .unset, .unset, .unset] [])) _
      exact JF3
  have JF1 : Run p.tables e below (s₁.setTop (mkF m 19 #[.val (.int p0), .val (.int p1), .val (.int s3), .val (.int t0), .unset, .unset, .unset, .unset, .unset, .unset, .unset, .unset, .unset, .unset] [])) (OwnFin s below (own_Q0 n0) room_1.cells room_1.slots) := by
    show Run p.tables e below (s₁.setTop (mkF m 19 #[.val (.int p0), .val (.int p1), .val (.int s3), .val (.int t0), .unset, .unset, .unset, .unset, .unset, .unset, .unset, .unset, .unset, .unset] [])) _
    refine own_go (fun _ => XS.iloadN X0.here hx rfl (hb hby at_19) rfl) ?_
    show Run p.tables e below (s₁.setTop (mkF m 20 #[.val (.int p0), .val (.int p1), .val (.int s3), .val (.int t0), .unset, .unset, .unset, .unset, .unset, .unset, .unset, .unset, .unset, .unset] [(.int p1)])) _
    refine own_go (fun _ => XS.iconst X0.here hx rfl (hb hby at_20)) ?_
    show Run p.tables e below (s₁.setTop (mkF m 21 #[.val (.int p0), .val (.int p1), .val (.int s3), .val (.int t0), .unset, .unset, .unset, .unset, .unset, .unset, .unset, .unset, .unset, .unset] [(.int (2 : Int32)), (.int p1)])) _
    refine own_go (fun _ => XS.iand X0.here hx rfl (hb hby at_21) rfl) ?_
    show Run p.tables e below (s₁.setTop (mkF m 22 #[.val (.int p0), .val (.int p1), .val (.int s3), .val (.int t0), .unset, .unset, .unset, .unset, .unset, .unset, .unset, .unset, .unset, .unset] [(.int (p1 &&& (2 : Int32)))])) _
    by_cases q : (p1 &&& (2 : Int32)) = 0
    · show Run p.tables e below (s₁.setTop (mkF m 22 #[.val (.int p0), .val (.int p1), .val (.int s3), .val (.int t0), .unset, .unset, .unset, .unset, .unset, .unset, .unset, .unset, .unset, .unset] [(.int (p1 &&& (2 : Int32)))])) _
      refine own_go (fun _ => XS.ifYes X0.here hx rfl (pc0 := 22) (pc' := 29) rfl (hb hby at_22) rfl (XT.i0_eq_t q) (by decide) (by decide)) ?_
      show Run p.tables e below (s₁.setTop (mkF m 29 #[.val (.int p0), .val (.int p1), .val (.int s3), .val (.int t0), .unset, .unset, .unset, .unset, .unset, .unset, .unset, .unset, .unset, .unset] [])) _
      refine own_go (fun _ => XS.iconst X0.here hx rfl (hb hby at_29)) ?_
      show Run p.tables e below (s₁.setTop (mkF m 30 #[.val (.int p0), .val (.int p1), .val (.int s3), .val (.int t0), .unset, .unset, .unset, .unset, .unset, .unset, .unset, .unset, .unset, .unset] [(.int (0 : Int32))])) _
      have hz : t1 = 0 := by rw [ht1]; exact if_pos q
      rw [← hz]
      show Run p.tables e below (s₁.setTop (mkF m 30 #[.val (.int p0), .val (.int p1), .val (.int s3), .val (.int t0), .unset, .unset, .unset, .unset, .unset, .unset, .unset, .unset, .unset, .unset] [(.int t1)])) _
      refine own_go (fun _ => XS.istore X0.here hx rfl (hb hby at_30) rfl (l' := #[.val (.int p0), .val (.int p1), .val (.int s3), .val (.int t0), .val (.int t1), .unset, .unset, .unset, .unset, .unset, .unset, .unset, .unset, .unset]) rfl) ?_
      show Run p.tables e below (s₁.setTop (mkF m 32 #[.val (.int p0), .val (.int p1), .val (.int s3), .val (.int t0), .val (.int t1), .unset, .unset, .unset, .unset, .unset, .unset, .unset, .unset, .unset] [])) _
      exact JF2
    · show Run p.tables e below (s₁.setTop (mkF m 22 #[.val (.int p0), .val (.int p1), .val (.int s3), .val (.int t0), .unset, .unset, .unset, .unset, .unset, .unset, .unset, .unset, .unset, .unset] [(.int (p1 &&& (2 : Int32)))])) _
      refine own_go (fun _ => XS.ifNo X0.here hx rfl (hb hby at_22) rfl (XT.i0_eq_f q)) ?_
      show Run p.tables e below (s₁.setTop (mkF m 25 #[.val (.int p0), .val (.int p1), .val (.int s3), .val (.int t0), .unset, .unset, .unset, .unset, .unset, .unset, .unset, .unset, .unset, .unset] [])) _
      refine own_go (fun _ => XS.iconst X0.here hx rfl (hb hby at_25)) ?_
      show Run p.tables e below (s₁.setTop (mkF m 26 #[.val (.int p0), .val (.int p1), .val (.int s3), .val (.int t0), .unset, .unset, .unset, .unset, .unset, .unset, .unset, .unset, .unset, .unset] [(.int (1 : Int32))])) _
      refine own_go (fun _ => XS.goto X0.here hx rfl (pc0 := 26) (pc' := 30) rfl (hb hby at_26) (by decide) (by decide)) ?_
      show Run p.tables e below (s₁.setTop (mkF m 30 #[.val (.int p0), .val (.int p1), .val (.int s3), .val (.int t0), .unset, .unset, .unset, .unset, .unset, .unset, .unset, .unset, .unset, .unset] [(.int (1 : Int32))])) _
      have hz : t1 = 1 := by rw [ht1]; exact if_neg q
      rw [← hz]
      show Run p.tables e below (s₁.setTop (mkF m 30 #[.val (.int p0), .val (.int p1), .val (.int s3), .val (.int t0), .unset, .unset, .unset, .unset, .unset, .unset, .unset, .unset, .unset, .unset] [(.int t1)])) _
      refine own_go (fun _ => XS.istore X0.here hx rfl (hb hby at_30) rfl (l' := #[.val (.int p0), .val (.int p1), .val (.int s3), .val (.int t0), .val (.int t1), .unset, .unset, .unset, .unset, .unset, .unset, .unset, .unset, .unset]) rfl) ?_
      show Run p.tables e below (s₁.setTop (mkF m 32 #[.val (.int p0), .val (.int p1), .val (.int s3), .val (.int t0), .val (.int t1), .unset, .unset, .unset, .unset, .unset, .unset, .unset, .unset, .unset] [])) _
      exact JF2
  have JF0 : Run p.tables e below (s₁.setTop (mkF m 7 #[.val (.int p0), .val (.int p1), .val (.int s3), .unset, .unset, .unset, .unset, .unset, .unset, .unset, .unset, .unset, .unset, .unset] [])) (OwnFin s below (own_Q0 n0) room_1.cells room_1.slots) := by
    show Run p.tables e below (s₁.setTop (mkF m 7 #[.val (.int p0), .val (.int p1), .val (.int s3), .unset, .unset, .unset, .unset, .unset, .unset, .unset, .unset, .unset, .unset, .unset] [])) _
    refine own_go (fun _ => XS.iloadN X0.here hx rfl (hb hby at_7) rfl) ?_
    show Run p.tables e below (s₁.setTop (mkF m 8 #[.val (.int p0), .val (.int p1), .val (.int s3), .unset, .unset, .unset, .unset, .unset, .unset, .unset, .unset, .unset, .unset, .unset] [(.int p1)])) _
    refine own_go (fun _ => XS.iconst X0.here hx rfl (hb hby at_8)) ?_
    show Run p.tables e below (s₁.setTop (mkF m 9 #[.val (.int p0), .val (.int p1), .val (.int s3), .unset, .unset, .unset, .unset, .unset, .unset, .unset, .unset, .unset, .unset, .unset] [(.int (1 : Int32)), (.int p1)])) _
    refine own_go (fun _ => XS.iand X0.here hx rfl (hb hby at_9) rfl) ?_
    show Run p.tables e below (s₁.setTop (mkF m 10 #[.val (.int p0), .val (.int p1), .val (.int s3), .unset, .unset, .unset, .unset, .unset, .unset, .unset, .unset, .unset, .unset, .unset] [(.int (p1 &&& (1 : Int32)))])) _
    by_cases q : (p1 &&& (1 : Int32)) = 0
    · show Run p.tables e below (s₁.setTop (mkF m 10 #[.val (.int p0), .val (.int p1), .val (.int s3), .unset, .unset, .unset, .unset, .unset, .unset, .unset, .unset, .unset, .unset, .unset] [(.int (p1 &&& (1 : Int32)))])) _
      refine own_go (fun _ => XS.ifYes X0.here hx rfl (pc0 := 10) (pc' := 17) rfl (hb hby at_10) rfl (XT.i0_eq_t q) (by decide) (by decide)) ?_
      show Run p.tables e below (s₁.setTop (mkF m 17 #[.val (.int p0), .val (.int p1), .val (.int s3), .unset, .unset, .unset, .unset, .unset, .unset, .unset, .unset, .unset, .unset, .unset] [])) _
      refine own_go (fun _ => XS.iconst X0.here hx rfl (hb hby at_17)) ?_
      show Run p.tables e below (s₁.setTop (mkF m 18 #[.val (.int p0), .val (.int p1), .val (.int s3), .unset, .unset, .unset, .unset, .unset, .unset, .unset, .unset, .unset, .unset, .unset] [(.int (0 : Int32))])) _
      have hz : t0 = 0 := by rw [ht0]; exact if_pos q
      rw [← hz]
      show Run p.tables e below (s₁.setTop (mkF m 18 #[.val (.int p0), .val (.int p1), .val (.int s3), .unset, .unset, .unset, .unset, .unset, .unset, .unset, .unset, .unset, .unset, .unset] [(.int t0)])) _
      refine own_go (fun _ => XS.istoreN X0.here hx rfl (hb hby at_18) rfl (l' := #[.val (.int p0), .val (.int p1), .val (.int s3), .val (.int t0), .unset, .unset, .unset, .unset, .unset, .unset, .unset, .unset, .unset, .unset]) rfl) ?_
      show Run p.tables e below (s₁.setTop (mkF m 19 #[.val (.int p0), .val (.int p1), .val (.int s3), .val (.int t0), .unset, .unset, .unset, .unset, .unset, .unset, .unset, .unset, .unset, .unset] [])) _
      exact JF1
    · show Run p.tables e below (s₁.setTop (mkF m 10 #[.val (.int p0), .val (.int p1), .val (.int s3), .unset, .unset, .unset, .unset, .unset, .unset, .unset, .unset, .unset, .unset, .unset] [(.int (p1 &&& (1 : Int32)))])) _
      refine own_go (fun _ => XS.ifNo X0.here hx rfl (hb hby at_10) rfl (XT.i0_eq_f q)) ?_
      show Run p.tables e below (s₁.setTop (mkF m 13 #[.val (.int p0), .val (.int p1), .val (.int s3), .unset, .unset, .unset, .unset, .unset, .unset, .unset, .unset, .unset, .unset, .unset] [])) _
      refine own_go (fun _ => XS.iconst X0.here hx rfl (hb hby at_13)) ?_
      show Run p.tables e below (s₁.setTop (mkF m 14 #[.val (.int p0), .val (.int p1), .val (.int s3), .unset, .unset, .unset, .unset, .unset, .unset, .unset, .unset, .unset, .unset, .unset] [(.int (1 : Int32))])) _
      refine own_go (fun _ => XS.goto X0.here hx rfl (pc0 := 14) (pc' := 18) rfl (hb hby at_14) (by decide) (by decide)) ?_
      show Run p.tables e below (s₁.setTop (mkF m 18 #[.val (.int p0), .val (.int p1), .val (.int s3), .unset, .unset, .unset, .unset, .unset, .unset, .unset, .unset, .unset, .unset, .unset] [(.int (1 : Int32))])) _
      have hz : t0 = 1 := by rw [ht0]; exact if_neg q
      rw [← hz]
      show Run p.tables e below (s₁.setTop (mkF m 18 #[.val (.int p0), .val (.int p1), .val (.int s3), .unset, .unset, .unset, .unset, .unset, .unset, .unset, .unset, .unset, .unset, .unset] [(.int t0)])) _
      refine own_go (fun _ => XS.istoreN X0.here hx rfl (hb hby at_18) rfl (l' := #[.val (.int p0), .val (.int p1), .val (.int s3), .val (.int t0), .unset, .unset, .unset, .unset, .unset, .unset, .unset, .unset, .unset, .unset]) rfl) ?_
      show Run p.tables e below (s₁.setTop (mkF m 19 #[.val (.int p0), .val (.int p1), .val (.int s3), .val (.int t0), .unset, .unset, .unset, .unset, .unset, .unset, .unset, .unset, .unset, .unset] [])) _
      exact JF1
  exact JF0
set_option maxRecDepth 65536 in
set_option maxHeartbeats 40000000 in
theorem comes_1 {Post : Tables → Env → Array Value → State → Outcome → State → Prop} (hpost : ∀ tb e args s v u, (limb_1_1.after args s (.returned v) u = true ∧ limb_1_2.after args s (.returned v) u = true ∧ True) → FrameEnd s (.returned v) u (Jvm.fieldLocs frame_1_writes args s ++ Jvm.arrayLocs frame_1_arrays args s ++ Jvm.staticLocs frame_1_statics s) 16 128 → Post tb e args s (.returned v) u) :
    ArmFor flags0 classFile x code maxLocals ret World_1 tables_1 room_1 Calls_1 rest_1 Pre_1 Post := by
  intro l hfl _ _ p e ha hc hk s m args below hf hA hF happ hP
  obtain ⟨hcalls, hrest, hpre⟩ := hP
  obtain ⟨-, -, -, hnamed, -, -, -, hat⟩ := (Spec.applies_iff hf).mp happ
  obtain ⟨hg, hn⟩ := and_e (Cond.before_iff.mp (show (Jvm.Cond.and given_1 narrow_1).before args s = true from hpre))
  obtain ⟨h1, hg⟩ := and_e hg
  obtain ⟨w0, w1, rfl⟩ : ∃ w0 w1 : Value, args = #[w0, w1] := by
    have hs : args.size = 2 := by simpa [Cond.value, given_1] using h1
    obtain ⟨L⟩ := args
    match L, hs with
    | [w0, w1], _ => exact ⟨w0, w1, rfl⟩
  have hw := fun d (hd : d ∈ tables_1) => atoms_spec (ws := Jvm.Cond.code x code maxLocals ret :: tables_1) hat d (List.mem_cons_of_mem _ hd)
  have hfit : Fit s := fun {y c} hc i hi => by
    obtain ⟨ha, rfl⟩ := Array.getElem?_eq_some_iff.mp hc
    have q := List.all_eq_true.mp ((Array.all_eq_true_iff_forall_mem.mp hF) _ (Array.getElem_mem ha)) i (List.mem_range.mpr hi)
    simpa [Array.getElem?_eq_getElem hi] using q
  obtain ⟨g0, hg⟩ := and_e hg
  obtain ⟨i0, q0⟩ := is_v g0
  obtain rfl : w0 = (.int i0) := Option.some.inj q0
  have g1 := hg
  obtain ⟨i1, q1⟩ := is_v g1
  obtain rfl : w1 = (.int i1) := Option.some.inj q1
  obtain ⟨n0, hn⟩ := and_e hn
  obtain ⟨n1, hn⟩ := and_e hn
  obtain ⟨n2, hn⟩ := and_e hn
  obtain ⟨n3, hn⟩ := and_e hn
  obtain ⟨n4, hn⟩ := and_e hn
  obtain ⟨n5, hn⟩ := and_e hn
  obtain ⟨n6, hn⟩ := and_e hn
  obtain ⟨n7, hn⟩ := and_e hn
  obtain ⟨n8, hn⟩ := and_e hn
  obtain ⟨n9, hn⟩ := and_e hn
  obtain ⟨n10, hn⟩ := and_e hn
  obtain ⟨n11, hn⟩ := and_e hn
  obtain ⟨n12, hn⟩ := and_e hn
  obtain ⟨n13, hn⟩ := and_e hn
  have n14 := hn
  obtain ⟨a_ELEMENTS, ev_ELEMENTS⟩ := exa_v n0
  have E_ELEMENTS := Exa.start ev_ELEMENTS n0
  have S_ELEMENTS := Sta.start ev_ELEMENTS (Or.inr ⟨(hw _ (List.mem_of_getElem? (i := 2) rfl)), (hw _ (List.mem_of_getElem? (i := 3) rfl))⟩)
  obtain ⟨a_VALUES, ev_VALUES⟩ := exa_v n3
  have E_VALUES := Exa.start ev_VALUES n3
  have S_VALUES := Sta.start ev_VALUES (Or.inr ⟨(hw _ (List.mem_of_getElem? (i := 2) rfl)), (hw _ (List.mem_of_getElem? (i := 40) rfl))⟩)
  obtain ⟨a_KEYS, ev_KEYS⟩ := exa_v n6
  have E_KEYS := Exa.start ev_KEYS n6
  have S_KEYS := Sta.start ev_KEYS (Or.inr ⟨(hw _ (List.mem_of_getElem? (i := 2) rfl)), (hw _ (List.mem_of_getElem? (i := 44) rfl))⟩)
  have F_ELEMENTS_tracked := own_fld ev_ELEMENTS n1
  have F_ELEMENTS_nullable := own_fld ev_ELEMENTS n2
  have F_VALUES_tracked := own_fld ev_VALUES n4
  have F_VALUES_undeclared := own_fld ev_VALUES n5
  have F_KEYS_tracked := own_fld ev_KEYS n7
  have F_KEYS_undeclared := own_fld ev_KEYS n8
  have F_KEYS_differ := own_fld ev_KEYS n9
  have F_VALUES_nullable := own_fld ev_VALUES n10
  have F_VALUES_differ := own_fld ev_VALUES n11
  have F_ELEMENTS_undeclared := own_fld ev_ELEMENTS n12
  have F_ELEMENTS_differ := own_fld ev_ELEMENTS n13
  have F_KEYS_nullable := own_fld ev_KEYS n14
  obtain ⟨n, o, h1, h2, h3, _, L, rfl, ⟨rfl, N⟩, hq⟩ := rm0 l s _ hw tables_1 i0 i1 a_ELEMENTS a_KEYS a_VALUES s.heap s.heap.size (Nat.le_refl _) S_ELEMENTS S_KEYS S_VALUES ⟨E_ELEMENTS, F_ELEMENTS_tracked, F_ELEMENTS_nullable, F_ELEMENTS_undeclared, F_ELEMENTS_differ⟩ ⟨E_KEYS, F_KEYS_tracked, F_KEYS_nullable, F_KEYS_undeclared, F_KEYS_differ⟩ ⟨E_VALUES, F_VALUES_tracked, F_VALUES_nullable, F_VALUES_undeclared, F_VALUES_differ⟩ p e ha hc hk s m _ below hf ((Spec.applies_iff_loose hf).mp happ).1 ⟨rfl, State.Warmed39.refl s, rfl⟩ trivial
  refine ⟨n, _, h1, h2, h3, hpost _ _ _ _ _ _ ⟨Cond.after_iff.mpr rfl, Cond.after_iff.mpr (eq_i res_at (Term.int_eval (1)) rfl), trivial⟩ ⟨hq.1, hq.2.1, (hq.2.2.sift fun y hy => Or.inr (N y hy)).mono (by decide) (by decide)⟩⟩
theorem main_1_1 : Claimed_1_1 := comes_1 fun _ _ _ _ _ _ h hF => ⟨h.1, hF⟩
theorem main_1_2 : Claimed_1_2 := comes_1 fun _ _ _ _ _ _ h hF => ⟨h.2.1, hF⟩
end Jvm.Pilot.@@N@@
namespace Jvm.Pilot.@@N@@
open Jvm Jvm.ClassFile Sem Op Lib Jvm.Free Jvm.Stand Jvm.Pilot.@@N@@.Jvm.D
/-! MADE BY PROGRAM (witnessworld.py) out of the Statement's table words and the real class files: 14 classes; the members and pool entries that the words name. The judged class is class 1, her method 1. -/
namespace start1
open Jvm.ClassFile
def u (s : String) : CpInfo := .utf8 (stringToUtf16 s)
/-- a pool by its gaps: so many unusable entries, then the entry; so many at the end -/
def gap : Nat → List CpInfo → List CpInfo
  | 0, r => r
  | n + 1, r => .unusable :: gap n r
def poolList (es : List (Nat × CpInfo)) (last : Nat) : List CpInfo := es.foldr (fun e r => gap e.1 (e.2 :: r)) (gap last [])
def pool (es : List (Nat × CpInfo)) (last : Nat) : Array CpInfo := ⟨poolList es last⟩
def fileOf (pool : Array CpInfo) (this : Nat) (attrs : Array Attribute := #[]) (ms : Array MethodInfo := #[]) (fl : Nat := 33) (sup : Nat := 0) (ifs : Array Nat := #[]) (fds : Array FieldInfo := #[]) : ClassFile where
  minorVersion := 0
  majorVersion := 65
  constantPool := pool
  accessFlags := fl
  thisClass := this
  superClass := sup
  interfaces := ifs
  fields := fds
  methods := ms
  attributes := attrs
def plain (name : String) (sup : Option ClassId) : Class where
  name := name
  kind := .ordinary
  loader := none
  accessFlags := 33
  super := sup
  interfaces := #[]
  cf := none
  fields := #[]
  methods := #[]
  instanceTypes := #[]
  staticTypes := #[]
  resolved := #[]
  callSites := []
  init := .initialized
  statics := none
  mirror := none

def pool0 : Array CpInfo := pool [(5, u "<init>"), (0, u "()V"), (1, .class_ 10), (1, u "java/lang/Object")] 113

def k0c0 : Code := { maxStack := 0, maxLocals := 1, code := object_method_1_code, exceptionTable := #[], attributes := #[] }
def k0m0 : Method := { name := "<init>", desc := "()V", sig := { parameters := [], returnType := none }, accessFlags := 1, code := some k0c0 }
/-- java/lang/Object -/
def k0 : Class := { plain "java/lang/Object" none with
  accessFlags := 33
  interfaces := #[]
  cf := some (fileOf pool0 8 #[] #[{ accessFlags := 1, nameIndex := 5, descriptorIndex := 6, attributes := #[] }] 33 0 #[] #[])
  fields := #[]
  methods := #[k0m0]
  instanceTypes := #[]
  staticTypes := #[]
  resolved := Array.replicate 124 none
  statics := none }

def pool1 : Array CpInfo := pool [(2, .class_ 4), (1, u "java/lang/Object"), (0, u "<init>"), (0, u "()V"), (0, .integer 2147483647), (0, .fieldref 9 10), (0, .class_ 11), (0, .nameAndType 12 13), (0, u "com/example/interlace/interlace/ElementsHeader$Side"), (0, u "ELEMENTS"), (0, u "Lcom/example/interlace/interlace/ElementsHeader$Side;"), (0, .fieldref 9 15), (0, .nameAndType 16 13), (0, u "KEYS"), (0, .fieldref 9 18), (0, .nameAndType 19 13), (0, u "VALUES"), (0, .class_ 21), (0, u "com/example/interlace/interlace/ElementsHeader"), (0, .methodref 20 23), (0, .nameAndType 5 24), (0, u "(ZZZZ)V"), (0, .methodref 9 26), (0, .nameAndType 27 28), (0, u "bits"), (0, u "(Lcom/example/interlace/interlace/ElementsHeader;)I"), (0, .class_ 30), (0, u "com/example/interlace/interlace/ElementsHeaderBitsPinLaw"), (2, u "law"), (0, u "(II)Z")] 5

def k1m0 : Method := { name := "<init>", desc := "()V", sig := { parameters := [], returnType := none }, accessFlags := 2, code := none }
def k1c1 : Code := { maxStack := 6, maxLocals := 14, code := code, exceptionTable := #[], attributes := #[] }
def k1m1 : Method := { name := "law", desc := "(II)Z", sig := { parameters := [.int, .int], returnType := some .boolean }, accessFlags := 9, code := some k1c1 }
/-- com/example/interlace/interlace/ElementsHeaderBitsPinLaw -/
def k1 : Class := { plain "com/example/interlace/interlace/ElementsHeaderBitsPinLaw" (some 0) with
  accessFlags := 49
  interfaces := #[]
  cf := some (fileOf pool1 29 #[] #[{ accessFlags := 2, nameIndex := 5, descriptorIndex := 6, attributes := #[] }, { accessFlags := 9, nameIndex := 33, descriptorIndex := 34, attributes := #[] }] 49 2 #[] #[])
  fields := #[]
  methods := #[k1m0, k1m1]
  instanceTypes := #[]
  staticTypes := #[]
  resolved := Array.replicate 40 none
  statics := none }

def pool2 : Array CpInfo := pool [(1, .class_ 2), (0, u "java/lang/constant/Constable"), (0, .class_ 4), (0, u "java/lang/Object")] 6

/-- java/lang/constant/Constable -/
def k2 : Class := { plain "java/lang/constant/Constable" (some 0) with
  accessFlags := 1537
  interfaces := #[]
  cf := some (fileOf pool2 1 #[] #[] 1537 3 #[] #[])
  fields := #[]
  methods := #[]
  instanceTypes := #[]
  staticTypes := #[]
  resolved := Array.replicate 11 none
  statics := none }

def pool3 : Array CpInfo := pool [(1, .class_ 2), (0, u "java/lang/Comparable"), (0, .class_ 4), (0, u "java/lang/Object")] 7

/-- java/lang/Comparable -/
def k3 : Class := { plain "java/lang/Comparable" (some 0) with
  accessFlags := 1537
  interfaces := #[]
  cf := some (fileOf pool3 1 #[] #[] 1537 3 #[] #[])
  fields := #[]
  methods := #[]
  instanceTypes := #[]
  staticTypes := #[]
  resolved := Array.replicate 12 none
  statics := none }

def pool4 : Array CpInfo := pool [(1, .class_ 2), (0, u "java/io/Serializable"), (0, .class_ 4), (0, u "java/lang/Object")] 2

/-- java/io/Serializable -/
def k4 : Class := { plain "java/io/Serializable" (some 0) with
  accessFlags := 1537
  interfaces := #[]
  cf := some (fileOf pool4 1 #[] #[] 1537 3 #[] #[])
  fields := #[]
  methods := #[]
  instanceTypes := #[]
  staticTypes := #[]
  resolved := Array.replicate 7 none
  statics := none }

def pool5 : Array CpInfo := pool [(2, .class_ 4), (1, u "java/lang/Enum"), (0, u "name"), (0, u "Ljava/lang/String;"), (2, u "ordinal"), (0, u "I"), (1, .class_ 14), (1, u "java/lang/Object"), (4, u "hash"), (86, .class_ 108), (1, u "java/lang/Enum$EnumDesc"), (2, .class_ 112), (0, u "java/lang/constant/Constable"), (0, .class_ 114), (0, u "java/lang/Comparable"), (0, .class_ 116), (0, u "java/io/Serializable")] 87

/-- java/lang/Enum -/
def k5 : Class := { plain "java/lang/Enum" (some 0) with
  accessFlags := 1057
  interfaces := #[2, 3, 4]
  cf := some (fileOf pool5 2 #[.nestMembers #[106]] #[] 1057 12 #[111, 113, 115] #[{ accessFlags := 18, nameIndex := 5, descriptorIndex := 6, attributes := #[] }, { accessFlags := 18, nameIndex := 9, descriptorIndex := 10, attributes := #[] }, { accessFlags := 2, nameIndex := 19, descriptorIndex := 10, attributes := #[] }])
  fields := #[{ name := "name", type := (.object "java/lang/String"), accessFlags := 18, slot := 0, constantValue := 0 }, { name := "ordinal", type := .int, accessFlags := 18, slot := 1, constantValue := 0 }, { name := "hash", type := .int, accessFlags := 2, slot := 2, constantValue := 0 }]
  methods := #[]
  instanceTypes := #[(.object "java/lang/String"), .int, .int]
  staticTypes := #[]
  resolved := Array.replicate 204 none
  statics := none }

def pool6 : Array CpInfo := pool [(1, .class_ 2), (0, u "com/example/interlace/interlace/ElementsHeader$Side"), (2, u "ELEMENTS"), (0, u "Lcom/example/interlace/interlace/ElementsHeader$Side;"), (2, u "KEYS"), (2, u "VALUES"), (2, u "$VALUES"), (0, u "[Lcom/example/interlace/interlace/ElementsHeader$Side;"), (6, .class_ 25), (1, u "java/lang/Enum"), (6, .class_ 33), (0, u "com/example/interlace/interlace/ElementsHeader"), (2, u "decoded"), (0, u "[Lcom/example/interlace/interlace/ElementsHeader;"), (2, u "noun"), (0, u "Ljava/lang/String;"), (2, u "typeArgument"), (0, u "I"), (0, .fieldref 1 47), (0, .nameAndType 48 45), (0, u "tracked"), (0, .fieldref 1 50), (0, .nameAndType 51 45), (0, u "nullable"), (0, .fieldref 1 53), (0, .nameAndType 54 45), (0, u "undeclared"), (0, .fieldref 1 56), (0, .nameAndType 57 45), (0, u "differ"), (24, .fieldref 32 83), (0, .nameAndType 48 84), (0, u "Z"), (0, .fieldref 32 86), (0, .nameAndType 51 84), (0, .fieldref 32 88), (0, .nameAndType 54 84), (0, .fieldref 32 90), (0, .nameAndType 57 84), (55, u "bits"), (0, u "(Lcom/example/interlace/interlace/ElementsHeader;)I")] 24

def k6c0 : Code := { maxStack := 2, maxLocals := 2, code := prog_13_method_8_code, exceptionTable := #[], attributes := #[] }
def k6m0 : Method := { name := "bits", desc := "(Lcom/example/interlace/interlace/ElementsHeader;)I", sig := { parameters := [(.object "com/example/interlace/interlace/ElementsHeader")], returnType := some .int }, accessFlags := 0, code := some k6c0 }
/-- com/example/interlace/interlace/ElementsHeader$Side -/
def k6 : Class := { plain "com/example/interlace/interlace/ElementsHeader$Side" (some 5) with
  accessFlags := 16432
  interfaces := #[]
  cf := some (fileOf pool6 1 #[.nestHost 32] #[{ accessFlags := 0, nameIndex := 146, descriptorIndex := 147, attributes := #[] }] 16432 23 #[] #[{ accessFlags := 16409, nameIndex := 5, descriptorIndex := 6, attributes := #[] }, { accessFlags := 16409, nameIndex := 9, descriptorIndex := 6, attributes := #[] }, { accessFlags := 16409, nameIndex := 12, descriptorIndex := 6, attributes := #[] }, { accessFlags := 18, nameIndex := 40, descriptorIndex := 41, attributes := #[] }, { accessFlags := 18, nameIndex := 44, descriptorIndex := 45, attributes := #[] }, { accessFlags := 18, nameIndex := 48, descriptorIndex := 45, attributes := #[] }, { accessFlags := 18, nameIndex := 51, descriptorIndex := 45, attributes := #[] }, { accessFlags := 18, nameIndex := 54, descriptorIndex := 45, attributes := #[] }, { accessFlags := 18, nameIndex := 57, descriptorIndex := 45, attributes := #[] }, { accessFlags := 18, nameIndex := 36, descriptorIndex := 37, attributes := #[] }, { accessFlags := 4122, nameIndex := 15, descriptorIndex := 16, attributes := #[] }])
  fields := #[{ name := "ELEMENTS", type := (.object "com/example/interlace/interlace/ElementsHeader$Side"), accessFlags := 16409, slot := 0, constantValue := 0 }, { name := "KEYS", type := (.object "com/example/interlace/interlace/ElementsHeader$Side"), accessFlags := 16409, slot := 1, constantValue := 0 }, { name := "VALUES", type := (.object "com/example/interlace/interlace/ElementsHeader$Side"), accessFlags := 16409, slot := 2, constantValue := 0 }, { name := "noun", type := (.object "java/lang/String"), accessFlags := 18, slot := 3, constantValue := 0 }, { name := "typeArgument", type := .int, accessFlags := 18, slot := 4, constantValue := 0 }, { name := "tracked", type := .int, accessFlags := 18, slot := 5, constantValue := 0 }, { name := "nullable", type := .int, accessFlags := 18, slot := 6, constantValue := 0 }, { name := "undeclared", type := .int, accessFlags := 18, slot := 7, constantValue := 0 }, { name := "differ", type := .int, accessFlags := 18, slot := 8, constantValue := 0 }, { name := "decoded", type := (.array (.object "com/example/interlace/interlace/ElementsHeader")), accessFlags := 18, slot := 9, constantValue := 0 }, { name := "$VALUES", type := (.array (.object "com/example/interlace/interlace/ElementsHeader$Side")), accessFlags := 4122, slot := 3, constantValue := 0 }]
  methods := #[k6m0]
  instanceTypes := #[(.object "java/lang/String"), .int, .int, (.object "java/lang/String"), .int, .int, .int, .int, .int, (.array (.object "com/example/interlace/interlace/ElementsHeader"))]
  staticTypes := #[(.object "com/example/interlace/interlace/ElementsHeader$Side"), (.object "com/example/interlace/interlace/ElementsHeader$Side"), (.object "com/example/interlace/interlace/ElementsHeader$Side"), (.array (.object "com/example/interlace/interlace/ElementsHeader$Side"))]
  resolved := Array.replicate 172 none
  statics := some 0 }

def pool7 : Array CpInfo := pool [(1, .methodref 2 3), (0, .class_ 4), (0, .nameAndType 5 6), (0, u "java/lang/Object"), (0, u "<init>"), (0, u "()V"), (0, .class_ 8), (0, u "java/lang/Record")] 13

def k7c0 : Code := { maxStack := 1, maxLocals := 1, code := jdk_30_method_1_code, exceptionTable := #[], attributes := #[] }
def k7m0 : Method := { name := "<init>", desc := "()V", sig := { parameters := [], returnType := none }, accessFlags := 4, code := some k7c0 }
/-- java/lang/Record -/
def k7 : Class := { plain "java/lang/Record" (some 0) with
  accessFlags := 1057
  interfaces := #[]
  cf := some (fileOf pool7 7 #[] #[{ accessFlags := 4, nameIndex := 5, descriptorIndex := 6, attributes := #[] }] 1057 2 #[] #[])
  fields := #[]
  methods := #[k7m0]
  instanceTypes := #[]
  staticTypes := #[]
  resolved := Array.replicate 22 none
  statics := none }

def pool8 : Array CpInfo := pool [(1, .methodref 2 3), (0, .class_ 4), (0, .nameAndType 5 6), (0, u "java/lang/Record"), (0, u "<init>"), (0, u "()V"), (0, .fieldref 8 9), (0, .class_ 10), (0, .nameAndType 11 12), (0, u "com/example/interlace/interlace/ElementsHeader"), (0, u "tracked"), (0, u "Z"), (0, .fieldref 8 14), (0, .nameAndType 15 12), (0, u "nullable"), (0, .fieldref 8 17), (0, .nameAndType 18 12), (0, u "undeclared"), (0, .fieldref 8 20), (0, .nameAndType 21 12), (0, u "differ"), (2, u "ALL"), (0, u "[Lcom/example/interlace/interlace/ElementsHeader;"), (10, .class_ 38), (1, u "com/example/interlace/interlace/ElementsHeader$Side"), (58, u "(ZZZZ)V")] 45

def k8c0 : Code := { maxStack := 2, maxLocals := 5, code := prog_12_method_1_code, exceptionTable := #[], attributes := #[] }
def k8m0 : Method := { name := "<init>", desc := "(ZZZZ)V", sig := { parameters := [.boolean, .boolean, .boolean, .boolean], returnType := none }, accessFlags := 0, code := some k8c0 }
/-- com/example/interlace/interlace/ElementsHeader -/
def k8 : Class := { plain "com/example/interlace/interlace/ElementsHeader" (some 7) with
  accessFlags := 48
  interfaces := #[]
  cf := some (fileOf pool8 8 #[.nestMembers #[36]] #[{ accessFlags := 0, nameIndex := 5, descriptorIndex := 97, attributes := #[] }] 48 2 #[] #[{ accessFlags := 18, nameIndex := 11, descriptorIndex := 12, attributes := #[] }, { accessFlags := 18, nameIndex := 15, descriptorIndex := 12, attributes := #[] }, { accessFlags := 18, nameIndex := 18, descriptorIndex := 12, attributes := #[] }, { accessFlags := 18, nameIndex := 21, descriptorIndex := 12, attributes := #[] }, { accessFlags := 26, nameIndex := 24, descriptorIndex := 25, attributes := #[] }])
  fields := #[{ name := "tracked", type := .boolean, accessFlags := 18, slot := 0, constantValue := 0 }, { name := "nullable", type := .boolean, accessFlags := 18, slot := 1, constantValue := 0 }, { name := "undeclared", type := .boolean, accessFlags := 18, slot := 2, constantValue := 0 }, { name := "differ", type := .boolean, accessFlags := 18, slot := 3, constantValue := 0 }, { name := "ALL", type := (.array (.object "com/example/interlace/interlace/ElementsHeader")), accessFlags := 26, slot := 0, constantValue := 0 }]
  methods := #[k8m0]
  instanceTypes := #[.boolean, .boolean, .boolean, .boolean]
  staticTypes := #[(.array (.object "com/example/interlace/interlace/ElementsHeader"))]
  resolved := Array.replicate 143 none
  statics := none }

def pool9 : Array CpInfo := pool [(1, u "java/lang/Cloneable"), (0, .class_ 1), (0, u "java/lang/Object"), (0, .class_ 3)] 3

/-- java/lang/Cloneable -/
def k9 : Class := { plain "java/lang/Cloneable" (some 0) with
  accessFlags := 1537
  interfaces := #[]
  cf := some (fileOf pool9 2 #[] #[] 1537 4 #[] #[])
  fields := #[]
  methods := #[]
  instanceTypes := #[]
  staticTypes := #[]
  resolved := Array.replicate 8 none
  statics := none }

/-- the primitive byte -/
def k10 : Class := { plain "byte" none with kind := .primitive 'B', accessFlags := 0x411 }
/-- [B -/
def k11 : Class := { plain "[B" (some 0) with kind := .array 10 .byte, interfaces := #[9, 4], accessFlags := 1041 }

/-- the primitive int -/
def k12 : Class := { plain "int" none with kind := .primitive 'I', accessFlags := 0x411 }
/-- [I -/
def k13 : Class := { plain "[I" (some 0) with kind := .array 12 .int, interfaces := #[9, 4], accessFlags := 1041 }

def heap : Heap := #[{ cls := 6, slots := #[.ref 1, .ref 2, .ref 3, .null], vm := .statics 6 },
  { cls := 6, slots := #[.null, .int 0, .int 0, .null, .int 0, .int 1, .int 2, .int 4, .int 8, .null], vm := .none },
  { cls := 6, slots := #[.null, .int 1, .int 0, .null, .int 0, .int 1, .int 2, .int 8, .int 4, .null], vm := .none },
  { cls := 6, slots := #[.null, .int 2, .int 0, .null, .int 0, .int 16, .int 32, .int 128, .int 64, .null], vm := .none }]
def classes : Array Class := #[k0, k1, k2, k3, k4, k5, k6, k7, k8, k9, k10, k11, k12, k13]
def interned : List (Array UInt16 × Addr) := []
def slotsUsed : Nat := 34
def theMethod : MethodId := ⟨1, 1⟩
def args0 : Array Value := #[.int 5, .int 6]
def aboutOver (below : List Frame) : State where
  vm := { classes := classes, interned := interned.toArray }
  heap := heap
  slotsUsed := slotsUsed
  threads := #[{ frames := .invoking theMethod args0 :: below }]
def below0 : List Frame := [.native { method := ⟨0, 0⟩, args := #[] }]
def about1 : State := aboutOver below0
def p0 : Program := .bare "" "" ""
def e0 : Env := launch0.env 0 0 0
theorem w_frames : about1.frames = Frame.invoking theMethod args0 :: below0 := rfl
set_option maxRecDepth 65536 in
theorem w_args : argsFit about1.vm theMethod args0 = true := by decide +kernel
set_option maxRecDepth 65536 in
theorem w_heap : heapFits about1 = true := by decide +kernel
set_option maxRecDepth 65536 in
theorem w_runnable : about1.curStatus? = some .runnable := by decide +kernel
set_option maxRecDepth 65536 in
theorem w_alone : about1.alone = true := by decide +kernel
set_option maxRecDepth 65536 in
theorem w_named : about1.methodNamed? x = some theMethod := by decide +kernel
set_option maxRecDepth 65536 in
theorem w_hears : about1.hears theMethod below0 = true := by decide +kernel
set_option maxRecDepth 65536 in
theorem w_ripe : about1.ripe theMethod args0 below0 = true := by decide +kernel
theorem w_running : about1.status = .running := rfl
set_option maxRecDepth 65536 in
theorem w_room : about1.hasRoom e0.platform room_1 = true :=
  launch0.hasRoom_least _ room_1 (by decide +kernel) (by decide +kernel) (by decide +kernel) (by decide +kernel) (by decide +kernel) (by decide +kernel)
theorem allAtoms_all (ts : List Jvm.Cond) (a : Array Jvm.Value) (st : Jvm.State) : (allAtoms ts).before a st = ts.all (fun c => c.before a st) := by
  induction ts with
  | nil => rfl
  | cons c t ih =>
    show (Jvm.Cond.and c (allAtoms t)).before a st = _
    rw [Jvm.Cond.before_and, ih, List.all_cons]
def words1 : List Jvm.Cond := Jvm.Cond.code x code maxLocals ret :: tables_1
/-- a 'code' word, met by the world's own term for the bytes: nothing is compared byte by byte -/
theorem code_word {y : MethodName} {bytes : ByteArray} {mx : Nat} {rt : Option FieldType} {a : Array Value} {s : State} {m : MethodId} {meth : Method} {c : Code} (h1 : s.methodNamed? y = some m) (h2 : s.vm.method? m = some meth) (h3 : meth.code = some c) (h4 : c.code = bytes)
    (h5 : (c.maxLocals == mx && c.exceptionTable.isEmpty && decide (c.maxStack ≤ mostOperands) && decide (meth.sig.returnType = rt) && !meth.locks && decide (parseMethodDescriptor y.desc = some meth.sig)) = true) : (Jvm.Cond.code y bytes mx rt).before a s = true := by
  simp only [Bool.and_eq_true, beq_iff_eq, Bool.not_eq_true', decide_eq_true_eq] at h5
  obtain ⟨⟨⟨⟨⟨g1, g2⟩, g3⟩, g4⟩, g5⟩, g6⟩ := h5
  simp [Cond.before, Cond.holds, Cond.value, h1, h2, h3, h4, g1, g2, g3, g4, g5, g6]
def isCode : Jvm.Cond → Bool
  | .code _ _ _ _ => true
  | _ => false
theorem all_split {L : List Jvm.Cond} {P : Jvm.Cond → Bool} (h1 : L.all (fun c => isCode c || P c) = true) (h2 : ∀ c ∈ L.filter isCode, P c = true) : L.all P = true := by
  refine List.all_eq_true.mpr fun c hc => ?_
  have h := List.all_eq_true.mp h1 c hc
  rcases Bool.eq_false_or_eq_true (isCode c) with hi | hi
  · exact h2 c (List.mem_filter.mpr ⟨hc, hi⟩)
  · simpa [hi] using h
set_option maxRecDepth 65536 in
theorem w_c0 : (Jvm.Cond.code x code maxLocals ret).before args0 about1 = true := code_word (m := ⟨1, 1⟩) (meth := k1m1) (c := k1c1) (by decide +kernel) rfl rfl rfl (by decide +kernel)
set_option maxRecDepth 65536 in
theorem w_c1 : (Jvm.Cond.code ({ cls := "com/example/interlace/interlace/ElementsHeader", name := "<init>", desc := "(ZZZZ)V" } : Jvm.MethodName) prog_12_method_1_code (5 : Nat) (Option.none : Option Jvm.ClassFile.FieldType)).before args0 about1 = true := code_word (m := ⟨8, 0⟩) (meth := k8m0) (c := k8c0) (by decide +kernel) rfl rfl rfl (by decide +kernel)
set_option maxRecDepth 65536 in
theorem w_c2 : (Jvm.Cond.code ({ cls := "java/lang/Record", name := "<init>", desc := "()V" } : Jvm.MethodName) jdk_30_method_1_code (1 : Nat) (Option.none : Option Jvm.ClassFile.FieldType)).before args0 about1 = true := code_word (m := ⟨7, 0⟩) (meth := k7m0) (c := k7c0) (by decide +kernel) rfl rfl rfl (by decide +kernel)
set_option maxRecDepth 65536 in
theorem w_c3 : (Jvm.Cond.code ({ cls := "java/lang/Object", name := "<init>", desc := "()V" } : Jvm.MethodName) object_method_1_code (1 : Nat) (Option.none : Option Jvm.ClassFile.FieldType)).before args0 about1 = true := code_word (m := ⟨0, 0⟩) (meth := k0m0) (c := k0c0) (by decide +kernel) rfl rfl rfl (by decide +kernel)
set_option maxRecDepth 65536 in
theorem w_c4 : (Jvm.Cond.code ({ cls := "com/example/interlace/interlace/ElementsHeader$Side", name := "bits", desc := "(Lcom/example/interlace/interlace/ElementsHeader;)I" } : Jvm.MethodName) prog_13_method_8_code (2 : Nat) (Option.some Jvm.ClassFile.FieldType.int)).before args0 about1 = true := code_word (m := ⟨6, 0⟩) (meth := k6m0) (c := k6c0) (by decide +kernel) rfl rfl rfl (by decide +kernel)
def codes1 : List Jvm.Cond := [Jvm.Cond.code x code maxLocals ret, Jvm.Cond.code ({ cls := "com/example/interlace/interlace/ElementsHeader", name := "<init>", desc := "(ZZZZ)V" } : Jvm.MethodName) prog_12_method_1_code (5 : Nat) (Option.none : Option Jvm.ClassFile.FieldType), Jvm.Cond.code ({ cls := "java/lang/Record", name := "<init>", desc := "()V" } : Jvm.MethodName) jdk_30_method_1_code (1 : Nat) (Option.none : Option Jvm.ClassFile.FieldType), Jvm.Cond.code ({ cls := "java/lang/Object", name := "<init>", desc := "()V" } : Jvm.MethodName) object_method_1_code (1 : Nat) (Option.none : Option Jvm.ClassFile.FieldType), Jvm.Cond.code ({ cls := "com/example/interlace/interlace/ElementsHeader$Side", name := "bits", desc := "(Lcom/example/interlace/interlace/ElementsHeader;)I" } : Jvm.MethodName) prog_13_method_8_code (2 : Nat) (Option.some Jvm.ClassFile.FieldType.int)]
set_option maxRecDepth 65536 in
theorem codes_eq : words1.filter isCode = codes1 := rfl
theorem w_codes : ∀ c ∈ words1.filter isCode, c.before args0 about1 = true := by
  rw [codes_eq]
  intro c hc
  simp only [codes1, List.mem_cons, List.not_mem_nil, or_false] at hc
  rcases hc with rfl | rfl | rfl | rfl | rfl
  · exact w_c0
  · exact w_c1
  · exact w_c2
  · exact w_c3
  · exact w_c4
set_option maxRecDepth 65536 in
theorem w_t1 : (words1.take 24).all (fun c => isCode c || c.before args0 about1) = true := by decide +kernel
set_option maxRecDepth 65536 in
theorem w_t2 : (words1.drop 24).all (fun c => isCode c || c.before args0 about1) = true := by decide +kernel
theorem w_tables : (allAtoms (Jvm.Cond.code x code maxLocals ret :: tables_1)).before args0 about1 = true := by
  rw [allAtoms_all]
  show words1.all (fun c => c.before args0 about1) = true
  refine all_split ?_ w_codes
  rw [← List.take_append_drop 24 words1, List.all_append, w_t1, w_t2]
  rfl
set_option maxRecDepth 65536 in
theorem w_case : (Jvm.Cond.and given_1 narrow_1).before args0 about1 = true := by decide +kernel
theorem w_applies : (headSpec (Jvm.Cond.code x code maxLocals ret :: tables_1) room_1).applies x e0.platform about1 = true :=
  (Spec.applies_iff w_frames).mpr ⟨w_running, w_runnable, w_alone, w_named, w_hears, w_ripe, w_room, w_tables⟩
theorem atStart : AtStart classFile x code maxLocals ret World_1 tables_1 room_1 Calls_1 rest_1 Pre_1 launch0 p0 e0 about1 theMethod args0 below0 :=
  ⟨lists_1, trivial, launch0.admits_env _ _ _, launch0.least_env, fairChoices_fair.cas, fairChoices_fair.clock, w_frames, w_args, w_heap, w_applies, trivial, trivial, w_case⟩
end start1
theorem witness_1 : WitnessClaimed_1 := ⟨start1.p0, start1.e0, start1.about1, start1.theMethod, start1.args0, start1.below0, start1.atStart⟩
end Jvm.Pilot.@@N@@
