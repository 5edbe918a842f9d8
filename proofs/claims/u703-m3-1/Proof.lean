import JvmDerived
import JvmDerived.Pilot.@@N@@Statement
import JvmDerived.Pilot.@@N@@Code
set_option linter.unusedVariables false
set_option linter.unusedSimpArgs false
namespace Jvm.RoadKit
open Sem ClassFile Op Lib Jvm.Stand Jvm.Free Jvm.LawKit
section New
variable {p : Program} {l : Launch} {e : Env} {R : Room} {s : State} {m : MethodId} {args : Array Value} {below : List Frame} {meth : Method} {c : Code} {T : State} {locs : List Loc} {cells slots : Nat}
theorem retI (X : Stand p l e R s m args below meth c T locs cells slots) (hx : p.tables.exec = Jvm.exec) {pc : Nat} {Ls : Array Slot} {z : Int32} {rest : List Value} (hret : meth.sig.returnType = some .int) (hd : decode c.code pc = .ok (.ireturn, 1)) {fs : List Frame}
    (hl : ∀ (f : JFrame) (acts : List Action), f.method = m → f.locked = none → f.entered = [] → (doReturn e (T.setTop f) acts (some (.int z))).1 = T.setFrames fs) : Steps p.tables e below (T.setTop (mkF m pc Ls (.int z :: rest))) (T.setFrames fs) := by
  have hm' : T.vm.method? m = some meth := X.method'
  have hn : narrow .int (.int z) = .int z := rfl
  show Steps p.tables e below (T.setTop { method := m, pc := pc, locals := Ls, stack := _ :: rest, locked := none }) _
  jvm_step X.here [X.here.top, hx, hd, hm', hret, hn]
  first | (intro acts; rw [hl _ acts rfl rfl rfl]) | rw [hl _ _ rfl rfl rfl]
  exact Steps.refl _
end New
end Jvm.RoadKit
namespace Jvm.Pilot.@@N@@
open Jvm Jvm.ClassFile Sem Op Lib Jvm.Free Jvm.Stand Jvm.LawKit Jvm.RoadKit Bundle Jvm.Pilot.@@N@@.Jvm.D
/-! own_..: a walk as a goal: from here some run ends as the contract says; steps are taken off its front -/
section Own
variable {p : Program} {l : Launch} {e : Env} {R : Room} {s : State} {m : MethodId} {args : Array Value} {below : List Frame} {meth : Method} {c : Code} {T : State} {locs : List Loc} {cells slots : Nat} {Z : State} {a0 : Array Value} {h : Heap}
def Run (tb : Tables) (e : Env) (below : List Frame) (A : State) (G : State → Outcome → Prop) : Prop := ∃ t o, Steps tb e below A t ∧ G t o
theorem own_go {tb : Tables} {A B : State} {G : State → Outcome → Prop} (st : ∀ t, Steps tb e below B t → Steps tb e below A t) (k : Run tb e below B G) : Run tb e below A G := by
  obtain ⟨t, o, h1, h2⟩ := k
  exact ⟨t, o, st t h1, h2⟩
def OwnFin (s : State) (below : List Frame) (Q : Option Value → Heap → List Loc → Prop) (ck sk : Nat) : State → Outcome → Prop :=
  fun t o => t.status = .running ∧ Ended t below o ∧ ∃ v L, o = .returned v ∧ Q v t.heap L ∧ FrameEnd s o t L ck sk
def OwnCtr (l : Launch) (y : MethodName) (bytes : ByteArray) (maxL : Nat) (ret : Option FieldType) (ws : List Jvm.Cond) (rm : Room) (Z : State) (as' : Array Value) (h : Heap) (Q : Option Value → Heap → List Loc → Prop) : Prop :=
  MetFree l y (head1 (Jvm.Cond.code y bytes maxL ret :: ws) rm) (fun a U => a = as' ∧ Z.Warmed39 U.vm ∧ U.heap = h) (fun _ _ _ _ _ => True) (fun _ U o U' => ∃ v L, o = .returned v ∧ Q v U'.heap L ∧ FrameEnd U o U' L rm.cells rm.slots)
theorem own_body {y : MethodName} {bytes : ByteArray} {maxL : Nat} {ret : Option FieldType} {ws : List Jvm.Cond} {rm : Room} {as' : Array Value} {Q : Option Value → Heap → List Loc → Prop} (pn : plainName y.cls = true)
    (H : ∀ (p : Program) (e : Env) (s : State) (m : MethodId) (below : List Frame) (meth : Method) (c : Code) (s₁ : State), Stand p l e rm s m as' below meth c s₁ [] 0 0 → p.tables.exec = Jvm.exec → c.code = bytes → c.maxLocals = maxL →
      s.vm.findClass y.cls = some m.cls → meth.name = y.name → meth.sig.returnType = ret → meth.locks = false → Z.Warmed39 s.vm → s₁.heap = h → Run p.tables e below (s₁.setTop (entryFrame m as' maxL)) (OwnFin s below Q rm.cells rm.slots)) :
    OwnCtr l y bytes maxL ret ws rm Z as' h Q := by
  refine MetFree.of_bodySF (plainFor_of_name pn) hisR ?_
  intro p e s m args below meth c s₁ Bd hml0 hP hK
  obtain ⟨rfl, hZ, hh⟩ := hP
  exact H p e s m below meth c s₁ (Stand.of_body Bd) Bd.exec Bd.bytes hml0 (findClass_of_methodNamed Bd.named) (name_of_methodNamed Bd.named Bd.method).1 Bd.returns (BodyLoose.notSynchronized Bd) hZ (by rw [← hh, Bd.state]; rfl)
theorem own_out (X : Stand p l e R s m args below meth c T locs cells slots) {v : Option Value} (hv : meth.sig.returnType = none → v = none) (hlk : meth.locks = false) {g : JFrame} {Q : Option Value → Heap → List Loc → Prop} {ck sk : Nat}
    (hst : ∀ fs, (∀ (f : JFrame) (acts : List Action), f.method = m → f.locked = none → f.entered = [] → (doReturn e (T.setTop f) acts v).1 = T.setFrames fs) → Steps p.tables e below (T.setTop g) (T.setFrames fs))
    (hQ : Q v T.heap locs) (hc : cells ≤ ck) (hs : slots ≤ sk) : Run p.tables e below (T.setTop g) (OwnFin s below Q ck sk) := by
  obtain ⟨fs, hr, hrun, hended, hW, hsame⟩ := X.leave (v := v) hv hlk
  exact ⟨_, _, hst fs hr, hrun, hended, v, locs, rfl, hQ, ⟨_, rfl⟩, hW, hsame.mono hc hs⟩
theorem own_callV (X : Stand p l e R s m args below meth c T locs cells slots) (hx : p.tables.exec = Jvm.exec) (hZ : Z.Warmed39 s.vm) {own C : String} {index : Nat} {y : MethodName} {bytes : ByteArray} {maxL : Nat} {ret : Option FieldType}
    (hown : s.vm.findClass own = some m.cls) (w1 : (Jvm.Cond.methodLink own index y).before a0 Z = true) (w2 : (Jvm.Cond.instanceMethod y).before a0 Z = true) (w3 : (Jvm.Cond.selects C y y).before a0 Z = true)
    (w4 : (Jvm.Cond.code y bytes maxL ret).before a0 Z = true) (w5 : (Jvm.Cond.initialized y.cls).before a0 Z = true) (hy : y.cls ≠ "java/lang/invoke/MethodHandle" ∧ y.cls ≠ "java/lang/invoke/VarHandle")
    (eT : T.heap = h) {rm : Room} {as' : Array Value} {Q : Option Value → Heap → List Loc → Prop} (hM : OwnCtr l y bytes maxL ret [] rm Z as' h Q)
    {b : Addr} (E : Exa Z h b C) {g : JFrame} (hg : g.method = m) (hsize : g.locals.size = c.maxLocals) {argsL rest : List Value} {ps : List FieldType} {rt : Option FieldType} (hpd : parseMethodDescriptor y.desc = some ⟨ps, rt⟩) (hlen : argsL.length = ps.length)
    (hs : g.stack = argsL.reverse ++ .ref b :: rest) (has : as' = (Value.ref b :: argsL).toArray) {W : Nat} (hW : 2 * g.monitorRoom + (rest.map fun v => v.category).sum ≤ W) (hd : decode c.code g.pc = .ok (.invokevirtual index, 3))
    (hf : rm.frames + 1 ≤ R.frames) (hl : W + (maxL + 11) + rm.locals ≤ R.locals) (hc : cells + rm.cells ≤ R.cells) (hsl : slots + rm.slots ≤ R.slots) :
    ∃ (v : Option Value) (T' : State) (L : List Loc), Stand p l e R s m args below meth c T' (locs ++ L) (cells + rm.cells) (slots + rm.slots) ∧ Q v T'.heap L ∧
      ∀ target, Steps p.tables e below (T'.setTop { g with pc := g.pc + 3, stack := v.toList ++ rest }) target → Steps p.tables e below (T.setTop g) target := by
  obtain ⟨cell, k, h1, h2, h3, h4, -⟩ := E
  obtain ⟨v, vm₁, ⟨T', L', k', n'⟩, -, X', ⟨L, hQ, l1, l2, l3⟩, st⟩ := Jvm.LawKit.callV X hx hown (mvT hZ w1) (mvT hZ w2) (mvT hZ w3) (mvT hZ w4) hy (backOf (W := W) hM hZ w4 w5 hf hl) (b := b) (cellB := cell) (by rw [eT]; exact h1) h4 (by rw [hZ.alike.findClass]; exact h2) hg hsize (lenOf hpd hlen) hs hW hd (fun _ _ => ⟨has.symm, eT, hc, hsl⟩)
  dsimp only [Pt.U, Pt.locs, Pt.cells, Pt.slots] at X' l1 l2 l3 st hQ
  subst l1 l2 l3
  exact ⟨v, T', L, X', hQ, st⟩
theorem own_callVU (X : Stand p l e R s m args below meth c T locs cells slots) (hx : p.tables.exec = Jvm.exec) (hZ : Z.Warmed39 s.vm) {own C owner : String} {index : Nat} {x y : MethodName} {bytes : ByteArray} {maxL : Nat} {ret : Option FieldType}
    (hown : s.vm.findClass own = some m.cls) (w1 : (Jvm.Cond.methodLink own index x).before a0 Z = true) (w1' : (Jvm.Cond.sameMethod x.cls owner x.name x.desc).before a0 Z = true) (w1'' : (Jvm.Cond.declares ⟨owner, x.name, x.desc⟩).before a0 Z = true) (w2 : (Jvm.Cond.instanceMethod y).before a0 Z = true) (w3 : (Jvm.Cond.selects C x y).before a0 Z = true)
    (w4 : (Jvm.Cond.code y bytes maxL ret).before a0 Z = true) (w5 : (Jvm.Cond.initialized y.cls).before a0 Z = true) (hy : owner ≠ "java/lang/invoke/MethodHandle" ∧ owner ≠ "java/lang/invoke/VarHandle")
    (eT : T.heap = h) {rm : Room} {as' : Array Value} {Q : Option Value → Heap → List Loc → Prop} (hM : OwnCtr l y bytes maxL ret [] rm Z as' h Q)
    {b : Addr} (E : Exa Z h b C) {g : JFrame} (hg : g.method = m) (hsize : g.locals.size = c.maxLocals) {argsL rest : List Value} {ps : List FieldType} {rt : Option FieldType} (hpd : parseMethodDescriptor x.desc = some ⟨ps, rt⟩) (hlen : argsL.length = ps.length)
    (hs : g.stack = argsL.reverse ++ .ref b :: rest) (has : as' = (Value.ref b :: argsL).toArray) {W : Nat} (hW : 2 * g.monitorRoom + (rest.map fun v => v.category).sum ≤ W) (hd : decode c.code g.pc = .ok (.invokevirtual index, 3))
    (hf : rm.frames + 1 ≤ R.frames) (hl : W + (maxL + 11) + rm.locals ≤ R.locals) (hc : cells + rm.cells ≤ R.cells) (hsl : slots + rm.slots ≤ R.slots) :
    ∃ (v : Option Value) (T' : State) (L : List Loc), Stand p l e R s m args below meth c T' (locs ++ L) (cells + rm.cells) (slots + rm.slots) ∧ Q v T'.heap L ∧
      ∀ target, Steps p.tables e below (T'.setTop { g with pc := g.pc + 3, stack := v.toList ++ rest }) target → Steps p.tables e below (T.setTop g) target := by
  obtain ⟨cB, kB, q1, q2, q3⟩ := isOf hZ eT E
  obtain ⟨v, vm₁, ⟨T', L', k', n'⟩, -, X', ⟨L, hQ, l1, l2, l3⟩, st⟩ := X.virtualBackUp hx hown (mvT hZ w1) (mvT hZ w1') (mvT hZ w1'') hy (mvT hZ w3) (mvT hZ w2) (backOf (W := W) hM hZ w4 w5 hf hl) q1 q3 hg hsize (Steps.refl _) (lenOf hpd hlen) hs hW hd (fun _ _ => ⟨has.symm, eT, hc, hsl⟩)
  dsimp only [Pt.U, Pt.locs, Pt.cells, Pt.slots] at X' l1 l2 l3 st hQ
  subst l1 l2 l3
  exact ⟨v, T', L, X', hQ, fun _ k => st.trans k⟩
theorem own_callS (X : Stand p l e R s m args below meth c T locs cells slots) (hx : p.tables.exec = Jvm.exec) (hZ : Z.Warmed39 s.vm) {own : String} {index : Nat} {y : MethodName} {bytes : ByteArray} {maxL : Nat} {ret : Option FieldType}
    (hown : s.vm.findClass own = some m.cls) (w1 : (Jvm.Cond.methodLink own index y).before a0 Z = true) (w2 : (Jvm.Cond.static y).before a0 Z = true)
    (w4 : (Jvm.Cond.code y bytes maxL ret).before a0 Z = true) (w5 : (Jvm.Cond.initialized y.cls).before a0 Z = true) (hy : y.cls ≠ "java/lang/invoke/MethodHandle" ∧ y.cls ≠ "java/lang/invoke/VarHandle")
    (eT : T.heap = h) {rm : Room} {as' : Array Value} {Q : Option Value → Heap → List Loc → Prop} (hM : OwnCtr l y bytes maxL ret [] rm Z as' h Q)
    {g : JFrame} (hg : g.method = m) (hsize : g.locals.size = c.maxLocals) {argsL rest : List Value} {ps : List FieldType} {rt : Option FieldType} (hpd : parseMethodDescriptor y.desc = some ⟨ps, rt⟩) (hlen : argsL.length = ps.length)
    (hs : g.stack = argsL.reverse ++ rest) (has : as' = argsL.toArray) {W : Nat} (hW : 2 * g.monitorRoom + (rest.map fun v => v.category).sum ≤ W) (hd : decode c.code g.pc = .ok (.invokestatic index, 3))
    (hf : rm.frames + 1 ≤ R.frames) (hl : W + (maxL + 11) + rm.locals ≤ R.locals) (hc : cells + rm.cells ≤ R.cells) (hsl : slots + rm.slots ≤ R.slots) :
    ∃ (v : Option Value) (T' : State) (L : List Loc), Stand p l e R s m args below meth c T' (locs ++ L) (cells + rm.cells) (slots + rm.slots) ∧ Q v T'.heap L ∧
      ∀ target, Steps p.tables e below (T'.setTop { g with pc := g.pc + 3, stack := v.toList ++ rest }) target → Steps p.tables e below (T.setTop g) target := by
  obtain ⟨v, vm₁, ⟨T', L', k', n'⟩, -, X', ⟨L, hQ, l1, l2, l3⟩, st⟩ := Jvm.LawKit.callS X hx hown (mvT hZ w1) (mvT hZ w2) (mvT hZ w5) (mvT hZ w4) hy (backOf (W := W) hM hZ w4 w5 hf hl) hg hsize (lenOf hpd hlen) hs hW hd (fun _ _ => ⟨has.symm, eT, hc, hsl⟩)
  dsimp only [Pt.U, Pt.locs, Pt.cells, Pt.slots] at X' l1 l2 l3 st hQ
  subst l1 l2 l3
  exact ⟨v, T', L, X', hQ, st⟩
theorem own_callI (X : Stand p l e R s m args below meth c T locs cells slots) (hx : p.tables.exec = Jvm.exec) (hZ : Z.Warmed39 s.vm) {own : String} {index : Nat} {y : MethodName} {bytes : ByteArray} {maxL : Nat}
    (hown : s.vm.findClass own = some m.cls) (hy1 : y.name = "<init>") (w1 : (Jvm.Cond.methodLink own index y).before a0 Z = true) (w2 : (Jvm.Cond.instanceMethod y).before a0 Z = true)
    (w4 : (Jvm.Cond.code y bytes maxL none).before a0 Z = true) (w5 : (Jvm.Cond.initialized y.cls).before a0 Z = true) (hy : y.cls ≠ "java/lang/invoke/MethodHandle" ∧ y.cls ≠ "java/lang/invoke/VarHandle")
    (eT : T.heap = h) {rm : Room} {as' : Array Value} {Q : Option Value → Heap → List Loc → Prop} (hM : OwnCtr l y bytes maxL none [] rm Z as' h Q)
    {b : Addr} {g : JFrame} (hg : g.method = m) (hsize : g.locals.size = c.maxLocals) {argsL rest : List Value} {ps : List FieldType} {rt : Option FieldType} (hpd : parseMethodDescriptor y.desc = some ⟨ps, rt⟩) (hlen : argsL.length = ps.length)
    (hs : g.stack = argsL.reverse ++ .ref b :: rest) (has : as' = (Value.ref b :: argsL).toArray) {W : Nat} (hW : 2 * g.monitorRoom + (rest.map fun v => v.category).sum ≤ W) (hd : decode c.code g.pc = .ok (.invokespecial index, 3))
    (hf : rm.frames + 1 ≤ R.frames) (hl : W + (maxL + 11) + rm.locals ≤ R.locals) (hc : cells + rm.cells ≤ R.cells) (hsl : slots + rm.slots ≤ R.slots) :
    ∃ (v : Option Value) (T' : State) (L : List Loc), Stand p l e R s m args below meth c T' (locs ++ L) (cells + rm.cells) (slots + rm.slots) ∧ Q v T'.heap L ∧
      ∀ target, Steps p.tables e below (T'.setTop { g with pc := g.pc + 3, stack := v.toList ++ rest }) target → Steps p.tables e below (T.setTop g) target := by
  obtain ⟨v, vm₁, ⟨T', L', k', n'⟩, -, X', ⟨L, hQ, l1, l2, l3⟩, st⟩ := Jvm.LawKit.callI X hx hown hy1 (mvT hZ w1) (mvT hZ w2) (mvT hZ w4) hy (backOf (W := W) hM hZ w4 w5 hf hl) hg hsize (a := b) (lenOf hpd hlen) hs hW hd (fun _ _ => ⟨has.symm, eT, hc, hsl⟩)
  dsimp only [Pt.U, Pt.locs, Pt.cells, Pt.slots] at X' l1 l2 l3 st hQ
  subst l1 l2 l3
  exact ⟨v, T', L, X', hQ, st⟩
theorem own_fld {t : Term} {u : Addr} {C n d : String} {k : Int32} (ev : t.eval args s none [] s = some (.ref u)) (w : (Jvm.Cond.eq (.field t C n d) (.int k)).value args s none s [] = some true) : Fld s s.heap u C n d (.int k) :=
  Fld.start (by rw [← fld_at (args := args) (first := s) (o := none) (idx := []) ev]; exact Cond.eq_int (beq_iff_eq.mpr w) (Term.int_eval k))
theorem own_rne {a b : Addr} (q : a ≠ b) : ¬ Value.ref a = .ref b := fun w => q (Value.ref.inj w)
end Own

theorem d1_0 : decode method_2_code 0 = .ok (.iload_n 0, 1) := by decide +kernel
theorem d1_1 : decode method_2_code 1 = .ok (.ifCond .ne 7, 3) := by decide +kernel
theorem d1_4 : decode method_2_code 4 = .ok (.getstatic 7, 3) := by decide +kernel
theorem d1_7 : decode method_2_code 7 = .ok (.areturn, 1) := by decide +kernel
theorem d1_8 : decode method_2_code 8 = .ok (.iload_n 0, 1) := by decide +kernel
theorem d1_9 : decode method_2_code 9 = .ok (.iconst 1, 1) := by decide +kernel
theorem d1_10 : decode method_2_code 10 = .ok (.if_icmp .ne 7, 3) := by decide +kernel
theorem d1_13 : decode method_2_code 13 = .ok (.getstatic 13, 3) := by decide +kernel
theorem d1_16 : decode method_2_code 16 = .ok (.areturn, 1) := by decide +kernel
theorem d1_17 : decode method_2_code 17 = .ok (.iload_n 0, 1) := by decide +kernel
theorem d1_18 : decode method_2_code 18 = .ok (.iconst 2, 1) := by decide +kernel
theorem d1_19 : decode method_2_code 19 = .ok (.if_icmp .ne 7, 3) := by decide +kernel
theorem d1_22 : decode method_2_code 22 = .ok (.getstatic 16, 3) := by decide +kernel
theorem d1_25 : decode method_2_code 25 = .ok (.areturn, 1) := by decide +kernel
theorem d1_26 : decode method_2_code 26 = .ok (.getstatic 19, 3) := by decide +kernel
theorem d1_29 : decode method_2_code 29 = .ok (.areturn, 1) := by decide +kernel
theorem d2_0 : decode prog_57_method_4_code 0 = .ok (.aload_n 0, 1) := by decide +kernel
theorem d2_1 : decode prog_57_method_4_code 1 = .ok (.invokevirtual 35, 3) := by decide +kernel
theorem d2_4 : decode prog_57_method_4_code 4 = .ok (.tableswitch 32 0 3 #[42, 57, 79, 94], 32) := by decide +kernel
theorem d2_36 : decode prog_57_method_4_code 36 = .ok (.new 39, 3) := by decide +kernel
theorem d2_39 : decode prog_57_method_4_code 39 = .ok (.dup, 1) := by decide +kernel
theorem d2_40 : decode prog_57_method_4_code 40 = .ok (.aconst_null, 1) := by decide +kernel
theorem d2_41 : decode prog_57_method_4_code 41 = .ok (.aconst_null, 1) := by decide +kernel
theorem d2_42 : decode prog_57_method_4_code 42 = .ok (.invokespecial 41, 3) := by decide +kernel
theorem d2_45 : decode prog_57_method_4_code 45 = .ok (.athrow, 1) := by decide +kernel
theorem d2_46 : decode prog_57_method_4_code 46 = .ok (.aload_n 1, 1) := by decide +kernel
theorem d2_47 : decode prog_57_method_4_code 47 = .ok (.getstatic 7, 3) := by decide +kernel
theorem d2_50 : decode prog_57_method_4_code 50 = .ok (.if_acmp .ne 7, 3) := by decide +kernel
theorem d2_53 : decode prog_57_method_4_code 53 = .ok (.iconst 1, 1) := by decide +kernel
theorem d2_54 : decode prog_57_method_4_code 54 = .ok (.goto 45, 3) := by decide +kernel
theorem d2_57 : decode prog_57_method_4_code 57 = .ok (.iconst 0, 1) := by decide +kernel
theorem d2_58 : decode prog_57_method_4_code 58 = .ok (.goto 41, 3) := by decide +kernel
theorem d2_61 : decode prog_57_method_4_code 61 = .ok (.aload_n 1, 1) := by decide +kernel
theorem d2_62 : decode prog_57_method_4_code 62 = .ok (.getstatic 7, 3) := by decide +kernel
theorem d2_65 : decode prog_57_method_4_code 65 = .ok (.if_acmp .eq 10, 3) := by decide +kernel
theorem d2_68 : decode prog_57_method_4_code 68 = .ok (.aload_n 1, 1) := by decide +kernel
theorem d2_69 : decode prog_57_method_4_code 69 = .ok (.getstatic 10, 3) := by decide +kernel
theorem d2_72 : decode prog_57_method_4_code 72 = .ok (.if_acmp .ne 7, 3) := by decide +kernel
theorem d2_75 : decode prog_57_method_4_code 75 = .ok (.iconst 1, 1) := by decide +kernel
theorem d2_76 : decode prog_57_method_4_code 76 = .ok (.goto 23, 3) := by decide +kernel
theorem d2_79 : decode prog_57_method_4_code 79 = .ok (.iconst 0, 1) := by decide +kernel
theorem d2_80 : decode prog_57_method_4_code 80 = .ok (.goto 19, 3) := by decide +kernel
theorem d2_83 : decode prog_57_method_4_code 83 = .ok (.aload_n 1, 1) := by decide +kernel
theorem d2_84 : decode prog_57_method_4_code 84 = .ok (.getstatic 13, 3) := by decide +kernel
theorem d2_87 : decode prog_57_method_4_code 87 = .ok (.if_acmp .ne 7, 3) := by decide +kernel
theorem d2_90 : decode prog_57_method_4_code 90 = .ok (.iconst 1, 1) := by decide +kernel
theorem d2_91 : decode prog_57_method_4_code 91 = .ok (.goto 8, 3) := by decide +kernel
theorem d2_94 : decode prog_57_method_4_code 94 = .ok (.iconst 0, 1) := by decide +kernel
theorem d2_95 : decode prog_57_method_4_code 95 = .ok (.goto 4, 3) := by decide +kernel
theorem d2_98 : decode prog_57_method_4_code 98 = .ok (.iconst 0, 1) := by decide +kernel
theorem d2_99 : decode prog_57_method_4_code 99 = .ok (.ireturn, 1) := by decide +kernel
theorem d3_0 : decode jdk_37_method_2_code 0 = .ok (.aload_n 0, 1) := by decide +kernel
theorem d3_1 : decode jdk_37_method_2_code 1 = .ok (.getfield 7, 3) := by decide +kernel
theorem d3_4 : decode jdk_37_method_2_code 4 = .ok (.ireturn, 1) := by decide +kernel
theorem own_pn0 : plainName "com/example/holdfast/holdfast/ObjectTypeCanHoldPinLaw" = true := by first | (simp [plainName, overriddenIn]; done) | decide +kernel
theorem own_pn2 : plainName "com/example/holdfast/holdfast/ObjectType" = true := by first | (simp [plainName, overriddenIn]; done) | decide +kernel
theorem own_pn3 : plainName "java/lang/Enum" = true := by first | (simp [plainName, overriddenIn]; done) | decide +kernel
theorem own_pd1 : parseMethodDescriptor "(I)Lcom/example/holdfast/holdfast/ObjectType;" = some ⟨[.int], some (.object "com/example/holdfast/holdfast/ObjectType")⟩ := by decide +kernel
theorem own_pd2 : parseMethodDescriptor "(Lcom/example/holdfast/holdfast/ObjectType;)Z" = some ⟨[.object "com/example/holdfast/holdfast/ObjectType"], some .boolean⟩ := by decide +kernel
theorem own_pd3 : parseMethodDescriptor "()I" = some ⟨[], some .int⟩ := by decide +kernel
theorem ef_0 (m : MethodId) (x0 x1 : Int32) : entryFrame m #[(.int x0), (.int x1)] maxLocals = mkF m 0 #[.val (.int x0), .val (.int x1), .unset, .unset, .unset, .unset, .unset] [] := by first | (simp [entryFrame, mkF, argsToLocals, Value.category, maxLocals]; done) | rfl
theorem ef_1 (m : MethodId) (x0 : Int32) : entryFrame m #[(.int x0)] 1 = mkF m 0 #[.val (.int x0)] [] := by first | (simp [entryFrame, mkF, argsToLocals, Value.category]; done) | rfl
theorem ef_2 (m : MethodId) (x0 x1 : Addr) : entryFrame m #[(.ref x0), (.ref x1)] 2 = mkF m 0 #[.val (.ref x0), .val (.ref x1)] [] := by first | (simp [entryFrame, mkF, argsToLocals, Value.category]; done) | rfl
theorem ef_3 (m : MethodId) (x0 : Addr) : entryFrame m #[(.ref x0)] 1 = mkF m 0 #[.val (.ref x0)] [] := by first | (simp [entryFrame, mkF, argsToLocals, Value.category]; done) | rfl
def own_pick (x0 x1 x2 x3 : Addr) (k : Int32) : Addr := if k = 0 then x0 else if k = 1 then x1 else if k = 2 then x2 else x3
def own_can (x1 x2 x3 : Addr) (k : Int32) (b : Addr) : Int32 := if k = 0 then (if b = x1 then 1 else 0) else if k = 1 then (if b = x1 then 1 else if b = x2 then 1 else 0) else if k = 2 then (if b = x3 then 1 else 0) else 0
def own_four (k : Int32) : Prop := k = 0 ∨ k = 1 ∨ k = 2 ∨ k = 3
theorem own_and3 (x : Int32) : own_four (x &&& 3) := by
  have h : (x &&& 3).toInt = x.toInt % 4 := c_mask x 3 2 (by decide) (by decide)
  have e : (x &&& 3).toInt = 0 ∨ (x &&& 3).toInt = 1 ∨ (x &&& 3).toInt = 2 ∨ (x &&& 3).toInt = 3 := by omega
  rcases e with e | e | e | e
  · exact Or.inl (Int32.toInt_inj.mp (e.trans rfl))
  · exact Or.inr (Or.inl (Int32.toInt_inj.mp (e.trans rfl)))
  · exact Or.inr (Or.inr (Or.inl (Int32.toInt_inj.mp (e.trans rfl))))
  · exact Or.inr (Or.inr (Or.inr (Int32.toInt_inj.mp (e.trans rfl))))
theorem own_p0 (x0 x1 x2 x3 : Addr) : own_pick x0 x1 x2 x3 0 = x0 := rfl
theorem own_p1 (x0 x1 x2 x3 : Addr) : own_pick x0 x1 x2 x3 1 = x1 := rfl
theorem own_p2 (x0 x1 x2 x3 : Addr) : own_pick x0 x1 x2 x3 2 = x2 := rfl
theorem own_p3 (x0 x1 x2 x3 : Addr) : own_pick x0 x1 x2 x3 3 = x3 := rfl
theorem own_c0 (x1 x2 x3 b : Addr) : own_can x1 x2 x3 0 b = if b = x1 then 1 else 0 := rfl
theorem own_c1 (x1 x2 x3 b : Addr) : own_can x1 x2 x3 1 b = if b = x1 then 1 else if b = x2 then 1 else 0 := rfl
theorem own_c2 (x1 x2 x3 b : Addr) : own_can x1 x2 x3 2 b = if b = x3 then 1 else 0 := rfl
theorem own_c3 (x1 x2 x3 b : Addr) : own_can x1 x2 x3 3 b = 0 := rfl
def own_want (h k : Int32) : Int32 := if ((2146 : Int32) >>> ((h * 4 + k) &&& 31)) &&& 1 = 0 then 0 else 1
theorem own_tab (x0 x1 x2 x3 : Addr) (n01 : x0 ≠ x1) (n02 : x0 ≠ x2) (n03 : x0 ≠ x3) (n12 : x1 ≠ x2) (n13 : x1 ≠ x3) (n23 : x2 ≠ x3) (h k : Int32) (hh : own_four h) (hk : own_four k) : own_can x1 x2 x3 h (own_pick x0 x1 x2 x3 k) = own_want h k := by
  rcases hh with rfl | rfl | rfl | rfl <;> rcases hk with rfl | rfl | rfl | rfl <;>
    simp only [own_p0, own_p1, own_p2, own_p3, own_c0, own_c1, own_c2, own_c3, n01, n02, n03, n12, n13, n23, Ne.symm n12, Ne.symm n13, Ne.symm n23, if_true, if_false] <;> decide
theorem own_tin0 : ¬ ((0 : Int32).toInt < (0 : Int) ∨ (0 : Int32).toInt > (3 : Int)) := by decide
theorem own_tof0 : (#[42, 57, 79, 94] : Array Int)[((0 : Int32).toInt - (0 : Int)).toNat]? = some 42 := by decide +kernel
theorem own_tin1 : ¬ ((1 : Int32).toInt < (0 : Int) ∨ (1 : Int32).toInt > (3 : Int)) := by decide
theorem own_tof1 : (#[42, 57, 79, 94] : Array Int)[((1 : Int32).toInt - (0 : Int)).toNat]? = some 57 := by decide +kernel
theorem own_tin2 : ¬ ((2 : Int32).toInt < (0 : Int) ∨ (2 : Int32).toInt > (3 : Int)) := by decide
theorem own_tof2 : (#[42, 57, 79, 94] : Array Int)[((2 : Int32).toInt - (0 : Int)).toNat]? = some 79 := by decide +kernel
theorem own_tin3 : ¬ ((3 : Int32).toInt < (0 : Int) ∨ (3 : Int32).toInt > (3 : Int)) := by decide
theorem own_tof3 : (#[42, 57, 79, 94] : Array Int)[((3 : Int32).toInt - (0 : Int)).toNat]? = some 94 := by decide +kernel
abbrev own_R0 : Room := { frames := 0, cells := 0, slots := 0, locals := 0 }
abbrev own_R2 : Room := { frames := 1, cells := 0, slots := 0, locals := 12 }
set_option maxRecDepth 65536 in
set_option maxHeartbeats 40000000 in
theorem rm3 (l : Launch) (Z : State) (a0 : Array Value) (hw : ∀ d ∈ tables_1, d.before a0 Z = true) (ws : List Jvm.Cond) (a : Addr) (k : Int32) (h0 : Heap) (F : Fld Z h0 a "java/lang/Enum" "ordinal" "I" (.int k)) :
    OwnCtr l (⟨"java/lang/Enum", "ordinal", "()I"⟩ : MethodName) jdk_37_method_2_code 1 (some .int) ws own_R0 Z #[(.ref a)] h0 (fun v h L => v = some (.int k) ∧ h = h0 ∧ L = []) := by
  refine own_body own_pn3 ?_
  intro p e s m below meth c s₁ X0 hx hby hml hown hnm hret hlk hZ e0
  refine own_go (fun _ k => castTop (ef_3 m a) k) ?_
  show Run p.tables e below (s₁.setTop (mkF m 0 #[.val (.ref a)] [])) _
  refine own_go (fun _ => XS.aloadN X0.here hx rfl (hb hby d3_0) rfl rfl) ?_
  show Run p.tables e below (s₁.setTop (mkF m 1 #[.val (.ref a)] [(.ref a)])) _
  obtain ⟨Tk1, Xk1, ek1, stk1⟩ := getF X0 hx hZ hown (host := "") (Or.inl (hw _ (List.mem_of_getElem? (i := 21) rfl))) Via.refl e0 F (g := (mkF m 1 #[.val (.ref a)] [(.ref a)])) rfl rfl (hb hby d3_1)
  refine own_go stk1 ?_
  show Run p.tables e below (Tk1.setTop (mkF m 4 #[.val (.ref a)] [(.int k)])) _
  exact own_out Xk1 (v := some (.int k)) (fun q => by rw [hret] at q; cases q) hlk (fun fs hr => retI Xk1 hx hret (hb hby d3_4) hr) ⟨rfl, ek1, rfl⟩ (by decide) (by decide)
set_option maxRecDepth 65536 in
set_option maxHeartbeats 40000000 in
theorem rm1 (l : Launch) (Z : State) (a0 : Array Value) (hw : ∀ d ∈ tables_1, d.before a0 Z = true) (ws : List Jvm.Cond) (k : Int32) (x0 x1 x2 x3 : Addr) (h0 : Heap) (S_SITE : Sta Z h0 "com/example/holdfast/holdfast/ObjectType" "SITE" "Lcom/example/holdfast/holdfast/ObjectType;" (.ref x0)) (S_COMMUNITY : Sta Z h0 "com/example/holdfast/holdfast/ObjectType" "COMMUNITY" "Lcom/example/holdfast/holdfast/ObjectType;" (.ref x1)) (S_COLLECTION : Sta Z h0 "com/example/holdfast/holdfast/ObjectType" "COLLECTION" "Lcom/example/holdfast/holdfast/ObjectType;" (.ref x2)) (S_ITEM : Sta Z h0 "com/example/holdfast/holdfast/ObjectType" "ITEM" "Lcom/example/holdfast/holdfast/ObjectType;" (.ref x3)) :
    OwnCtr l (⟨"com/example/holdfast/holdfast/ObjectTypeCanHoldPinLaw", "pick", "(I)Lcom/example/holdfast/holdfast/ObjectType;"⟩ : MethodName) method_2_code 1 (some (.object "com/example/holdfast/holdfast/ObjectType")) ws own_R0 Z #[(.int k)] h0 (fun v h L => v = some (.ref (own_pick x0 x1 x2 x3 k)) ∧ h = h0 ∧ L = []) := by
  refine own_body own_pn0 ?_
  intro p e s m below meth c s₁ X0 hx hby hml hown hnm hret hlk hZ e0
  refine own_go (fun _ k => castTop (ef_1 m _) k) ?_
  show Run p.tables e below (s₁.setTop (mkF m 0 #[.val (.int k)] [])) _
  refine own_go (fun _ => XS.iloadN X0.here hx rfl (hb hby d1_0) rfl) ?_
  show Run p.tables e below (s₁.setTop (mkF m 1 #[.val (.int k)] [(.int k)])) _
  by_cases q0 : k = 0
  · show Run p.tables e below (s₁.setTop (mkF m 1 #[.val (.int k)] [(.int k)])) _
    refine own_go (fun _ => XS.ifNo X0.here hx rfl (hb hby d1_1) rfl (XT.i0_ne_f q0)) ?_
    show Run p.tables e below (s₁.setTop (mkF m 4 #[.val (.int k)] [])) _
    obtain ⟨Tk1, Xk1, ek1, stk1⟩ := getS X0 hx hZ hown (host := "") (hw _ (List.mem_of_getElem? (i := 4) rfl)) Via.refl e0 S_SITE (g := (mkF m 4 #[.val (.int k)] [])) rfl (hb hby d1_4)
    refine own_go stk1 ?_
    show Run p.tables e below (Tk1.setTop (mkF m 7 #[.val (.int k)] [(.ref x0)])) _
    exact own_out Xk1 (v := some (.ref x0)) (fun q => by rw [hret] at q; cases q) hlk (fun fs hr => Xk1.areturnOut hx rfl hret rfl (hb hby d1_7) hr) ⟨(by rw [own_pick, if_pos q0]), ek1, rfl⟩ (by decide) (by decide)
  · show Run p.tables e below (s₁.setTop (mkF m 1 #[.val (.int k)] [(.int k)])) _
    refine own_go (fun _ => XS.ifYes X0.here hx rfl (pc0 := 1) (pc' := 8) rfl (hb hby d1_1) rfl (XT.i0_ne_t q0) (by decide) (by decide)) ?_
    show Run p.tables e below (s₁.setTop (mkF m 8 #[.val (.int k)] [])) _
    refine own_go (fun _ => XS.iloadN X0.here hx rfl (hb hby d1_8) rfl) ?_
    show Run p.tables e below (s₁.setTop (mkF m 9 #[.val (.int k)] [(.int k)])) _
    refine own_go (fun _ => XS.iconst X0.here hx rfl (hb hby d1_9)) ?_
    show Run p.tables e below (s₁.setTop (mkF m 10 #[.val (.int k)] [(.int (1 : Int32)), (.int k)])) _
    by_cases q1 : k = 1
    · show Run p.tables e below (s₁.setTop (mkF m 10 #[.val (.int k)] [(.int (1 : Int32)), (.int k)])) _
      refine own_go (fun _ => XS.icmpNo X0.here hx rfl (hb hby d1_10) rfl (XT.ii_ne_f q1)) ?_
      show Run p.tables e below (s₁.setTop (mkF m 13 #[.val (.int k)] [])) _
      obtain ⟨Tk2, Xk2, ek2, stk2⟩ := getS X0 hx hZ hown (host := "") (hw _ (List.mem_of_getElem? (i := 27) rfl)) Via.refl e0 S_COMMUNITY (g := (mkF m 13 #[.val (.int k)] [])) rfl (hb hby d1_13)
      refine own_go stk2 ?_
      show Run p.tables e below (Tk2.setTop (mkF m 16 #[.val (.int k)] [(.ref x1)])) _
      exact own_out Xk2 (v := some (.ref x1)) (fun q => by rw [hret] at q; cases q) hlk (fun fs hr => Xk2.areturnOut hx rfl hret rfl (hb hby d1_16) hr) ⟨(by rw [own_pick, if_neg q0, if_pos q1]), ek2, rfl⟩ (by decide) (by decide)
    · show Run p.tables e below (s₁.setTop (mkF m 10 #[.val (.int k)] [(.int (1 : Int32)), (.int k)])) _
      refine own_go (fun _ => XS.icmpYes X0.here hx rfl (pc0 := 10) (pc' := 17) rfl (hb hby d1_10) rfl (XT.ii_ne_t q1) (by decide) (by decide)) ?_
      show Run p.tables e below (s₁.setTop (mkF m 17 #[.val (.int k)] [])) _
      refine own_go (fun _ => XS.iloadN X0.here hx rfl (hb hby d1_17) rfl) ?_
      show Run p.tables e below (s₁.setTop (mkF m 18 #[.val (.int k)] [(.int k)])) _
      refine own_go (fun _ => XS.iconst X0.here hx rfl (hb hby d1_18)) ?_
      show Run p.tables e below (s₁.setTop (mkF m 19 #[.val (.int k)] [(.int (2 : Int32)), (.int k)])) _
      by_cases q2 : k = 2
      · show Run p.tables e below (s₁.setTop (mkF m 19 #[.val (.int k)] [(.int (2 : Int32)), (.int k)])) _
        refine own_go (fun _ => XS.icmpNo X0.here hx rfl (hb hby d1_19) rfl (XT.ii_ne_f q2)) ?_
        show Run p.tables e below (s₁.setTop (mkF m 22 #[.val (.int k)] [])) _
        obtain ⟨Tk3, Xk3, ek3, stk3⟩ := getS X0 hx hZ hown (host := "") (hw _ (List.mem_of_getElem? (i := 25) rfl)) Via.refl e0 S_COLLECTION (g := (mkF m 22 #[.val (.int k)] [])) rfl (hb hby d1_22)
        refine own_go stk3 ?_
        show Run p.tables e below (Tk3.setTop (mkF m 25 #[.val (.int k)] [(.ref x2)])) _
        exact own_out Xk3 (v := some (.ref x2)) (fun q => by rw [hret] at q; cases q) hlk (fun fs hr => Xk3.areturnOut hx rfl hret rfl (hb hby d1_25) hr) ⟨(by rw [own_pick, if_neg q0, if_neg q1, if_pos q2]), ek3, rfl⟩ (by decide) (by decide)
      · show Run p.tables e below (s₁.setTop (mkF m 19 #[.val (.int k)] [(.int (2 : Int32)), (.int k)])) _
        refine own_go (fun _ => XS.icmpYes X0.here hx rfl (pc0 := 19) (pc' := 26) rfl (hb hby d1_19) rfl (XT.ii_ne_t q2) (by decide) (by decide)) ?_
        show Run p.tables e below (s₁.setTop (mkF m 26 #[.val (.int k)] [])) _
        obtain ⟨Tk4, Xk4, ek4, stk4⟩ := getS X0 hx hZ hown (host := "") (hw _ (List.mem_of_getElem? (i := 7) rfl)) Via.refl e0 S_ITEM (g := (mkF m 26 #[.val (.int k)] [])) rfl (hb hby d1_26)
        refine own_go stk4 ?_
        show Run p.tables e below (Tk4.setTop (mkF m 29 #[.val (.int k)] [(.ref x3)])) _
        exact own_out Xk4 (v := some (.ref x3)) (fun q => by rw [hret] at q; cases q) hlk (fun fs hr => Xk4.areturnOut hx rfl hret rfl (hb hby d1_29) hr) ⟨(by rw [own_pick, if_neg q0, if_neg q1, if_neg q2]), ek4, rfl⟩ (by decide) (by decide)
set_option maxRecDepth 65536 in
set_option maxHeartbeats 40000000 in
theorem rm2 (l : Launch) (Z : State) (a0 : Array Value) (hw : ∀ d ∈ tables_1, d.before a0 Z = true) (ws : List Jvm.Cond) (a b : Addr) (k : Int32) (x1 x2 x3 : Addr) (h0 : Heap) (F : Fld Z h0 a "java/lang/Enum" "ordinal" "I" (.int k)) (E : Exa Z h0 a "com/example/holdfast/holdfast/ObjectType") (hk : own_four k) (S_COMMUNITY : Sta Z h0 "com/example/holdfast/holdfast/ObjectType" "COMMUNITY" "Lcom/example/holdfast/holdfast/ObjectType;" (.ref x1)) (S_COLLECTION : Sta Z h0 "com/example/holdfast/holdfast/ObjectType" "COLLECTION" "Lcom/example/holdfast/holdfast/ObjectType;" (.ref x2)) (S_ITEM : Sta Z h0 "com/example/holdfast/holdfast/ObjectType" "ITEM" "Lcom/example/holdfast/holdfast/ObjectType;" (.ref x3)) :
    OwnCtr l (⟨"com/example/holdfast/holdfast/ObjectType", "canHold", "(Lcom/example/holdfast/holdfast/ObjectType;)Z"⟩ : MethodName) prog_57_method_4_code 2 (some .boolean) ws own_R2 Z #[(.ref a), (.ref b)] h0 (fun v h L => v = some (.int (own_can x1 x2 x3 k b)) ∧ h = h0 ∧ L = []) := by
  refine own_body own_pn2 ?_
  intro p e s m below meth c s₁ X0 hx hby hml hown hnm hret hlk hZ e0
  refine own_go (fun _ k => castTop (ef_2 m a b) k) ?_
  show Run p.tables e below (s₁.setTop (mkF m 0 #[.val (.ref a), .val (.ref b)] [])) _
  refine own_go (fun _ => XS.aloadN X0.here hx rfl (hb hby d2_0) rfl rfl) ?_
  show Run p.tables e below (s₁.setTop (mkF m 1 #[.val (.ref a), .val (.ref b)] [(.ref a)])) _
  obtain ⟨vk1, Tk1, Lk1, Xk1, ⟨rfl, ek1, rfl⟩, stk1⟩ := own_callVU X0 hx hZ hown (hw _ (List.mem_of_getElem? (i := 14) rfl)) (hw _ (List.mem_of_getElem? (i := 15) rfl)) (hw _ (List.mem_of_getElem? (i := 16) rfl)) (hw _ (List.mem_of_getElem? (i := 17) rfl)) (hw _ (List.mem_of_getElem? (i := 18) rfl)) (hw _ (List.mem_of_getElem? (i := 20) rfl)) (hw _ (List.mem_of_getElem? (i := 19) rfl)) (by decide) e0 (rm3 l Z a0 hw [] a k h0 F) E (g := (mkF m 1 #[.val (.ref a), .val (.ref b)] [(.ref a)])) rfl (by rw [hml]; rfl) (argsL := []) (rest := []) own_pd3 rfl rfl rfl (W := 0) (by show 2 * 0 + _ ≤ _; exact Nat.le_of_eq rfl) (hb hby d2_1) (by decide) (by decide) (by decide) (by decide)
  replace Xk1 : Stand p l e own_R2 s m #[(.ref a), (.ref b)] below meth c Tk1 [] 0 0 := Xk1
  refine own_go stk1 ?_
  show Run p.tables e below (Tk1.setTop (mkF m 4 #[.val (.ref a), .val (.ref b)] [(.int k)])) _
  rcases hk with rfl | rfl | rfl | rfl
  · show Run p.tables e below (Tk1.setTop (mkF m 4 #[.val (.ref a), .val (.ref b)] [(.int (0 : Int32))])) _
    have stS := fun target => XS.tswIn (tb := p.tables) (e := e) (below := below) (target := target) Xk1.here hx (g := (mkF m 4 #[.val (.ref a), .val (.ref b)] [(.int (0 : Int32))])) rfl (pc0 := 4) (pc' := 46) rfl (hb hby d2_4) (i := (0 : Int32)) (rest := []) rfl own_tin0 (o := 42) own_tof0 (by decide) (by decide)
    refine own_go stS ?_
    show Run p.tables e below (Tk1.setTop (mkF m 46 #[.val (.ref a), .val (.ref b)] [])) _
    refine own_go (fun _ => XS.aloadN Xk1.here hx rfl (hb hby d2_46) rfl rfl) ?_
    show Run p.tables e below (Tk1.setTop (mkF m 47 #[.val (.ref a), .val (.ref b)] [(.ref b)])) _
    obtain ⟨Tk2, Xk2, ek2, stk2⟩ := getS Xk1 hx hZ hown (host := "") (hw _ (List.mem_of_getElem? (i := 23) rfl)) Via.refl ek1 S_COMMUNITY (g := (mkF m 47 #[.val (.ref a), .val (.ref b)] [(.ref b)])) rfl (hb hby d2_47)
    refine own_go stk2 ?_
    show Run p.tables e below (Tk2.setTop (mkF m 50 #[.val (.ref a), .val (.ref b)] [(.ref x1), (.ref b)])) _
    by_cases q1 : b = x1
    · show Run p.tables e below (Tk2.setTop (mkF m 50 #[.val (.ref a), .val (.ref b)] [(.ref x1), (.ref b)])) _
      refine own_go (fun _ => XT.acmpNo Xk2.here hx rfl (hb hby d2_50) rfl rfl rfl (XT.aa_ne_f (by rw [q1]))) ?_
      show Run p.tables e below (Tk2.setTop (mkF m 53 #[.val (.ref a), .val (.ref b)] [])) _
      refine own_go (fun _ => XS.iconst Xk2.here hx rfl (hb hby d2_53)) ?_
      show Run p.tables e below (Tk2.setTop (mkF m 54 #[.val (.ref a), .val (.ref b)] [(.int (1 : Int32))])) _
      refine own_go (fun _ => XS.goto Xk2.here hx rfl (pc0 := 54) (pc' := 99) rfl (hb hby d2_54) (by decide) (by decide)) ?_
      show Run p.tables e below (Tk2.setTop (mkF m 99 #[.val (.ref a), .val (.ref b)] [(.int (1 : Int32))])) _
      exact own_out Xk2 (v := some (.int (1 : Int32))) (fun q => by rw [hret] at q; cases q) hlk (fun fs hr => retN Xk2 hx (t := .boolean) hret (by simp) (hb hby d2_99) hr) ⟨(by rw [own_c0, if_pos q1]), ek2, rfl⟩ (by decide) (by decide)
    · show Run p.tables e below (Tk2.setTop (mkF m 50 #[.val (.ref a), .val (.ref b)] [(.ref x1), (.ref b)])) _
      refine own_go (fun _ => XT.acmpYes Xk2.here hx rfl (pc0 := 50) (pc' := 57) rfl (hb hby d2_50) rfl rfl rfl (XT.aa_ne_t (own_rne q1)) (by decide) (by decide)) ?_
      show Run p.tables e below (Tk2.setTop (mkF m 57 #[.val (.ref a), .val (.ref b)] [])) _
      refine own_go (fun _ => XS.iconst Xk2.here hx rfl (hb hby d2_57)) ?_
      show Run p.tables e below (Tk2.setTop (mkF m 58 #[.val (.ref a), .val (.ref b)] [(.int (0 : Int32))])) _
      refine own_go (fun _ => XS.goto Xk2.here hx rfl (pc0 := 58) (pc' := 99) rfl (hb hby d2_58) (by decide) (by decide)) ?_
      show Run p.tables e below (Tk2.setTop (mkF m 99 #[.val (.ref a), .val (.ref b)] [(.int (0 : Int32))])) _
      exact own_out Xk2 (v := some (.int (0 : Int32))) (fun q => by rw [hret] at q; cases q) hlk (fun fs hr => retN Xk2 hx (t := .boolean) hret (by simp) (hb hby d2_99) hr) ⟨(by rw [own_c0, if_neg q1]), ek2, rfl⟩ (by decide) (by decide)
  · show Run p.tables e below (Tk1.setTop (mkF m 4 #[.val (.ref a), .val (.ref b)] [(.int (1 : Int32))])) _
    have stS := fun target => XS.tswIn (tb := p.tables) (e := e) (below := below) (target := target) Xk1.here hx (g := (mkF m 4 #[.val (.ref a), .val (.ref b)] [(.int (1 : Int32))])) rfl (pc0 := 4) (pc' := 61) rfl (hb hby d2_4) (i := (1 : Int32)) (rest := []) rfl own_tin1 (o := 57) own_tof1 (by decide) (by decide)
    refine own_go stS ?_
    show Run p.tables e below (Tk1.setTop (mkF m 61 #[.val (.ref a), .val (.ref b)] [])) _
    refine own_go (fun _ => XS.aloadN Xk1.here hx rfl (hb hby d2_61) rfl rfl) ?_
    show Run p.tables e below (Tk1.setTop (mkF m 62 #[.val (.ref a), .val (.ref b)] [(.ref b)])) _
    obtain ⟨Tk3, Xk3, ek3, stk3⟩ := getS Xk1 hx hZ hown (host := "") (hw _ (List.mem_of_getElem? (i := 23) rfl)) Via.refl ek1 S_COMMUNITY (g := (mkF m 62 #[.val (.ref a), .val (.ref b)] [(.ref b)])) rfl (hb hby d2_62)
    refine own_go stk3 ?_
    show Run p.tables e below (Tk3.setTop (mkF m 65 #[.val (.ref a), .val (.ref b)] [(.ref x1), (.ref b)])) _
    by_cases q1 : b = x1
    · show Run p.tables e below (Tk3.setTop (mkF m 65 #[.val (.ref a), .val (.ref b)] [(.ref x1), (.ref b)])) _
      refine own_go (fun _ => XT.acmpYes Xk3.here hx rfl (pc0 := 65) (pc' := 75) rfl (hb hby d2_65) rfl rfl rfl (XT.aa_eq_t (by rw [q1])) (by decide) (by decide)) ?_
      show Run p.tables e below (Tk3.setTop (mkF m 75 #[.val (.ref a), .val (.ref b)] [])) _
      refine own_go (fun _ => XS.iconst Xk3.here hx rfl (hb hby d2_75)) ?_
      show Run p.tables e below (Tk3.setTop (mkF m 76 #[.val (.ref a), .val (.ref b)] [(.int (1 : Int32))])) _
      refine own_go (fun _ => XS.goto Xk3.here hx rfl (pc0 := 76) (pc' := 99) rfl (hb hby d2_76) (by decide) (by decide)) ?_
      show Run p.tables e below (Tk3.setTop (mkF m 99 #[.val (.ref a), .val (.ref b)] [(.int (1 : Int32))])) _
      exact own_out Xk3 (v := some (.int (1 : Int32))) (fun q => by rw [hret] at q; cases q) hlk (fun fs hr => retN Xk3 hx (t := .boolean) hret (by simp) (hb hby d2_99) hr) ⟨(by rw [own_c1, if_pos q1]), ek3, rfl⟩ (by decide) (by decide)
    · show Run p.tables e below (Tk3.setTop (mkF m 65 #[.val (.ref a), .val (.ref b)] [(.ref x1), (.ref b)])) _
      refine own_go (fun _ => XT.acmpNo Xk3.here hx rfl (hb hby d2_65) rfl rfl rfl (XT.aa_eq_f (own_rne q1))) ?_
      show Run p.tables e below (Tk3.setTop (mkF m 68 #[.val (.ref a), .val (.ref b)] [])) _
      refine own_go (fun _ => XS.aloadN Xk3.here hx rfl (hb hby d2_68) rfl rfl) ?_
      show Run p.tables e below (Tk3.setTop (mkF m 69 #[.val (.ref a), .val (.ref b)] [(.ref b)])) _
      obtain ⟨Tk4, Xk4, ek4, stk4⟩ := getS Xk3 hx hZ hown (host := "") (hw _ (List.mem_of_getElem? (i := 29) rfl)) Via.refl ek3 S_COLLECTION (g := (mkF m 69 #[.val (.ref a), .val (.ref b)] [(.ref b)])) rfl (hb hby d2_69)
      refine own_go stk4 ?_
      show Run p.tables e below (Tk4.setTop (mkF m 72 #[.val (.ref a), .val (.ref b)] [(.ref x2), (.ref b)])) _
      by_cases q2 : b = x2
      · show Run p.tables e below (Tk4.setTop (mkF m 72 #[.val (.ref a), .val (.ref b)] [(.ref x2), (.ref b)])) _
        refine own_go (fun _ => XT.acmpNo Xk4.here hx rfl (hb hby d2_72) rfl rfl rfl (XT.aa_ne_f (by rw [q2]))) ?_
        show Run p.tables e below (Tk4.setTop (mkF m 75 #[.val (.ref a), .val (.ref b)] [])) _
        refine own_go (fun _ => XS.iconst Xk4.here hx rfl (hb hby d2_75)) ?_
        show Run p.tables e below (Tk4.setTop (mkF m 76 #[.val (.ref a), .val (.ref b)] [(.int (1 : Int32))])) _
        refine own_go (fun _ => XS.goto Xk4.here hx rfl (pc0 := 76) (pc' := 99) rfl (hb hby d2_76) (by decide) (by decide)) ?_
        show Run p.tables e below (Tk4.setTop (mkF m 99 #[.val (.ref a), .val (.ref b)] [(.int (1 : Int32))])) _
        exact own_out Xk4 (v := some (.int (1 : Int32))) (fun q => by rw [hret] at q; cases q) hlk (fun fs hr => retN Xk4 hx (t := .boolean) hret (by simp) (hb hby d2_99) hr) ⟨(by rw [own_c1, if_neg q1, if_pos q2]), ek4, rfl⟩ (by decide) (by decide)
      · show Run p.tables e below (Tk4.setTop (mkF m 72 #[.val (.ref a), .val (.ref b)] [(.ref x2), (.ref b)])) _
        refine own_go (fun _ => XT.acmpYes Xk4.here hx rfl (pc0 := 72) (pc' := 79) rfl (hb hby d2_72) rfl rfl rfl (XT.aa_ne_t (own_rne q2)) (by decide) (by decide)) ?_
        show Run p.tables e below (Tk4.setTop (mkF m 79 #[.val (.ref a), .val (.ref b)] [])) _
        refine own_go (fun _ => XS.iconst Xk4.here hx rfl (hb hby d2_79)) ?_
        show Run p.tables e below (Tk4.setTop (mkF m 80 #[.val (.ref a), .val (.ref b)] [(.int (0 : Int32))])) _
        refine own_go (fun _ => XS.goto Xk4.here hx rfl (pc0 := 80) (pc' := 99) rfl (hb hby d2_80) (by decide) (by decide)) ?_
        show Run p.tables e below (Tk4.setTop (mkF m 99 #[.val (.ref a), .val (.ref b)] [(.int (0 : Int32))])) _
        exact own_out Xk4 (v := some (.int (0 : Int32))) (fun q => by rw [hret] at q; cases q) hlk (fun fs hr => retN Xk4 hx (t := .boolean) hret (by simp) (hb hby d2_99) hr) ⟨(by rw [own_c1, if_neg q1, if_neg q2]), ek4, rfl⟩ (by decide) (by decide)
  · show Run p.tables e below (Tk1.setTop (mkF m 4 #[.val (.ref a), .val (.ref b)] [(.int (2 : Int32))])) _
    have stS := fun target => XS.tswIn (tb := p.tables) (e := e) (below := below) (target := target) Xk1.here hx (g := (mkF m 4 #[.val (.ref a), .val (.ref b)] [(.int (2 : Int32))])) rfl (pc0 := 4) (pc' := 83) rfl (hb hby d2_4) (i := (2 : Int32)) (rest := []) rfl own_tin2 (o := 79) own_tof2 (by decide) (by decide)
    refine own_go stS ?_
    show Run p.tables e below (Tk1.setTop (mkF m 83 #[.val (.ref a), .val (.ref b)] [])) _
    refine own_go (fun _ => XS.aloadN Xk1.here hx rfl (hb hby d2_83) rfl rfl) ?_
    show Run p.tables e below (Tk1.setTop (mkF m 84 #[.val (.ref a), .val (.ref b)] [(.ref b)])) _
    obtain ⟨Tk5, Xk5, ek5, stk5⟩ := getS Xk1 hx hZ hown (host := "") (hw _ (List.mem_of_getElem? (i := 28) rfl)) Via.refl ek1 S_ITEM (g := (mkF m 84 #[.val (.ref a), .val (.ref b)] [(.ref b)])) rfl (hb hby d2_84)
    refine own_go stk5 ?_
    show Run p.tables e below (Tk5.setTop (mkF m 87 #[.val (.ref a), .val (.ref b)] [(.ref x3), (.ref b)])) _
    by_cases q1 : b = x3
    · show Run p.tables e below (Tk5.setTop (mkF m 87 #[.val (.ref a), .val (.ref b)] [(.ref x3), (.ref b)])) _
      refine own_go (fun _ => XT.acmpNo Xk5.here hx rfl (hb hby d2_87) rfl rfl rfl (XT.aa_ne_f (by rw [q1]))) ?_
      show Run p.tables e below (Tk5.setTop (mkF m 90 #[.val (.ref a), .val (.ref b)] [])) _
      refine own_go (fun _ => XS.iconst Xk5.here hx rfl (hb hby d2_90)) ?_
      show Run p.tables e below (Tk5.setTop (mkF m 91 #[.val (.ref a), .val (.ref b)] [(.int (1 : Int32))])) _
      refine own_go (fun _ => XS.goto Xk5.here hx rfl (pc0 := 91) (pc' := 99) rfl (hb hby d2_91) (by decide) (by decide)) ?_
      show Run p.tables e below (Tk5.setTop (mkF m 99 #[.val (.ref a), .val (.ref b)] [(.int (1 : Int32))])) _
      exact own_out Xk5 (v := some (.int (1 : Int32))) (fun q => by rw [hret] at q; cases q) hlk (fun fs hr => retN Xk5 hx (t := .boolean) hret (by simp) (hb hby d2_99) hr) ⟨(by rw [own_c2, if_pos q1]), ek5, rfl⟩ (by decide) (by decide)
    · show Run p.tables e below (Tk5.setTop (mkF m 87 #[.val (.ref a), .val (.ref b)] [(.ref x3), (.ref b)])) _
      refine own_go (fun _ => XT.acmpYes Xk5.here hx rfl (pc0 := 87) (pc' := 94) rfl (hb hby d2_87) rfl rfl rfl (XT.aa_ne_t (own_rne q1)) (by decide) (by decide)) ?_
      show Run p.tables e below (Tk5.setTop (mkF m 94 #[.val (.ref a), .val (.ref b)] [])) _
      refine own_go (fun _ => XS.iconst Xk5.here hx rfl (hb hby d2_94)) ?_
      show Run p.tables e below (Tk5.setTop (mkF m 95 #[.val (.ref a), .val (.ref b)] [(.int (0 : Int32))])) _
      refine own_go (fun _ => XS.goto Xk5.here hx rfl (pc0 := 95) (pc' := 99) rfl (hb hby d2_95) (by decide) (by decide)) ?_
      show Run p.tables e below (Tk5.setTop (mkF m 99 #[.val (.ref a), .val (.ref b)] [(.int (0 : Int32))])) _
      exact own_out Xk5 (v := some (.int (0 : Int32))) (fun q => by rw [hret] at q; cases q) hlk (fun fs hr => retN Xk5 hx (t := .boolean) hret (by simp) (hb hby d2_99) hr) ⟨(by rw [own_c2, if_neg q1]), ek5, rfl⟩ (by decide) (by decide)
  · show Run p.tables e below (Tk1.setTop (mkF m 4 #[.val (.ref a), .val (.ref b)] [(.int (3 : Int32))])) _
    have stS := fun target => XS.tswIn (tb := p.tables) (e := e) (below := below) (target := target) Xk1.here hx (g := (mkF m 4 #[.val (.ref a), .val (.ref b)] [(.int (3 : Int32))])) rfl (pc0 := 4) (pc' := 98) rfl (hb hby d2_4) (i := (3 : Int32)) (rest := []) rfl own_tin3 (o := 94) own_tof3 (by decide) (by decide)
    refine own_go stS ?_
    show Run p.tables e below (Tk1.setTop (mkF m 98 #[.val (.ref a), .val (.ref b)] [])) _
    refine own_go (fun _ => XS.iconst Xk1.here hx rfl (hb hby d2_98)) ?_
    show Run p.tables e below (Tk1.setTop (mkF m 99 #[.val (.ref a), .val (.ref b)] [(.int (0 : Int32))])) _
    exact own_out Xk1 (v := some (.int (0 : Int32))) (fun q => by rw [hret] at q; cases q) hlk (fun fs hr => retN Xk1 hx (t := .boolean) hret (by simp) (hb hby d2_99) hr) ⟨rfl, ek1, rfl⟩ (by decide) (by decide)
def own_Q0 (n0 : Nat) (v : Option Value) (h : Heap) (L : List Loc) : Prop := v = some (.int 1) ∧ Fr n0 L
set_option maxRecDepth 65536 in
set_option maxHeartbeats 40000000 in
theorem rm0 (l : Launch) (Z : State) (a0 : Array Value) (hw : ∀ d ∈ tables_1, d.before a0 Z = true) (ws : List Jvm.Cond) (p0 p1 : Int32) (x0 x1 x2 x3 : Addr) (h0 : Heap) (n0 : Nat) (S_SITE : Sta Z h0 "com/example/holdfast/holdfast/ObjectType" "SITE" "Lcom/example/holdfast/holdfast/ObjectType;" (.ref x0)) (S_COMMUNITY : Sta Z h0 "com/example/holdfast/holdfast/ObjectType" "COMMUNITY" "Lcom/example/holdfast/holdfast/ObjectType;" (.ref x1)) (S_COLLECTION : Sta Z h0 "com/example/holdfast/holdfast/ObjectType" "COLLECTION" "Lcom/example/holdfast/holdfast/ObjectType;" (.ref x2)) (S_ITEM : Sta Z h0 "com/example/holdfast/holdfast/ObjectType" "ITEM" "Lcom/example/holdfast/holdfast/ObjectType;" (.ref x3)) (E_SITE : Exa Z h0 x0 "com/example/holdfast/holdfast/ObjectType") (E_COMMUNITY : Exa Z h0 x1 "com/example/holdfast/holdfast/ObjectType") (E_COLLECTION : Exa Z h0 x2 "com/example/holdfast/holdfast/ObjectType") (E_ITEM : Exa Z h0 x3 "com/example/holdfast/holdfast/ObjectType") (F_SITE : Fld Z h0 x0 "java/lang/Enum" "ordinal" "I" (.int 0)) (F_COMMUNITY : Fld Z h0 x1 "java/lang/Enum" "ordinal" "I" (.int 1)) (F_COLLECTION : Fld Z h0 x2 "java/lang/Enum" "ordinal" "I" (.int 2)) (F_ITEM : Fld Z h0 x3 "java/lang/Enum" "ordinal" "I" (.int 3)) :
    OwnCtr l x code maxLocals ret ws room_1 Z #[(.int p0), (.int p1)] h0 (own_Q0 n0) := by
  refine own_body own_pn0 ?_
  intro p e s m below meth c s₁ X0 hx hby hml hown hnm hret hlk hZ e0
  have Ex : ∀ k, own_four k → Exa Z h0 (own_pick x0 x1 x2 x3 k) "com/example/holdfast/holdfast/ObjectType" := fun k hk => by rcases hk with rfl | rfl | rfl | rfl <;> assumption
  have Fx : ∀ k, own_four k → Fld Z h0 (own_pick x0 x1 x2 x3 k) "java/lang/Enum" "ordinal" "I" (.int k) := fun k hk => by rcases hk with rfl | rfl | rfl | rfl <;> assumption
  have n01 : x0 ≠ x1 := F_SITE.ne F_COMMUNITY (by decide)
  have n02 : x0 ≠ x2 := F_SITE.ne F_COLLECTION (by decide)
  have n03 : x0 ≠ x3 := F_SITE.ne F_ITEM (by decide)
  have n12 : x1 ≠ x2 := F_COMMUNITY.ne F_COLLECTION (by decide)
  have n13 : x1 ≠ x3 := F_COMMUNITY.ne F_ITEM (by decide)
  have n23 : x2 ≠ x3 := F_COLLECTION.ne F_ITEM (by decide)
  refine own_go (fun _ k => castTop (ef_0 m p0 p1) k) ?_
  show Run p.tables e below (s₁.setTop (mkF m 0 #[.val (.int p0), .val (.int p1), .unset, .unset, .unset, .unset, .unset] [])) _
  refine own_go (fun _ => XS.iloadN X0.here hx rfl (hb hby at_0) rfl) ?_
  show Run p.tables e below (s₁.setTop (mkF m 1 #[.val (.int p0), .val (.int p1), .unset, .unset, .unset, .unset, .unset] [(.int p0)])) _
  refine own_go (fun _ => XS.iconst X0.here hx rfl (hb hby at_1)) ?_
  show Run p.tables e below (s₁.setTop (mkF m 2 #[.val (.int p0), .val (.int p1), .unset, .unset, .unset, .unset, .unset] [(.int (3 : Int32)), (.int p0)])) _
  refine own_go (fun _ => XS.iand X0.here hx rfl (hb hby at_2) rfl) ?_
  show Run p.tables e below (s₁.setTop (mkF m 3 #[.val (.int p0), .val (.int p1), .unset, .unset, .unset, .unset, .unset] [(.int (p0 &&& (3 : Int32)))])) _
  refine own_go (fun _ => XS.istoreN X0.here hx rfl (hb hby at_3) rfl (l' := #[.val (.int p0), .val (.int p1), .val (.int (p0 &&& (3 : Int32))), .unset, .unset, .unset, .unset]) rfl) ?_
  show Run p.tables e below (s₁.setTop (mkF m 4 #[.val (.int p0), .val (.int p1), .val (.int (p0 &&& (3 : Int32))), .unset, .unset, .unset, .unset] [])) _
  refine own_go (fun _ => XS.iloadN X0.here hx rfl (hb hby at_4) rfl) ?_
  show Run p.tables e below (s₁.setTop (mkF m 5 #[.val (.int p0), .val (.int p1), .val (.int (p0 &&& (3 : Int32))), .unset, .unset, .unset, .unset] [(.int p1)])) _
  refine own_go (fun _ => XS.iconst X0.here hx rfl (hb hby at_5)) ?_
  show Run p.tables e below (s₁.setTop (mkF m 6 #[.val (.int p0), .val (.int p1), .val (.int (p0 &&& (3 : Int32))), .unset, .unset, .unset, .unset] [(.int (3 : Int32)), (.int p1)])) _
  refine own_go (fun _ => XS.iand X0.here hx rfl (hb hby at_6) rfl) ?_
  show Run p.tables e below (s₁.setTop (mkF m 7 #[.val (.int p0), .val (.int p1), .val (.int (p0 &&& (3 : Int32))), .unset, .unset, .unset, .unset] [(.int (p1 &&& (3 : Int32)))])) _
  refine own_go (fun _ => XS.istoreN X0.here hx rfl (hb hby at_7) rfl (l' := #[.val (.int p0), .val (.int p1), .val (.int (p0 &&& (3 : Int32))), .val (.int (p1 &&& (3 : Int32))), .unset, .unset, .unset]) rfl) ?_
  show Run p.tables e below (s₁.setTop (mkF m 8 #[.val (.int p0), .val (.int p1), .val (.int (p0 &&& (3 : Int32))), .val (.int (p1 &&& (3 : Int32))), .unset, .unset, .unset] [])) _
  have hh := own_and3 p0
  have hk := own_and3 p1
  generalize (p0 &&& (3 : Int32)) = h at hh ⊢
  generalize (p1 &&& (3 : Int32)) = k at hk ⊢
  show Run p.tables e below (s₁.setTop (mkF m 8 #[.val (.int p0), .val (.int p1), .val (.int h), .val (.int k), .unset, .unset, .unset] [])) _
  have J : Run p.tables e below (s₁.setTop (mkF m 27 #[.val (.int p0), .val (.int p1), .val (.int h), .val (.int k), .unset, .unset, .unset] [(.int (own_want h k))])) (OwnFin s below (own_Q0 n0) room_1.cells room_1.slots) := by
    show Run p.tables e below (s₁.setTop (mkF m 27 #[.val (.int p0), .val (.int p1), .val (.int h), .val (.int k), .unset, .unset, .unset] [(.int (own_want h k))])) _
    refine own_go (fun _ => XS.istore X0.here hx rfl (hb hby at_27) rfl (l' := #[.val (.int p0), .val (.int p1), .val (.int h), .val (.int k), .val (.int (own_want h k)), .unset, .unset]) rfl) ?_
    show Run p.tables e below (s₁.setTop (mkF m 29 #[.val (.int p0), .val (.int p1), .val (.int h), .val (.int k), .val (.int (own_want h k)), .unset, .unset] [])) _
    refine own_go (fun _ => XS.iloadN X0.here hx rfl (hb hby at_29) rfl) ?_
    show Run p.tables e below (s₁.setTop (mkF m 30 #[.val (.int p0), .val (.int p1), .val (.int h), .val (.int k), .val (.int (own_want h k)), .unset, .unset] [(.int h)])) _
    obtain ⟨vk1, Tk1, Lk1, Xk1, ⟨rfl, ek1, rfl⟩, stk1⟩ := own_callS X0 hx hZ hown (hw _ (List.mem_of_getElem? (i := 0) rfl)) (hw _ (List.mem_of_getElem? (i := 1) rfl)) (hw _ (List.mem_of_getElem? (i := 3) rfl)) (hw _ (List.mem_of_getElem? (i := 2) rfl)) (by decide) e0 (rm1 l Z a0 hw [] h x0 x1 x2 x3 h0 S_SITE S_COMMUNITY S_COLLECTION S_ITEM) (g := (mkF m 30 #[.val (.int p0), .val (.int p1), .val (.int h), .val (.int k), .val (.int (own_want h k)), .unset, .unset] [(.int h)])) rfl (by rw [hml]; rfl) (argsL := [(.int h)]) (rest := []) own_pd1 rfl rfl rfl (W := 0) (by show 2 * 0 + _ ≤ _; exact Nat.le_of_eq rfl) (hb hby at_30) (by decide) (by decide) (by decide) (by decide)
    replace Xk1 : Stand p l e room_1 s m #[(.int p0), (.int p1)] below meth c Tk1 [] 0 0 := Xk1
    refine own_go stk1 ?_
    show Run p.tables e below (Tk1.setTop (mkF m 33 #[.val (.int p0), .val (.int p1), .val (.int h), .val (.int k), .val (.int (own_want h k)), .unset, .unset] [(.ref (own_pick x0 x1 x2 x3 h))])) _
    refine own_go (fun _ => XS.astore Xk1.here hx rfl (hb hby at_33) rfl rfl (l' := #[.val (.int p0), .val (.int p1), .val (.int h), .val (.int k), .val (.int (own_want h k)), .val (.ref (own_pick x0 x1 x2 x3 h)), .unset]) rfl) ?_
    show Run p.tables e below (Tk1.setTop (mkF m 35 #[.val (.int p0), .val (.int p1), .val (.int h), .val (.int k), .val (.int (own_want h k)), .val (.ref (own_pick x0 x1 x2 x3 h)), .unset] [])) _
    refine own_go (fun _ => XS.iloadN Xk1.here hx rfl (hb hby at_35) rfl) ?_
    show Run p.tables e below (Tk1.setTop (mkF m 36 #[.val (.int p0), .val (.int p1), .val (.int h), .val (.int k), .val (.int (own_want h k)), .val (.ref (own_pick x0 x1 x2 x3 h)), .unset] [(.int k)])) _
    obtain ⟨vk2, Tk2, Lk2, Xk2, ⟨rfl, ek2, rfl⟩, stk2⟩ := own_callS Xk1 hx hZ hown (hw _ (List.mem_of_getElem? (i := 0) rfl)) (hw _ (List.mem_of_getElem? (i := 1) rfl)) (hw _ (List.mem_of_getElem? (i := 3) rfl)) (hw _ (List.mem_of_getElem? (i := 2) rfl)) (by decide) ek1 (rm1 l Z a0 hw [] k x0 x1 x2 x3 h0 S_SITE S_COMMUNITY S_COLLECTION S_ITEM) (g := (mkF m 36 #[.val (.int p0), .val (.int p1), .val (.int h), .val (.int k), .val (.int (own_want h k)), .val (.ref (own_pick x0 x1 x2 x3 h)), .unset] [(.int k)])) rfl (by rw [hml]; rfl) (argsL := [(.int k)]) (rest := []) own_pd1 rfl rfl rfl (W := 0) (by show 2 * 0 + _ ≤ _; exact Nat.le_of_eq rfl) (hb hby at_36) (by decide) (by decide) (by decide) (by decide)
    replace Xk2 : Stand p l e room_1 s m #[(.int p0), (.int p1)] below meth c Tk2 [] 0 0 := Xk2
    refine own_go stk2 ?_
    show Run p.tables e below (Tk2.setTop (mkF m 39 #[.val (.int p0), .val (.int p1), .val (.int h), .val (.int k), .val (.int (own_want h k)), .val (.ref (own_pick x0 x1 x2 x3 h)), .unset] [(.ref (own_pick x0 x1 x2 x3 k))])) _
    refine own_go (fun _ => XS.astore Xk2.here hx rfl (hb hby at_39) rfl rfl (l' := #[.val (.int p0), .val (.int p1), .val (.int h), .val (.int k), .val (.int (own_want h k)), .val (.ref (own_pick x0 x1 x2 x3 h)), .val (.ref (own_pick x0 x1 x2 x3 k))]) rfl) ?_
    show Run p.tables e below (Tk2.setTop (mkF m 41 #[.val (.int p0), .val (.int p1), .val (.int h), .val (.int k), .val (.int (own_want h k)), .val (.ref (own_pick x0 x1 x2 x3 h)), .val (.ref (own_pick x0 x1 x2 x3 k))] [])) _
    refine own_go (fun _ => XS.aload Xk2.here hx rfl (hb hby at_41) rfl rfl) ?_
    show Run p.tables e below (Tk2.setTop (mkF m 43 #[.val (.int p0), .val (.int p1), .val (.int h), .val (.int k), .val (.int (own_want h k)), .val (.ref (own_pick x0 x1 x2 x3 h)), .val (.ref (own_pick x0 x1 x2 x3 k))] [(.ref (own_pick x0 x1 x2 x3 h))])) _
    refine own_go (fun _ => XS.aload Xk2.here hx rfl (hb hby at_43) rfl rfl) ?_
    show Run p.tables e below (Tk2.setTop (mkF m 45 #[.val (.int p0), .val (.int p1), .val (.int h), .val (.int k), .val (.int (own_want h k)), .val (.ref (own_pick x0 x1 x2 x3 h)), .val (.ref (own_pick x0 x1 x2 x3 k))] [(.ref (own_pick x0 x1 x2 x3 k)), (.ref (own_pick x0 x1 x2 x3 h))])) _
    obtain ⟨vk3, Tk3, Lk3, Xk3, ⟨rfl, ek3, rfl⟩, stk3⟩ := own_callV Xk2 hx hZ hown (hw _ (List.mem_of_getElem? (i := 9) rfl)) (hw _ (List.mem_of_getElem? (i := 11) rfl)) (hw _ (List.mem_of_getElem? (i := 12) rfl)) (hw _ (List.mem_of_getElem? (i := 13) rfl)) (hw _ (List.mem_of_getElem? (i := 5) rfl)) (by decide) ek2 (rm2 l Z a0 hw [] (own_pick x0 x1 x2 x3 h) (own_pick x0 x1 x2 x3 k) h x1 x2 x3 h0 (Fx h hh) (Ex h hh) hh S_COMMUNITY S_COLLECTION S_ITEM) (Ex h hh) (g := (mkF m 45 #[.val (.int p0), .val (.int p1), .val (.int h), .val (.int k), .val (.int (own_want h k)), .val (.ref (own_pick x0 x1 x2 x3 h)), .val (.ref (own_pick x0 x1 x2 x3 k))] [(.ref (own_pick x0 x1 x2 x3 k)), (.ref (own_pick x0 x1 x2 x3 h))])) rfl (by rw [hml]; rfl) (argsL := [(.ref (own_pick x0 x1 x2 x3 k))]) (rest := []) own_pd2 rfl rfl rfl (W := 0) (by show 2 * 0 + _ ≤ _; exact Nat.le_of_eq rfl) (hb hby at_45) (by decide) (by decide) (by decide) (by decide)
    replace Xk3 : Stand p l e room_1 s m #[(.int p0), (.int p1)] below meth c Tk3 [] 0 0 := Xk3
    refine own_go stk3 ?_
    show Run p.tables e below (Tk3.setTop (mkF m 48 #[.val (.int p0), .val (.int p1), .val (.int h), .val (.int k), .val (.int (own_want h k)), .val (.ref (own_pick x0 x1 x2 x3 h)), .val (.ref (own_pick x0 x1 x2 x3 k))] [(.int (own_can x1 x2 x3 h (own_pick x0 x1 x2 x3 k)))])) _
    refine own_go (fun _ => XS.iload Xk3.here hx rfl (hb hby at_48) rfl) ?_
    show Run p.tables e below (Tk3.setTop (mkF m 50 #[.val (.int p0), .val (.int p1), .val (.int h), .val (.int k), .val (.int (own_want h k)), .val (.ref (own_pick x0 x1 x2 x3 h)), .val (.ref (own_pick x0 x1 x2 x3 k))] [(.int (own_want h k)), (.int (own_can x1 x2 x3 h (own_pick x0 x1 x2 x3 k)))])) _
    refine own_go (fun _ => XS.icmpNo Xk3.here hx rfl (hb hby at_50) rfl (XT.ii_ne_f (own_tab x0 x1 x2 x3 n01 n02 n03 n12 n13 n23 h k hh hk))) ?_
    show Run p.tables e below (Tk3.setTop (mkF m 53 #[.val (.int p0), .val (.int p1), .val (.int h), .val (.int k), .val (.int (own_want h k)), .val (.ref (own_pick x0 x1 x2 x3 h)), .val (.ref (own_pick x0 x1 x2 x3 k))] [])) _
    refine own_go (fun _ => XS.iconst Xk3.here hx rfl (hb hby at_53)) ?_
    show Run p.tables e below (Tk3.setTop (mkF m 54 #[.val (.int p0), .val (.int p1), .val (.int h), .val (.int k), .val (.int (own_want h k)), .val (.ref (own_pick x0 x1 x2 x3 h)), .val (.ref (own_pick x0 x1 x2 x3 k))] [(.int (1 : Int32))])) _
    refine own_go (fun _ => XS.goto Xk3.here hx rfl (pc0 := 54) (pc' := 58) rfl (hb hby at_54) (by decide) (by decide)) ?_
    show Run p.tables e below (Tk3.setTop (mkF m 58 #[.val (.int p0), .val (.int p1), .val (.int h), .val (.int k), .val (.int (own_want h k)), .val (.ref (own_pick x0 x1 x2 x3 h)), .val (.ref (own_pick x0 x1 x2 x3 k))] [(.int (1 : Int32))])) _
    exact own_out Xk3 (v := some (.int (1 : Int32))) (fun q => by rw [hret] at q; cases q) hlk (fun fs hr => retN Xk3 hx (t := .boolean) hret (by simp) (hb hby at_58) hr) ⟨rfl, Fr.nil n0⟩ (by decide) (by decide)
  refine own_go (fun _ => XS.sipush X0.here hx rfl (hb hby at_8)) ?_
  show Run p.tables e below (s₁.setTop (mkF m 11 #[.val (.int p0), .val (.int p1), .val (.int h), .val (.int k), .unset, .unset, .unset] [(.int (2146 : Int32))])) _
  refine own_go (fun _ => XS.iloadN X0.here hx rfl (hb hby at_11) rfl) ?_
  show Run p.tables e below (s₁.setTop (mkF m 12 #[.val (.int p0), .val (.int p1), .val (.int h), .val (.int k), .unset, .unset, .unset] [(.int h), (.int (2146 : Int32))])) _
  refine own_go (fun _ => XS.iconst X0.here hx rfl (hb hby at_12)) ?_
  show Run p.tables e below (s₁.setTop (mkF m 13 #[.val (.int p0), .val (.int p1), .val (.int h), .val (.int k), .unset, .unset, .unset] [(.int (4 : Int32)), (.int h), (.int (2146 : Int32))])) _
  refine own_go (fun _ => XS.imul X0.here hx rfl (hb hby at_13) rfl) ?_
  show Run p.tables e below (s₁.setTop (mkF m 14 #[.val (.int p0), .val (.int p1), .val (.int h), .val (.int k), .unset, .unset, .unset] [(.int (h * (4 : Int32))), (.int (2146 : Int32))])) _
  refine own_go (fun _ => XS.iloadN X0.here hx rfl (hb hby at_14) rfl) ?_
  show Run p.tables e below (s₁.setTop (mkF m 15 #[.val (.int p0), .val (.int p1), .val (.int h), .val (.int k), .unset, .unset, .unset] [(.int k), (.int (h * (4 : Int32))), (.int (2146 : Int32))])) _
  refine own_go (fun _ => XS.iadd X0.here hx rfl (hb hby at_15) rfl) ?_
  show Run p.tables e below (s₁.setTop (mkF m 16 #[.val (.int p0), .val (.int p1), .val (.int h), .val (.int k), .unset, .unset, .unset] [(.int ((h * (4 : Int32)) + k)), (.int (2146 : Int32))])) _
  refine own_go (fun _ => XT.ishr X0.here hx rfl (hb hby at_16) rfl) ?_
  show Run p.tables e below (s₁.setTop (mkF m 17 #[.val (.int p0), .val (.int p1), .val (.int h), .val (.int k), .unset, .unset, .unset] [(.int ((2146 : Int32) >>> (((h * (4 : Int32)) + k) &&& 31)))])) _
  refine own_go (fun _ => XS.iconst X0.here hx rfl (hb hby at_17)) ?_
  show Run p.tables e below (s₁.setTop (mkF m 18 #[.val (.int p0), .val (.int p1), .val (.int h), .val (.int k), .unset, .unset, .unset] [(.int (1 : Int32)), (.int ((2146 : Int32) >>> (((h * (4 : Int32)) + k) &&& 31)))])) _
  refine own_go (fun _ => XS.iand X0.here hx rfl (hb hby at_18) rfl) ?_
  show Run p.tables e below (s₁.setTop (mkF m 19 #[.val (.int p0), .val (.int p1), .val (.int h), .val (.int k), .unset, .unset, .unset] [(.int (((2146 : Int32) >>> (((h * (4 : Int32)) + k) &&& 31)) &&& (1 : Int32)))])) _
  by_cases q : (((2146 : Int32) >>> (((h * (4 : Int32)) + k) &&& 31)) &&& (1 : Int32)) = 0
  · show Run p.tables e below (s₁.setTop (mkF m 19 #[.val (.int p0), .val (.int p1), .val (.int h), .val (.int k), .unset, .unset, .unset] [(.int (((2146 : Int32) >>> (((h * (4 : Int32)) + k) &&& 31)) &&& (1 : Int32)))])) _
    refine own_go (fun _ => XS.ifYes X0.here hx rfl (pc0 := 19) (pc' := 26) rfl (hb hby at_19) rfl (XT.i0_eq_t q) (by decide) (by decide)) ?_
    show Run p.tables e below (s₁.setTop (mkF m 26 #[.val (.int p0), .val (.int p1), .val (.int h), .val (.int k), .unset, .unset, .unset] [])) _
    refine own_go (fun _ => XS.iconst X0.here hx rfl (hb hby at_26)) ?_
    show Run p.tables e below (s₁.setTop (mkF m 27 #[.val (.int p0), .val (.int p1), .val (.int h), .val (.int k), .unset, .unset, .unset] [(.int (0 : Int32))])) _
    rw [show own_want h k = 0 from if_pos q] at J
    exact J
  · show Run p.tables e below (s₁.setTop (mkF m 19 #[.val (.int p0), .val (.int p1), .val (.int h), .val (.int k), .unset, .unset, .unset] [(.int (((2146 : Int32) >>> (((h * (4 : Int32)) + k) &&& 31)) &&& (1 : Int32)))])) _
    refine own_go (fun _ => XS.ifNo X0.here hx rfl (hb hby at_19) rfl (XT.i0_eq_f q)) ?_
    show Run p.tables e below (s₁.setTop (mkF m 22 #[.val (.int p0), .val (.int p1), .val (.int h), .val (.int k), .unset, .unset, .unset] [])) _
    refine own_go (fun _ => XS.iconst X0.here hx rfl (hb hby at_22)) ?_
    show Run p.tables e below (s₁.setTop (mkF m 23 #[.val (.int p0), .val (.int p1), .val (.int h), .val (.int k), .unset, .unset, .unset] [(.int (1 : Int32))])) _
    refine own_go (fun _ => XS.goto X0.here hx rfl (pc0 := 23) (pc' := 27) rfl (hb hby at_23) (by decide) (by decide)) ?_
    show Run p.tables e below (s₁.setTop (mkF m 27 #[.val (.int p0), .val (.int p1), .val (.int h), .val (.int k), .unset, .unset, .unset] [(.int (1 : Int32))])) _
    rw [show own_want h k = 1 from if_neg q] at J
    exact J
set_option maxRecDepth 65536 in
set_option maxHeartbeats 40000000 in
theorem comes_1 {Post : Tables → Env → Array Value → State → Outcome → State → Prop} (hpost : ∀ tb e args s v u, (limb_1_1.after args s (.returned v) u = true ∧ limb_1_2.after args s (.returned v) u = true ∧ True) → FrameEnd s (.returned v) u (Jvm.fieldLocs frame_1_writes args s ++ Jvm.arrayLocs frame_1_arrays args s ++ Jvm.staticLocs frame_1_statics s) 0 0 → Post tb e args s (.returned v) u) :
    ArmFor flags0 classFile x code maxLocals ret World_1 tables_1 room_1 Calls_1 rest_1 Pre_1 Post := by
  intro l hfl _ _ p e ha hc hk s m args below hf hA hF happ hP
  obtain ⟨hcalls, hrest, hpre⟩ := hP
  obtain ⟨-, -, -, hnamed, -, -, -, hat⟩ := (Spec.applies_iff hf).mp happ
  obtain ⟨hg, hn⟩ := and_e (Cond.before_iff.mp (show (Jvm.Cond.and given_1 narrow_1).before args s = true from hpre))
  obtain ⟨h1, hg⟩ := and_e hg
  obtain ⟨w0, w1, rfl⟩ : ∃ w0 w1 : Value, args = #[w0, w1] := by
    have hs : args.size = 2 := by simpa [Cond.value, given_1] using h1
    obtain ⟨L⟩ := args
    match L, hs with
    | [w0, w1], _ => exact ⟨w0, w1, rfl⟩
  have hw := fun d (hd : d ∈ tables_1) => atoms_spec (ws := Jvm.Cond.code x code maxLocals ret :: tables_1) hat d (List.mem_cons_of_mem _ hd)
  have hfit : Fit s := fun {y c} hc i hi => by
    obtain ⟨ha, rfl⟩ := Array.getElem?_eq_some_iff.mp hc
    have q := List.all_eq_true.mp ((Array.all_eq_true_iff_forall_mem.mp hF) _ (Array.getElem_mem ha)) i (List.mem_range.mpr hi)
    simpa [Array.getElem?_eq_getElem hi] using q
  obtain ⟨g0, hg⟩ := and_e hg
  obtain ⟨i0, q0⟩ := is_v g0
  obtain rfl : w0 = (.int i0) := Option.some.inj q0
  have g1 := hg
  obtain ⟨i1, q1⟩ := is_v g1
  obtain rfl : w1 = (.int i1) := Option.some.inj q1
  obtain ⟨n0, hn⟩ := and_e hn
  obtain ⟨n1, hn⟩ := and_e hn
  obtain ⟨n2, hn⟩ := and_e hn
  obtain ⟨n3, hn⟩ := and_e hn
  obtain ⟨n4, hn⟩ := and_e hn
  obtain ⟨n5, hn⟩ := and_e hn
  obtain ⟨n6, hn⟩ := and_e hn
  have n7 := hn
  obtain ⟨a_SITE, ev_SITE⟩ := exa_v n0
  have E_SITE := Exa.start ev_SITE n0
  have S_SITE := Sta.start ev_SITE (Or.inr ⟨(hw _ (List.mem_of_getElem? (i := 5) rfl)), (hw _ (List.mem_of_getElem? (i := 6) rfl))⟩)
  obtain ⟨a_ITEM, ev_ITEM⟩ := exa_v n1
  have E_ITEM := Exa.start ev_ITEM n1
  have S_ITEM := Sta.start ev_ITEM (Or.inr ⟨(hw _ (List.mem_of_getElem? (i := 5) rfl)), (hw _ (List.mem_of_getElem? (i := 8) rfl))⟩)
  obtain ⟨a_COMMUNITY, ev_COMMUNITY⟩ := exa_v n3
  have E_COMMUNITY := Exa.start ev_COMMUNITY n3
  have S_COMMUNITY := Sta.start ev_COMMUNITY (Or.inr ⟨(hw _ (List.mem_of_getElem? (i := 5) rfl)), (hw _ (List.mem_of_getElem? (i := 24) rfl))⟩)
  obtain ⟨a_COLLECTION, ev_COLLECTION⟩ := exa_v n6
  have E_COLLECTION := Exa.start ev_COLLECTION n6
  have S_COLLECTION := Sta.start ev_COLLECTION (Or.inr ⟨(hw _ (List.mem_of_getElem? (i := 5) rfl)), (hw _ (List.mem_of_getElem? (i := 26) rfl))⟩)
  have F_SITE_ordinal := own_fld ev_SITE n2
  have F_ITEM_ordinal := own_fld ev_ITEM n4
  have F_COMMUNITY_ordinal := own_fld ev_COMMUNITY n5
  have F_COLLECTION_ordinal := own_fld ev_COLLECTION n7
  obtain ⟨n, o, h1, h2, h3, _, L, rfl, ⟨rfl, N⟩, hq⟩ := rm0 l s _ hw tables_1 i0 i1 a_SITE a_COMMUNITY a_COLLECTION a_ITEM s.heap s.heap.size S_SITE S_COMMUNITY S_COLLECTION S_ITEM E_SITE E_COMMUNITY E_COLLECTION E_ITEM F_SITE_ordinal F_COMMUNITY_ordinal F_COLLECTION_ordinal F_ITEM_ordinal p e ha hc hk s m _ below hf ((Spec.applies_iff_loose hf).mp happ).1 ⟨rfl, State.Warmed39.refl s, rfl⟩ trivial
  refine ⟨n, _, h1, h2, h3, hpost _ _ _ _ _ _ ⟨Cond.after_iff.mpr rfl, Cond.after_iff.mpr (eq_i res_at (Term.int_eval (1)) rfl), trivial⟩ ⟨hq.1, hq.2.1, (hq.2.2.sift fun y hy => Or.inr (N y hy)).mono (by decide) (by decide)⟩⟩
theorem main_1_1 : Claimed_1_1 := comes_1 fun _ _ _ _ _ _ h hF => ⟨h.1, hF⟩
theorem main_1_2 : Claimed_1_2 := comes_1 fun _ _ _ _ _ _ h hF => ⟨h.2.1, hF⟩
end Jvm.Pilot.@@N@@
namespace Jvm.Pilot.@@N@@
open Jvm Jvm.ClassFile Sem Op Lib Jvm.Free Jvm.Stand Jvm.Pilot.@@N@@.Jvm.D
/-! MADE BY PROGRAM (witnessworld.py) out of the Statement's table words and the real class files: 12 classes; the members and pool entries that the words name. The judged class is class 1, her method 2. -/
namespace start1
open Jvm.ClassFile
def u (s : String) : CpInfo := .utf8 (stringToUtf16 s)
/-- a pool by its gaps: so many unusable entries, then the entry; so many at the end -/
def gap : Nat → List CpInfo → List CpInfo
  | 0, r => r
  | n + 1, r => .unusable :: gap n r
def poolList (es : List (Nat × CpInfo)) (last : Nat) : List CpInfo := es.foldr (fun e r => gap e.1 (e.2 :: r)) (gap last [])
def pool (es : List (Nat × CpInfo)) (last : Nat) : Array CpInfo := ⟨poolList es last⟩
def fileOf (pool : Array CpInfo) (this : Nat) (attrs : Array Attribute := #[]) (ms : Array MethodInfo := #[]) (fl : Nat := 33) (sup : Nat := 0) (ifs : Array Nat := #[]) (fds : Array FieldInfo := #[]) : ClassFile where
  minorVersion := 0
  majorVersion := 65
  constantPool := pool
  accessFlags := fl
  thisClass := this
  superClass := sup
  interfaces := ifs
  fields := fds
  methods := ms
  attributes := attrs
def plain (name : String) (sup : Option ClassId) : Class where
  name := name
  kind := .ordinary
  loader := none
  accessFlags := 33
  super := sup
  interfaces := #[]
  cf := none
  fields := #[]
  methods := #[]
  instanceTypes := #[]
  staticTypes := #[]
  resolved := #[]
  callSites := []
  init := .initialized
  statics := none
  mirror := none

def pool0 : Array CpInfo := pool [(5, u "<init>"), (0, u "()V"), (1, .class_ 10), (1, u "java/lang/Object")] 113

def k0m0 : Method := { name := "<init>", desc := "()V", sig := { parameters := [], returnType := none }, accessFlags := 1, code := none }
/-- java/lang/Object -/
def k0 : Class := { plain "java/lang/Object" none with
  accessFlags := 33
  interfaces := #[]
  cf := some (fileOf pool0 8 #[] #[{ accessFlags := 1, nameIndex := 5, descriptorIndex := 6, attributes := #[] }] 33 0 #[] #[])
  fields := #[]
  methods := #[k0m0]
  instanceTypes := #[]
  staticTypes := #[]
  resolved := Array.replicate 124 none
  statics := none }

def pool1 : Array CpInfo := pool [(2, .class_ 4), (1, u "java/lang/Object"), (0, u "<init>"), (0, u "()V"), (0, .fieldref 8 9), (0, .class_ 10), (0, .nameAndType 11 12), (0, u "com/example/holdfast/holdfast/ObjectType"), (0, u "SITE"), (0, u "Lcom/example/holdfast/holdfast/ObjectType;"), (0, .fieldref 8 14), (0, .nameAndType 15 12), (0, u "COMMUNITY"), (0, .fieldref 8 17), (0, .nameAndType 18 12), (0, u "COLLECTION"), (0, .fieldref 8 20), (0, .nameAndType 21 12), (0, u "ITEM"), (0, .class_ 23), (0, u "com/example/holdfast/holdfast/ObjectTypeCanHoldPinLaw"), (0, .methodref 22 25), (0, .nameAndType 26 27), (0, u "pick"), (0, u "(I)Lcom/example/holdfast/holdfast/ObjectType;"), (0, .methodref 8 29), (0, .nameAndType 30 31), (0, u "canHold"), (0, u "(Lcom/example/holdfast/holdfast/ObjectType;)Z"), (0, u "TABLE"), (0, u "I"), (5, u "law"), (0, u "(II)Z")] 2

def k1m0 : Method := { name := "<init>", desc := "()V", sig := { parameters := [], returnType := none }, accessFlags := 2, code := none }
def k1c1 : Code := { maxStack := 2, maxLocals := 1, code := method_2_code, exceptionTable := #[], attributes := #[] }
def k1m1 : Method := { name := "pick", desc := "(I)Lcom/example/holdfast/holdfast/ObjectType;", sig := { parameters := [.int], returnType := some (.object "com/example/holdfast/holdfast/ObjectType") }, accessFlags := 10, code := some k1c1 }
def k1c2 : Code := { maxStack := 3, maxLocals := 7, code := code, exceptionTable := #[], attributes := #[] }
def k1m2 : Method := { name := "law", desc := "(II)Z", sig := { parameters := [.int, .int], returnType := some .boolean }, accessFlags := 9, code := some k1c2 }
/-- com/example/holdfast/holdfast/ObjectTypeCanHoldPinLaw -/
def k1 : Class := { plain "com/example/holdfast/holdfast/ObjectTypeCanHoldPinLaw" (some 0) with
  accessFlags := 49
  interfaces := #[]
  cf := some (fileOf pool1 22 #[] #[{ accessFlags := 2, nameIndex := 5, descriptorIndex := 6, attributes := #[] }, { accessFlags := 10, nameIndex := 26, descriptorIndex := 27, attributes := #[] }, { accessFlags := 9, nameIndex := 39, descriptorIndex := 40, attributes := #[] }] 49 2 #[] #[{ accessFlags := 26, nameIndex := 32, descriptorIndex := 33, attributes := #[] }])
  fields := #[{ name := "TABLE", type := .int, accessFlags := 26, slot := 0, constantValue := 0 }]
  methods := #[k1m0, k1m1, k1m2]
  instanceTypes := #[]
  staticTypes := #[.int]
  resolved := Array.replicate 43 none
  statics := none }

def pool2 : Array CpInfo := pool [(1, .class_ 2), (0, u "java/lang/constant/Constable"), (0, .class_ 4), (0, u "java/lang/Object")] 6

/-- java/lang/constant/Constable -/
def k2 : Class := { plain "java/lang/constant/Constable" (some 0) with
  accessFlags := 1537
  interfaces := #[]
  cf := some (fileOf pool2 1 #[] #[] 1537 3 #[] #[])
  fields := #[]
  methods := #[]
  instanceTypes := #[]
  staticTypes := #[]
  resolved := Array.replicate 11 none
  statics := none }

def pool3 : Array CpInfo := pool [(1, .class_ 2), (0, u "java/lang/Comparable"), (0, .class_ 4), (0, u "java/lang/Object")] 7

/-- java/lang/Comparable -/
def k3 : Class := { plain "java/lang/Comparable" (some 0) with
  accessFlags := 1537
  interfaces := #[]
  cf := some (fileOf pool3 1 #[] #[] 1537 3 #[] #[])
  fields := #[]
  methods := #[]
  instanceTypes := #[]
  staticTypes := #[]
  resolved := Array.replicate 12 none
  statics := none }

def pool4 : Array CpInfo := pool [(1, .class_ 2), (0, u "java/io/Serializable"), (0, .class_ 4), (0, u "java/lang/Object")] 2

/-- java/io/Serializable -/
def k4 : Class := { plain "java/io/Serializable" (some 0) with
  accessFlags := 1537
  interfaces := #[]
  cf := some (fileOf pool4 1 #[] #[] 1537 3 #[] #[])
  fields := #[]
  methods := #[]
  instanceTypes := #[]
  staticTypes := #[]
  resolved := Array.replicate 7 none
  statics := none }

def pool5 : Array CpInfo := pool [(2, .class_ 4), (1, u "java/lang/Enum"), (0, u "name"), (0, u "Ljava/lang/String;"), (0, .fieldref 2 8), (0, .nameAndType 9 10), (0, u "ordinal"), (0, u "I"), (1, .class_ 14), (1, u "java/lang/Object"), (4, u "hash"), (86, .class_ 108), (1, u "java/lang/Enum$EnumDesc"), (2, .class_ 112), (0, u "java/lang/constant/Constable"), (0, .class_ 114), (0, u "java/lang/Comparable"), (0, .class_ 116), (0, u "java/io/Serializable"), (9, u "()I")] 77

def k5c0 : Code := { maxStack := 1, maxLocals := 1, code := jdk_37_method_2_code, exceptionTable := #[], attributes := #[] }
def k5m0 : Method := { name := "ordinal", desc := "()I", sig := { parameters := [], returnType := some .int }, accessFlags := 17, code := some k5c0 }
/-- java/lang/Enum -/
def k5 : Class := { plain "java/lang/Enum" (some 0) with
  accessFlags := 1057
  interfaces := #[2, 3, 4]
  cf := some (fileOf pool5 2 #[.nestMembers #[106]] #[{ accessFlags := 17, nameIndex := 9, descriptorIndex := 126, attributes := #[] }] 1057 12 #[111, 113, 115] #[{ accessFlags := 18, nameIndex := 5, descriptorIndex := 6, attributes := #[] }, { accessFlags := 18, nameIndex := 9, descriptorIndex := 10, attributes := #[] }, { accessFlags := 2, nameIndex := 19, descriptorIndex := 10, attributes := #[] }])
  fields := #[{ name := "name", type := (.object "java/lang/String"), accessFlags := 18, slot := 0, constantValue := 0 }, { name := "ordinal", type := .int, accessFlags := 18, slot := 1, constantValue := 0 }, { name := "hash", type := .int, accessFlags := 2, slot := 2, constantValue := 0 }]
  methods := #[k5m0]
  instanceTypes := #[(.object "java/lang/String"), .int, .int]
  staticTypes := #[]
  resolved := Array.replicate 204 none
  statics := none }

def pool6 : Array CpInfo := pool [(1, .class_ 2), (0, u "com/example/holdfast/holdfast/ObjectType"), (2, u "SITE"), (0, u "Lcom/example/holdfast/holdfast/ObjectType;"), (0, .fieldref 1 8), (0, .nameAndType 9 6), (0, u "COMMUNITY"), (0, .fieldref 1 11), (0, .nameAndType 12 6), (0, u "COLLECTION"), (0, .fieldref 1 14), (0, .nameAndType 15 6), (0, u "ITEM"), (2, u "$VALUES"), (0, u "[Lcom/example/holdfast/holdfast/ObjectType;"), (6, .class_ 28), (1, u "java/lang/Enum"), (6, .methodref 1 36), (0, .nameAndType 37 38), (0, u "ordinal"), (0, u "()I"), (21, u "canHold"), (0, u "(Lcom/example/holdfast/holdfast/ObjectType;)Z")] 5

def k6c0 : Code := { maxStack := 4, maxLocals := 2, code := prog_57_method_4_code, exceptionTable := #[], attributes := #[] }
def k6m0 : Method := { name := "canHold", desc := "(Lcom/example/holdfast/holdfast/ObjectType;)Z", sig := { parameters := [(.object "com/example/holdfast/holdfast/ObjectType")], returnType := some .boolean }, accessFlags := 1, code := some k6c0 }
/-- com/example/holdfast/holdfast/ObjectType -/
def k6 : Class := { plain "com/example/holdfast/holdfast/ObjectType" (some 5) with
  accessFlags := 16433
  interfaces := #[]
  cf := some (fileOf pool6 1 #[] #[{ accessFlags := 1, nameIndex := 60, descriptorIndex := 61, attributes := #[] }] 16433 26 #[] #[{ accessFlags := 16409, nameIndex := 5, descriptorIndex := 6, attributes := #[] }, { accessFlags := 16409, nameIndex := 9, descriptorIndex := 6, attributes := #[] }, { accessFlags := 16409, nameIndex := 12, descriptorIndex := 6, attributes := #[] }, { accessFlags := 16409, nameIndex := 15, descriptorIndex := 6, attributes := #[] }, { accessFlags := 4122, nameIndex := 18, descriptorIndex := 19, attributes := #[] }])
  fields := #[{ name := "SITE", type := (.object "com/example/holdfast/holdfast/ObjectType"), accessFlags := 16409, slot := 0, constantValue := 0 }, { name := "COMMUNITY", type := (.object "com/example/holdfast/holdfast/ObjectType"), accessFlags := 16409, slot := 1, constantValue := 0 }, { name := "COLLECTION", type := (.object "com/example/holdfast/holdfast/ObjectType"), accessFlags := 16409, slot := 2, constantValue := 0 }, { name := "ITEM", type := (.object "com/example/holdfast/holdfast/ObjectType"), accessFlags := 16409, slot := 3, constantValue := 0 }, { name := "$VALUES", type := (.array (.object "com/example/holdfast/holdfast/ObjectType")), accessFlags := 4122, slot := 4, constantValue := 0 }]
  methods := #[k6m0]
  instanceTypes := #[(.object "java/lang/String"), .int, .int]
  staticTypes := #[(.object "com/example/holdfast/holdfast/ObjectType"), (.object "com/example/holdfast/holdfast/ObjectType"), (.object "com/example/holdfast/holdfast/ObjectType"), (.object "com/example/holdfast/holdfast/ObjectType"), (.array (.object "com/example/holdfast/holdfast/ObjectType"))]
  resolved := Array.replicate 67 none
  statics := some 0 }

def pool7 : Array CpInfo := pool [(1, u "java/lang/Cloneable"), (0, .class_ 1), (0, u "java/lang/Object"), (0, .class_ 3)] 3

/-- java/lang/Cloneable -/
def k7 : Class := { plain "java/lang/Cloneable" (some 0) with
  accessFlags := 1537
  interfaces := #[]
  cf := some (fileOf pool7 2 #[] #[] 1537 4 #[] #[])
  fields := #[]
  methods := #[]
  instanceTypes := #[]
  staticTypes := #[]
  resolved := Array.replicate 8 none
  statics := none }

/-- the primitive byte -/
def k8 : Class := { plain "byte" none with kind := .primitive 'B', accessFlags := 0x411 }
/-- [B -/
def k9 : Class := { plain "[B" (some 0) with kind := .array 8 .byte, interfaces := #[7, 4], accessFlags := 1041 }

/-- the primitive int -/
def k10 : Class := { plain "int" none with kind := .primitive 'I', accessFlags := 0x411 }
/-- [I -/
def k11 : Class := { plain "[I" (some 0) with kind := .array 10 .int, interfaces := #[7, 4], accessFlags := 1041 }

def heap : Heap := #[{ cls := 6, slots := #[.ref 1, .ref 2, .ref 3, .ref 4, .null], vm := .statics 6 },
  { cls := 6, slots := #[.null, .int 0, .int 0], vm := .none },
  { cls := 6, slots := #[.null, .int 1, .int 0], vm := .none },
  { cls := 6, slots := #[.null, .int 2, .int 0], vm := .none },
  { cls := 6, slots := #[.null, .int 3, .int 0], vm := .none }]
def classes : Array Class := #[k0, k1, k2, k3, k4, k5, k6, k7, k8, k9, k10, k11]
def interned : List (Array UInt16 × Addr) := []
def slotsUsed : Nat := 17
def theMethod : MethodId := ⟨1, 2⟩
def args0 : Array Value := #[.int 5, .int 6]
def aboutOver (below : List Frame) : State where
  vm := { classes := classes, interned := interned.toArray }
  heap := heap
  slotsUsed := slotsUsed
  threads := #[{ frames := .invoking theMethod args0 :: below }]
def below0 : List Frame := [.native { method := ⟨0, 0⟩, args := #[] }]
def about1 : State := aboutOver below0
def p0 : Program := .bare "" "" ""
def e0 : Env := launch0.env 0 0 0
theorem w_frames : about1.frames = Frame.invoking theMethod args0 :: below0 := rfl
set_option maxRecDepth 65536 in
theorem w_args : argsFit about1.vm theMethod args0 = true := by decide +kernel
set_option maxRecDepth 65536 in
theorem w_heap : heapFits about1 = true := by decide +kernel
set_option maxRecDepth 65536 in
theorem w_runnable : about1.curStatus? = some .runnable := by decide +kernel
set_option maxRecDepth 65536 in
theorem w_alone : about1.alone = true := by decide +kernel
set_option maxRecDepth 65536 in
theorem w_named : about1.methodNamed? x = some theMethod := by decide +kernel
set_option maxRecDepth 65536 in
theorem w_hears : about1.hears theMethod below0 = true := by decide +kernel
set_option maxRecDepth 65536 in
theorem w_ripe : about1.ripe theMethod args0 below0 = true := by decide +kernel
theorem w_running : about1.status = .running := rfl
set_option maxRecDepth 65536 in
theorem w_room : about1.hasRoom e0.platform room_1 = true :=
  launch0.hasRoom_least _ room_1 (by decide +kernel) (by decide +kernel) (by decide +kernel) (by decide +kernel) (by decide +kernel) (by decide +kernel)
theorem allAtoms_all (ts : List Jvm.Cond) (a : Array Jvm.Value) (st : Jvm.State) : (allAtoms ts).before a st = ts.all (fun c => c.before a st) := by
  induction ts with
  | nil => rfl
  | cons c t ih =>
    show (Jvm.Cond.and c (allAtoms t)).before a st = _
    rw [Jvm.Cond.before_and, ih, List.all_cons]
def words1 : List Jvm.Cond := Jvm.Cond.code x code maxLocals ret :: tables_1
/-- a 'code' word, met by the world's own term for the bytes: nothing is compared byte by byte -/
theorem code_word {y : MethodName} {bytes : ByteArray} {mx : Nat} {rt : Option FieldType} {a : Array Value} {s : State} {m : MethodId} {meth : Method} {c : Code} (h1 : s.methodNamed? y = some m) (h2 : s.vm.method? m = some meth) (h3 : meth.code = some c) (h4 : c.code = bytes)
    (h5 : (c.maxLocals == mx && c.exceptionTable.isEmpty && decide (c.maxStack ≤ mostOperands) && decide (meth.sig.returnType = rt) && !meth.locks && decide (parseMethodDescriptor y.desc = some meth.sig)) = true) : (Jvm.Cond.code y bytes mx rt).before a s = true := by
  simp only [Bool.and_eq_true, beq_iff_eq, Bool.not_eq_true', decide_eq_true_eq] at h5
  obtain ⟨⟨⟨⟨⟨g1, g2⟩, g3⟩, g4⟩, g5⟩, g6⟩ := h5
  simp [Cond.before, Cond.holds, Cond.value, h1, h2, h3, h4, g1, g2, g3, g4, g5, g6]
def isCode : Jvm.Cond → Bool
  | .code _ _ _ _ => true
  | _ => false
theorem all_split {L : List Jvm.Cond} {P : Jvm.Cond → Bool} (h1 : L.all (fun c => isCode c || P c) = true) (h2 : ∀ c ∈ L.filter isCode, P c = true) : L.all P = true := by
  refine List.all_eq_true.mpr fun c hc => ?_
  have h := List.all_eq_true.mp h1 c hc
  rcases Bool.eq_false_or_eq_true (isCode c) with hi | hi
  · exact h2 c (List.mem_filter.mpr ⟨hc, hi⟩)
  · simpa [hi] using h
set_option maxRecDepth 65536 in
theorem w_c0 : (Jvm.Cond.code x code maxLocals ret).before args0 about1 = true := code_word (m := ⟨1, 2⟩) (meth := k1m2) (c := k1c2) (by decide +kernel) rfl rfl rfl (by decide +kernel)
set_option maxRecDepth 65536 in
theorem w_c1 : (Jvm.Cond.code ({ cls := "com/example/holdfast/holdfast/ObjectTypeCanHoldPinLaw", name := "pick", desc := "(I)Lcom/example/holdfast/holdfast/ObjectType;" } : Jvm.MethodName) method_2_code (1 : Nat) (Option.some (Jvm.ClassFile.FieldType.object "com/example/holdfast/holdfast/ObjectType"))).before args0 about1 = true := code_word (m := ⟨1, 1⟩) (meth := k1m1) (c := k1c1) (by decide +kernel) rfl rfl rfl (by decide +kernel)
set_option maxRecDepth 65536 in
theorem w_c2 : (Jvm.Cond.code ({ cls := "com/example/holdfast/holdfast/ObjectType", name := "canHold", desc := "(Lcom/example/holdfast/holdfast/ObjectType;)Z" } : Jvm.MethodName) prog_57_method_4_code (2 : Nat) (Option.some Jvm.ClassFile.FieldType.boolean)).before args0 about1 = true := code_word (m := ⟨6, 0⟩) (meth := k6m0) (c := k6c0) (by decide +kernel) rfl rfl rfl (by decide +kernel)
set_option maxRecDepth 65536 in
theorem w_c3 : (Jvm.Cond.code ({ cls := "java/lang/Enum", name := "ordinal", desc := "()I" } : Jvm.MethodName) jdk_37_method_2_code (1 : Nat) (Option.some Jvm.ClassFile.FieldType.int)).before args0 about1 = true := code_word (m := ⟨5, 0⟩) (meth := k5m0) (c := k5c0) (by decide +kernel) rfl rfl rfl (by decide +kernel)
def codes1 : List Jvm.Cond := [Jvm.Cond.code x code maxLocals ret, Jvm.Cond.code ({ cls := "com/example/holdfast/holdfast/ObjectTypeCanHoldPinLaw", name := "pick", desc := "(I)Lcom/example/holdfast/holdfast/ObjectType;" } : Jvm.MethodName) method_2_code (1 : Nat) (Option.some (Jvm.ClassFile.FieldType.object "com/example/holdfast/holdfast/ObjectType")), Jvm.Cond.code ({ cls := "com/example/holdfast/holdfast/ObjectType", name := "canHold", desc := "(Lcom/example/holdfast/holdfast/ObjectType;)Z" } : Jvm.MethodName) prog_57_method_4_code (2 : Nat) (Option.some Jvm.ClassFile.FieldType.boolean), Jvm.Cond.code ({ cls := "java/lang/Enum", name := "ordinal", desc := "()I" } : Jvm.MethodName) jdk_37_method_2_code (1 : Nat) (Option.some Jvm.ClassFile.FieldType.int)]
set_option maxRecDepth 65536 in
theorem codes_eq : words1.filter isCode = codes1 := rfl
theorem w_codes : ∀ c ∈ words1.filter isCode, c.before args0 about1 = true := by
  rw [codes_eq]
  intro c hc
  simp only [codes1, List.mem_cons, List.not_mem_nil, or_false] at hc
  rcases hc with rfl | rfl | rfl | rfl
  · exact w_c0
  · exact w_c1
  · exact w_c2
  · exact w_c3
set_option maxRecDepth 65536 in
theorem w_t1 : (words1.take 24).all (fun c => isCode c || c.before args0 about1) = true := by decide +kernel
set_option maxRecDepth 65536 in
theorem w_t2 : (words1.drop 24).all (fun c => isCode c || c.before args0 about1) = true := by decide +kernel
theorem w_tables : (allAtoms (Jvm.Cond.code x code maxLocals ret :: tables_1)).before args0 about1 = true := by
  rw [allAtoms_all]
  show words1.all (fun c => c.before args0 about1) = true
  refine all_split ?_ w_codes
  rw [← List.take_append_drop 24 words1, List.all_append, w_t1, w_t2]
  rfl
set_option maxRecDepth 65536 in
theorem w_case : (Jvm.Cond.and given_1 narrow_1).before args0 about1 = true := by decide +kernel
theorem w_applies : (headSpec (Jvm.Cond.code x code maxLocals ret :: tables_1) room_1).applies x e0.platform about1 = true :=
  (Spec.applies_iff w_frames).mpr ⟨w_running, w_runnable, w_alone, w_named, w_hears, w_ripe, w_room, w_tables⟩
theorem atStart : AtStart classFile x code maxLocals ret World_1 tables_1 room_1 Calls_1 rest_1 Pre_1 launch0 p0 e0 about1 theMethod args0 below0 :=
  ⟨lists_1, trivial, launch0.admits_env _ _ _, launch0.least_env, fairChoices_fair.cas, fairChoices_fair.clock, w_frames, w_args, w_heap, w_applies, trivial, trivial, w_case⟩
end start1
theorem witness_1 : WitnessClaimed_1 := ⟨start1.p0, start1.e0, start1.about1, start1.theMethod, start1.args0, start1.below0, start1.atStart⟩
end Jvm.Pilot.@@N@@
