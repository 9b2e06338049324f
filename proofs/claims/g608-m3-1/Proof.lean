import JvmDerived
import JvmDerived.Pilot.@@N@@Statement
import JvmDerived.Pilot.@@N@@Code
set_option linter.unusedVariables false
set_option linter.unusedSimpArgs false
namespace Jvm.Pilot.@@N@@
open Jvm Jvm.ClassFile Sem Op Lib Jvm.Free Jvm.Stand Jvm.LawKit Jvm.RoadKit Bundle Jvm.Pilot.@@N@@.Jvm.D
section OwnKit
variable {p : Program} {l : Launch} {e : Env} {R : Room} {s : State} {m : MethodId} {args : Array Value} {below : List Frame} {meth : Method} {c : Code} {T T' : State} {locs : List Loc} {cells slots : Nat} {Z : State} {a0 : Array Value} {h h0 : Heap} {Q : Option Value → Heap → List Loc → Prop} {kc ks : Nat} {f f' : JFrame}
/-- from T with the frame f on top the run ends as Q says -/
def own_Ends (p : Program) (e : Env) (below : List Frame) (s : State) (Q : Option Value → Heap → List Loc → Prop) (kc ks : Nat) (T : State) (f : JFrame) : Prop :=
  ∃ s₂ o, Steps p.tables e below (T.setTop f) s₂ ∧ s₂.status = .running ∧ Ended s₂ below o ∧ ∃ v L, o = .returned v ∧ Q v s₂.heap L ∧ FrameEnd s o s₂ L kc ks
theorem own_go (st : ∀ target, Steps p.tables e below (T'.setTop f') target → Steps p.tables e below (T.setTop f) target) (k : own_Ends p e below s Q kc ks T' f') : own_Ends p e below s Q kc ks T f := by
  obtain ⟨s₂, o, h1, r⟩ := k
  exact ⟨s₂, o, st _ h1, r⟩
theorem own_fin (X : Stand p l e R s m args below meth c T locs cells slots) (v : Option Value) (hlk : meth.locks = false) (hv : meth.sig.returnType = none → v = none)
    (st : ∀ fs, (∀ (f : JFrame) (acts : List Action), f.method = m → f.locked = none → f.entered = [] → (doReturn e (T.setTop f) acts v).1 = T.setFrames fs) → Steps p.tables e below (T.setTop f) (T.setFrames fs))
    (eT : T.heap = h) (hQ : Q v h locs) (hc : cells ≤ kc) (hs : slots ≤ ks) : own_Ends p e below s Q kc ks T f := by
  subst eT
  obtain ⟨fs, hr, hrun, hended, hW, hsame⟩ := X.leave (v := v) hv hlk
  exact ⟨_, _, st fs hr, hrun, hended, v, locs, rfl, hQ, ⟨_, rfl⟩, hW, hsame.mono hc hs⟩
theorem own_retN (X : Stand p l e R s m args below meth c T locs cells slots) (hx : p.tables.exec = Jvm.exec) (hlk : meth.locks = false) {pc : Nat} {Ls : Array Slot} {z : Int32} {t : FieldType} {rest : List Value} (hret : meth.sig.returnType = some t) (ht : t = .boolean ∨ t = .byte ∨ t = .char ∨ t = .short)
    (hd : decode c.code pc = .ok (.ireturn, 1)) (eT : T.heap = h) (hc : cells ≤ kc) (hs : slots ≤ ks) (hQ : Q (some (.int (nar t z))) h locs) : own_Ends p e below s Q kc ks T (mkF m pc Ls (.int z :: rest)) :=
  own_fin X _ hlk (fun q => by rw [hret] at q; cases q) (fun fs hr => Jvm.RoadKit.retN X hx hret ht hd hr) eT hQ hc hs
theorem own_retI (X : Stand p l e R s m args below meth c T locs cells slots) (hx : p.tables.exec = Jvm.exec) (hlk : meth.locks = false) {pc : Nat} {Ls : Array Slot} {z : Int32} {rest : List Value} (hret : meth.sig.returnType = some .int)
    (hd : decode c.code pc = .ok (.ireturn, 1)) (eT : T.heap = h) (hc : cells ≤ kc) (hs : slots ≤ ks) (hQ : Q (some (.int z)) h locs) : own_Ends p e below s Q kc ks T (mkF m pc Ls (.int z :: rest)) :=
  own_fin X _ hlk (fun q => by rw [hret] at q; cases q) (fun fs hr => Jvm.RoadKit.retOut X hx hret rfl (Or.inl ⟨rfl, Or.inl rfl, _, rfl⟩) hd hr) eT hQ hc hs
theorem own_retJ (X : Stand p l e R s m args below meth c T locs cells slots) (hx : p.tables.exec = Jvm.exec) (hlk : meth.locks = false) {pc : Nat} {Ls : Array Slot} {z : Int64} {rest : List Value} (hret : meth.sig.returnType = some .long)
    (hd : decode c.code pc = .ok (.lreturn, 1)) (eT : T.heap = h) (hc : cells ≤ kc) (hs : slots ≤ ks) (hQ : Q (some (.long z)) h locs) : own_Ends p e below s Q kc ks T (mkF m pc Ls (.long z :: rest)) :=
  own_fin X _ hlk (fun q => by rw [hret] at q; cases q) (fun fs hr => Jvm.RoadKit.retOut X hx hret rfl (Or.inr (Or.inl ⟨rfl, rfl, _, rfl⟩)) hd hr) eT hQ hc hs
theorem own_retD (X : Stand p l e R s m args below meth c T locs cells slots) (hx : p.tables.exec = Jvm.exec) (hlk : meth.locks = false) {pc : Nat} {Ls : Array Slot} {z : UInt64} {rest : List Value} (hret : meth.sig.returnType = some .double)
    (hd : decode c.code pc = .ok (.dreturn, 1)) (eT : T.heap = h) (hc : cells ≤ kc) (hs : slots ≤ ks) (hQ : Q (some (.double z)) h locs) : own_Ends p e below s Q kc ks T (mkF m pc Ls (.double z :: rest)) :=
  own_fin X _ hlk (fun q => by rw [hret] at q; cases q) (fun fs hr => Jvm.RoadKit.retOut X hx hret rfl (Or.inr (Or.inr (Or.inl ⟨rfl, rfl, _, rfl⟩))) hd hr) eT hQ hc hs
theorem own_narR {t : FieldType} {v : Value} (ht : t.isReference = true) : narrow t v = v := by cases t <;> first | (cases ht; done) | (cases v <;> rfl)
theorem own_retR (X : Stand p l e R s m args below meth c T locs cells slots) (hx : p.tables.exec = Jvm.exec) (hlk : meth.locks = false) {pc : Nat} {Ls : Array Slot} {v : Value} {t : FieldType} {rest : List Value} (hret : meth.sig.returnType = some t) (ht : t.isReference = true) (hv : v.isRef = true)
    (hd : decode c.code pc = .ok (.areturn, 1)) (eT : T.heap = h) (hc : cells ≤ kc) (hs : slots ≤ ks) (hQ : Q (some v) h locs) : own_Ends p e below s Q kc ks T (mkF m pc Ls (v :: rest)) :=
  own_fin X _ hlk (fun q => by rw [hret] at q; cases q) (fun fs hr => Jvm.RoadKit.retOut X hx hret (own_narR ht) (Or.inr (Or.inr (Or.inr (Or.inr ⟨rfl, ht, hv⟩)))) hd hr) eT hQ hc hs
theorem own_retV (X : Stand p l e R s m args below meth c T locs cells slots) (hx : p.tables.exec = Jvm.exec) (hlk : meth.locks = false) {pc : Nat} {Ls : Array Slot} (hret : meth.sig.returnType = none)
    (hd : decode c.code pc = .ok (.return_, 1)) (eT : T.heap = h) (hc : cells ≤ kc) (hs : slots ≤ ks) (hQ : Q none h locs) : own_Ends p e below s Q kc ks T (mkF m pc Ls []) :=
  own_fin X none hlk (fun _ => rfl) (fun fs hr => X.returnOut hx hret hd hr) eT hQ hc hs
/-- a body's contract: called with the arguments as' on the heap h0, over tables warmer than Z's, it returns as Q says -/
abbrev own_Met (l : Launch) (y : MethodName) (bytes : ByteArray) (maxL : Nat) (ret : Option FieldType) (rm : Room) (ws : List Jvm.Cond) (as' : Array Value) (Z : State) (h0 : Heap) (Q : Option Value → Heap → List Loc → Prop) : Prop :=
  MetFree l y (head1 (Jvm.Cond.code y bytes maxL ret :: ws) rm) (fun a U => a = as' ∧ Z.Warmed39 U.vm ∧ U.heap = h0) (fun _ _ _ _ _ => True) (fun _ U o U' => ∃ v L, o = .returned v ∧ Q v U'.heap L ∧ FrameEnd U o U' L rm.cells rm.slots)
theorem own_met {y : MethodName} {bytes : ByteArray} {maxL : Nat} {ret : Option FieldType} {rm : Room} {ws : List Jvm.Cond} {as' : Array Value} (hy : plainFor y = true)
    (body : ∀ (p : Program) (e : Env) (s : State) (m : MethodId) (below : List Frame) (meth : Method) (c : Code) (s₁ : State), p.tables.exec = Jvm.exec → Stand p l e rm s m as' below meth c s₁ [] 0 0 → Z.Warmed39 s.vm → s₁.heap = h0 → c.code = bytes → c.maxLocals = maxL →
      s.vm.findClass y.cls = some m.cls → meth.name = y.name → meth.sig.returnType = ret → meth.locks = false → own_Ends p e below s Q rm.cells rm.slots s₁ (entryFrame m as' maxL)) :
    own_Met l y bytes maxL ret rm ws as' Z h0 Q := by
  refine MetFree.of_bodySF hy hisR ?_
  intro p e s m args below meth c s₁ Bd hml0 hP hK
  obtain ⟨rfl, hZ, hh⟩ := hP
  exact body p e s m below meth c s₁ Bd.exec (Stand.of_body Bd) hZ (by rw [← hh, Bd.state]; rfl) Bd.bytes hml0 (findClass_of_methodNamed Bd.named) (name_of_methodNamed Bd.named Bd.method).1 Bd.returns Bd.notSynchronized
theorem own_at {f f' : JFrame} (q : f = f') (k : own_Ends p e below s Q kc ks T f') : own_Ends p e below s Q kc ks T f := q ▸ k
/-- a static call -/
theorem own_callS (X : Stand p l e R s m args below meth c T locs cells slots) (hx : p.tables.exec = Jvm.exec) (hZ : Z.Warmed39 s.vm) {own : String} {index : Nat} {y : MethodName} {bytes : ByteArray} {maxL : Nat} {ret : Option FieldType} {rm : Room} {as' : Array Value} {Q' : Option Value → Heap → List Loc → Prop}
    (hown : s.vm.findClass own = some m.cls) (w1 : (Jvm.Cond.methodLink own index y).before a0 Z = true) (w2 : (Jvm.Cond.static y).before a0 Z = true) (w3 : (Jvm.Cond.initialized y.cls).before a0 Z = true) (w4 : (Jvm.Cond.code y bytes maxL ret).before a0 Z = true)
    (hy : y.cls ≠ "java/lang/invoke/MethodHandle" ∧ y.cls ≠ "java/lang/invoke/VarHandle") (hM : own_Met l y bytes maxL ret rm [] as' Z h Q') (eT : T.heap = h) {g : JFrame} (hg : g.method = m) (hsize : g.locals.size = c.maxLocals) (argsL rest : List Value) (has : argsL.toArray = as')
    (hlen : ∀ sig, parseMethodDescriptor y.desc = some sig → argsL.length = sig.parameters.length) (hstack : g.stack = argsL.reverse ++ rest) (W : Nat) (hW : 2 * g.monitorRoom + (rest.map fun v => v.category).sum ≤ W) (hdg : decode c.code g.pc = .ok (.invokestatic index, 3))
    (hf : rm.frames + 1 ≤ R.frames) (hl : W + (maxL + 11) + rm.locals ≤ R.locals) (hc : cells + rm.cells ≤ R.cells) (hs : slots + rm.slots ≤ R.slots) :
    ∃ (T' : State) (v : Option Value) (L : List Loc), Stand p l e R s m args below meth c T' (locs ++ L) (cells + rm.cells) (slots + rm.slots) ∧ Q' v T'.heap L ∧ ∀ target, Steps p.tables e below (T'.setTop { g with pc := g.pc + 3, stack := v.toList ++ rest }) target → Steps p.tables e below (T.setTop g) target := by
  obtain ⟨v, vm1, ⟨T1, L1, k1, n1⟩, -, X1, ⟨Lc, hQ, l1, y1, z1⟩, st⟩ := Jvm.LawKit.callS X hx hown (mvT hZ w1) (mvT hZ w2) (mvT hZ w3) (mvT hZ w4) hy (backOf (W := W) hM hZ w4 w3 hf hl) hg hsize hlen hstack hW hdg (fun _ _ => ⟨has, eT, hc, hs⟩)
  dsimp only [Pt.U, Pt.locs, Pt.cells, Pt.slots] at X1 l1 y1 z1 st hQ
  subst l1 y1 z1
  exact ⟨T1, v, Lc, X1, hQ, st⟩
/-- a constructor -/
theorem own_callN (X : Stand p l e R s m args below meth c T locs cells slots) (hx : p.tables.exec = Jvm.exec) (hZ : Z.Warmed39 s.vm) {own : String} {index : Nat} {y : MethodName} {bytes : ByteArray} {maxL : Nat} {rm : Room} {as' : Array Value} {Q' : Option Value → Heap → List Loc → Prop}
    (hy1 : y.name = "<init>") (hown : s.vm.findClass own = some m.cls) (w1 : (Jvm.Cond.methodLink own index y).before a0 Z = true) (w2 : (Jvm.Cond.instanceMethod y).before a0 Z = true) (w3 : (Jvm.Cond.initialized y.cls).before a0 Z = true) (w4 : (Jvm.Cond.code y bytes maxL none).before a0 Z = true)
    (hy : y.cls ≠ "java/lang/invoke/MethodHandle" ∧ y.cls ≠ "java/lang/invoke/VarHandle") (hM : own_Met l y bytes maxL none rm [] as' Z h Q') (eT : T.heap = h) {g : JFrame} (hg : g.method = m) (hsize : g.locals.size = c.maxLocals) (b : Addr) (argsL rest : List Value) (has : (.ref b :: argsL).toArray = as')
    (hlen : ∀ sig, parseMethodDescriptor y.desc = some sig → argsL.length = sig.parameters.length) (hstack : g.stack = argsL.reverse ++ .ref b :: rest) (W : Nat) (hW : 2 * g.monitorRoom + (rest.map fun v => v.category).sum ≤ W) (hdg : decode c.code g.pc = .ok (.invokespecial index, 3))
    (hf : rm.frames + 1 ≤ R.frames) (hl : W + (maxL + 11) + rm.locals ≤ R.locals) (hc : cells + rm.cells ≤ R.cells) (hs : slots + rm.slots ≤ R.slots) :
    ∃ (T' : State) (v : Option Value) (L : List Loc), Stand p l e R s m args below meth c T' (locs ++ L) (cells + rm.cells) (slots + rm.slots) ∧ Q' v T'.heap L ∧ ∀ target, Steps p.tables e below (T'.setTop { g with pc := g.pc + 3, stack := v.toList ++ rest }) target → Steps p.tables e below (T.setTop g) target := by
  obtain ⟨v, vm1, ⟨T1, L1, k1, n1⟩, -, X1, ⟨Lc, hQ, l1, y1, z1⟩, st⟩ := X.specialBack hx hy1 hown (mvT hZ w1) (mvT hZ w2) (mvT hZ w4) hy (backOf (W := W) hM hZ w4 w3 hf hl) hg hsize (Steps.refl _) (a := b) hlen hstack hW hdg (fun _ _ => ⟨has, eT, hc, hs⟩)
  dsimp only [Pt.U, Pt.locs, Pt.cells, Pt.slots] at X1 l1 y1 z1 st hQ
  subst l1 y1 z1
  exact ⟨T1, v, Lc, X1, hQ, fun t k => st.trans k⟩
/-- a virtual call: y resolved, z selected by the class C -/
theorem own_callV (X : Stand p l e R s m args below meth c T locs cells slots) (hx : p.tables.exec = Jvm.exec) (hZ : Z.Warmed39 s.vm) {own C : String} {index : Nat} {y z : MethodName} {bytes : ByteArray} {maxL : Nat} {ret : Option FieldType} {rm : Room} {as' : Array Value} {Q' : Option Value → Heap → List Loc → Prop}
    (hown : s.vm.findClass own = some m.cls) (w1 : (Jvm.Cond.methodLink own index y).before a0 Z = true) (w2 : (Jvm.Cond.declares y).before a0 Z = true) (hnf : NotFace s y) (w5 : (Jvm.Cond.selects C y z).before a0 Z = true) (w6 : (Jvm.Cond.instanceMethod z).before a0 Z = true)
    (w3 : (Jvm.Cond.initialized z.cls).before a0 Z = true) (w4 : (Jvm.Cond.code z bytes maxL ret).before a0 Z = true)
    (hy : y.cls ≠ "java/lang/invoke/MethodHandle" ∧ y.cls ≠ "java/lang/invoke/VarHandle") (hM : own_Met l z bytes maxL ret rm [] as' Z h Q') (eT : T.heap = h) {g : JFrame} (hg : g.method = m) (hsize : g.locals.size = c.maxLocals) (b : Addr) (hE : Exa Z h b C) (argsL rest : List Value) (has : (.ref b :: argsL).toArray = as')
    (hlen : ∀ sig, parseMethodDescriptor y.desc = some sig → argsL.length = sig.parameters.length) (hstack : g.stack = argsL.reverse ++ .ref b :: rest) (W : Nat) (hW : 2 * g.monitorRoom + (rest.map fun v => v.category).sum ≤ W) (hdg : decode c.code g.pc = .ok (.invokevirtual index, 3))
    (hf : rm.frames + 1 ≤ R.frames) (hl : W + (maxL + 11) + rm.locals ≤ R.locals) (hc : cells + rm.cells ≤ R.cells) (hs : slots + rm.slots ≤ R.slots) :
    ∃ (T' : State) (v : Option Value) (L : List Loc), Stand p l e R s m args below meth c T' (locs ++ L) (cells + rm.cells) (slots + rm.slots) ∧ Q' v T'.heap L ∧ ∀ target, Steps p.tables e below (T'.setTop { g with pc := g.pc + 3, stack := v.toList ++ rest }) target → Steps p.tables e below (T.setTop g) target := by
  obtain ⟨cq, kq, qa, qb, qc⟩ := isOf hZ eT hE
  obtain ⟨v, vm1, ⟨T1, L1, k1, n1⟩, -, X1, ⟨Lc, hQ, l1, y1, z1⟩, st⟩ := X.virtualBack hx hown (mvT hZ w1) (mvT hZ w2) hnf (mvT hZ w5) (mvT hZ w6) hy (backOf (W := W) hM hZ w4 w3 hf hl) qa qc hg hsize (Steps.refl _) hlen hstack hW hdg (fun _ _ => ⟨has, eT, hc, hs⟩)
  dsimp only [Pt.U, Pt.locs, Pt.cells, Pt.slots] at X1 l1 y1 z1 st hQ
  subst l1 y1 z1
  exact ⟨T1, v, Lc, X1, hQ, fun t k => st.trans k⟩
/-- a virtual call whose method is declared further up, by the class 'owner' -/
theorem own_callVU (X : Stand p l e R s m args below meth c T locs cells slots) (hx : p.tables.exec = Jvm.exec) (hZ : Z.Warmed39 s.vm) {own C owner : String} {index : Nat} {y z : MethodName} {bytes : ByteArray} {maxL : Nat} {ret : Option FieldType} {rm : Room} {as' : Array Value} {Q' : Option Value → Heap → List Loc → Prop}
    (hown : s.vm.findClass own = some m.cls) (w1 : (Jvm.Cond.methodLink own index y).before a0 Z = true) (w2 : (Jvm.Cond.sameMethod y.cls owner y.name y.desc).before a0 Z = true) (w7 : (Jvm.Cond.declares ⟨owner, y.name, y.desc⟩).before a0 Z = true) (w5 : (Jvm.Cond.selects C y z).before a0 Z = true) (w6 : (Jvm.Cond.instanceMethod z).before a0 Z = true)
    (w3 : (Jvm.Cond.initialized z.cls).before a0 Z = true) (w4 : (Jvm.Cond.code z bytes maxL ret).before a0 Z = true)
    (hy : owner ≠ "java/lang/invoke/MethodHandle" ∧ owner ≠ "java/lang/invoke/VarHandle") (hM : own_Met l z bytes maxL ret rm [] as' Z h Q') (eT : T.heap = h) {g : JFrame} (hg : g.method = m) (hsize : g.locals.size = c.maxLocals) (b : Addr) (hE : Exa Z h b C) (argsL rest : List Value) (has : (.ref b :: argsL).toArray = as')
    (hlen : ∀ sig, parseMethodDescriptor y.desc = some sig → argsL.length = sig.parameters.length) (hstack : g.stack = argsL.reverse ++ .ref b :: rest) (W : Nat) (hW : 2 * g.monitorRoom + (rest.map fun v => v.category).sum ≤ W) (hdg : decode c.code g.pc = .ok (.invokevirtual index, 3))
    (hf : rm.frames + 1 ≤ R.frames) (hl : W + (maxL + 11) + rm.locals ≤ R.locals) (hc : cells + rm.cells ≤ R.cells) (hs : slots + rm.slots ≤ R.slots) :
    ∃ (T' : State) (v : Option Value) (L : List Loc), Stand p l e R s m args below meth c T' (locs ++ L) (cells + rm.cells) (slots + rm.slots) ∧ Q' v T'.heap L ∧ ∀ target, Steps p.tables e below (T'.setTop { g with pc := g.pc + 3, stack := v.toList ++ rest }) target → Steps p.tables e below (T.setTop g) target := by
  obtain ⟨cq, kq, qa, qb, qc⟩ := isOf hZ eT hE
  obtain ⟨v, vm1, ⟨T1, L1, k1, n1⟩, -, X1, ⟨Lc, hQ, l1, y1, z1⟩, st⟩ := X.virtualBackUp hx hown (mvT hZ w1) (mvT hZ w2) (mvT hZ w7) hy (mvT hZ w5) (mvT hZ w6) (backOf (W := W) hM hZ w4 w3 hf hl) qa qc hg hsize (Steps.refl _) hlen hstack hW hdg (fun _ _ => ⟨has, eT, hc, hs⟩)
  dsimp only [Pt.U, Pt.locs, Pt.cells, Pt.slots] at X1 l1 y1 z1 st hQ
  subst l1 y1 z1
  exact ⟨T1, v, Lc, X1, hQ, fun t k => st.trans k⟩
/-- a call through an interface -/
theorem own_callI (X : Stand p l e R s m args below meth c T locs cells slots) (hx : p.tables.exec = Jvm.exec) (hZ : Z.Warmed39 s.vm) {own C : String} {index count : Nat} {xi y : MethodName} {bytes : ByteArray} {maxL : Nat} {ret : Option FieldType} {rm : Room} {as' : Array Value} {Q' : Option Value → Heap → List Loc → Prop}
    (hown : s.vm.findClass own = some m.cls) (w1 : (Jvm.Cond.methodLink own index xi).before a0 Z = true) (w2 : (Jvm.Cond.declares xi).before a0 Z = true) (w8 : (Jvm.Cond.interfaceMethod xi.cls xi.cls xi.name xi.desc).before a0 Z = true) (w5 : (Jvm.Cond.selects C xi y).before a0 Z = true) (w6 : (Jvm.Cond.instanceMethod y).before a0 Z = true)
    (w9 : (Jvm.Cond.publicMethod y).before a0 Z = true) (w10 : (Jvm.Cond.unhidden C xi.name xi.desc).before a0 Z = true) (w11 : (Jvm.Cond.castable C xi.cls).before a0 Z = true) (w3 : (Jvm.Cond.initialized y.cls).before a0 Z = true) (w4 : (Jvm.Cond.code y bytes maxL ret).before a0 Z = true)
    (hy : xi.cls ≠ "java/lang/invoke/MethodHandle" ∧ xi.cls ≠ "java/lang/invoke/VarHandle") (hM : own_Met l y bytes maxL ret rm [] as' Z h Q') (eT : T.heap = h) {g : JFrame} (hg : g.method = m) (hsize : g.locals.size = c.maxLocals) (b : Addr) (hE : Exa Z h b C) (argsL rest : List Value) (has : (.ref b :: argsL).toArray = as')
    (hlen : ∀ sig, parseMethodDescriptor xi.desc = some sig → argsL.length = sig.parameters.length) (hstack : g.stack = argsL.reverse ++ .ref b :: rest) (W : Nat) (hW : 2 * g.monitorRoom + (rest.map fun v => v.category).sum ≤ W) (hdg : decode c.code g.pc = .ok (.invokeinterface index count, 5))
    (hf : rm.frames + 1 ≤ R.frames) (hl : W + (maxL + 11) + rm.locals ≤ R.locals) (hc : cells + rm.cells ≤ R.cells) (hs : slots + rm.slots ≤ R.slots) :
    ∃ (T' : State) (v : Option Value) (L : List Loc), Stand p l e R s m args below meth c T' (locs ++ L) (cells + rm.cells) (slots + rm.slots) ∧ Q' v T'.heap L ∧ ∀ target, Steps p.tables e below (T'.setTop { g with pc := g.pc + 5, stack := v.toList ++ rest }) target → Steps p.tables e below (T.setTop g) target := by
  obtain ⟨cq, kq, qa, qb, qc⟩ := isOf hZ eT hE
  obtain ⟨v, vm1, ⟨T1, L1, k1, n1⟩, -, X1, ⟨Lc, hQ, l1, y1, z1⟩, st⟩ := X.interfaceBack hx hown (mvT hZ w1) (mvT hZ w2) (mvT hZ w8 (by simp [Cond.onTables, Cond.keepsFace, Cond.keeps, Cond.steady, Cond.faceAtom]; exact hy)) (mvT hZ w5) (mvT hZ w6) (mvT hZ w9) (mvT hZ w10) (mvT hZ w11) hy (backOf (W := W) hM hZ w4 w3 hf hl) qa qb qc hg hsize (Steps.refl _) hlen hstack hW hdg (fun _ _ => ⟨has, eT, hc, hs⟩)
  dsimp only [Pt.U, Pt.locs, Pt.cells, Pt.slots] at X1 l1 y1 z1 st hQ
  subst l1 y1 z1
  exact ⟨T1, v, Lc, X1, hQ, fun t k => st.trans k⟩
/-- calls by a 'Back' -/
theorem own_callNB (X : Stand p l e R s m args below meth c T locs cells slots) (hx : p.tables.exec = Jvm.exec) (hZ : Z.Warmed39 s.vm) {own : String} {index : Nat} {y : MethodName} {bytes : ByteArray} {maxL : Nat} {as' : Array Value} {Q' : Option Value → Heap → List Loc → Prop} {W rc rs : Nat}
    (hy1 : y.name = "<init>") (hown : s.vm.findClass own = some m.cls) (w1 : (Jvm.Cond.methodLink own index y).before a0 Z = true) (w2 : (Jvm.Cond.instanceMethod y).before a0 Z = true) (w4 : (Jvm.Cond.code y bytes maxL none).before a0 Z = true)
    (hy : y.cls ≠ "java/lang/invoke/MethodHandle" ∧ y.cls ≠ "java/lang/invoke/VarHandle")
    (hK : Back l R p e below s args y 3 W (fun A a => a = as' ∧ A.U.heap = h ∧ A.cells + rc ≤ R.cells ∧ A.slots + rs ≤ R.slots) (fun A _ v B => ∃ L, Q' v B.U.heap L ∧ B.locs = A.locs ++ L ∧ B.cells = A.cells + rc ∧ B.slots = A.slots + rs))
    (eT : T.heap = h) {g : JFrame} (hg : g.method = m) (hsize : g.locals.size = c.maxLocals) (b : Addr) (argsL rest : List Value) (has : (.ref b :: argsL).toArray = as')
    (hlen : ∀ sig, parseMethodDescriptor y.desc = some sig → argsL.length = sig.parameters.length) (hstack : g.stack = argsL.reverse ++ .ref b :: rest) (hW : 2 * g.monitorRoom + (rest.map fun v => v.category).sum ≤ W) (hdg : decode c.code g.pc = .ok (.invokespecial index, 3))
    (hc : cells + rc ≤ R.cells) (hs : slots + rs ≤ R.slots) :
    ∃ (T' : State) (v : Option Value) (L : List Loc), Stand p l e R s m args below meth c T' (locs ++ L) (cells + rc) (slots + rs) ∧ Q' v T'.heap L ∧ ∀ target, Steps p.tables e below (T'.setTop { g with pc := g.pc + 3, stack := v.toList ++ rest }) target → Steps p.tables e below (T.setTop g) target := by
  obtain ⟨v, vm1, ⟨T1, L1, k1, n1⟩, -, X1, ⟨Lc, hQ, l1, y1, z1⟩, st⟩ := X.specialBack hx hy1 hown (mvT hZ w1) (mvT hZ w2) (mvT hZ w4) hy hK hg hsize (Steps.refl _) (a := b) hlen hstack hW hdg (fun _ _ => ⟨has, eT, hc, hs⟩)
  dsimp only [Pt.U, Pt.locs, Pt.cells, Pt.slots] at X1 l1 y1 z1 st hQ
  subst l1 y1 z1
  exact ⟨T1, v, Lc, X1, hQ, fun t k => st.trans k⟩
theorem own_callVB (X : Stand p l e R s m args below meth c T locs cells slots) (hx : p.tables.exec = Jvm.exec) (hZ : Z.Warmed39 s.vm) {own C : String} {index : Nat} {y z : MethodName} {as' : Array Value} {Q' : Option Value → Heap → List Loc → Prop} {W rc rs : Nat}
    (hown : s.vm.findClass own = some m.cls) (w1 : (Jvm.Cond.methodLink own index y).before a0 Z = true) (w2 : (Jvm.Cond.declares y).before a0 Z = true) (hnf : NotFace s y) (w5 : (Jvm.Cond.selects C y z).before a0 Z = true) (w6 : (Jvm.Cond.instanceMethod z).before a0 Z = true)
    (hy : y.cls ≠ "java/lang/invoke/MethodHandle" ∧ y.cls ≠ "java/lang/invoke/VarHandle")
    (hK : Back l R p e below s args z 3 W (fun A a => a = as' ∧ A.U.heap = h ∧ A.cells + rc ≤ R.cells ∧ A.slots + rs ≤ R.slots) (fun A _ v B => ∃ L, Q' v B.U.heap L ∧ B.locs = A.locs ++ L ∧ B.cells = A.cells + rc ∧ B.slots = A.slots + rs))
    (eT : T.heap = h) {g : JFrame} (hg : g.method = m) (hsize : g.locals.size = c.maxLocals) (b : Addr) (hE : Exa Z h b C) (argsL rest : List Value) (has : (.ref b :: argsL).toArray = as')
    (hlen : ∀ sig, parseMethodDescriptor y.desc = some sig → argsL.length = sig.parameters.length) (hstack : g.stack = argsL.reverse ++ .ref b :: rest) (hW : 2 * g.monitorRoom + (rest.map fun v => v.category).sum ≤ W) (hdg : decode c.code g.pc = .ok (.invokevirtual index, 3))
    (hc : cells + rc ≤ R.cells) (hs : slots + rs ≤ R.slots) :
    ∃ (T' : State) (v : Option Value) (L : List Loc), Stand p l e R s m args below meth c T' (locs ++ L) (cells + rc) (slots + rs) ∧ Q' v T'.heap L ∧ ∀ target, Steps p.tables e below (T'.setTop { g with pc := g.pc + 3, stack := v.toList ++ rest }) target → Steps p.tables e below (T.setTop g) target := by
  obtain ⟨cq, kq, qa, qb, qc⟩ := isOf hZ eT hE
  obtain ⟨v, vm1, ⟨T1, L1, k1, n1⟩, -, X1, ⟨Lc, hQ, l1, y1, z1⟩, st⟩ := X.virtualBack hx hown (mvT hZ w1) (mvT hZ w2) hnf (mvT hZ w5) (mvT hZ w6) hy hK qa qc hg hsize (Steps.refl _) hlen hstack hW hdg (fun _ _ => ⟨has, eT, hc, hs⟩)
  dsimp only [Pt.U, Pt.locs, Pt.cells, Pt.slots] at X1 l1 y1 z1 st hQ
  subst l1 y1 z1
  exact ⟨T1, v, Lc, X1, hQ, fun t k => st.trans k⟩
theorem own_fldI {t : Jvm.Term} {a : Addr} {C n d : String} {k : Int32} (ev : t.eval args s none [] s = some (.ref a)) (hq : (Jvm.Cond.eq (Jvm.Term.field t C n d) (Jvm.Term.int k)).value args s none s [] = some true) : Fld s s.heap a C n d (.int k) := by
  obtain ⟨x, y, e1, e2, k1, -⟩ := cmp_v (Or.inl hq)
  have e2' : y = .int k := by have := e2; simp only [Jvm.Term.eval] at this; exact (Option.some.inj this).symm
  subst e2'
  have hx : x = .int k := by
    simp only [Jvm.Cond.value, e1, e2] at hq
    cases x <;> simp_all [Kin, Value.isRef]
  subst hx
  exact Fld.start ((fld_at ev).symm.trans e1)
theorem own_irem {g : JFrame} {target : State} (X : Stand p l e R s m args below meth c T locs cells slots) (hx : p.tables.exec = Jvm.exec) (hg : g.method = m) {x y : Int32} {rest : List Value} (hd : decode c.code g.pc = .ok (.irem, 1)) (hs : g.stack = .int y :: .int x :: rest) (hy : y ≠ 0)
    (hr : Steps p.tables e below (T.setTop { g with pc := g.pc + 1, stack := .int (x % y) :: rest }) target) : Steps p.tables e below (T.setTop g) target := iremM X hx hg hd hs hy hr
theorem own_fitR {t : FieldType} {v : Value} (hv : v.isRef = true) (ht : t.isReference = true) : fits t v = true := by cases t <;> first | (cases ht; done) | (cases v <;> first | rfl | (cases hv; done))
theorem own_staK {C n d : String} {v : Value} {h' : Heap} {ws : List Addr} (F : Sta Z h C n d v) (K : Keep h h' ws) (q : ∀ x ∈ ws, ∀ cell : Cell, h[x]? = some cell → cell.vm.isStatics = false) : Sta Z h' C n d v := by
  obtain ⟨cf, i, k, f, st, cell, h1, h2, h3, h4, h5, h6, h7⟩ := F
  exact ⟨cf, i, k, f, st, cell, h1, h2, h3, h4, K.2.1 _ _ h5 (fun hm => by rw [q st hm cell h5] at h6; cases h6), h6, h7⟩
theorem own_narC {c : Int32} (h0 : 0 ≤ c.toInt) (h1 : c.toInt ≤ 65535) : nar .char c = c := by
  rw [← Int32.toInt_inj]
  have a := c_i2c c
  show (c.toUInt32.toUInt16.toUInt32.toInt32).toInt = c.toInt
  omega
theorem own_narB (c : Int32) : nar .byte c.toInt8.toInt32 = c.toInt8.toInt32 := by
  show (c.toInt8.toInt32).toInt8.toInt32 = c.toInt8.toInt32
  simp
end OwnKit
/-! Doubles: the quotient of two whole numbers, rounded, against numbers of the format and against another such quotient -/
theorem own_pow2 {C A Q D a1 a2 b1 b2 e1 e2 : Nat} (h1 : C * 2 ^ a1 = A * 2 ^ a2) (h2 : D * 2 ^ b1 = Q * 2 ^ b2) (he : e1 + a2 + b1 = e2 + a1 + b2) : C * Q * 2 ^ e1 = A * D * 2 ^ e2 := by
  have h3 : C * Q * 2 ^ e1 * 2 ^ (a1 + b2) = A * D * 2 ^ e2 * 2 ^ (a1 + b2) := by
    calc C * Q * 2 ^ e1 * 2 ^ (a1 + b2) = (C * 2 ^ a1) * (Q * 2 ^ b2) * 2 ^ e1 := by rw [Nat.pow_add]; ac_rfl
      _ = (A * 2 ^ a2) * (D * 2 ^ b1) * 2 ^ e1 := by rw [h1, ← h2]
      _ = A * D * 2 ^ (e1 + a2 + b1) := by rw [Nat.pow_add, Nat.pow_add]; ac_rfl
      _ = A * D * 2 ^ (e2 + a1 + b2) := by rw [he]
      _ = A * D * 2 ^ e2 * 2 ^ (a1 + b2) := by simp only [Nat.pow_add]; ac_rfl
  exact Nat.eq_of_mul_eq_mul_right (Nat.two_pow_pos _) h3
/-- a quotient of whole numbers -/
theorem own_fdiv {A Q : Int} {x y : UInt64} (hx : Jvm.FP.Core.DInt A x) (hy : Jvm.FP.Core.DInt Q y) (hQ : 0 < Q) :
    ∃ b, Jvm.FP.Core.val64 (Jvm.FP.Core.ddiv x y) = Jvm.FP.Core.roundRatio Jvm.FP.Core.b64 b A.natAbs Q.natAbs 0 ∧ (A ≠ 0 → b = decide (A < 0)) := by
  unfold Jvm.FP.Core.DInt at hx hy
  rw [Jvm.FP.Core.val64_ddiv]
  cases h1 : Jvm.FP.Core.val64 x with
  | nan => rw [h1] at hx; exact hx.elim
  | inf => rw [h1] at hx; exact hx.elim
  | fin s0 c0 q0 =>
    cases h2 : Jvm.FP.Core.val64 y with
    | nan => rw [h2] at hy; exact hy.elim
    | inf => rw [h2] at hy; exact hy.elim
    | fin t0 d0 r0 =>
      rw [h1] at hx; rw [h2] at hy
      have hd : ¬ d0 = 0 := fun z => by have := (Jvm.FP.Core.whole_zero hy).mp z; omega
      have ht : t0 = false := by rw [Jvm.FP.Core.whole_sign hy (by omega)]; exact decide_eq_false (by omega)
      refine ⟨s0, ?_, fun hA => Jvm.FP.Core.whole_sign hx hA⟩
      show (if d0 = 0 then (if c0 = 0 then Jvm.FP.Core.Datum.nan else .inf (s0 != t0)) else Jvm.FP.Core.roundRatio Jvm.FP.Core.b64 (s0 != t0) c0 d0 (q0 - r0)) = _
      rw [if_neg hd, ht, show (s0 != false) = s0 by cases s0 <;> rfl]
      refine Jvm.FP.Core.roundRatio_congr (by omega) (by omega) ?_
      exact own_pow2 (Jvm.FP.Core.whole_natAbs hx) (Jvm.FP.Core.whole_natAbs hy) (by omega)
theorem own_units {A B C k : Nat} (hk : k ≤ 1074) (h : A * 2 ^ k ≤ C * B) : A * 2 ^ 1074 ≤ C * 2 ^ (1074 - k) * 2 ^ 0 * B := by
  calc A * 2 ^ 1074 = (A * 2 ^ k) * 2 ^ (1074 - k) := by rw [Nat.mul_assoc, ← Nat.pow_add]; congr 2; omega
    _ ≤ (C * B) * 2 ^ (1074 - k) := Nat.mul_le_mul_right _ h
    _ = C * 2 ^ (1074 - k) * 2 ^ 0 * B := by rw [Nat.pow_zero]; ac_rfl
theorem own_units' {A B C k : Nat} (hk : k ≤ 1074) (h : C * B ≤ A * 2 ^ k) : C * 2 ^ (1074 - k) * 2 ^ 0 * B ≤ A * 2 ^ 1074 := by
  calc C * 2 ^ (1074 - k) * 2 ^ 0 * B = (C * B) * 2 ^ (1074 - k) := by rw [Nat.pow_zero]; ac_rfl
    _ ≤ (A * 2 ^ k) * 2 ^ (1074 - k) := Nat.mul_le_mul_right _ h
    _ = A * 2 ^ 1074 := by rw [Nat.mul_assoc, ← Nat.pow_add]; congr 2; omega
theorem own_zmag {b : Bool} {C k : Nat} : Jvm.FP.Core.zmag Jvm.FP.Core.b64 (.fin b C (-(k : Int))) = C * 2 ^ (1074 - k) := by
  show C * 2 ^ (-(k : Int) - Jvm.FP.Core.b64.qmin).toNat = _
  rw [Jvm.FP.Core.qmin_b64, show (-(k : Int) - (-1074)).toNat = 1074 - k by omega]
theorem own_up {b : Bool} {A B C k : Nat} (hB : 0 < B) (hk : k ≤ 1074) (hV : Jvm.FP.Core.fits Jvm.FP.Core.b64 (.fin false C (-(k : Int)))) (h : A * 2 ^ k ≤ C * B) :
    Jvm.FP.Core.zmag Jvm.FP.Core.b64 (Jvm.FP.Core.roundRatio Jvm.FP.Core.b64 b A B 0) ≤ Jvm.FP.Core.zmag Jvm.FP.Core.b64 (.fin false C (-(k : Int))) := by
  refine Jvm.FP.Core.zmag_roundRatio_le Jvm.FP.Core.good_b64 (e0 := -1074) hB hV (by intro z; cases z) (by rw [Jvm.FP.Core.qmin_b64]; omega) (by omega) ?_
  rw [own_zmag, Jvm.FP.Core.qmin_b64, show ((-1074 : Int) - -1074).toNat = 0 from rfl]
  exact own_units hk h
theorem own_dn {b : Bool} {A B C k : Nat} (hB : 0 < B) (hk : k ≤ 1074) (hV : Jvm.FP.Core.fits Jvm.FP.Core.b64 (.fin false C (-(k : Int)))) (h : C * B ≤ A * 2 ^ k) :
    Jvm.FP.Core.zmag Jvm.FP.Core.b64 (.fin false C (-(k : Int))) ≤ Jvm.FP.Core.zmag Jvm.FP.Core.b64 (Jvm.FP.Core.roundRatio Jvm.FP.Core.b64 b A B 0) := by
  refine Jvm.FP.Core.zmag_roundRatio_ge Jvm.FP.Core.good_b64 (e0 := -1074) hB hV (by rw [Jvm.FP.Core.qmin_b64]; omega) (by omega) ?_
  rw [own_zmag, Jvm.FP.Core.qmin_b64, show ((-1074 : Int) - -1074).toNat = 0 from rfl]
  exact own_units' hk h
theorem own_zlt {C D k : Nat} (_hk : k ≤ 1074) (h : C < D) : Jvm.FP.Core.zmag Jvm.FP.Core.b64 (.fin false C (-(k : Int))) < Jvm.FP.Core.zmag Jvm.FP.Core.b64 (.fin false D (-(k : Int))) := by
  rw [own_zmag, own_zmag]
  exact Nat.mul_lt_mul_of_pos_right h (Nat.two_pow_pos _)
theorem own_zero0 {b : Bool} {B : Nat} : Jvm.FP.Core.zmag Jvm.FP.Core.b64 (Jvm.FP.Core.roundRatio Jvm.FP.Core.b64 b 0 B 0) = 0 := by
  unfold Jvm.FP.Core.roundRatio
  rw [if_pos rfl]
  show 0 * _ = 0
  exact Nat.zero_mul _
theorem own_vL : Jvm.FP.Core.val64 4592670820000712476 = .fin false 8006399337547548 (-((56 : Nat) : Int)) := by decide +kernel
theorem own_vN : Jvm.FP.Core.val64 4621256167635550208 = .fin false 5066549580791808 (-((49 : Nat) : Int)) := by decide +kernel
theorem own_fitL : Jvm.FP.Core.fits Jvm.FP.Core.b64 (.fin false 8006399337547548 (-((56 : Nat) : Int))) := own_vL ▸ Jvm.FP.Core.val64_fits _
theorem own_fitN : Jvm.FP.Core.fits Jvm.FP.Core.b64 (.fin false 5066549580791808 (-((49 : Nat) : Int))) := own_vN ▸ Jvm.FP.Core.val64_fits _
theorem own_fitL' : Jvm.FP.Core.fits Jvm.FP.Core.b64 (.fin false 8004444650209280 (-((56 : Nat) : Int))) := by unfold Jvm.FP.Core.fits; decide +kernel
theorem own_fitN' : Jvm.FP.Core.fits Jvm.FP.Core.b64 (.fin false 5067099336605696 (-((49 : Nat) : Int))) := by unfold Jvm.FP.Core.fits; decide +kernel
/-- the rounded quotient of whole numbers lies on the scale just where the exact one does -/
theorem own_scale {A Q : Int} {x y : UInt64} (hx : Jvm.FP.Core.DInt A x) (hy : Jvm.FP.Core.DInt Q y) (hQ : 0 < Q) (hQ2 : Q ≤ 1024) :
    (Jvm.FP.Core.dcmp (Jvm.FP.Core.ddiv x y) 4592670820000712476 = some .lt ↔ 9 * A < Q) ∧ (Jvm.FP.Core.dcmp (Jvm.FP.Core.ddiv x y) 4621256167635550208 = some .gt ↔ 9 * Q < A) ∧ Jvm.FP.Core.val64 (Jvm.FP.Core.ddiv x y) ≠ .nan := by
  obtain ⟨b, hv, hb⟩ := own_fdiv hx hy hQ
  have hn : Jvm.FP.Core.val64 (Jvm.FP.Core.ddiv x y) ≠ .nan := hv ▸ Jvm.FP.Core.roundRatio_ne_nan _ _ _ _ _
  have hB : 0 < Q.natAbs := by omega
  have nL : Jvm.FP.Core.val64 4592670820000712476 ≠ .nan := by rw [own_vL]; intro z; cases z
  have nN : Jvm.FP.Core.val64 4621256167635550208 ≠ .nan := by rw [own_vN]; intro z; cases z
  have pL : 0 < Jvm.FP.Core.zmag Jvm.FP.Core.b64 (.fin false 8006399337547548 (-((56 : Nat) : Int))) := by rw [own_zmag]; exact Nat.mul_pos (by decide) (Nat.two_pow_pos _)
  have pN : 0 < Jvm.FP.Core.zmag Jvm.FP.Core.b64 (.fin false 5066549580791808 (-((49 : Nat) : Int))) := by rw [own_zmag]; exact Nat.mul_pos (by decide) (Nat.two_pow_pos _)
  have zL : Jvm.FP.Core.zval Jvm.FP.Core.b64 (Jvm.FP.Core.val64 4592670820000712476) = (Jvm.FP.Core.zmag Jvm.FP.Core.b64 (.fin false 8006399337547548 (-((56 : Nat) : Int))) : Int) := by rw [own_vL]; rfl
  have zN : Jvm.FP.Core.zval Jvm.FP.Core.b64 (Jvm.FP.Core.val64 4621256167635550208) = (Jvm.FP.Core.zmag Jvm.FP.Core.b64 (.fin false 5066549580791808 (-((49 : Nat) : Int))) : Int) := by rw [own_vN]; rfl
  have zJ : Jvm.FP.Core.zval Jvm.FP.Core.b64 (Jvm.FP.Core.val64 (Jvm.FP.Core.ddiv x y)) = Jvm.FP.Core.signed b (Jvm.FP.Core.zmag Jvm.FP.Core.b64 (Jvm.FP.Core.roundRatio Jvm.FP.Core.b64 b A.natAbs Q.natAbs 0)) := by
    rw [hv]; unfold Jvm.FP.Core.zval; rw [Jvm.FP.Core.sgn_roundRatio]
  refine ⟨?_, ?_, hn⟩
  · rw [Jvm.FP.Core.dcmp_lt, zJ, zL]
    simp only [hn, nL, ne_eq, not_false_eq_true, true_and]
    by_cases hA : A < 0
    · rw [hb (by omega), decide_eq_true hA]
      unfold Jvm.FP.Core.signed
      simp only [if_true]
      omega
    · by_cases h0 : A = 0
      · subst h0
        have : Jvm.FP.Core.zmag Jvm.FP.Core.b64 (Jvm.FP.Core.roundRatio Jvm.FP.Core.b64 b (0 : Int).natAbs Q.natAbs 0) = 0 := by
          exact own_zero0
        rw [this, Jvm.FP.Core.signed_zero]
        omega
      · rw [hb h0, decide_eq_false hA]
        unfold Jvm.FP.Core.signed
        simp only [Bool.false_eq_true, if_false]
        constructor
        · intro h
          refine Int.lt_of_not_ge fun q => ?_
          have := own_dn (b := false) (A := A.natAbs) (k := 56) hB (by decide) own_fitL (by omega)
          omega
        · intro h
          have h1 := own_up (b := false) (A := A.natAbs) (k := 56) hB (by decide) own_fitL' (by omega)
          have h2 := own_zlt (C := 8004444650209280) (D := 8006399337547548) (k := 56) (by decide) (by decide)
          omega
  · rw [Jvm.FP.Core.dcmp_gt, zJ, zN]
    simp only [hn, nN, ne_eq, not_false_eq_true, true_and]
    by_cases hA : A < 0
    · rw [hb (by omega), decide_eq_true hA]
      unfold Jvm.FP.Core.signed
      simp only [if_true]
      omega
    · by_cases h0 : A = 0
      · subst h0
        have : Jvm.FP.Core.zmag Jvm.FP.Core.b64 (Jvm.FP.Core.roundRatio Jvm.FP.Core.b64 b (0 : Int).natAbs Q.natAbs 0) = 0 := by
          exact own_zero0
        rw [this, Jvm.FP.Core.signed_zero]
        omega
      · rw [hb h0, decide_eq_false hA]
        unfold Jvm.FP.Core.signed
        simp only [Bool.false_eq_true, if_false]
        constructor
        · intro h
          refine Int.lt_of_not_ge fun q => ?_
          have := own_up (b := false) (A := A.natAbs) (k := 49) hB (by decide) own_fitN (by omega)
          omega
        · intro h
          have h1 := own_dn (b := false) (A := A.natAbs) (k := 49) hB (by decide) own_fitN' (by omega)
          have h2 := own_zlt (C := 5066549580791808) (D := 5067099336605696) (k := 49) (by decide) (by decide)
          omega
def own_os (z : UInt64) : Int32 := if cmpValue (FP.dcmp z (4592670820000712476 : UInt64)) .l < (0 : Int32) then 0 else if (0 : Int32) < cmpValue (FP.dcmp z (4621256167635550208 : UInt64)) .g then 0 else 1
theorem own_oL {x y : UInt64} (hx : Jvm.FP.Core.val64 x ≠ .nan) (hy : Jvm.FP.Core.val64 y ≠ .nan) : cmpValue (FP.dcmp x y) .l < (0 : Int32) ↔ Jvm.FP.Core.dcmp x y = some .lt := by
  show cmpValue (Jvm.FP.Core.dcmp x y) .l < (0 : Int32) ↔ _
  have hn : Jvm.FP.Core.dcmp x y ≠ none := fun q => by rcases (Jvm.FP.Core.dcmp_none x y).mp q with w | w; exact hx w; exact hy w
  generalize Jvm.FP.Core.dcmp x y = r at *
  rcases r with _ | (_ | _ | _)
  · exact absurd rfl hn
  · exact ⟨fun _ => rfl, fun _ => by decide⟩
  · exact ⟨fun q => absurd q (by decide), fun q => nomatch q⟩
  · exact ⟨fun q => absurd q (by decide), fun q => nomatch q⟩
theorem own_oG {x y : UInt64} (hx : Jvm.FP.Core.val64 x ≠ .nan) (hy : Jvm.FP.Core.val64 y ≠ .nan) : (0 : Int32) < cmpValue (FP.dcmp x y) .g ↔ Jvm.FP.Core.dcmp x y = some .gt := by
  show (0 : Int32) < cmpValue (Jvm.FP.Core.dcmp x y) .g ↔ _
  have hn : Jvm.FP.Core.dcmp x y ≠ none := fun q => by rcases (Jvm.FP.Core.dcmp_none x y).mp q with w | w; exact hx w; exact hy w
  generalize Jvm.FP.Core.dcmp x y = r at *
  rcases r with _ | (_ | _ | _)
  · exact absurd rfl hn
  · exact ⟨fun q => absurd q (by decide), fun q => nomatch q⟩
  · exact ⟨fun q => absurd q (by decide), fun q => nomatch q⟩
  · exact ⟨fun _ => rfl, fun _ => by decide⟩
theorem own_rg (p0 p1 : Int32) : (-2147483648 ≤ (p0.toInt64).toInt ∧ (p0.toInt64).toInt < 2147483648) ∧ (1 ≤ (((p1 &&& (1023 : Int32)) + (1 : Int32)).toInt64).toInt ∧ (((p1 &&& (1023 : Int32)) + (1 : Int32)).toInt64).toInt ≤ 1024) := by
  have r := rng32 p0
  have a1 := c_and p1 1023 (by decide)
  have a2 := c_iadd (p1 &&& 1023) 1
  have a3 := rng32 ((p1 &&& 1023) + 1)
  have a4 : (1023 : Int32).toInt = 1023 := rfl
  have a5 : (1 : Int32).toInt = 1 := rfl
  rw [c_i2l, c_i2l]
  omega
theorem own_9 (a q : Int64) (ha : -2147483648 ≤ a.toInt ∧ a.toInt < 2147483648) : ((9 : Int64) * a < q ↔ 9 * a.toInt < q.toInt) := by
  have h := c_lmul 9 a
  have r := rng64 ((9 : Int64) * a)
  rw [show (9 : Int64).toInt = 9 by decide] at h
  rw [Int64.lt_iff_toInt_lt]
  omega
theorem own_J (p0 p1 : Int32) : Jvm.Free.Fl.NoNaN64 (FP.ddiv (FP.l2d p0.toInt64) (FP.l2d (((p1 &&& (1023 : Int32)) + (1 : Int32)).toInt64))) ∧ (cmpValue (FP.dcmp (FP.ddiv (FP.l2d p0.toInt64) (FP.l2d (((p1 &&& (1023 : Int32)) + (1 : Int32)).toInt64))) (4592670820000712476 : UInt64)) .l < (0 : Int32) ↔ (9 : Int64) * (p0.toInt64) < (((p1 &&& (1023 : Int32)) + (1 : Int32)).toInt64)) ∧ ((0 : Int32) < cmpValue (FP.dcmp (FP.ddiv (FP.l2d p0.toInt64) (FP.l2d (((p1 &&& (1023 : Int32)) + (1 : Int32)).toInt64))) (4621256167635550208 : UInt64)) .g ↔ (9 : Int64) * (((p1 &&& (1023 : Int32)) + (1 : Int32)).toInt64) < (p0.toInt64)) := by
  obtain ⟨⟨a1, a2⟩, b1, b2⟩ := own_rg p0 p1
  have e53 : (2 : Nat) ^ 53 = 9007199254740992 := by decide
  rw [own_9 _ _ ⟨a1, a2⟩, own_9 _ _ ⟨by omega, by omega⟩]
  generalize (p0.toInt64) = a at *
  generalize (((p1 &&& (1023 : Int32)) + (1 : Int32)).toInt64) = q at *
  obtain ⟨s1, s2, s3⟩ := own_scale (Jvm.FP.Core.l2d_int (a := a) (by omega)) (Jvm.FP.Core.l2d_int (a := q) (by omega)) (by omega) (by omega)
  exact ⟨Jvm.Free.Fl.val64_no.mpr s3, (own_oL s3 (by rw [own_vL]; intro z; cases z)).trans s1, (own_oG s3 (by rw [own_vN]; intro z; cases z)).trans s2⟩
theorem own_osL {p0 p1 : Int32} (h : (9 : Int64) * (p0.toInt64) < (((p1 &&& (1023 : Int32)) + (1 : Int32)).toInt64)) : own_os (FP.ddiv (FP.l2d p0.toInt64) (FP.l2d (((p1 &&& (1023 : Int32)) + (1 : Int32)).toInt64))) = 0 := by unfold own_os; rw [if_pos ((own_J p0 p1).2.1.mpr h)]
theorem own_osG {p0 p1 : Int32} (h : ¬ (9 : Int64) * (p0.toInt64) < (((p1 &&& (1023 : Int32)) + (1 : Int32)).toInt64)) (h' : (9 : Int64) * (((p1 &&& (1023 : Int32)) + (1 : Int32)).toInt64) < (p0.toInt64)) : own_os (FP.ddiv (FP.l2d p0.toInt64) (FP.l2d (((p1 &&& (1023 : Int32)) + (1 : Int32)).toInt64))) = 0 := by unfold own_os; rw [if_neg (fun z => h ((own_J p0 p1).2.1.mp z)), if_pos ((own_J p0 p1).2.2.mpr h')]
theorem own_osN {p0 p1 : Int32} (h : ¬ (9 : Int64) * (p0.toInt64) < (((p1 &&& (1023 : Int32)) + (1 : Int32)).toInt64)) (h' : ¬ (9 : Int64) * (((p1 &&& (1023 : Int32)) + (1 : Int32)).toInt64) < (p0.toInt64)) : own_os (FP.ddiv (FP.l2d p0.toInt64) (FP.l2d (((p1 &&& (1023 : Int32)) + (1 : Int32)).toInt64))) = 1 := by unfold own_os; rw [if_neg (fun z => h ((own_J p0 p1).2.1.mp z)), if_neg (fun z => h' ((own_J p0 p1).2.2.mp z))]
theorem d1_0 : decode prog_34_method_8_code 0 = .ok (.dload_n 0, 1) := by decide +kernel
theorem d1_1 : decode prog_34_method_8_code 1 = .ok (.ldc2_w 80, 3) := by decide +kernel
theorem d1_4 : decode prog_34_method_8_code 4 = .ok (.dcmp .l, 1) := by decide +kernel
theorem d1_5 : decode prog_34_method_8_code 5 = .ok (.ifCond .lt 15, 3) := by decide +kernel
theorem d1_20 : decode prog_34_method_8_code 20 = .ok (.iconst 0, 1) := by decide +kernel
theorem d1_21 : decode prog_34_method_8_code 21 = .ok (.ireturn, 1) := by decide +kernel
theorem d1_8 : decode prog_34_method_8_code 8 = .ok (.dload_n 0, 1) := by decide +kernel
theorem d1_9 : decode prog_34_method_8_code 9 = .ok (.ldc2_w 82, 3) := by decide +kernel
theorem d1_12 : decode prog_34_method_8_code 12 = .ok (.dcmp .g, 1) := by decide +kernel
theorem d1_13 : decode prog_34_method_8_code 13 = .ok (.ifCond .gt 7, 3) := by decide +kernel
theorem d1_16 : decode prog_34_method_8_code 16 = .ok (.iconst 1, 1) := by decide +kernel
theorem d1_17 : decode prog_34_method_8_code 17 = .ok (.goto 4, 3) := by decide +kernel
theorem pn1 : plainFor (⟨"com/example/wearcourse/wearcourse/data/PairwiseComparison", "isOnScale", "(D)Z"⟩ : MethodName) = true := plainFor_of_name (by first | (simp [plainName, overriddenIn]; done) | decide +kernel)
set_option maxRecDepth 65536 in
set_option maxHeartbeats 40000000 in
theorem rm1 (l : Launch) (Z : State) (a0 : Array Value) (hw : ∀ d ∈ tables_1, d.before a0 Z = true) (ws : List Jvm.Cond) (z0 : UInt64)  (h0 : Heap) (n0 : Nat) (Z0 : n0 ≤ h0.size)  :
    own_Met l (⟨"com/example/wearcourse/wearcourse/data/PairwiseComparison", "isOnScale", "(D)Z"⟩ : MethodName) prog_34_method_8_code 2 (some .boolean) ({ frames := 0, cells := 0, slots := 0, locals := 0 } : Room) ws #[(.double z0)] Z h0 (fun v h L => v = some (.int (own_os z0)) ∧ Fr n0 L ∧ h = h0) := by
  refine own_met pn1 ?_
  intro p e s m below meth c s₁ hx X0 hZ e0 hby hml hown hnm hret hlk
  have N0 := Fr.nil n0
  refine own_at (f' := mkF m 0 #[.val (.double z0), .second] []) (by first | (simp [entryFrame, mkF, argsToLocals, Value.category]; done) | rfl) ?_
  show own_Ends _ _ _ _ _ _ _ s₁ (mkF m 0 #[.val (.double z0), .second] [])
  refine own_go (fun t_ k_ => XS.dloadN X0.here hx rfl (hb hby d1_0) rfl k_) ?_
  show own_Ends _ _ _ _ _ _ _ s₁ (mkF m 1 #[.val (.double z0), .second] [(.double z0)])
  refine own_go (X0.ldc2DoubleC hx hown (mvT hZ (hw _ (List.mem_of_getElem? (i := 5) rfl))) (g := (mkF m 1 #[.val (.double z0), .second] [(.double z0)])) rfl (hb hby d1_1)) ?_
  show own_Ends _ _ _ _ _ _ _ s₁ (mkF m 4 #[.val (.double z0), .second] [(.double (4592670820000712476 : UInt64)), (.double z0)])
  refine own_go (fun t_ k_ => XS.dcmpS X0.here hx rfl (hb hby d1_4) rfl rfl k_) ?_
  show own_Ends _ _ _ _ _ _ _ s₁ (mkF m 5 #[.val (.double z0), .second] [(.int (cmpValue (FP.dcmp z0 (4592670820000712476 : UInt64)) .l))])
  by_cases hc1 : (cmpValue (FP.dcmp z0 (4592670820000712476 : UInt64)) .l) < (0 : Int32)
  · refine own_go (fun t_ k_ => XS.ifYes X0.here hx rfl (pc0 := 5) (pc' := 20) rfl (hb hby d1_5) rfl ((if0 _ _).trans (tlt hc1).1) (by decide) (by decide) k_) ?_
    show own_Ends _ _ _ _ _ _ _ s₁ (mkF m 20 #[.val (.double z0), .second] [])
    refine own_go (fun t_ k_ => XS.iconst X0.here hx rfl (hb hby d1_20) k_) ?_
    show own_Ends _ _ _ _ _ _ _ s₁ (mkF m 21 #[.val (.double z0), .second] [(.int (0 : Int32))])
    refine own_retN X0 hx hlk (t := .boolean) hret (by simp) (hb hby d1_21) e0 (by decide) (by decide) ?_
    exact ⟨by simp [own_os, nar, hc1], N0, rfl⟩
  · refine own_go (fun t_ k_ => XS.ifNo X0.here hx rfl (hb hby d1_5) rfl ((if0 _ _).trans (flt hc1).1) k_) ?_
    show own_Ends _ _ _ _ _ _ _ s₁ (mkF m 8 #[.val (.double z0), .second] [])
    refine own_go (fun t_ k_ => XS.dloadN X0.here hx rfl (hb hby d1_8) rfl k_) ?_
    show own_Ends _ _ _ _ _ _ _ s₁ (mkF m 9 #[.val (.double z0), .second] [(.double z0)])
    refine own_go (X0.ldc2DoubleC hx hown (mvT hZ (hw _ (List.mem_of_getElem? (i := 6) rfl))) (g := (mkF m 9 #[.val (.double z0), .second] [(.double z0)])) rfl (hb hby d1_9)) ?_
    show own_Ends _ _ _ _ _ _ _ s₁ (mkF m 12 #[.val (.double z0), .second] [(.double (4621256167635550208 : UInt64)), (.double z0)])
    refine own_go (fun t_ k_ => XS.dcmpS X0.here hx rfl (hb hby d1_12) rfl rfl k_) ?_
    show own_Ends _ _ _ _ _ _ _ s₁ (mkF m 13 #[.val (.double z0), .second] [(.int (cmpValue (FP.dcmp z0 (4621256167635550208 : UInt64)) .g))])
    by_cases hc2 : (0 : Int32) < (cmpValue (FP.dcmp z0 (4621256167635550208 : UInt64)) .g)
    · refine own_go (fun t_ k_ => XS.ifYes X0.here hx rfl (pc0 := 13) (pc' := 20) rfl (hb hby d1_13) rfl ((if0 _ _).trans (tlt hc2).2.2.1) (by decide) (by decide) k_) ?_
      show own_Ends _ _ _ _ _ _ _ s₁ (mkF m 20 #[.val (.double z0), .second] [])
      refine own_go (fun t_ k_ => XS.iconst X0.here hx rfl (hb hby d1_20) k_) ?_
      show own_Ends _ _ _ _ _ _ _ s₁ (mkF m 21 #[.val (.double z0), .second] [(.int (0 : Int32))])
      refine own_retN X0 hx hlk (t := .boolean) hret (by simp) (hb hby d1_21) e0 (by decide) (by decide) ?_
      exact ⟨by simp [own_os, nar, hc1, hc2], N0, rfl⟩
    · refine own_go (fun t_ k_ => XS.ifNo X0.here hx rfl (hb hby d1_13) rfl ((if0 _ _).trans (flt hc2).2.2.1) k_) ?_
      show own_Ends _ _ _ _ _ _ _ s₁ (mkF m 16 #[.val (.double z0), .second] [])
      refine own_go (fun t_ k_ => XS.iconst X0.here hx rfl (hb hby d1_16) k_) ?_
      show own_Ends _ _ _ _ _ _ _ s₁ (mkF m 17 #[.val (.double z0), .second] [(.int (1 : Int32))])
      refine own_go (fun t_ k_ => XS.goto X0.here hx rfl (pc0 := 17) (pc' := 21) rfl (hb hby d1_17) (by decide) (by decide) k_) ?_
      show own_Ends _ _ _ _ _ _ _ s₁ (mkF m 21 #[.val (.double z0), .second] [(.int (1 : Int32))])
      refine own_retN X0 hx hlk (t := .boolean) hret (by simp) (hb hby d1_21) e0 (by decide) (by decide) ?_
      exact ⟨by simp [own_os, nar, hc1, hc2], N0, rfl⟩
theorem pd__D_Z : parseMethodDescriptor "(D)Z" = some ⟨[.double], some .boolean⟩ := by decide +kernel
theorem pn0 : plainFor (⟨"com/example/wearcourse/wearcourse/data/PairwiseComparisonIsOnScalePinLaw", "law", "(II)Z"⟩ : MethodName) = true := plainFor_of_name (by first | (simp [plainName, overriddenIn]; done) | decide +kernel)
set_option maxRecDepth 65536 in
set_option maxHeartbeats 40000000 in
theorem rm0 (l : Launch) (Z : State) (a0 : Array Value) (hw : ∀ d ∈ tables_1, d.before a0 Z = true) (ws : List Jvm.Cond) (p0 : Int32) (p1 : Int32)  (h0 : Heap) (n0 : Nat) (Z0 : n0 ≤ h0.size)  :
    own_Met l x code maxLocals ret room_1 ws #[(.int p0), (.int p1)] Z h0 (fun v h L => v = some (.int 1) ∧ Fr n0 L) := by
  refine own_met pn0 ?_
  intro p e s m below meth c s₁ hx X0 hZ e0 hby hml hown hnm hret hlk
  have N0 := Fr.nil n0
  refine own_at (f' := mkF m 0 #[.val (.int p0), .val (.int p1), .unset, .unset, .unset, .unset, .unset, .unset, .unset] []) (by first | (simp [entryFrame, mkF, argsToLocals, Value.category, maxLocals]; done) | rfl) ?_
  show own_Ends _ _ _ _ _ _ _ s₁ (mkF m 0 #[.val (.int p0), .val (.int p1), .unset, .unset, .unset, .unset, .unset, .unset, .unset] [])
  refine own_go (fun t_ k_ => XS.iloadN X0.here hx rfl (hb hby at_0) rfl  k_) ?_
  show own_Ends _ _ _ _ _ _ _ s₁ (mkF m 1 #[.val (.int p0), .val (.int p1), .unset, .unset, .unset, .unset, .unset, .unset, .unset] [(.int p0)])
  refine own_go (fun t_ k_ => XT.i2l X0.here hx rfl (hb hby at_1) rfl k_) ?_
  show own_Ends _ _ _ _ _ _ _ s₁ (mkF m 2 #[.val (.int p0), .val (.int p1), .unset, .unset, .unset, .unset, .unset, .unset, .unset] [(.long (p0.toInt64))])
  refine own_go (fun t_ k_ => XT.lstoreN X0.here hx rfl (hb hby at_2) rfl (l' := #[.val (.int p0), .val (.int p1), .val (.long (p0.toInt64)), .second, .unset, .unset, .unset, .unset, .unset]) rfl k_) ?_
  show own_Ends _ _ _ _ _ _ _ s₁ (mkF m 3 #[.val (.int p0), .val (.int p1), .val (.long (p0.toInt64)), .second, .unset, .unset, .unset, .unset, .unset] [])
  refine own_go (fun t_ k_ => XS.iloadN X0.here hx rfl (hb hby at_3) rfl  k_) ?_
  show own_Ends _ _ _ _ _ _ _ s₁ (mkF m 4 #[.val (.int p0), .val (.int p1), .val (.long (p0.toInt64)), .second, .unset, .unset, .unset, .unset, .unset] [(.int p1)])
  refine own_go (fun t_ k_ => XS.sipush X0.here hx rfl (hb hby at_4) k_) ?_
  show own_Ends _ _ _ _ _ _ _ s₁ (mkF m 7 #[.val (.int p0), .val (.int p1), .val (.long (p0.toInt64)), .second, .unset, .unset, .unset, .unset, .unset] [(.int (1023 : Int32)), (.int p1)])
  refine own_go (fun t_ k_ => XS.iand X0.here hx rfl (hb hby at_7) rfl k_) ?_
  show own_Ends _ _ _ _ _ _ _ s₁ (mkF m 8 #[.val (.int p0), .val (.int p1), .val (.long (p0.toInt64)), .second, .unset, .unset, .unset, .unset, .unset] [(.int (p1 &&& (1023 : Int32)))])
  refine own_go (fun t_ k_ => XS.iconst X0.here hx rfl (hb hby at_8) k_) ?_
  show own_Ends _ _ _ _ _ _ _ s₁ (mkF m 9 #[.val (.int p0), .val (.int p1), .val (.long (p0.toInt64)), .second, .unset, .unset, .unset, .unset, .unset] [(.int (1 : Int32)), (.int (p1 &&& (1023 : Int32)))])
  refine own_go (fun t_ k_ => XS.iadd X0.here hx rfl (hb hby at_9) rfl k_) ?_
  show own_Ends _ _ _ _ _ _ _ s₁ (mkF m 10 #[.val (.int p0), .val (.int p1), .val (.long (p0.toInt64)), .second, .unset, .unset, .unset, .unset, .unset] [(.int ((p1 &&& (1023 : Int32)) + (1 : Int32)))])
  refine own_go (fun t_ k_ => XT.i2l X0.here hx rfl (hb hby at_10) rfl k_) ?_
  show own_Ends _ _ _ _ _ _ _ s₁ (mkF m 11 #[.val (.int p0), .val (.int p1), .val (.long (p0.toInt64)), .second, .unset, .unset, .unset, .unset, .unset] [(.long (((p1 &&& (1023 : Int32)) + (1 : Int32)).toInt64))])
  refine own_go (fun t_ k_ => XT.lstore X0.here hx rfl (hb hby at_11) rfl (l' := #[.val (.int p0), .val (.int p1), .val (.long (p0.toInt64)), .second, .val (.long (((p1 &&& (1023 : Int32)) + (1 : Int32)).toInt64)), .second, .unset, .unset, .unset]) rfl k_) ?_
  show own_Ends _ _ _ _ _ _ _ s₁ (mkF m 13 #[.val (.int p0), .val (.int p1), .val (.long (p0.toInt64)), .second, .val (.long (((p1 &&& (1023 : Int32)) + (1 : Int32)).toInt64)), .second, .unset, .unset, .unset] [])
  refine own_go (fun t_ k_ => XS.iloadN X0.here hx rfl (hb hby at_13) rfl  k_) ?_
  show own_Ends _ _ _ _ _ _ _ s₁ (mkF m 14 #[.val (.int p0), .val (.int p1), .val (.long (p0.toInt64)), .second, .val (.long (((p1 &&& (1023 : Int32)) + (1 : Int32)).toInt64)), .second, .unset, .unset, .unset] [(.int p0)])
  refine own_go (fun t_ k_ => XS.i2dS X0.here hx rfl (hb hby at_14) rfl (i2d_w _) k_) ?_
  show own_Ends _ _ _ _ _ _ _ s₁ (mkF m 15 #[.val (.int p0), .val (.int p1), .val (.long (p0.toInt64)), .second, .val (.long (((p1 &&& (1023 : Int32)) + (1 : Int32)).toInt64)), .second, .unset, .unset, .unset] [(.double (FP.l2d p0.toInt64))])
  refine own_go (fun t_ k_ => XT.lload X0.here hx rfl (hb hby at_15) rfl k_) ?_
  show own_Ends _ _ _ _ _ _ _ s₁ (mkF m 17 #[.val (.int p0), .val (.int p1), .val (.long (p0.toInt64)), .second, .val (.long (((p1 &&& (1023 : Int32)) + (1 : Int32)).toInt64)), .second, .unset, .unset, .unset] [(.long (((p1 &&& (1023 : Int32)) + (1 : Int32)).toInt64)), (.double (FP.l2d p0.toInt64))])
  refine own_go (fun t_ k_ => XS.l2dS X0.here hx rfl (hb hby at_17) rfl rfl k_) ?_
  show own_Ends _ _ _ _ _ _ _ s₁ (mkF m 18 #[.val (.int p0), .val (.int p1), .val (.long (p0.toInt64)), .second, .val (.long (((p1 &&& (1023 : Int32)) + (1 : Int32)).toInt64)), .second, .unset, .unset, .unset] [(.double (FP.l2d (((p1 &&& (1023 : Int32)) + (1 : Int32)).toInt64))), (.double (FP.l2d p0.toInt64))])
  refine own_go (fun t_ k_ => XS.ddivS X0.here hx rfl (hb hby at_18) rfl (own_J p0 p1).1 rfl k_) ?_
  show own_Ends _ _ _ _ _ _ _ s₁ (mkF m 19 #[.val (.int p0), .val (.int p1), .val (.long (p0.toInt64)), .second, .val (.long (((p1 &&& (1023 : Int32)) + (1 : Int32)).toInt64)), .second, .unset, .unset, .unset] [(.double (FP.ddiv (FP.l2d p0.toInt64) (FP.l2d (((p1 &&& (1023 : Int32)) + (1 : Int32)).toInt64))))])
  refine own_go (fun t_ k_ => XS.dstore X0.here hx rfl (hb hby at_19) rfl (l' := #[.val (.int p0), .val (.int p1), .val (.long (p0.toInt64)), .second, .val (.long (((p1 &&& (1023 : Int32)) + (1 : Int32)).toInt64)), .second, .val (.double (FP.ddiv (FP.l2d p0.toInt64) (FP.l2d (((p1 &&& (1023 : Int32)) + (1 : Int32)).toInt64)))), .second, .unset]) rfl k_) ?_
  show own_Ends _ _ _ _ _ _ _ s₁ (mkF m 21 #[.val (.int p0), .val (.int p1), .val (.long (p0.toInt64)), .second, .val (.long (((p1 &&& (1023 : Int32)) + (1 : Int32)).toInt64)), .second, .val (.double (FP.ddiv (FP.l2d p0.toInt64) (FP.l2d (((p1 &&& (1023 : Int32)) + (1 : Int32)).toInt64)))), .second, .unset] [])
  refine own_go (X0.ldc2Long hx hown (mvT hZ (hw _ (List.mem_of_getElem? (i := 0) rfl))) (g := (mkF m 21 #[.val (.int p0), .val (.int p1), .val (.long (p0.toInt64)), .second, .val (.long (((p1 &&& (1023 : Int32)) + (1 : Int32)).toInt64)), .second, .val (.double (FP.ddiv (FP.l2d p0.toInt64) (FP.l2d (((p1 &&& (1023 : Int32)) + (1 : Int32)).toInt64)))), .second, .unset] [])) rfl (hb hby at_21)) ?_
  show own_Ends _ _ _ _ _ _ _ s₁ (mkF m 24 #[.val (.int p0), .val (.int p1), .val (.long (p0.toInt64)), .second, .val (.long (((p1 &&& (1023 : Int32)) + (1 : Int32)).toInt64)), .second, .val (.double (FP.ddiv (FP.l2d p0.toInt64) (FP.l2d (((p1 &&& (1023 : Int32)) + (1 : Int32)).toInt64)))), .second, .unset] [(.long (9 : Int64))])
  refine own_go (fun t_ k_ => XT.lloadN X0.here hx rfl (hb hby at_24) rfl k_) ?_
  show own_Ends _ _ _ _ _ _ _ s₁ (mkF m 25 #[.val (.int p0), .val (.int p1), .val (.long (p0.toInt64)), .second, .val (.long (((p1 &&& (1023 : Int32)) + (1 : Int32)).toInt64)), .second, .val (.double (FP.ddiv (FP.l2d p0.toInt64) (FP.l2d (((p1 &&& (1023 : Int32)) + (1 : Int32)).toInt64)))), .second, .unset] [(.long (p0.toInt64)), (.long (9 : Int64))])
  refine own_go (fun t_ k_ => XT.lmul X0.here hx rfl (hb hby at_25) rfl k_) ?_
  show own_Ends _ _ _ _ _ _ _ s₁ (mkF m 26 #[.val (.int p0), .val (.int p1), .val (.long (p0.toInt64)), .second, .val (.long (((p1 &&& (1023 : Int32)) + (1 : Int32)).toInt64)), .second, .val (.double (FP.ddiv (FP.l2d p0.toInt64) (FP.l2d (((p1 &&& (1023 : Int32)) + (1 : Int32)).toInt64)))), .second, .unset] [(.long ((9 : Int64) * (p0.toInt64)))])
  refine own_go (fun t_ k_ => XT.lload X0.here hx rfl (hb hby at_26) rfl k_) ?_
  show own_Ends _ _ _ _ _ _ _ s₁ (mkF m 28 #[.val (.int p0), .val (.int p1), .val (.long (p0.toInt64)), .second, .val (.long (((p1 &&& (1023 : Int32)) + (1 : Int32)).toInt64)), .second, .val (.double (FP.ddiv (FP.l2d p0.toInt64) (FP.l2d (((p1 &&& (1023 : Int32)) + (1 : Int32)).toInt64)))), .second, .unset] [(.long (((p1 &&& (1023 : Int32)) + (1 : Int32)).toInt64)), (.long ((9 : Int64) * (p0.toInt64)))])
  refine own_go (fun t_ k_ => XT.lcmp X0.here hx rfl (hb hby at_28) rfl k_) ?_
  show own_Ends _ _ _ _ _ _ _ s₁ (mkF m 29 #[.val (.int p0), .val (.int p1), .val (.long (p0.toInt64)), .second, .val (.long (((p1 &&& (1023 : Int32)) + (1 : Int32)).toInt64)), .second, .val (.double (FP.ddiv (FP.l2d p0.toInt64) (FP.l2d (((p1 &&& (1023 : Int32)) + (1 : Int32)).toInt64)))), .second, .unset] [(.int (XT.cmpL ((9 : Int64) * (p0.toInt64)) (((p1 &&& (1023 : Int32)) + (1 : Int32)).toInt64)))])
  by_cases hc1 : ((9 : Int64) * (p0.toInt64)) < (((p1 &&& (1023 : Int32)) + (1 : Int32)).toInt64)
  · refine own_go (fun t_ k_ => XS.ifYes X0.here hx rfl (pc0 := 29) (pc' := 47) rfl (hb hby at_29) rfl (XT.ll_lt_t hc1) (by decide) (by decide) k_) ?_
    show own_Ends _ _ _ _ _ _ _ s₁ (mkF m 47 #[.val (.int p0), .val (.int p1), .val (.long (p0.toInt64)), .second, .val (.long (((p1 &&& (1023 : Int32)) + (1 : Int32)).toInt64)), .second, .val (.double (FP.ddiv (FP.l2d p0.toInt64) (FP.l2d (((p1 &&& (1023 : Int32)) + (1 : Int32)).toInt64)))), .second, .unset] [])
    refine own_go (fun t_ k_ => XS.iconst X0.here hx rfl (hb hby at_47) k_) ?_
    show own_Ends _ _ _ _ _ _ _ s₁ (mkF m 48 #[.val (.int p0), .val (.int p1), .val (.long (p0.toInt64)), .second, .val (.long (((p1 &&& (1023 : Int32)) + (1 : Int32)).toInt64)), .second, .val (.double (FP.ddiv (FP.l2d p0.toInt64) (FP.l2d (((p1 &&& (1023 : Int32)) + (1 : Int32)).toInt64)))), .second, .unset] [(.int (0 : Int32))])
    refine own_go (fun t_ k_ => XS.istore X0.here hx rfl (hb hby at_48) rfl (l' := #[.val (.int p0), .val (.int p1), .val (.long (p0.toInt64)), .second, .val (.long (((p1 &&& (1023 : Int32)) + (1 : Int32)).toInt64)), .second, .val (.double (FP.ddiv (FP.l2d p0.toInt64) (FP.l2d (((p1 &&& (1023 : Int32)) + (1 : Int32)).toInt64)))), .second, .val (.int (0 : Int32))]) rfl k_) ?_
    show own_Ends _ _ _ _ _ _ _ s₁ (mkF m 50 #[.val (.int p0), .val (.int p1), .val (.long (p0.toInt64)), .second, .val (.long (((p1 &&& (1023 : Int32)) + (1 : Int32)).toInt64)), .second, .val (.double (FP.ddiv (FP.l2d p0.toInt64) (FP.l2d (((p1 &&& (1023 : Int32)) + (1 : Int32)).toInt64)))), .second, .val (.int (0 : Int32))] [])
    refine own_go (fun t_ k_ => XS.dload X0.here hx rfl (hb hby at_50) rfl k_) ?_
    show own_Ends _ _ _ _ _ _ _ s₁ (mkF m 52 #[.val (.int p0), .val (.int p1), .val (.long (p0.toInt64)), .second, .val (.long (((p1 &&& (1023 : Int32)) + (1 : Int32)).toInt64)), .second, .val (.double (FP.ddiv (FP.l2d p0.toInt64) (FP.l2d (((p1 &&& (1023 : Int32)) + (1 : Int32)).toInt64)))), .second, .val (.int (0 : Int32))] [(.double (FP.ddiv (FP.l2d p0.toInt64) (FP.l2d (((p1 &&& (1023 : Int32)) + (1 : Int32)).toInt64))))])
    obtain ⟨T2, v2, L2, X2, hQ2, st2⟩ := own_callS X0 hx hZ (y := (⟨"com/example/wearcourse/wearcourse/data/PairwiseComparison", "isOnScale", "(D)Z"⟩ : MethodName)) hown (hw _ (List.mem_of_getElem? (i := 1) rfl)) (hw _ (List.mem_of_getElem? (i := 2) rfl)) (hw _ (List.mem_of_getElem? (i := 3) rfl)) (hw _ (List.mem_of_getElem? (i := 4) rfl)) (by decide) (rm1 l Z a0 hw [] (FP.ddiv (FP.l2d p0.toInt64) (FP.l2d (((p1 &&& (1023 : Int32)) + (1 : Int32)).toInt64))) h0 n0 Z0) e0 (g := (mkF m 52 #[.val (.int p0), .val (.int p1), .val (.long (p0.toInt64)), .second, .val (.long (((p1 &&& (1023 : Int32)) + (1 : Int32)).toInt64)), .second, .val (.double (FP.ddiv (FP.l2d p0.toInt64) (FP.l2d (((p1 &&& (1023 : Int32)) + (1 : Int32)).toInt64)))), .second, .val (.int (0 : Int32))] [(.double (FP.ddiv (FP.l2d p0.toInt64) (FP.l2d (((p1 &&& (1023 : Int32)) + (1 : Int32)).toInt64))))])) rfl (by rw [hml]; rfl) [(.double (FP.ddiv (FP.l2d p0.toInt64) (FP.l2d (((p1 &&& (1023 : Int32)) + (1 : Int32)).toInt64))))] [] rfl (lenOf pd__D_Z rfl) rfl 0 (by show 2 * 0 + _ ≤ _; exact Nat.le_of_eq rfl) (hb hby at_52) (by decide) (by decide) (by decide) (by decide)
    obtain ⟨rfl, N2q, e2⟩ := hQ2
    refine own_go st2 ?_
    have N2 := Fr.app N0 N2q
    show own_Ends _ _ _ _ _ _ _ T2 (mkF m 55 #[.val (.int p0), .val (.int p1), .val (.long (p0.toInt64)), .second, .val (.long (((p1 &&& (1023 : Int32)) + (1 : Int32)).toInt64)), .second, .val (.double (FP.ddiv (FP.l2d p0.toInt64) (FP.l2d (((p1 &&& (1023 : Int32)) + (1 : Int32)).toInt64)))), .second, .val (.int (0 : Int32))] [(.int (own_os (FP.ddiv (FP.l2d p0.toInt64) (FP.l2d (((p1 &&& (1023 : Int32)) + (1 : Int32)).toInt64)))))])
    refine own_go (fun t_ k_ => XS.iload X2.here hx rfl (hb hby at_55) rfl  k_) ?_
    show own_Ends _ _ _ _ _ _ _ T2 (mkF m 57 #[.val (.int p0), .val (.int p1), .val (.long (p0.toInt64)), .second, .val (.long (((p1 &&& (1023 : Int32)) + (1 : Int32)).toInt64)), .second, .val (.double (FP.ddiv (FP.l2d p0.toInt64) (FP.l2d (((p1 &&& (1023 : Int32)) + (1 : Int32)).toInt64)))), .second, .val (.int (0 : Int32))] [(.int (0 : Int32)), (.int (own_os (FP.ddiv (FP.l2d p0.toInt64) (FP.l2d (((p1 &&& (1023 : Int32)) + (1 : Int32)).toInt64)))))])
    refine own_go (fun t_ k_ => XS.icmpNo X2.here hx rfl (hb hby at_57) rfl (teq (own_osL hc1)).2 k_) ?_
    show own_Ends _ _ _ _ _ _ _ T2 (mkF m 60 #[.val (.int p0), .val (.int p1), .val (.long (p0.toInt64)), .second, .val (.long (((p1 &&& (1023 : Int32)) + (1 : Int32)).toInt64)), .second, .val (.double (FP.ddiv (FP.l2d p0.toInt64) (FP.l2d (((p1 &&& (1023 : Int32)) + (1 : Int32)).toInt64)))), .second, .val (.int (0 : Int32))] [])
    refine own_go (fun t_ k_ => XS.iconst X2.here hx rfl (hb hby at_60) k_) ?_
    show own_Ends _ _ _ _ _ _ _ T2 (mkF m 61 #[.val (.int p0), .val (.int p1), .val (.long (p0.toInt64)), .second, .val (.long (((p1 &&& (1023 : Int32)) + (1 : Int32)).toInt64)), .second, .val (.double (FP.ddiv (FP.l2d p0.toInt64) (FP.l2d (((p1 &&& (1023 : Int32)) + (1 : Int32)).toInt64)))), .second, .val (.int (0 : Int32))] [(.int (1 : Int32))])
    refine own_go (fun t_ k_ => XS.goto X2.here hx rfl (pc0 := 61) (pc' := 65) rfl (hb hby at_61) (by decide) (by decide) k_) ?_
    show own_Ends _ _ _ _ _ _ _ T2 (mkF m 65 #[.val (.int p0), .val (.int p1), .val (.long (p0.toInt64)), .second, .val (.long (((p1 &&& (1023 : Int32)) + (1 : Int32)).toInt64)), .second, .val (.double (FP.ddiv (FP.l2d p0.toInt64) (FP.l2d (((p1 &&& (1023 : Int32)) + (1 : Int32)).toInt64)))), .second, .val (.int (0 : Int32))] [(.int (1 : Int32))])
    refine own_retN X2 hx hlk (t := .boolean) hret (by simp) (hb hby at_65) e2 (by decide) (by decide) ?_
    exact ⟨rfl, N2⟩
  · refine own_go (fun t_ k_ => XS.ifNo X0.here hx rfl (hb hby at_29) rfl (XT.ll_lt_f hc1) k_) ?_
    show own_Ends _ _ _ _ _ _ _ s₁ (mkF m 32 #[.val (.int p0), .val (.int p1), .val (.long (p0.toInt64)), .second, .val (.long (((p1 &&& (1023 : Int32)) + (1 : Int32)).toInt64)), .second, .val (.double (FP.ddiv (FP.l2d p0.toInt64) (FP.l2d (((p1 &&& (1023 : Int32)) + (1 : Int32)).toInt64)))), .second, .unset] [])
    refine own_go (fun t_ k_ => XT.lloadN X0.here hx rfl (hb hby at_32) rfl k_) ?_
    show own_Ends _ _ _ _ _ _ _ s₁ (mkF m 33 #[.val (.int p0), .val (.int p1), .val (.long (p0.toInt64)), .second, .val (.long (((p1 &&& (1023 : Int32)) + (1 : Int32)).toInt64)), .second, .val (.double (FP.ddiv (FP.l2d p0.toInt64) (FP.l2d (((p1 &&& (1023 : Int32)) + (1 : Int32)).toInt64)))), .second, .unset] [(.long (p0.toInt64))])
    refine own_go (X0.ldc2Long hx hown (mvT hZ (hw _ (List.mem_of_getElem? (i := 0) rfl))) (g := (mkF m 33 #[.val (.int p0), .val (.int p1), .val (.long (p0.toInt64)), .second, .val (.long (((p1 &&& (1023 : Int32)) + (1 : Int32)).toInt64)), .second, .val (.double (FP.ddiv (FP.l2d p0.toInt64) (FP.l2d (((p1 &&& (1023 : Int32)) + (1 : Int32)).toInt64)))), .second, .unset] [(.long (p0.toInt64))])) rfl (hb hby at_33)) ?_
    show own_Ends _ _ _ _ _ _ _ s₁ (mkF m 36 #[.val (.int p0), .val (.int p1), .val (.long (p0.toInt64)), .second, .val (.long (((p1 &&& (1023 : Int32)) + (1 : Int32)).toInt64)), .second, .val (.double (FP.ddiv (FP.l2d p0.toInt64) (FP.l2d (((p1 &&& (1023 : Int32)) + (1 : Int32)).toInt64)))), .second, .unset] [(.long (9 : Int64)), (.long (p0.toInt64))])
    refine own_go (fun t_ k_ => XT.lload X0.here hx rfl (hb hby at_36) rfl k_) ?_
    show own_Ends _ _ _ _ _ _ _ s₁ (mkF m 38 #[.val (.int p0), .val (.int p1), .val (.long (p0.toInt64)), .second, .val (.long (((p1 &&& (1023 : Int32)) + (1 : Int32)).toInt64)), .second, .val (.double (FP.ddiv (FP.l2d p0.toInt64) (FP.l2d (((p1 &&& (1023 : Int32)) + (1 : Int32)).toInt64)))), .second, .unset] [(.long (((p1 &&& (1023 : Int32)) + (1 : Int32)).toInt64)), (.long (9 : Int64)), (.long (p0.toInt64))])
    refine own_go (fun t_ k_ => XT.lmul X0.here hx rfl (hb hby at_38) rfl k_) ?_
    show own_Ends _ _ _ _ _ _ _ s₁ (mkF m 39 #[.val (.int p0), .val (.int p1), .val (.long (p0.toInt64)), .second, .val (.long (((p1 &&& (1023 : Int32)) + (1 : Int32)).toInt64)), .second, .val (.double (FP.ddiv (FP.l2d p0.toInt64) (FP.l2d (((p1 &&& (1023 : Int32)) + (1 : Int32)).toInt64)))), .second, .unset] [(.long ((9 : Int64) * (((p1 &&& (1023 : Int32)) + (1 : Int32)).toInt64))), (.long (p0.toInt64))])
    refine own_go (fun t_ k_ => XT.lcmp X0.here hx rfl (hb hby at_39) rfl k_) ?_
    show own_Ends _ _ _ _ _ _ _ s₁ (mkF m 40 #[.val (.int p0), .val (.int p1), .val (.long (p0.toInt64)), .second, .val (.long (((p1 &&& (1023 : Int32)) + (1 : Int32)).toInt64)), .second, .val (.double (FP.ddiv (FP.l2d p0.toInt64) (FP.l2d (((p1 &&& (1023 : Int32)) + (1 : Int32)).toInt64)))), .second, .unset] [(.int (XT.cmpL (p0.toInt64) ((9 : Int64) * (((p1 &&& (1023 : Int32)) + (1 : Int32)).toInt64))))])
    by_cases hc3 : ((9 : Int64) * (((p1 &&& (1023 : Int32)) + (1 : Int32)).toInt64)) < (p0.toInt64)
    · refine own_go (fun t_ k_ => XS.ifYes X0.here hx rfl (pc0 := 40) (pc' := 47) rfl (hb hby at_40) rfl (XT.ll_gt_t hc3) (by decide) (by decide) k_) ?_
      show own_Ends _ _ _ _ _ _ _ s₁ (mkF m 47 #[.val (.int p0), .val (.int p1), .val (.long (p0.toInt64)), .second, .val (.long (((p1 &&& (1023 : Int32)) + (1 : Int32)).toInt64)), .second, .val (.double (FP.ddiv (FP.l2d p0.toInt64) (FP.l2d (((p1 &&& (1023 : Int32)) + (1 : Int32)).toInt64)))), .second, .unset] [])
      refine own_go (fun t_ k_ => XS.iconst X0.here hx rfl (hb hby at_47) k_) ?_
      show own_Ends _ _ _ _ _ _ _ s₁ (mkF m 48 #[.val (.int p0), .val (.int p1), .val (.long (p0.toInt64)), .second, .val (.long (((p1 &&& (1023 : Int32)) + (1 : Int32)).toInt64)), .second, .val (.double (FP.ddiv (FP.l2d p0.toInt64) (FP.l2d (((p1 &&& (1023 : Int32)) + (1 : Int32)).toInt64)))), .second, .unset] [(.int (0 : Int32))])
      refine own_go (fun t_ k_ => XS.istore X0.here hx rfl (hb hby at_48) rfl (l' := #[.val (.int p0), .val (.int p1), .val (.long (p0.toInt64)), .second, .val (.long (((p1 &&& (1023 : Int32)) + (1 : Int32)).toInt64)), .second, .val (.double (FP.ddiv (FP.l2d p0.toInt64) (FP.l2d (((p1 &&& (1023 : Int32)) + (1 : Int32)).toInt64)))), .second, .val (.int (0 : Int32))]) rfl k_) ?_
      show own_Ends _ _ _ _ _ _ _ s₁ (mkF m 50 #[.val (.int p0), .val (.int p1), .val (.long (p0.toInt64)), .second, .val (.long (((p1 &&& (1023 : Int32)) + (1 : Int32)).toInt64)), .second, .val (.double (FP.ddiv (FP.l2d p0.toInt64) (FP.l2d (((p1 &&& (1023 : Int32)) + (1 : Int32)).toInt64)))), .second, .val (.int (0 : Int32))] [])
      refine own_go (fun t_ k_ => XS.dload X0.here hx rfl (hb hby at_50) rfl k_) ?_
      show own_Ends _ _ _ _ _ _ _ s₁ (mkF m 52 #[.val (.int p0), .val (.int p1), .val (.long (p0.toInt64)), .second, .val (.long (((p1 &&& (1023 : Int32)) + (1 : Int32)).toInt64)), .second, .val (.double (FP.ddiv (FP.l2d p0.toInt64) (FP.l2d (((p1 &&& (1023 : Int32)) + (1 : Int32)).toInt64)))), .second, .val (.int (0 : Int32))] [(.double (FP.ddiv (FP.l2d p0.toInt64) (FP.l2d (((p1 &&& (1023 : Int32)) + (1 : Int32)).toInt64))))])
      obtain ⟨T4, v4, L4, X4, hQ4, st4⟩ := own_callS X0 hx hZ (y := (⟨"com/example/wearcourse/wearcourse/data/PairwiseComparison", "isOnScale", "(D)Z"⟩ : MethodName)) hown (hw _ (List.mem_of_getElem? (i := 1) rfl)) (hw _ (List.mem_of_getElem? (i := 2) rfl)) (hw _ (List.mem_of_getElem? (i := 3) rfl)) (hw _ (List.mem_of_getElem? (i := 4) rfl)) (by decide) (rm1 l Z a0 hw [] (FP.ddiv (FP.l2d p0.toInt64) (FP.l2d (((p1 &&& (1023 : Int32)) + (1 : Int32)).toInt64))) h0 n0 Z0) e0 (g := (mkF m 52 #[.val (.int p0), .val (.int p1), .val (.long (p0.toInt64)), .second, .val (.long (((p1 &&& (1023 : Int32)) + (1 : Int32)).toInt64)), .second, .val (.double (FP.ddiv (FP.l2d p0.toInt64) (FP.l2d (((p1 &&& (1023 : Int32)) + (1 : Int32)).toInt64)))), .second, .val (.int (0 : Int32))] [(.double (FP.ddiv (FP.l2d p0.toInt64) (FP.l2d (((p1 &&& (1023 : Int32)) + (1 : Int32)).toInt64))))])) rfl (by rw [hml]; rfl) [(.double (FP.ddiv (FP.l2d p0.toInt64) (FP.l2d (((p1 &&& (1023 : Int32)) + (1 : Int32)).toInt64))))] [] rfl (lenOf pd__D_Z rfl) rfl 0 (by show 2 * 0 + _ ≤ _; exact Nat.le_of_eq rfl) (hb hby at_52) (by decide) (by decide) (by decide) (by decide)
      obtain ⟨rfl, N4q, e4⟩ := hQ4
      refine own_go st4 ?_
      have N4 := Fr.app N0 N4q
      show own_Ends _ _ _ _ _ _ _ T4 (mkF m 55 #[.val (.int p0), .val (.int p1), .val (.long (p0.toInt64)), .second, .val (.long (((p1 &&& (1023 : Int32)) + (1 : Int32)).toInt64)), .second, .val (.double (FP.ddiv (FP.l2d p0.toInt64) (FP.l2d (((p1 &&& (1023 : Int32)) + (1 : Int32)).toInt64)))), .second, .val (.int (0 : Int32))] [(.int (own_os (FP.ddiv (FP.l2d p0.toInt64) (FP.l2d (((p1 &&& (1023 : Int32)) + (1 : Int32)).toInt64)))))])
      refine own_go (fun t_ k_ => XS.iload X4.here hx rfl (hb hby at_55) rfl  k_) ?_
      show own_Ends _ _ _ _ _ _ _ T4 (mkF m 57 #[.val (.int p0), .val (.int p1), .val (.long (p0.toInt64)), .second, .val (.long (((p1 &&& (1023 : Int32)) + (1 : Int32)).toInt64)), .second, .val (.double (FP.ddiv (FP.l2d p0.toInt64) (FP.l2d (((p1 &&& (1023 : Int32)) + (1 : Int32)).toInt64)))), .second, .val (.int (0 : Int32))] [(.int (0 : Int32)), (.int (own_os (FP.ddiv (FP.l2d p0.toInt64) (FP.l2d (((p1 &&& (1023 : Int32)) + (1 : Int32)).toInt64)))))])
      refine own_go (fun t_ k_ => XS.icmpNo X4.here hx rfl (hb hby at_57) rfl (teq (own_osG hc1 hc3)).2 k_) ?_
      show own_Ends _ _ _ _ _ _ _ T4 (mkF m 60 #[.val (.int p0), .val (.int p1), .val (.long (p0.toInt64)), .second, .val (.long (((p1 &&& (1023 : Int32)) + (1 : Int32)).toInt64)), .second, .val (.double (FP.ddiv (FP.l2d p0.toInt64) (FP.l2d (((p1 &&& (1023 : Int32)) + (1 : Int32)).toInt64)))), .second, .val (.int (0 : Int32))] [])
      refine own_go (fun t_ k_ => XS.iconst X4.here hx rfl (hb hby at_60) k_) ?_
      show own_Ends _ _ _ _ _ _ _ T4 (mkF m 61 #[.val (.int p0), .val (.int p1), .val (.long (p0.toInt64)), .second, .val (.long (((p1 &&& (1023 : Int32)) + (1 : Int32)).toInt64)), .second, .val (.double (FP.ddiv (FP.l2d p0.toInt64) (FP.l2d (((p1 &&& (1023 : Int32)) + (1 : Int32)).toInt64)))), .second, .val (.int (0 : Int32))] [(.int (1 : Int32))])
      refine own_go (fun t_ k_ => XS.goto X4.here hx rfl (pc0 := 61) (pc' := 65) rfl (hb hby at_61) (by decide) (by decide) k_) ?_
      show own_Ends _ _ _ _ _ _ _ T4 (mkF m 65 #[.val (.int p0), .val (.int p1), .val (.long (p0.toInt64)), .second, .val (.long (((p1 &&& (1023 : Int32)) + (1 : Int32)).toInt64)), .second, .val (.double (FP.ddiv (FP.l2d p0.toInt64) (FP.l2d (((p1 &&& (1023 : Int32)) + (1 : Int32)).toInt64)))), .second, .val (.int (0 : Int32))] [(.int (1 : Int32))])
      refine own_retN X4 hx hlk (t := .boolean) hret (by simp) (hb hby at_65) e4 (by decide) (by decide) ?_
      exact ⟨rfl, N4⟩
    · refine own_go (fun t_ k_ => XS.ifNo X0.here hx rfl (hb hby at_40) rfl (XT.ll_gt_f hc3) k_) ?_
      show own_Ends _ _ _ _ _ _ _ s₁ (mkF m 43 #[.val (.int p0), .val (.int p1), .val (.long (p0.toInt64)), .second, .val (.long (((p1 &&& (1023 : Int32)) + (1 : Int32)).toInt64)), .second, .val (.double (FP.ddiv (FP.l2d p0.toInt64) (FP.l2d (((p1 &&& (1023 : Int32)) + (1 : Int32)).toInt64)))), .second, .unset] [])
      refine own_go (fun t_ k_ => XS.iconst X0.here hx rfl (hb hby at_43) k_) ?_
      show own_Ends _ _ _ _ _ _ _ s₁ (mkF m 44 #[.val (.int p0), .val (.int p1), .val (.long (p0.toInt64)), .second, .val (.long (((p1 &&& (1023 : Int32)) + (1 : Int32)).toInt64)), .second, .val (.double (FP.ddiv (FP.l2d p0.toInt64) (FP.l2d (((p1 &&& (1023 : Int32)) + (1 : Int32)).toInt64)))), .second, .unset] [(.int (1 : Int32))])
      refine own_go (fun t_ k_ => XS.goto X0.here hx rfl (pc0 := 44) (pc' := 48) rfl (hb hby at_44) (by decide) (by decide) k_) ?_
      show own_Ends _ _ _ _ _ _ _ s₁ (mkF m 48 #[.val (.int p0), .val (.int p1), .val (.long (p0.toInt64)), .second, .val (.long (((p1 &&& (1023 : Int32)) + (1 : Int32)).toInt64)), .second, .val (.double (FP.ddiv (FP.l2d p0.toInt64) (FP.l2d (((p1 &&& (1023 : Int32)) + (1 : Int32)).toInt64)))), .second, .unset] [(.int (1 : Int32))])
      refine own_go (fun t_ k_ => XS.istore X0.here hx rfl (hb hby at_48) rfl (l' := #[.val (.int p0), .val (.int p1), .val (.long (p0.toInt64)), .second, .val (.long (((p1 &&& (1023 : Int32)) + (1 : Int32)).toInt64)), .second, .val (.double (FP.ddiv (FP.l2d p0.toInt64) (FP.l2d (((p1 &&& (1023 : Int32)) + (1 : Int32)).toInt64)))), .second, .val (.int (1 : Int32))]) rfl k_) ?_
      show own_Ends _ _ _ _ _ _ _ s₁ (mkF m 50 #[.val (.int p0), .val (.int p1), .val (.long (p0.toInt64)), .second, .val (.long (((p1 &&& (1023 : Int32)) + (1 : Int32)).toInt64)), .second, .val (.double (FP.ddiv (FP.l2d p0.toInt64) (FP.l2d (((p1 &&& (1023 : Int32)) + (1 : Int32)).toInt64)))), .second, .val (.int (1 : Int32))] [])
      refine own_go (fun t_ k_ => XS.dload X0.here hx rfl (hb hby at_50) rfl k_) ?_
      show own_Ends _ _ _ _ _ _ _ s₁ (mkF m 52 #[.val (.int p0), .val (.int p1), .val (.long (p0.toInt64)), .second, .val (.long (((p1 &&& (1023 : Int32)) + (1 : Int32)).toInt64)), .second, .val (.double (FP.ddiv (FP.l2d p0.toInt64) (FP.l2d (((p1 &&& (1023 : Int32)) + (1 : Int32)).toInt64)))), .second, .val (.int (1 : Int32))] [(.double (FP.ddiv (FP.l2d p0.toInt64) (FP.l2d (((p1 &&& (1023 : Int32)) + (1 : Int32)).toInt64))))])
      obtain ⟨T5, v5, L5, X5, hQ5, st5⟩ := own_callS X0 hx hZ (y := (⟨"com/example/wearcourse/wearcourse/data/PairwiseComparison", "isOnScale", "(D)Z"⟩ : MethodName)) hown (hw _ (List.mem_of_getElem? (i := 1) rfl)) (hw _ (List.mem_of_getElem? (i := 2) rfl)) (hw _ (List.mem_of_getElem? (i := 3) rfl)) (hw _ (List.mem_of_getElem? (i := 4) rfl)) (by decide) (rm1 l Z a0 hw [] (FP.ddiv (FP.l2d p0.toInt64) (FP.l2d (((p1 &&& (1023 : Int32)) + (1 : Int32)).toInt64))) h0 n0 Z0) e0 (g := (mkF m 52 #[.val (.int p0), .val (.int p1), .val (.long (p0.toInt64)), .second, .val (.long (((p1 &&& (1023 : Int32)) + (1 : Int32)).toInt64)), .second, .val (.double (FP.ddiv (FP.l2d p0.toInt64) (FP.l2d (((p1 &&& (1023 : Int32)) + (1 : Int32)).toInt64)))), .second, .val (.int (1 : Int32))] [(.double (FP.ddiv (FP.l2d p0.toInt64) (FP.l2d (((p1 &&& (1023 : Int32)) + (1 : Int32)).toInt64))))])) rfl (by rw [hml]; rfl) [(.double (FP.ddiv (FP.l2d p0.toInt64) (FP.l2d (((p1 &&& (1023 : Int32)) + (1 : Int32)).toInt64))))] [] rfl (lenOf pd__D_Z rfl) rfl 0 (by show 2 * 0 + _ ≤ _; exact Nat.le_of_eq rfl) (hb hby at_52) (by decide) (by decide) (by decide) (by decide)
      obtain ⟨rfl, N5q, e5⟩ := hQ5
      refine own_go st5 ?_
      have N5 := Fr.app N0 N5q
      show own_Ends _ _ _ _ _ _ _ T5 (mkF m 55 #[.val (.int p0), .val (.int p1), .val (.long (p0.toInt64)), .second, .val (.long (((p1 &&& (1023 : Int32)) + (1 : Int32)).toInt64)), .second, .val (.double (FP.ddiv (FP.l2d p0.toInt64) (FP.l2d (((p1 &&& (1023 : Int32)) + (1 : Int32)).toInt64)))), .second, .val (.int (1 : Int32))] [(.int (own_os (FP.ddiv (FP.l2d p0.toInt64) (FP.l2d (((p1 &&& (1023 : Int32)) + (1 : Int32)).toInt64)))))])
      refine own_go (fun t_ k_ => XS.iload X5.here hx rfl (hb hby at_55) rfl  k_) ?_
      show own_Ends _ _ _ _ _ _ _ T5 (mkF m 57 #[.val (.int p0), .val (.int p1), .val (.long (p0.toInt64)), .second, .val (.long (((p1 &&& (1023 : Int32)) + (1 : Int32)).toInt64)), .second, .val (.double (FP.ddiv (FP.l2d p0.toInt64) (FP.l2d (((p1 &&& (1023 : Int32)) + (1 : Int32)).toInt64)))), .second, .val (.int (1 : Int32))] [(.int (1 : Int32)), (.int (own_os (FP.ddiv (FP.l2d p0.toInt64) (FP.l2d (((p1 &&& (1023 : Int32)) + (1 : Int32)).toInt64)))))])
      refine own_go (fun t_ k_ => XS.icmpNo X5.here hx rfl (hb hby at_57) rfl (teq (own_osN hc1 hc3)).2 k_) ?_
      show own_Ends _ _ _ _ _ _ _ T5 (mkF m 60 #[.val (.int p0), .val (.int p1), .val (.long (p0.toInt64)), .second, .val (.long (((p1 &&& (1023 : Int32)) + (1 : Int32)).toInt64)), .second, .val (.double (FP.ddiv (FP.l2d p0.toInt64) (FP.l2d (((p1 &&& (1023 : Int32)) + (1 : Int32)).toInt64)))), .second, .val (.int (1 : Int32))] [])
      refine own_go (fun t_ k_ => XS.iconst X5.here hx rfl (hb hby at_60) k_) ?_
      show own_Ends _ _ _ _ _ _ _ T5 (mkF m 61 #[.val (.int p0), .val (.int p1), .val (.long (p0.toInt64)), .second, .val (.long (((p1 &&& (1023 : Int32)) + (1 : Int32)).toInt64)), .second, .val (.double (FP.ddiv (FP.l2d p0.toInt64) (FP.l2d (((p1 &&& (1023 : Int32)) + (1 : Int32)).toInt64)))), .second, .val (.int (1 : Int32))] [(.int (1 : Int32))])
      refine own_go (fun t_ k_ => XS.goto X5.here hx rfl (pc0 := 61) (pc' := 65) rfl (hb hby at_61) (by decide) (by decide) k_) ?_
      show own_Ends _ _ _ _ _ _ _ T5 (mkF m 65 #[.val (.int p0), .val (.int p1), .val (.long (p0.toInt64)), .second, .val (.long (((p1 &&& (1023 : Int32)) + (1 : Int32)).toInt64)), .second, .val (.double (FP.ddiv (FP.l2d p0.toInt64) (FP.l2d (((p1 &&& (1023 : Int32)) + (1 : Int32)).toInt64)))), .second, .val (.int (1 : Int32))] [(.int (1 : Int32))])
      refine own_retN X5 hx hlk (t := .boolean) hret (by simp) (hb hby at_65) e5 (by decide) (by decide) ?_
      exact ⟨rfl, N5⟩
set_option maxRecDepth 65536 in
set_option maxHeartbeats 40000000 in
theorem comes_1 {Post : Tables → Env → Array Value → State → Outcome → State → Prop} (hpost : ∀ tb e args s v u, (limb_1_1.after args s (.returned v) u = true ∧ limb_1_2.after args s (.returned v) u = true ∧ True) → FrameEnd s (.returned v) u (Jvm.fieldLocs frame_1_writes args s ++ Jvm.arrayLocs frame_1_arrays args s ++ Jvm.staticLocs frame_1_statics s) 0 0 → Post tb e args s (.returned v) u) :
    ArmFor flags0 classFile x code maxLocals ret World_1 tables_1 room_1 Calls_1 rest_1 Pre_1 Post := by
  intro l hfl _ _ p e ha hc hk s m args below hf hA hF happ hP
  obtain ⟨hcalls, hrest, hpre⟩ := hP
  obtain ⟨-, -, -, hnamed, -, -, -, hat⟩ := (Spec.applies_iff hf).mp happ
  obtain ⟨hg, hn⟩ := and_e (Cond.before_iff.mp (show (Jvm.Cond.and given_1 narrow_1).before args s = true from hpre))
  obtain ⟨g1, g2⟩ := and_e hg
  obtain ⟨g3, g4⟩ := and_e g2
  obtain ⟨w0, w1, rfl⟩ : ∃ w0 w1 : Value, args = #[w0, w1] := by
    have hs : args.size = 2 := by simpa [Cond.value, given_1] using g1
    obtain ⟨L⟩ := args
    match L, hs with
    | [w0, w1], _ => exact ⟨w0, w1, rfl⟩
  have hw := fun d (hd : d ∈ tables_1) => atoms_spec (ws := Jvm.Cond.code x code maxLocals ret :: tables_1) hat d (List.mem_cons_of_mem _ hd)
  have hfit : Fit s := fun {y c} hc i hi => by
    obtain ⟨ha, rfl⟩ := Array.getElem?_eq_some_iff.mp hc
    have q := List.all_eq_true.mp ((Array.all_eq_true_iff_forall_mem.mp hF) _ (Array.getElem_mem ha)) i (List.mem_range.mpr hi)
    simpa [Array.getElem?_eq_getElem hi] using q
  obtain ⟨i0, ei0⟩ := is_v g3
  obtain rfl : w0 = (.int i0) := Option.some.inj ei0
  obtain ⟨i1, ei1⟩ := is_v g4
  obtain rfl : w1 = (.int i1) := Option.some.inj ei1
  obtain ⟨n, o, h1, h2, h3, _, L, rfl, ⟨rfl, N⟩, hq⟩ := rm0 l s _ hw tables_1 i0 i1 s.heap s.heap.size (Nat.le_refl _) p e ha hc hk s m _ below hf ((Spec.applies_iff_loose hf).mp happ).1 ⟨rfl, State.Warmed39.refl s, rfl⟩ trivial
  refine ⟨n, _, h1, h2, h3, hpost _ _ _ _ _ _ ⟨Cond.after_iff.mpr rfl, Cond.after_iff.mpr (eq_i res_at (Term.int_eval (1)) rfl), trivial⟩ ⟨hq.1, hq.2.1, (hq.2.2.sift fun y hy => Or.inr (N y hy)).mono (by decide) (by decide)⟩⟩
theorem main_1_1 : Claimed_1_1 := comes_1 fun _ _ _ _ _ _ h hF => ⟨h.1, hF⟩
theorem main_1_2 : Claimed_1_2 := comes_1 fun _ _ _ _ _ _ h hF => ⟨h.2.1, hF⟩
end Jvm.Pilot.@@N@@
namespace Jvm.Pilot.@@N@@
open Jvm Jvm.ClassFile Sem Op Lib Jvm.Free Jvm.Stand Jvm.Pilot.@@N@@.Jvm.D
/-! MADE BY PROGRAM (witnessworld.py) out of the Statement's table words and the real class files: 9 classes; the members and pool entries that the words name. The judged class is class 1, her method 1. -/
namespace start1
open Jvm.ClassFile
def u (s : String) : CpInfo := .utf8 (stringToUtf16 s)
/-- a pool by its gaps: so many unusable entries, then the entry; so many at the end -/
def gap : Nat → List CpInfo → List CpInfo
  | 0, r => r
  | n + 1, r => .unusable :: gap n r
def poolList (es : List (Nat × CpInfo)) (last : Nat) : List CpInfo := es.foldr (fun e r => gap e.1 (e.2 :: r)) (gap last [])
def pool (es : List (Nat × CpInfo)) (last : Nat) : Array CpInfo := ⟨poolList es last⟩
def fileOf (pool : Array CpInfo) (this : Nat) (attrs : Array Attribute := #[]) (ms : Array MethodInfo := #[]) (fl : Nat := 33) (sup : Nat := 0) (ifs : Array Nat := #[]) (fds : Array FieldInfo := #[]) : ClassFile where
  minorVersion := 0
  majorVersion := 65
  constantPool := pool
  accessFlags := fl
  thisClass := this
  superClass := sup
  interfaces := ifs
  fields := fds
  methods := ms
  attributes := attrs
def plain (name : String) (sup : Option ClassId) : Class where
  name := name
  kind := .ordinary
  loader := none
  accessFlags := 33
  super := sup
  interfaces := #[]
  cf := none
  fields := #[]
  methods := #[]
  instanceTypes := #[]
  staticTypes := #[]
  resolved := #[]
  callSites := []
  init := .initialized
  statics := none
  mirror := none

def pool0 : Array CpInfo := pool [(5, u "<init>"), (0, u "()V"), (1, .class_ 10), (1, u "java/lang/Object")] 113

def k0m0 : Method := { name := "<init>", desc := "()V", sig := { parameters := [], returnType := none }, accessFlags := 1, code := none }
/-- java/lang/Object -/
def k0 : Class := { plain "java/lang/Object" none with
  accessFlags := 33
  interfaces := #[]
  cf := some (fileOf pool0 8 #[] #[{ accessFlags := 1, nameIndex := 5, descriptorIndex := 6, attributes := #[] }] 33 0 #[] #[])
  fields := #[]
  methods := #[k0m0]
  instanceTypes := #[]
  staticTypes := #[]
  resolved := Array.replicate 124 none
  statics := none }

def pool1 : Array CpInfo := pool [(2, .class_ 4), (1, u "java/lang/Object"), (0, u "<init>"), (0, u "()V"), (0, .long 9), (1, .methodref 10 11), (0, .class_ 12), (0, .nameAndType 13 14), (0, u "com/example/wearcourse/wearcourse/data/PairwiseComparison"), (0, u "isOnScale"), (0, u "(D)Z"), (0, .class_ 16), (0, u "com/example/wearcourse/wearcourse/data/PairwiseComparisonIsOnScalePinLaw"), (2, u "law"), (0, u "(II)Z")] 3

def k1m0 : Method := { name := "<init>", desc := "()V", sig := { parameters := [], returnType := none }, accessFlags := 1, code := none }
def k1c1 : Code := { maxStack := 6, maxLocals := 9, code := code, exceptionTable := #[], attributes := #[] }
def k1m1 : Method := { name := "law", desc := "(II)Z", sig := { parameters := [.int, .int], returnType := some .boolean }, accessFlags := 9, code := some k1c1 }
/-- com/example/wearcourse/wearcourse/data/PairwiseComparisonIsOnScalePinLaw -/
def k1 : Class := { plain "com/example/wearcourse/wearcourse/data/PairwiseComparisonIsOnScalePinLaw" (some 0) with
  accessFlags := 49
  interfaces := #[]
  cf := some (fileOf pool1 15 #[] #[{ accessFlags := 1, nameIndex := 5, descriptorIndex := 6, attributes := #[] }, { accessFlags := 9, nameIndex := 19, descriptorIndex := 20, attributes := #[] }] 49 2 #[] #[])
  fields := #[]
  methods := #[k1m0, k1m1]
  instanceTypes := #[]
  staticTypes := #[]
  resolved := Array.replicate 24 none
  statics := none }

def pool2 : Array CpInfo := pool [(2, .class_ 4), (1, u "java/lang/Object"), (8, .class_ 14), (0, u "com/example/wearcourse/wearcourse/data/PairwiseComparison"), (34, u "items"), (0, u "Ljava/util/List;"), (6, u "weights"), (0, u "[D"), (2, u "lambdaMax"), (0, u "D"), (7, u "RANDOM_INDEX"), (9, .double 4592670820000712476), (1, .double 4621256167635550208), (9, u "isOnScale"), (0, u "(D)Z"), (42, u "LEAST_JUDGEMENT"), (1, u "MOST_JUDGEMENT"), (0, u "MOST_ITEMS"), (0, u "I"), (1, u "MOST_USABLE_RATIO"), (0, u "RECIPROCAL_TOLERANCE"), (0, u "MOST_ITERATIONS"), (1, u "SETTLED")] 42

def k2c0 : Code := { maxStack := 4, maxLocals := 2, code := prog_34_method_8_code, exceptionTable := #[], attributes := #[] }
def k2m0 : Method := { name := "isOnScale", desc := "(D)Z", sig := { parameters := [.double], returnType := some .boolean }, accessFlags := 9, code := some k2c0 }
/-- com/example/wearcourse/wearcourse/data/PairwiseComparison -/
def k2 : Class := { plain "com/example/wearcourse/wearcourse/data/PairwiseComparison" (some 0) with
  accessFlags := 49
  interfaces := #[]
  cf := some (fileOf pool2 13 #[] #[{ accessFlags := 9, nameIndex := 92, descriptorIndex := 93, attributes := #[] }] 49 2 #[] #[{ accessFlags := 25, nameIndex := 136, descriptorIndex := 62, attributes := #[] }, { accessFlags := 25, nameIndex := 138, descriptorIndex := 62, attributes := #[] }, { accessFlags := 25, nameIndex := 139, descriptorIndex := 140, attributes := #[] }, { accessFlags := 25, nameIndex := 142, descriptorIndex := 62, attributes := #[] }, { accessFlags := 26, nameIndex := 70, descriptorIndex := 58, attributes := #[] }, { accessFlags := 26, nameIndex := 143, descriptorIndex := 62, attributes := #[] }, { accessFlags := 26, nameIndex := 144, descriptorIndex := 140, attributes := #[] }, { accessFlags := 26, nameIndex := 146, descriptorIndex := 62, attributes := #[] }, { accessFlags := 18, nameIndex := 49, descriptorIndex := 50, attributes := #[] }, { accessFlags := 18, nameIndex := 57, descriptorIndex := 58, attributes := #[] }, { accessFlags := 18, nameIndex := 61, descriptorIndex := 62, attributes := #[] }])
  fields := #[{ name := "LEAST_JUDGEMENT", type := .double, accessFlags := 25, slot := 0, constantValue := 0 }, { name := "MOST_JUDGEMENT", type := .double, accessFlags := 25, slot := 1, constantValue := 0 }, { name := "MOST_ITEMS", type := .int, accessFlags := 25, slot := 2, constantValue := 0 }, { name := "MOST_USABLE_RATIO", type := .double, accessFlags := 25, slot := 3, constantValue := 0 }, { name := "RANDOM_INDEX", type := (.array .double), accessFlags := 26, slot := 4, constantValue := 0 }, { name := "RECIPROCAL_TOLERANCE", type := .double, accessFlags := 26, slot := 5, constantValue := 0 }, { name := "MOST_ITERATIONS", type := .int, accessFlags := 26, slot := 6, constantValue := 0 }, { name := "SETTLED", type := .double, accessFlags := 26, slot := 7, constantValue := 0 }, { name := "items", type := (.object "java/util/List"), accessFlags := 18, slot := 0, constantValue := 0 }, { name := "weights", type := (.array .double), accessFlags := 18, slot := 1, constantValue := 0 }, { name := "lambdaMax", type := .double, accessFlags := 18, slot := 2, constantValue := 0 }]
  methods := #[k2m0]
  instanceTypes := #[(.object "java/util/List"), (.array .double), .double]
  staticTypes := #[.double, .double, .int, .double, (.array .double), .double, .int, .double]
  resolved := Array.replicate 189 none
  statics := none }

def pool3 : Array CpInfo := pool [(1, u "java/lang/Cloneable"), (0, .class_ 1), (0, u "java/lang/Object"), (0, .class_ 3)] 3

/-- java/lang/Cloneable -/
def k3 : Class := { plain "java/lang/Cloneable" (some 0) with
  accessFlags := 1537
  interfaces := #[]
  cf := some (fileOf pool3 2 #[] #[] 1537 4 #[] #[])
  fields := #[]
  methods := #[]
  instanceTypes := #[]
  staticTypes := #[]
  resolved := Array.replicate 8 none
  statics := none }

def pool4 : Array CpInfo := pool [(1, u "java/io/Serializable"), (0, .class_ 1), (0, u "java/lang/Object"), (0, .class_ 3)] 3

/-- java/io/Serializable -/
def k4 : Class := { plain "java/io/Serializable" (some 0) with
  accessFlags := 1537
  interfaces := #[]
  cf := some (fileOf pool4 2 #[] #[] 1537 4 #[] #[])
  fields := #[]
  methods := #[]
  instanceTypes := #[]
  staticTypes := #[]
  resolved := Array.replicate 8 none
  statics := none }

/-- the primitive byte -/
def k5 : Class := { plain "byte" none with kind := .primitive 'B', accessFlags := 0x411 }
/-- [B -/
def k6 : Class := { plain "[B" (some 0) with kind := .array 5 .byte, interfaces := #[3, 4], accessFlags := 1041 }

/-- the primitive int -/
def k7 : Class := { plain "int" none with kind := .primitive 'I', accessFlags := 0x411 }
/-- [I -/
def k8 : Class := { plain "[I" (some 0) with kind := .array 7 .int, interfaces := #[3, 4], accessFlags := 1041 }

def heap : Heap := #[]
def classes : Array Class := #[k0, k1, k2, k3, k4, k5, k6, k7, k8]
def interned : List (Array UInt16 × Addr) := []
def slotsUsed : Nat := 0
def theMethod : MethodId := ⟨1, 1⟩
def args0 : Array Value := #[.int 5, .int 3]
def aboutOver (below : List Frame) : State where
  vm := { classes := classes, interned := interned.toArray }
  heap := heap
  slotsUsed := slotsUsed
  threads := #[{ frames := .invoking theMethod args0 :: below }]
def below0 : List Frame := [.native { method := ⟨0, 0⟩, args := #[] }]
def about1 : State := aboutOver below0
def p0 : Program := .bare "" "" ""
def e0 : Env := launch0.env 0 0 0
theorem w_frames : about1.frames = Frame.invoking theMethod args0 :: below0 := rfl
set_option maxRecDepth 65536 in
theorem w_args : argsFit about1.vm theMethod args0 = true := by decide +kernel
set_option maxRecDepth 65536 in
theorem w_heap : heapFits about1 = true := by decide +kernel
set_option maxRecDepth 65536 in
theorem w_runnable : about1.curStatus? = some .runnable := by decide +kernel
set_option maxRecDepth 65536 in
theorem w_alone : about1.alone = true := by decide +kernel
set_option maxRecDepth 65536 in
theorem w_named : about1.methodNamed? x = some theMethod := by decide +kernel
set_option maxRecDepth 65536 in
theorem w_hears : about1.hears theMethod below0 = true := by decide +kernel
set_option maxRecDepth 65536 in
theorem w_ripe : about1.ripe theMethod args0 below0 = true := by decide +kernel
theorem w_running : about1.status = .running := rfl
set_option maxRecDepth 65536 in
theorem w_room : about1.hasRoom e0.platform room_1 = true :=
  launch0.hasRoom_least _ room_1 (by decide +kernel) (by decide +kernel) (by decide +kernel) (by decide +kernel) (by decide +kernel) (by decide +kernel)
theorem allAtoms_all (ts : List Jvm.Cond) (a : Array Jvm.Value) (st : Jvm.State) : (allAtoms ts).before a st = ts.all (fun c => c.before a st) := by
  induction ts with
  | nil => rfl
  | cons c t ih =>
    show (Jvm.Cond.and c (allAtoms t)).before a st = _
    rw [Jvm.Cond.before_and, ih, List.all_cons]
def words1 : List Jvm.Cond := Jvm.Cond.code x code maxLocals ret :: tables_1
/-- a 'code' word, met by the world's own term for the bytes: nothing is compared byte by byte -/
theorem code_word {y : MethodName} {bytes : ByteArray} {mx : Nat} {rt : Option FieldType} {a : Array Value} {s : State} {m : MethodId} {meth : Method} {c : Code} (h1 : s.methodNamed? y = some m) (h2 : s.vm.method? m = some meth) (h3 : meth.code = some c) (h4 : c.code = bytes)
    (h5 : (c.maxLocals == mx && c.exceptionTable.isEmpty && decide (c.maxStack ≤ mostOperands) && decide (meth.sig.returnType = rt) && !meth.locks && decide (parseMethodDescriptor y.desc = some meth.sig)) = true) : (Jvm.Cond.code y bytes mx rt).before a s = true := by
  simp only [Bool.and_eq_true, beq_iff_eq, Bool.not_eq_true', decide_eq_true_eq] at h5
  obtain ⟨⟨⟨⟨⟨g1, g2⟩, g3⟩, g4⟩, g5⟩, g6⟩ := h5
  simp [Cond.before, Cond.holds, Cond.value, h1, h2, h3, h4, g1, g2, g3, g4, g5, g6]
def isCode : Jvm.Cond → Bool
  | .code _ _ _ _ => true
  | _ => false
theorem all_split {L : List Jvm.Cond} {P : Jvm.Cond → Bool} (h1 : L.all (fun c => isCode c || P c) = true) (h2 : ∀ c ∈ L.filter isCode, P c = true) : L.all P = true := by
  refine List.all_eq_true.mpr fun c hc => ?_
  have h := List.all_eq_true.mp h1 c hc
  rcases Bool.eq_false_or_eq_true (isCode c) with hi | hi
  · exact h2 c (List.mem_filter.mpr ⟨hc, hi⟩)
  · simpa [hi] using h
set_option maxRecDepth 65536 in
theorem w_c0 : (Jvm.Cond.code x code maxLocals ret).before args0 about1 = true := code_word (m := ⟨1, 1⟩) (meth := k1m1) (c := k1c1) (by decide +kernel) rfl rfl rfl (by decide +kernel)
set_option maxRecDepth 65536 in
theorem w_c1 : (Jvm.Cond.code ({ cls := "com/example/wearcourse/wearcourse/data/PairwiseComparison", name := "isOnScale", desc := "(D)Z" } : Jvm.MethodName) prog_34_method_8_code (2 : Nat) (Option.some Jvm.ClassFile.FieldType.boolean)).before args0 about1 = true := code_word (m := ⟨2, 0⟩) (meth := k2m0) (c := k2c0) (by decide +kernel) rfl rfl rfl (by decide +kernel)
def codes1 : List Jvm.Cond := [Jvm.Cond.code x code maxLocals ret, Jvm.Cond.code ({ cls := "com/example/wearcourse/wearcourse/data/PairwiseComparison", name := "isOnScale", desc := "(D)Z" } : Jvm.MethodName) prog_34_method_8_code (2 : Nat) (Option.some Jvm.ClassFile.FieldType.boolean)]
set_option maxRecDepth 65536 in
theorem codes_eq : words1.filter isCode = codes1 := rfl
theorem w_codes : ∀ c ∈ words1.filter isCode, c.before args0 about1 = true := by
  rw [codes_eq]
  intro c hc
  simp only [codes1, List.mem_cons, List.not_mem_nil, or_false] at hc
  rcases hc with rfl | rfl
  · exact w_c0
  · exact w_c1
set_option maxRecDepth 65536 in
theorem w_t1 : words1.all (fun c => isCode c || c.before args0 about1) = true := by decide +kernel
theorem w_tables : (allAtoms (Jvm.Cond.code x code maxLocals ret :: tables_1)).before args0 about1 = true := by
  rw [allAtoms_all]
  show words1.all (fun c => c.before args0 about1) = true
  refine all_split ?_ w_codes
  rw [w_t1]
set_option maxRecDepth 65536 in
theorem w_case : (Jvm.Cond.and given_1 narrow_1).before args0 about1 = true := by decide +kernel
theorem w_applies : (headSpec (Jvm.Cond.code x code maxLocals ret :: tables_1) room_1).applies x e0.platform about1 = true :=
  (Spec.applies_iff w_frames).mpr ⟨w_running, w_runnable, w_alone, w_named, w_hears, w_ripe, w_room, w_tables⟩
theorem atStart : AtStart classFile x code maxLocals ret World_1 tables_1 room_1 Calls_1 rest_1 Pre_1 launch0 p0 e0 about1 theMethod args0 below0 :=
  ⟨lists_1, trivial, launch0.admits_env _ _ _, launch0.least_env, fairChoices_fair.cas, fairChoices_fair.clock, w_frames, w_args, w_heap, w_applies, trivial, trivial, w_case⟩
end start1
theorem witness_1 : WitnessClaimed_1 := ⟨start1.p0, start1.e0, start1.about1, start1.theMethod, start1.args0, start1.below0, start1.atStart⟩
end Jvm.Pilot.@@N@@
