import JvmDerived
import JvmDerived.Pilot.@@N@@Statement
import JvmDerived.Pilot.@@N@@Code
set_option linter.unusedVariables false
set_option linter.unusedSimpArgs false
namespace Jvm.Pilot.@@N@@
open Jvm Jvm.ClassFile Sem Op Lib Jvm.Free Jvm.Stand Jvm.LawKit Jvm.RoadKit Bundle Jvm.Pilot.@@N@@.Jvm.D
section OwnKit
variable {p : Program} {l : Launch} {e : Env} {R : Room} {s : State} {m : MethodId} {args : Array Value} {below : List Frame} {meth : Method} {c : Code} {T T' : State} {locs : List Loc} {cells slots : Nat} {Z : State} {a0 : Array Value} {h h0 : Heap} {Q : Option Value → Heap → List Loc → Prop} {kc ks : Nat} {f f' : JFrame}
/-- from T with the frame f on top the run ends as Q says -/
def own_Ends (p : Program) (e : Env) (below : List Frame) (s : State) (Q : Option Value → Heap → List Loc → Prop) (kc ks : Nat) (T : State) (f : JFrame) : Prop :=
  ∃ s₂ o, Steps p.tables e below (T.setTop f) s₂ ∧ s₂.status = .running ∧ Ended s₂ below o ∧ ∃ v L, o = .returned v ∧ Q v s₂.heap L ∧ FrameEnd s o s₂ L kc ks
theorem own_go (st : ∀ target, Steps p.tables e below (T'.setTop f') target → Steps p.tables e below (T.setTop f) target) (k : own_Ends p e below s Q kc ks T' f') : own_Ends p e below s Q kc ks T f := by
  obtain ⟨s₂, o, h1, r⟩ := k
  exact ⟨s₂, o, st _ h1, r⟩
theorem own_fin (X : Stand p l e R s m args below meth c T locs cells slots) (v : Option Value) (hlk : meth.locks = false) (hv : meth.sig.returnType = none → v = none)
    (st : ∀ fs, (∀ (f : JFrame) (acts : List Action), f.method = m → f.locked = none → f.entered = [] → (doReturn e (T.setTop f) acts v).1 = T.setFrames fs) → Steps p.tables e below (T.setTop f) (T.setFrames fs))
    (eT : T.heap = h) (hQ : Q v h locs) (hc : cells ≤ kc) (hs : slots ≤ ks) : own_Ends p e below s Q kc ks T f := by
  subst eT
  obtain ⟨fs, hr, hrun, hended, hW, hsame⟩ := X.leave (v := v) hv hlk
  exact ⟨_, _, st fs hr, hrun, hended, v, locs, rfl, hQ, ⟨_, rfl⟩, hW, hsame.mono hc hs⟩
theorem own_retN (X : Stand p l e R s m args below meth c T locs cells slots) (hx : p.tables.exec = Jvm.exec) (hlk : meth.locks = false) {pc : Nat} {Ls : Array Slot} {z : Int32} {t : FieldType} {rest : List Value} (hret : meth.sig.returnType = some t) (ht : t = .boolean ∨ t = .byte ∨ t = .char ∨ t = .short)
    (hd : decode c.code pc = .ok (.ireturn, 1)) (eT : T.heap = h) (hc : cells ≤ kc) (hs : slots ≤ ks) (hQ : Q (some (.int (nar t z))) h locs) : own_Ends p e below s Q kc ks T (mkF m pc Ls (.int z :: rest)) :=
  own_fin X _ hlk (fun q => by rw [hret] at q; cases q) (fun fs hr => Jvm.RoadKit.retN X hx hret ht hd hr) eT hQ hc hs
theorem own_retI (X : Stand p l e R s m args below meth c T locs cells slots) (hx : p.tables.exec = Jvm.exec) (hlk : meth.locks = false) {pc : Nat} {Ls : Array Slot} {z : Int32} {rest : List Value} (hret : meth.sig.returnType = some .int)
    (hd : decode c.code pc = .ok (.ireturn, 1)) (eT : T.heap = h) (hc : cells ≤ kc) (hs : slots ≤ ks) (hQ : Q (some (.int z)) h locs) : own_Ends p e below s Q kc ks T (mkF m pc Ls (.int z :: rest)) :=
  own_fin X _ hlk (fun q => by rw [hret] at q; cases q) (fun fs hr => Jvm.RoadKit.retOut X hx hret rfl (Or.inl ⟨rfl, Or.inl rfl, _, rfl⟩) hd hr) eT hQ hc hs
theorem own_retJ (X : Stand p l e R s m args below meth c T locs cells slots) (hx : p.tables.exec = Jvm.exec) (hlk : meth.locks = false) {pc : Nat} {Ls : Array Slot} {z : Int64} {rest : List Value} (hret : meth.sig.returnType = some .long)
    (hd : decode c.code pc = .ok (.lreturn, 1)) (eT : T.heap = h) (hc : cells ≤ kc) (hs : slots ≤ ks) (hQ : Q (some (.long z)) h locs) : own_Ends p e below s Q kc ks T (mkF m pc Ls (.long z :: rest)) :=
  own_fin X _ hlk (fun q => by rw [hret] at q; cases q) (fun fs hr => Jvm.RoadKit.retOut X hx hret rfl (Or.inr (Or.inl ⟨rfl, rfl, _, rfl⟩)) hd hr) eT hQ hc hs
theorem own_retD (X : Stand p l e R s m args below meth c T locs cells slots) (hx : p.tables.exec = Jvm.exec) (hlk : meth.locks = false) {pc : Nat} {Ls : Array Slot} {z : UInt64} {rest : List Value} (hret : meth.sig.returnType = some .double)
    (hd : decode c.code pc = .ok (.dreturn, 1)) (eT : T.heap = h) (hc : cells ≤ kc) (hs : slots ≤ ks) (hQ : Q (some (.double z)) h locs) : own_Ends p e below s Q kc ks T (mkF m pc Ls (.double z :: rest)) :=
  own_fin X _ hlk (fun q => by rw [hret] at q; cases q) (fun fs hr => Jvm.RoadKit.retOut X hx hret rfl (Or.inr (Or.inr (Or.inl ⟨rfl, rfl, _, rfl⟩))) hd hr) eT hQ hc hs
theorem own_narR {t : FieldType} {v : Value} (ht : t.isReference = true) : narrow t v = v := by cases t <;> first | (cases ht; done) | (cases v <;> rfl)
theorem own_retR (X : Stand p l e R s m args below meth c T locs cells slots) (hx : p.tables.exec = Jvm.exec) (hlk : meth.locks = false) {pc : Nat} {Ls : Array Slot} {v : Value} {t : FieldType} {rest : List Value} (hret : meth.sig.returnType = some t) (ht : t.isReference = true) (hv : v.isRef = true)
    (hd : decode c.code pc = .ok (.areturn, 1)) (eT : T.heap = h) (hc : cells ≤ kc) (hs : slots ≤ ks) (hQ : Q (some v) h locs) : own_Ends p e below s Q kc ks T (mkF m pc Ls (v :: rest)) :=
  own_fin X _ hlk (fun q => by rw [hret] at q; cases q) (fun fs hr => Jvm.RoadKit.retOut X hx hret (own_narR ht) (Or.inr (Or.inr (Or.inr (Or.inr ⟨rfl, ht, hv⟩)))) hd hr) eT hQ hc hs
theorem own_retV (X : Stand p l e R s m args below meth c T locs cells slots) (hx : p.tables.exec = Jvm.exec) (hlk : meth.locks = false) {pc : Nat} {Ls : Array Slot} (hret : meth.sig.returnType = none)
    (hd : decode c.code pc = .ok (.return_, 1)) (eT : T.heap = h) (hc : cells ≤ kc) (hs : slots ≤ ks) (hQ : Q none h locs) : own_Ends p e below s Q kc ks T (mkF m pc Ls []) :=
  own_fin X none hlk (fun _ => rfl) (fun fs hr => X.returnOut hx hret hd hr) eT hQ hc hs
/-- a body's contract: called with the arguments as' on the heap h0, over tables warmer than Z's, it returns as Q says -/
abbrev own_Met (l : Launch) (y : MethodName) (bytes : ByteArray) (maxL : Nat) (ret : Option FieldType) (rm : Room) (ws : List Jvm.Cond) (as' : Array Value) (Z : State) (h0 : Heap) (Q : Option Value → Heap → List Loc → Prop) : Prop :=
  MetFree l y (head1 (Jvm.Cond.code y bytes maxL ret :: ws) rm) (fun a U => a = as' ∧ Z.Warmed39 U.vm ∧ U.heap = h0) (fun _ _ _ _ _ => True) (fun _ U o U' => ∃ v L, o = .returned v ∧ Q v U'.heap L ∧ FrameEnd U o U' L rm.cells rm.slots)
theorem own_met {y : MethodName} {bytes : ByteArray} {maxL : Nat} {ret : Option FieldType} {rm : Room} {ws : List Jvm.Cond} {as' : Array Value} (hy : plainFor y = true)
    (body : ∀ (p : Program) (e : Env) (s : State) (m : MethodId) (below : List Frame) (meth : Method) (c : Code) (s₁ : State), p.tables.exec = Jvm.exec → Stand p l e rm s m as' below meth c s₁ [] 0 0 → Z.Warmed39 s.vm → s₁.heap = h0 → c.code = bytes → c.maxLocals = maxL →
      s.vm.findClass y.cls = some m.cls → meth.name = y.name → meth.sig.returnType = ret → meth.locks = false → own_Ends p e below s Q rm.cells rm.slots s₁ (entryFrame m as' maxL)) :
    own_Met l y bytes maxL ret rm ws as' Z h0 Q := by
  refine MetFree.of_bodySF hy hisR ?_
  intro p e s m args below meth c s₁ Bd hml0 hP hK
  obtain ⟨rfl, hZ, hh⟩ := hP
  exact body p e s m below meth c s₁ Bd.exec (Stand.of_body Bd) hZ (by rw [← hh, Bd.state]; rfl) Bd.bytes hml0 (findClass_of_methodNamed Bd.named) (name_of_methodNamed Bd.named Bd.method).1 Bd.returns Bd.notSynchronized
theorem own_at {f f' : JFrame} (q : f = f') (k : own_Ends p e below s Q kc ks T f') : own_Ends p e below s Q kc ks T f := q ▸ k
/-- a static call -/
theorem own_callS (X : Stand p l e R s m args below meth c T locs cells slots) (hx : p.tables.exec = Jvm.exec) (hZ : Z.Warmed39 s.vm) {own : String} {index : Nat} {y : MethodName} {bytes : ByteArray} {maxL : Nat} {ret : Option FieldType} {rm : Room} {as' : Array Value} {Q' : Option Value → Heap → List Loc → Prop}
    (hown : s.vm.findClass own = some m.cls) (w1 : (Jvm.Cond.methodLink own index y).before a0 Z = true) (w2 : (Jvm.Cond.static y).before a0 Z = true) (w3 : (Jvm.Cond.initialized y.cls).before a0 Z = true) (w4 : (Jvm.Cond.code y bytes maxL ret).before a0 Z = true)
    (hy : y.cls ≠ "java/lang/invoke/MethodHandle" ∧ y.cls ≠ "java/lang/invoke/VarHandle") (hM : own_Met l y bytes maxL ret rm [] as' Z h Q') (eT : T.heap = h) {g : JFrame} (hg : g.method = m) (hsize : g.locals.size = c.maxLocals) (argsL rest : List Value) (has : argsL.toArray = as')
    (hlen : ∀ sig, parseMethodDescriptor y.desc = some sig → argsL.length = sig.parameters.length) (hstack : g.stack = argsL.reverse ++ rest) (W : Nat) (hW : 2 * g.monitorRoom + (rest.map fun v => v.category).sum ≤ W) (hdg : decode c.code g.pc = .ok (.invokestatic index, 3))
    (hf : rm.frames + 1 ≤ R.frames) (hl : W + (maxL + 11) + rm.locals ≤ R.locals) (hc : cells + rm.cells ≤ R.cells) (hs : slots + rm.slots ≤ R.slots) :
    ∃ (T' : State) (v : Option Value) (L : List Loc), Stand p l e R s m args below meth c T' (locs ++ L) (cells + rm.cells) (slots + rm.slots) ∧ Q' v T'.heap L ∧ ∀ target, Steps p.tables e below (T'.setTop { g with pc := g.pc + 3, stack := v.toList ++ rest }) target → Steps p.tables e below (T.setTop g) target := by
  obtain ⟨v, vm1, ⟨T1, L1, k1, n1⟩, -, X1, ⟨Lc, hQ, l1, y1, z1⟩, st⟩ := Jvm.LawKit.callS X hx hown (mvT hZ w1) (mvT hZ w2) (mvT hZ w3) (mvT hZ w4) hy (backOf (W := W) hM hZ w4 w3 hf hl) hg hsize hlen hstack hW hdg (fun _ _ => ⟨has, eT, hc, hs⟩)
  dsimp only [Pt.U, Pt.locs, Pt.cells, Pt.slots] at X1 l1 y1 z1 st hQ
  subst l1 y1 z1
  exact ⟨T1, v, Lc, X1, hQ, st⟩
/-- a constructor -/
theorem own_callN (X : Stand p l e R s m args below meth c T locs cells slots) (hx : p.tables.exec = Jvm.exec) (hZ : Z.Warmed39 s.vm) {own : String} {index : Nat} {y : MethodName} {bytes : ByteArray} {maxL : Nat} {rm : Room} {as' : Array Value} {Q' : Option Value → Heap → List Loc → Prop}
    (hy1 : y.name = "<init>") (hown : s.vm.findClass own = some m.cls) (w1 : (Jvm.Cond.methodLink own index y).before a0 Z = true) (w2 : (Jvm.Cond.instanceMethod y).before a0 Z = true) (w3 : (Jvm.Cond.initialized y.cls).before a0 Z = true) (w4 : (Jvm.Cond.code y bytes maxL none).before a0 Z = true)
    (hy : y.cls ≠ "java/lang/invoke/MethodHandle" ∧ y.cls ≠ "java/lang/invoke/VarHandle") (hM : own_Met l y bytes maxL none rm [] as' Z h Q') (eT : T.heap = h) {g : JFrame} (hg : g.method = m) (hsize : g.locals.size = c.maxLocals) (b : Addr) (argsL rest : List Value) (has : (.ref b :: argsL).toArray = as')
    (hlen : ∀ sig, parseMethodDescriptor y.desc = some sig → argsL.length = sig.parameters.length) (hstack : g.stack = argsL.reverse ++ .ref b :: rest) (W : Nat) (hW : 2 * g.monitorRoom + (rest.map fun v => v.category).sum ≤ W) (hdg : decode c.code g.pc = .ok (.invokespecial index, 3))
    (hf : rm.frames + 1 ≤ R.frames) (hl : W + (maxL + 11) + rm.locals ≤ R.locals) (hc : cells + rm.cells ≤ R.cells) (hs : slots + rm.slots ≤ R.slots) :
    ∃ (T' : State) (v : Option Value) (L : List Loc), Stand p l e R s m args below meth c T' (locs ++ L) (cells + rm.cells) (slots + rm.slots) ∧ Q' v T'.heap L ∧ ∀ target, Steps p.tables e below (T'.setTop { g with pc := g.pc + 3, stack := v.toList ++ rest }) target → Steps p.tables e below (T.setTop g) target := by
  obtain ⟨v, vm1, ⟨T1, L1, k1, n1⟩, -, X1, ⟨Lc, hQ, l1, y1, z1⟩, st⟩ := X.specialBack hx hy1 hown (mvT hZ w1) (mvT hZ w2) (mvT hZ w4) hy (backOf (W := W) hM hZ w4 w3 hf hl) hg hsize (Steps.refl _) (a := b) hlen hstack hW hdg (fun _ _ => ⟨has, eT, hc, hs⟩)
  dsimp only [Pt.U, Pt.locs, Pt.cells, Pt.slots] at X1 l1 y1 z1 st hQ
  subst l1 y1 z1
  exact ⟨T1, v, Lc, X1, hQ, fun t k => st.trans k⟩
/-- a virtual call: y resolved, z selected by the class C -/
theorem own_callV (X : Stand p l e R s m args below meth c T locs cells slots) (hx : p.tables.exec = Jvm.exec) (hZ : Z.Warmed39 s.vm) {own C : String} {index : Nat} {y z : MethodName} {bytes : ByteArray} {maxL : Nat} {ret : Option FieldType} {rm : Room} {as' : Array Value} {Q' : Option Value → Heap → List Loc → Prop}
    (hown : s.vm.findClass own = some m.cls) (w1 : (Jvm.Cond.methodLink own index y).before a0 Z = true) (w2 : (Jvm.Cond.declares y).before a0 Z = true) (hnf : NotFace s y) (w5 : (Jvm.Cond.selects C y z).before a0 Z = true) (w6 : (Jvm.Cond.instanceMethod z).before a0 Z = true)
    (w3 : (Jvm.Cond.initialized z.cls).before a0 Z = true) (w4 : (Jvm.Cond.code z bytes maxL ret).before a0 Z = true)
    (hy : y.cls ≠ "java/lang/invoke/MethodHandle" ∧ y.cls ≠ "java/lang/invoke/VarHandle") (hM : own_Met l z bytes maxL ret rm [] as' Z h Q') (eT : T.heap = h) {g : JFrame} (hg : g.method = m) (hsize : g.locals.size = c.maxLocals) (b : Addr) (hE : Exa Z h b C) (argsL rest : List Value) (has : (.ref b :: argsL).toArray = as')
    (hlen : ∀ sig, parseMethodDescriptor y.desc = some sig → argsL.length = sig.parameters.length) (hstack : g.stack = argsL.reverse ++ .ref b :: rest) (W : Nat) (hW : 2 * g.monitorRoom + (rest.map fun v => v.category).sum ≤ W) (hdg : decode c.code g.pc = .ok (.invokevirtual index, 3))
    (hf : rm.frames + 1 ≤ R.frames) (hl : W + (maxL + 11) + rm.locals ≤ R.locals) (hc : cells + rm.cells ≤ R.cells) (hs : slots + rm.slots ≤ R.slots) :
    ∃ (T' : State) (v : Option Value) (L : List Loc), Stand p l e R s m args below meth c T' (locs ++ L) (cells + rm.cells) (slots + rm.slots) ∧ Q' v T'.heap L ∧ ∀ target, Steps p.tables e below (T'.setTop { g with pc := g.pc + 3, stack := v.toList ++ rest }) target → Steps p.tables e below (T.setTop g) target := by
  obtain ⟨cq, kq, qa, qb, qc⟩ := isOf hZ eT hE
  obtain ⟨v, vm1, ⟨T1, L1, k1, n1⟩, -, X1, ⟨Lc, hQ, l1, y1, z1⟩, st⟩ := X.virtualBack hx hown (mvT hZ w1) (mvT hZ w2) hnf (mvT hZ w5) (mvT hZ w6) hy (backOf (W := W) hM hZ w4 w3 hf hl) qa qc hg hsize (Steps.refl _) hlen hstack hW hdg (fun _ _ => ⟨has, eT, hc, hs⟩)
  dsimp only [Pt.U, Pt.locs, Pt.cells, Pt.slots] at X1 l1 y1 z1 st hQ
  subst l1 y1 z1
  exact ⟨T1, v, Lc, X1, hQ, fun t k => st.trans k⟩
/-- a virtual call whose method is declared further up, by the class 'owner' -/
theorem own_callVU (X : Stand p l e R s m args below meth c T locs cells slots) (hx : p.tables.exec = Jvm.exec) (hZ : Z.Warmed39 s.vm) {own C owner : String} {index : Nat} {y z : MethodName} {bytes : ByteArray} {maxL : Nat} {ret : Option FieldType} {rm : Room} {as' : Array Value} {Q' : Option Value → Heap → List Loc → Prop}
    (hown : s.vm.findClass own = some m.cls) (w1 : (Jvm.Cond.methodLink own index y).before a0 Z = true) (w2 : (Jvm.Cond.sameMethod y.cls owner y.name y.desc).before a0 Z = true) (w7 : (Jvm.Cond.declares ⟨owner, y.name, y.desc⟩).before a0 Z = true) (w5 : (Jvm.Cond.selects C y z).before a0 Z = true) (w6 : (Jvm.Cond.instanceMethod z).before a0 Z = true)
    (w3 : (Jvm.Cond.initialized z.cls).before a0 Z = true) (w4 : (Jvm.Cond.code z bytes maxL ret).before a0 Z = true)
    (hy : owner ≠ "java/lang/invoke/MethodHandle" ∧ owner ≠ "java/lang/invoke/VarHandle") (hM : own_Met l z bytes maxL ret rm [] as' Z h Q') (eT : T.heap = h) {g : JFrame} (hg : g.method = m) (hsize : g.locals.size = c.maxLocals) (b : Addr) (hE : Exa Z h b C) (argsL rest : List Value) (has : (.ref b :: argsL).toArray = as')
    (hlen : ∀ sig, parseMethodDescriptor y.desc = some sig → argsL.length = sig.parameters.length) (hstack : g.stack = argsL.reverse ++ .ref b :: rest) (W : Nat) (hW : 2 * g.monitorRoom + (rest.map fun v => v.category).sum ≤ W) (hdg : decode c.code g.pc = .ok (.invokevirtual index, 3))
    (hf : rm.frames + 1 ≤ R.frames) (hl : W + (maxL + 11) + rm.locals ≤ R.locals) (hc : cells + rm.cells ≤ R.cells) (hs : slots + rm.slots ≤ R.slots) :
    ∃ (T' : State) (v : Option Value) (L : List Loc), Stand p l e R s m args below meth c T' (locs ++ L) (cells + rm.cells) (slots + rm.slots) ∧ Q' v T'.heap L ∧ ∀ target, Steps p.tables e below (T'.setTop { g with pc := g.pc + 3, stack := v.toList ++ rest }) target → Steps p.tables e below (T.setTop g) target := by
  obtain ⟨cq, kq, qa, qb, qc⟩ := isOf hZ eT hE
  obtain ⟨v, vm1, ⟨T1, L1, k1, n1⟩, -, X1, ⟨Lc, hQ, l1, y1, z1⟩, st⟩ := X.virtualBackUp hx hown (mvT hZ w1) (mvT hZ w2) (mvT hZ w7) hy (mvT hZ w5) (mvT hZ w6) (backOf (W := W) hM hZ w4 w3 hf hl) qa qc hg hsize (Steps.refl _) hlen hstack hW hdg (fun _ _ => ⟨has, eT, hc, hs⟩)
  dsimp only [Pt.U, Pt.locs, Pt.cells, Pt.slots] at X1 l1 y1 z1 st hQ
  subst l1 y1 z1
  exact ⟨T1, v, Lc, X1, hQ, fun t k => st.trans k⟩
/-- calls by a 'Back' -/
theorem own_callNB (X : Stand p l e R s m args below meth c T locs cells slots) (hx : p.tables.exec = Jvm.exec) (hZ : Z.Warmed39 s.vm) {own : String} {index : Nat} {y : MethodName} {bytes : ByteArray} {maxL : Nat} {as' : Array Value} {Q' : Option Value → Heap → List Loc → Prop} {W rc rs : Nat}
    (hy1 : y.name = "<init>") (hown : s.vm.findClass own = some m.cls) (w1 : (Jvm.Cond.methodLink own index y).before a0 Z = true) (w2 : (Jvm.Cond.instanceMethod y).before a0 Z = true) (w4 : (Jvm.Cond.code y bytes maxL none).before a0 Z = true)
    (hy : y.cls ≠ "java/lang/invoke/MethodHandle" ∧ y.cls ≠ "java/lang/invoke/VarHandle")
    (hK : Back l R p e below s args y 3 W (fun A a => a = as' ∧ A.U.heap = h ∧ A.cells + rc ≤ R.cells ∧ A.slots + rs ≤ R.slots) (fun A _ v B => ∃ L, Q' v B.U.heap L ∧ B.locs = A.locs ++ L ∧ B.cells = A.cells + rc ∧ B.slots = A.slots + rs))
    (eT : T.heap = h) {g : JFrame} (hg : g.method = m) (hsize : g.locals.size = c.maxLocals) (b : Addr) (argsL rest : List Value) (has : (.ref b :: argsL).toArray = as')
    (hlen : ∀ sig, parseMethodDescriptor y.desc = some sig → argsL.length = sig.parameters.length) (hstack : g.stack = argsL.reverse ++ .ref b :: rest) (hW : 2 * g.monitorRoom + (rest.map fun v => v.category).sum ≤ W) (hdg : decode c.code g.pc = .ok (.invokespecial index, 3))
    (hc : cells + rc ≤ R.cells) (hs : slots + rs ≤ R.slots) :
    ∃ (T' : State) (v : Option Value) (L : List Loc), Stand p l e R s m args below meth c T' (locs ++ L) (cells + rc) (slots + rs) ∧ Q' v T'.heap L ∧ ∀ target, Steps p.tables e below (T'.setTop { g with pc := g.pc + 3, stack := v.toList ++ rest }) target → Steps p.tables e below (T.setTop g) target := by
  obtain ⟨v, vm1, ⟨T1, L1, k1, n1⟩, -, X1, ⟨Lc, hQ, l1, y1, z1⟩, st⟩ := X.specialBack hx hy1 hown (mvT hZ w1) (mvT hZ w2) (mvT hZ w4) hy hK hg hsize (Steps.refl _) (a := b) hlen hstack hW hdg (fun _ _ => ⟨has, eT, hc, hs⟩)
  dsimp only [Pt.U, Pt.locs, Pt.cells, Pt.slots] at X1 l1 y1 z1 st hQ
  subst l1 y1 z1
  exact ⟨T1, v, Lc, X1, hQ, fun t k => st.trans k⟩
theorem own_fldI {t : Jvm.Term} {a : Addr} {C n d : String} {k : Int32} (ev : t.eval args s none [] s = some (.ref a)) (hq : (Jvm.Cond.eq (Jvm.Term.field t C n d) (Jvm.Term.int k)).value args s none s [] = some true) : Fld s s.heap a C n d (.int k) := by
  obtain ⟨x, y, e1, e2, k1, -⟩ := cmp_v (Or.inl hq)
  have e2' : y = .int k := by have := e2; simp only [Jvm.Term.eval] at this; exact (Option.some.inj this).symm
  subst e2'
  have hx : x = .int k := by
    simp only [Jvm.Cond.value, e1, e2] at hq
    cases x <;> simp_all [Kin, Value.isRef]
  subst hx
  exact Fld.start ((fld_at ev).symm.trans e1)
theorem own_irem {g : JFrame} {target : State} (X : Stand p l e R s m args below meth c T locs cells slots) (hx : p.tables.exec = Jvm.exec) (hg : g.method = m) {x y : Int32} {rest : List Value} (hd : decode c.code g.pc = .ok (.irem, 1)) (hs : g.stack = .int y :: .int x :: rest) (hy : y ≠ 0)
    (hr : Steps p.tables e below (T.setTop { g with pc := g.pc + 1, stack := .int (x % y) :: rest }) target) : Steps p.tables e below (T.setTop g) target := iremM X hx hg hd hs hy hr
theorem own_fitR {t : FieldType} {v : Value} (hv : v.isRef = true) (ht : t.isReference = true) : fits t v = true := by cases t <;> first | (cases ht; done) | (cases v <;> first | rfl | (cases hv; done))
theorem own_staK {C n d : String} {v : Value} {h' : Heap} {ws : List Addr} (F : Sta Z h C n d v) (K : Keep h h' ws) (q : ∀ x ∈ ws, ∀ cell : Cell, h[x]? = some cell → cell.vm.isStatics = false) : Sta Z h' C n d v := by
  obtain ⟨cf, i, k, f, st, cell, h1, h2, h3, h4, h5, h6, h7⟩ := F
  exact ⟨cf, i, k, f, st, cell, h1, h2, h3, h4, K.2.1 _ _ h5 (fun hm => by rw [q st hm cell h5] at h6; cases h6), h6, h7⟩
end OwnKit
/-- what isBetter answers: hi tells whether the scale is the higher-better one -/
def own_bet (hi : Prop) [Decidable hi] (x y : Int32) : Int32 := if hi then (if y < x then 1 else 0) else (if x < y then 1 else 0)
theorem own_dgt (x y : Int32) : (0 : Int64) < x.toInt64 - y.toInt64 ↔ y < x := by
  have h1 := rng32 x; have h2 := rng32 y; have h3 := c_lsub x.toInt64 y.toInt64; have h4 := rng64 (x.toInt64 - y.toInt64)
  rw [c_i2l, c_i2l] at h3
  rw [Int64.lt_iff_toInt_lt, Int32.lt_iff_toInt_lt]
  have h5 : (0 : Int64).toInt = 0 := rfl
  omega
theorem own_dlt (x y : Int32) : x.toInt64 - y.toInt64 < (0 : Int64) ↔ x < y := by
  have h1 := rng32 x; have h2 := rng32 y; have h3 := c_lsub x.toInt64 y.toInt64; have h4 := rng64 (x.toInt64 - y.toInt64)
  rw [c_i2l, c_i2l] at h3
  rw [Int64.lt_iff_toInt_lt, Int32.lt_iff_toInt_lt]
  have h5 : (0 : Int64).toInt = 0 := rfl
  omega
theorem own_lf {x y : Int32} (h : x < y) : ¬ y < x := fun q => by rw [Int32.lt_iff_toInt_lt] at h q; omega
theorem d1_0 : decode prog_18_method_5_code 0 = .ok (.aload_n 0, 1) := by decide +kernel
theorem d1_1 : decode prog_18_method_5_code 1 = .ok (.getstatic 3, 3) := by decide +kernel
theorem d1_4 : decode prog_18_method_5_code 4 = .ok (.if_acmp .ne 16, 3) := by decide +kernel
theorem d1_7 : decode prog_18_method_5_code 7 = .ok (.iload_n 1, 1) := by decide +kernel
theorem d1_8 : decode prog_18_method_5_code 8 = .ok (.iload_n 2, 1) := by decide +kernel
theorem d1_9 : decode prog_18_method_5_code 9 = .ok (.if_icmp .le 7, 3) := by decide +kernel
theorem d1_12 : decode prog_18_method_5_code 12 = .ok (.iconst 1, 1) := by decide +kernel
theorem d1_13 : decode prog_18_method_5_code 13 = .ok (.goto 17, 3) := by decide +kernel
theorem d1_30 : decode prog_18_method_5_code 30 = .ok (.ireturn, 1) := by decide +kernel
theorem d1_16 : decode prog_18_method_5_code 16 = .ok (.iconst 0, 1) := by decide +kernel
theorem d1_17 : decode prog_18_method_5_code 17 = .ok (.goto 13, 3) := by decide +kernel
theorem d1_20 : decode prog_18_method_5_code 20 = .ok (.iload_n 1, 1) := by decide +kernel
theorem d1_21 : decode prog_18_method_5_code 21 = .ok (.iload_n 2, 1) := by decide +kernel
theorem d1_22 : decode prog_18_method_5_code 22 = .ok (.if_icmp .ge 7, 3) := by decide +kernel
theorem d1_25 : decode prog_18_method_5_code 25 = .ok (.iconst 1, 1) := by decide +kernel
theorem d1_26 : decode prog_18_method_5_code 26 = .ok (.goto 4, 3) := by decide +kernel
theorem d1_29 : decode prog_18_method_5_code 29 = .ok (.iconst 0, 1) := by decide +kernel
theorem pn1 : plainFor (⟨"com/example/wearcourse/wearcourse/data/ConditionScale", "isBetter", "(II)Z"⟩ : MethodName) = true := plainFor_of_name (by first | (simp [plainName, overriddenIn]; done) | decide +kernel)
set_option maxRecDepth 65536 in
set_option maxHeartbeats 40000000 in
theorem rm1 (l : Launch) (Z : State) (a0 : Array Value) (hw : ∀ d ∈ tables_1, d.before a0 Z = true) (ws : List Jvm.Cond)  (a0_ : Addr) (p1 p2 : Int32) (wH : Addr) (h0 : Heap) (n0 : Nat) (Z0 : n0 ≤ h0.size) (SH : Sta Z h0 "com/example/wearcourse/wearcourse/data/ConditionScale" "HIGHER_BETTER" "Lcom/example/wearcourse/wearcourse/data/ConditionScale;" (.ref wH)) :
    own_Met l (⟨"com/example/wearcourse/wearcourse/data/ConditionScale", "isBetter", "(II)Z"⟩ : MethodName) prog_18_method_5_code 3 (some .boolean) ({ frames := 0, cells := 0, slots := 0, locals := 0 } : Room) ws #[(.ref a0_), (.int p1), (.int p2)] Z h0 (fun v h L => v = some (.int (own_bet (a0_ = wH) p1 p2)) ∧ Fr n0 L ∧ h = h0) := by
  refine own_met pn1 ?_
  intro p e s m below meth c s₁ hx X0 hZ e0 hby hml hown hnm hret hlk
  have N0 := Fr.nil n0
  refine own_at (f' := mkF m 0 #[.val (.ref a0_), .val (.int p1), .val (.int p2)] []) (by first | rfl | (simp [entryFrame, mkF, argsToLocals, Value.category]; done)) ?_
  show own_Ends _ _ _ _ _ _ _ s₁ (mkF m 0 #[.val (.ref a0_), .val (.int p1), .val (.int p2)] [])
  refine own_go (fun t_ k_ => XS.aloadN X0.here hx rfl (hb hby d1_0) rfl rfl  k_) ?_
  show own_Ends _ _ _ _ _ _ _ s₁ (mkF m 1 #[.val (.ref a0_), .val (.int p1), .val (.int p2)] [(.ref a0_)])
  obtain ⟨T1, X1, e1, st1⟩ := getS2 X0 hx hZ hown (host := "") (Or.inl (hw _ (List.mem_of_getElem? (i := 8) rfl))) Via.refl e0 SH (g := (mkF m 1 #[.val (.ref a0_), .val (.int p1), .val (.int p2)] [(.ref a0_)])) rfl (hb hby d1_1)
  refine own_go st1 ?_
  show own_Ends _ _ _ _ _ _ _ T1 (mkF m 4 #[.val (.ref a0_), .val (.int p1), .val (.int p2)] [(.ref wH), (.ref a0_)])
  by_cases hc2 : a0_ = wH
  · refine own_go (fun t_ k_ => XT.acmpNo X1.here hx rfl (hb hby d1_4) rfl rfl rfl (XT.aa_ne_f (congrArg Value.ref hc2)) k_) ?_
    show own_Ends _ _ _ _ _ _ _ T1 (mkF m 7 #[.val (.ref a0_), .val (.int p1), .val (.int p2)] [])
    refine own_go (fun t_ k_ => XS.iloadN X1.here hx rfl (hb hby d1_7) rfl  k_) ?_
    show own_Ends _ _ _ _ _ _ _ T1 (mkF m 8 #[.val (.ref a0_), .val (.int p1), .val (.int p2)] [(.int p1)])
    refine own_go (fun t_ k_ => XS.iloadN X1.here hx rfl (hb hby d1_8) rfl  k_) ?_
    show own_Ends _ _ _ _ _ _ _ T1 (mkF m 9 #[.val (.ref a0_), .val (.int p1), .val (.int p2)] [(.int p2), (.int p1)])
    by_cases hc3 : p2 < p1
    · refine own_go (fun t_ k_ => XS.icmpNo X1.here hx rfl (hb hby d1_9) rfl (tlt hc3).2.2.2 k_) ?_
      show own_Ends _ _ _ _ _ _ _ T1 (mkF m 12 #[.val (.ref a0_), .val (.int p1), .val (.int p2)] [])
      refine own_go (fun t_ k_ => XS.iconst X1.here hx rfl (hb hby d1_12) k_) ?_
      show own_Ends _ _ _ _ _ _ _ T1 (mkF m 13 #[.val (.ref a0_), .val (.int p1), .val (.int p2)] [(.int (1 : Int32))])
      refine own_go (fun t_ k_ => XS.goto X1.here hx rfl (pc0 := 13) (pc' := 30) rfl (hb hby d1_13) (by decide) (by decide) k_) ?_
      show own_Ends _ _ _ _ _ _ _ T1 (mkF m 30 #[.val (.ref a0_), .val (.int p1), .val (.int p2)] [(.int (1 : Int32))])
      refine own_retN X1 hx hlk (t := .boolean) hret (by simp) (hb hby d1_30) e1 (by decide) (by decide) ?_
      exact ⟨by simp [own_bet, nar, hc2, hc3], N0, rfl⟩
    · refine own_go (fun t_ k_ => XS.icmpYes X1.here hx rfl (pc0 := 9) (pc' := 16) rfl (hb hby d1_9) rfl (flt hc3).2.2.2 (by decide) (by decide) k_) ?_
      show own_Ends _ _ _ _ _ _ _ T1 (mkF m 16 #[.val (.ref a0_), .val (.int p1), .val (.int p2)] [])
      refine own_go (fun t_ k_ => XS.iconst X1.here hx rfl (hb hby d1_16) k_) ?_
      show own_Ends _ _ _ _ _ _ _ T1 (mkF m 17 #[.val (.ref a0_), .val (.int p1), .val (.int p2)] [(.int (0 : Int32))])
      refine own_go (fun t_ k_ => XS.goto X1.here hx rfl (pc0 := 17) (pc' := 30) rfl (hb hby d1_17) (by decide) (by decide) k_) ?_
      show own_Ends _ _ _ _ _ _ _ T1 (mkF m 30 #[.val (.ref a0_), .val (.int p1), .val (.int p2)] [(.int (0 : Int32))])
      refine own_retN X1 hx hlk (t := .boolean) hret (by simp) (hb hby d1_30) e1 (by decide) (by decide) ?_
      exact ⟨by simp [own_bet, nar, hc2, hc3], N0, rfl⟩
  · refine own_go (fun t_ k_ => XT.acmpYes X1.here hx rfl (pc0 := 4) (pc' := 20) rfl (hb hby d1_4) rfl rfl rfl (XT.aa_ne_t (fun q => hc2 (Value.ref.inj q))) (by decide) (by decide) k_) ?_
    show own_Ends _ _ _ _ _ _ _ T1 (mkF m 20 #[.val (.ref a0_), .val (.int p1), .val (.int p2)] [])
    refine own_go (fun t_ k_ => XS.iloadN X1.here hx rfl (hb hby d1_20) rfl  k_) ?_
    show own_Ends _ _ _ _ _ _ _ T1 (mkF m 21 #[.val (.ref a0_), .val (.int p1), .val (.int p2)] [(.int p1)])
    refine own_go (fun t_ k_ => XS.iloadN X1.here hx rfl (hb hby d1_21) rfl  k_) ?_
    show own_Ends _ _ _ _ _ _ _ T1 (mkF m 22 #[.val (.ref a0_), .val (.int p1), .val (.int p2)] [(.int p2), (.int p1)])
    by_cases hc4 : p1 < p2
    · refine own_go (fun t_ k_ => XS.icmpNo X1.here hx rfl (hb hby d1_22) rfl (tlt hc4).2.1 k_) ?_
      show own_Ends _ _ _ _ _ _ _ T1 (mkF m 25 #[.val (.ref a0_), .val (.int p1), .val (.int p2)] [])
      refine own_go (fun t_ k_ => XS.iconst X1.here hx rfl (hb hby d1_25) k_) ?_
      show own_Ends _ _ _ _ _ _ _ T1 (mkF m 26 #[.val (.ref a0_), .val (.int p1), .val (.int p2)] [(.int (1 : Int32))])
      refine own_go (fun t_ k_ => XS.goto X1.here hx rfl (pc0 := 26) (pc' := 30) rfl (hb hby d1_26) (by decide) (by decide) k_) ?_
      show own_Ends _ _ _ _ _ _ _ T1 (mkF m 30 #[.val (.ref a0_), .val (.int p1), .val (.int p2)] [(.int (1 : Int32))])
      refine own_retN X1 hx hlk (t := .boolean) hret (by simp) (hb hby d1_30) e1 (by decide) (by decide) ?_
      exact ⟨by simp [own_bet, nar, hc2, hc4], N0, rfl⟩
    · refine own_go (fun t_ k_ => XS.icmpYes X1.here hx rfl (pc0 := 22) (pc' := 29) rfl (hb hby d1_22) rfl (flt hc4).2.1 (by decide) (by decide) k_) ?_
      show own_Ends _ _ _ _ _ _ _ T1 (mkF m 29 #[.val (.ref a0_), .val (.int p1), .val (.int p2)] [])
      refine own_go (fun t_ k_ => XS.iconst X1.here hx rfl (hb hby d1_29) k_) ?_
      show own_Ends _ _ _ _ _ _ _ T1 (mkF m 30 #[.val (.ref a0_), .val (.int p1), .val (.int p2)] [(.int (0 : Int32))])
      refine own_retN X1 hx hlk (t := .boolean) hret (by simp) (hb hby d1_30) e1 (by decide) (by decide) ?_
      exact ⟨by simp [own_bet, nar, hc2, hc4], N0, rfl⟩
theorem pd__II_Z : parseMethodDescriptor "(II)Z" = some ⟨[.int, .int], some .boolean⟩ := by decide +kernel
theorem pn0 : plainFor (⟨"com/example/wearcourse/wearcourse/data/ConditionScaleIsBetterPinLaw", "law", "(III)Z"⟩ : MethodName) = true := plainFor_of_name (by first | (simp [plainName, overriddenIn]; done) | decide +kernel)
set_option maxRecDepth 65536 in
set_option maxHeartbeats 40000000 in
theorem rm0 (l : Launch) (Z : State) (a0 : Array Value) (hw : ∀ d ∈ tables_1, d.before a0 Z = true) (ws : List Jvm.Cond) (p0 : Int32) (p1 : Int32) (p2 : Int32) (wL wH : Addr) (h0 : Heap) (n0 : Nat) (Z0 : n0 ≤ h0.size) (SH : Sta Z h0 "com/example/wearcourse/wearcourse/data/ConditionScale" "HIGHER_BETTER" "Lcom/example/wearcourse/wearcourse/data/ConditionScale;" (.ref wH)) (SL : Sta Z h0 "com/example/wearcourse/wearcourse/data/ConditionScale" "LOWER_BETTER" "Lcom/example/wearcourse/wearcourse/data/ConditionScale;" (.ref wL)) (EH : Exa Z h0 wH "com/example/wearcourse/wearcourse/data/ConditionScale") (EL : Exa Z h0 wL "com/example/wearcourse/wearcourse/data/ConditionScale") (hne : ¬ wL = wH) :
    own_Met l x code maxLocals ret room_1 ws #[(.int p0), (.int p1), (.int p2)] Z h0 (fun v h L => v = some (.int 1) ∧ Fr n0 L) := by
  refine own_met pn0 ?_
  intro p e s m below meth c s₁ hx X0 hZ e0 hby hml hown hnm hret hlk
  have N0 := Fr.nil n0
  refine own_at (f' := mkF m 0 #[.val (.int p0), .val (.int p1), .val (.int p2), .unset, .unset, .unset, .unset, .unset, .unset, .unset, .unset] []) (by first | rfl | (simp [entryFrame, mkF, argsToLocals, Value.category, maxLocals]; done)) ?_
  show own_Ends _ _ _ _ _ _ _ s₁ (mkF m 0 #[.val (.int p0), .val (.int p1), .val (.int p2), .unset, .unset, .unset, .unset, .unset, .unset, .unset, .unset] [])
  refine own_go (fun t_ k_ => XS.iloadN X0.here hx rfl (hb hby at_0) rfl  k_) ?_
  show own_Ends _ _ _ _ _ _ _ s₁ (mkF m 1 #[.val (.int p0), .val (.int p1), .val (.int p2), .unset, .unset, .unset, .unset, .unset, .unset, .unset, .unset] [(.int p2)])
  refine own_go (fun t_ k_ => XS.iconst X0.here hx rfl (hb hby at_1) k_) ?_
  show own_Ends _ _ _ _ _ _ _ s₁ (mkF m 2 #[.val (.int p0), .val (.int p1), .val (.int p2), .unset, .unset, .unset, .unset, .unset, .unset, .unset, .unset] [(.int (1 : Int32)), (.int p2)])
  refine own_go (fun t_ k_ => XS.iand X0.here hx rfl (hb hby at_2) rfl k_) ?_
  show own_Ends _ _ _ _ _ _ _ s₁ (mkF m 3 #[.val (.int p0), .val (.int p1), .val (.int p2), .unset, .unset, .unset, .unset, .unset, .unset, .unset, .unset] [(.int (p2 &&& (1 : Int32)))])
  by_cases hc1 : (p2 &&& (1 : Int32)) = (0 : Int32)
  · refine own_go (fun t_ k_ => XS.ifYes X0.here hx rfl (pc0 := 3) (pc' := 10) rfl (hb hby at_3) rfl ((if0 _ _).trans (teq hc1).1) (by decide) (by decide) k_) ?_
    show own_Ends _ _ _ _ _ _ _ s₁ (mkF m 10 #[.val (.int p0), .val (.int p1), .val (.int p2), .unset, .unset, .unset, .unset, .unset, .unset, .unset, .unset] [])
    refine own_go (fun t_ k_ => XS.iconst X0.here hx rfl (hb hby at_10) k_) ?_
    show own_Ends _ _ _ _ _ _ _ s₁ (mkF m 11 #[.val (.int p0), .val (.int p1), .val (.int p2), .unset, .unset, .unset, .unset, .unset, .unset, .unset, .unset] [(.int (0 : Int32))])
    refine own_go (fun t_ k_ => XS.istoreN X0.here hx rfl (hb hby at_11) rfl (l' := #[.val (.int p0), .val (.int p1), .val (.int p2), .val (.int (0 : Int32)), .unset, .unset, .unset, .unset, .unset, .unset, .unset]) rfl k_) ?_
    show own_Ends _ _ _ _ _ _ _ s₁ (mkF m 12 #[.val (.int p0), .val (.int p1), .val (.int p2), .val (.int (0 : Int32)), .unset, .unset, .unset, .unset, .unset, .unset, .unset] [])
    refine own_go (fun t_ k_ => XS.iloadN X0.here hx rfl (hb hby at_12) rfl  k_) ?_
    show own_Ends _ _ _ _ _ _ _ s₁ (mkF m 13 #[.val (.int p0), .val (.int p1), .val (.int p2), .val (.int (0 : Int32)), .unset, .unset, .unset, .unset, .unset, .unset, .unset] [(.int (0 : Int32))])
    refine own_go (fun t_ k_ => XS.ifYes X0.here hx rfl (pc0 := 13) (pc' := 22) rfl (hb hby at_13) rfl ((if0 _ _).trans (teq (by decide : (0 : Int32) = (0 : Int32))).1) (by decide) (by decide) k_) ?_
    show own_Ends _ _ _ _ _ _ _ s₁ (mkF m 22 #[.val (.int p0), .val (.int p1), .val (.int p2), .val (.int (0 : Int32)), .unset, .unset, .unset, .unset, .unset, .unset, .unset] [])
    obtain ⟨T2, X2, e2, st2⟩ := getS2 X0 hx hZ hown (host := "") (Or.inl (hw _ (List.mem_of_getElem? (i := 0) rfl))) Via.refl e0 SL (g := (mkF m 22 #[.val (.int p0), .val (.int p1), .val (.int p2), .val (.int (0 : Int32)), .unset, .unset, .unset, .unset, .unset, .unset, .unset] [])) rfl (hb hby at_22)
    refine own_go st2 ?_
    show own_Ends _ _ _ _ _ _ _ T2 (mkF m 25 #[.val (.int p0), .val (.int p1), .val (.int p2), .val (.int (0 : Int32)), .unset, .unset, .unset, .unset, .unset, .unset, .unset] [(.ref wL)])
    refine own_go (fun t_ k_ => XS.astore X2.here hx rfl (hb hby at_25) rfl rfl (l' := #[.val (.int p0), .val (.int p1), .val (.int p2), .val (.int (0 : Int32)), .val (.ref wL), .unset, .unset, .unset, .unset, .unset, .unset]) rfl k_) ?_
    show own_Ends _ _ _ _ _ _ _ T2 (mkF m 27 #[.val (.int p0), .val (.int p1), .val (.int p2), .val (.int (0 : Int32)), .val (.ref wL), .unset, .unset, .unset, .unset, .unset, .unset] [])
    refine own_go (fun t_ k_ => XS.iloadN X2.here hx rfl (hb hby at_27) rfl  k_) ?_
    show own_Ends _ _ _ _ _ _ _ T2 (mkF m 28 #[.val (.int p0), .val (.int p1), .val (.int p2), .val (.int (0 : Int32)), .val (.ref wL), .unset, .unset, .unset, .unset, .unset, .unset] [(.int p0)])
    refine own_go (fun t_ k_ => XT.i2l X2.here hx rfl (hb hby at_28) rfl k_) ?_
    show own_Ends _ _ _ _ _ _ _ T2 (mkF m 29 #[.val (.int p0), .val (.int p1), .val (.int p2), .val (.int (0 : Int32)), .val (.ref wL), .unset, .unset, .unset, .unset, .unset, .unset] [(.long (p0.toInt64))])
    refine own_go (fun t_ k_ => XS.iloadN X2.here hx rfl (hb hby at_29) rfl  k_) ?_
    show own_Ends _ _ _ _ _ _ _ T2 (mkF m 30 #[.val (.int p0), .val (.int p1), .val (.int p2), .val (.int (0 : Int32)), .val (.ref wL), .unset, .unset, .unset, .unset, .unset, .unset] [(.int p1), (.long (p0.toInt64))])
    refine own_go (fun t_ k_ => XT.i2l X2.here hx rfl (hb hby at_30) rfl k_) ?_
    show own_Ends _ _ _ _ _ _ _ T2 (mkF m 31 #[.val (.int p0), .val (.int p1), .val (.int p2), .val (.int (0 : Int32)), .val (.ref wL), .unset, .unset, .unset, .unset, .unset, .unset] [(.long (p1.toInt64)), (.long (p0.toInt64))])
    refine own_go (fun t_ k_ => XT.lsub X2.here hx rfl (hb hby at_31) rfl k_) ?_
    show own_Ends _ _ _ _ _ _ _ T2 (mkF m 32 #[.val (.int p0), .val (.int p1), .val (.int p2), .val (.int (0 : Int32)), .val (.ref wL), .unset, .unset, .unset, .unset, .unset, .unset] [(.long ((p0.toInt64) - (p1.toInt64)))])
    refine own_go (fun t_ k_ => XT.lstore X2.here hx rfl (hb hby at_32) rfl (l' := #[.val (.int p0), .val (.int p1), .val (.int p2), .val (.int (0 : Int32)), .val (.ref wL), .val (.long ((p0.toInt64) - (p1.toInt64))), .second, .unset, .unset, .unset, .unset]) rfl k_) ?_
    show own_Ends _ _ _ _ _ _ _ T2 (mkF m 34 #[.val (.int p0), .val (.int p1), .val (.int p2), .val (.int (0 : Int32)), .val (.ref wL), .val (.long ((p0.toInt64) - (p1.toInt64))), .second, .unset, .unset, .unset, .unset] [])
    refine own_go (fun t_ k_ => XS.iloadN X2.here hx rfl (hb hby at_34) rfl  k_) ?_
    show own_Ends _ _ _ _ _ _ _ T2 (mkF m 35 #[.val (.int p0), .val (.int p1), .val (.int p2), .val (.int (0 : Int32)), .val (.ref wL), .val (.long ((p0.toInt64) - (p1.toInt64))), .second, .unset, .unset, .unset, .unset] [(.int (0 : Int32))])
    refine own_go (fun t_ k_ => XS.ifYes X2.here hx rfl (pc0 := 35) (pc' := 53) rfl (hb hby at_35) rfl ((if0 _ _).trans (teq (by decide : (0 : Int32) = (0 : Int32))).1) (by decide) (by decide) k_) ?_
    show own_Ends _ _ _ _ _ _ _ T2 (mkF m 53 #[.val (.int p0), .val (.int p1), .val (.int p2), .val (.int (0 : Int32)), .val (.ref wL), .val (.long ((p0.toInt64) - (p1.toInt64))), .second, .unset, .unset, .unset, .unset] [])
    refine own_go (fun t_ k_ => XT.lload X2.here hx rfl (hb hby at_53) rfl k_) ?_
    show own_Ends _ _ _ _ _ _ _ T2 (mkF m 55 #[.val (.int p0), .val (.int p1), .val (.int p2), .val (.int (0 : Int32)), .val (.ref wL), .val (.long ((p0.toInt64) - (p1.toInt64))), .second, .unset, .unset, .unset, .unset] [(.long ((p0.toInt64) - (p1.toInt64)))])
    refine own_go (fun t_ k_ => XT.lconst X2.here hx rfl (hb hby at_55) k_) ?_
    show own_Ends _ _ _ _ _ _ _ T2 (mkF m 56 #[.val (.int p0), .val (.int p1), .val (.int p2), .val (.int (0 : Int32)), .val (.ref wL), .val (.long ((p0.toInt64) - (p1.toInt64))), .second, .unset, .unset, .unset, .unset] [(.long (0 : Int64)), (.long ((p0.toInt64) - (p1.toInt64)))])
    refine own_go (fun t_ k_ => XT.lcmp X2.here hx rfl (hb hby at_56) rfl k_) ?_
    show own_Ends _ _ _ _ _ _ _ T2 (mkF m 57 #[.val (.int p0), .val (.int p1), .val (.int p2), .val (.int (0 : Int32)), .val (.ref wL), .val (.long ((p0.toInt64) - (p1.toInt64))), .second, .unset, .unset, .unset, .unset] [(.int (XT.cmpL ((p0.toInt64) - (p1.toInt64)) (0 : Int64)))])
    by_cases hc3 : ((p0.toInt64) - (p1.toInt64)) < (0 : Int64)
    · refine own_go (fun t_ k_ => XS.ifNo X2.here hx rfl (hb hby at_57) rfl (XT.ll_ge_f hc3) k_) ?_
      show own_Ends _ _ _ _ _ _ _ T2 (mkF m 60 #[.val (.int p0), .val (.int p1), .val (.int p2), .val (.int (0 : Int32)), .val (.ref wL), .val (.long ((p0.toInt64) - (p1.toInt64))), .second, .unset, .unset, .unset, .unset] [])
      refine own_go (fun t_ k_ => XS.iconst X2.here hx rfl (hb hby at_60) k_) ?_
      show own_Ends _ _ _ _ _ _ _ T2 (mkF m 61 #[.val (.int p0), .val (.int p1), .val (.int p2), .val (.int (0 : Int32)), .val (.ref wL), .val (.long ((p0.toInt64) - (p1.toInt64))), .second, .unset, .unset, .unset, .unset] [(.int (1 : Int32))])
      refine own_go (fun t_ k_ => XS.goto X2.here hx rfl (pc0 := 61) (pc' := 65) rfl (hb hby at_61) (by decide) (by decide) k_) ?_
      show own_Ends _ _ _ _ _ _ _ T2 (mkF m 65 #[.val (.int p0), .val (.int p1), .val (.int p2), .val (.int (0 : Int32)), .val (.ref wL), .val (.long ((p0.toInt64) - (p1.toInt64))), .second, .unset, .unset, .unset, .unset] [(.int (1 : Int32))])
      refine own_go (fun t_ k_ => XS.istore X2.here hx rfl (hb hby at_65) rfl (l' := #[.val (.int p0), .val (.int p1), .val (.int p2), .val (.int (0 : Int32)), .val (.ref wL), .val (.long ((p0.toInt64) - (p1.toInt64))), .second, .val (.int (1 : Int32)), .unset, .unset, .unset]) rfl k_) ?_
      show own_Ends _ _ _ _ _ _ _ T2 (mkF m 67 #[.val (.int p0), .val (.int p1), .val (.int p2), .val (.int (0 : Int32)), .val (.ref wL), .val (.long ((p0.toInt64) - (p1.toInt64))), .second, .val (.int (1 : Int32)), .unset, .unset, .unset] [])
      refine own_go (fun t_ k_ => XS.aload X2.here hx rfl (hb hby at_67) rfl rfl  k_) ?_
      show own_Ends _ _ _ _ _ _ _ T2 (mkF m 69 #[.val (.int p0), .val (.int p1), .val (.int p2), .val (.int (0 : Int32)), .val (.ref wL), .val (.long ((p0.toInt64) - (p1.toInt64))), .second, .val (.int (1 : Int32)), .unset, .unset, .unset] [(.ref wL)])
      refine own_go (fun t_ k_ => XS.iloadN X2.here hx rfl (hb hby at_69) rfl  k_) ?_
      show own_Ends _ _ _ _ _ _ _ T2 (mkF m 70 #[.val (.int p0), .val (.int p1), .val (.int p2), .val (.int (0 : Int32)), .val (.ref wL), .val (.long ((p0.toInt64) - (p1.toInt64))), .second, .val (.int (1 : Int32)), .unset, .unset, .unset] [(.int p0), (.ref wL)])
      refine own_go (fun t_ k_ => XS.iloadN X2.here hx rfl (hb hby at_70) rfl  k_) ?_
      show own_Ends _ _ _ _ _ _ _ T2 (mkF m 71 #[.val (.int p0), .val (.int p1), .val (.int p2), .val (.int (0 : Int32)), .val (.ref wL), .val (.long ((p0.toInt64) - (p1.toInt64))), .second, .val (.int (1 : Int32)), .unset, .unset, .unset] [(.int p1), (.int p0), (.ref wL)])
      obtain ⟨T4, v4, L4, X4, hQ4, st4⟩ := own_callV X2 hx hZ (y := (⟨"com/example/wearcourse/wearcourse/data/ConditionScale", "isBetter", "(II)Z"⟩ : MethodName)) (z := (⟨"com/example/wearcourse/wearcourse/data/ConditionScale", "isBetter", "(II)Z"⟩ : MethodName)) hown (hw _ (List.mem_of_getElem? (i := 3) rfl)) (hw _ (List.mem_of_getElem? (i := 4) rfl)) (notFace_of_selects (args := #[]) (mvT hZ (hw _ (List.mem_of_getElem? (i := 6) rfl)))) (hw _ (List.mem_of_getElem? (i := 6) rfl)) (hw _ (List.mem_of_getElem? (i := 5) rfl)) (hw _ (List.mem_of_getElem? (i := 1) rfl)) (hw _ (List.mem_of_getElem? (i := 7) rfl)) (by decide) (rm1 l Z a0 hw [] wL p0 p1 wH h0 n0 Z0 SH) e2 (g := (mkF m 71 #[.val (.int p0), .val (.int p1), .val (.int p2), .val (.int (0 : Int32)), .val (.ref wL), .val (.long ((p0.toInt64) - (p1.toInt64))), .second, .val (.int (1 : Int32)), .unset, .unset, .unset] [(.int p1), (.int p0), (.ref wL)])) rfl (by rw [hml]; rfl) wL EL [(.int p0), (.int p1)] [] rfl (lenOf pd__II_Z rfl) rfl 0 (by show 2 * 0 + _ ≤ _; exact Nat.le_of_eq rfl) (hb hby at_71) (by decide) (by decide) (by decide) (by decide)
      obtain ⟨hv4, N4q, e4⟩ := hQ4
      have hb4 : own_bet (wL = wH) p0 p1 = 1 := (if_neg hne).trans (if_pos ((own_dlt _ _).mp hc3))
      rw [hb4] at hv4
      subst hv4
      refine own_go st4 ?_
      have N4 := Fr.app N0 N4q
      show own_Ends _ _ _ _ _ _ _ T4 (mkF m 74 #[.val (.int p0), .val (.int p1), .val (.int p2), .val (.int (0 : Int32)), .val (.ref wL), .val (.long ((p0.toInt64) - (p1.toInt64))), .second, .val (.int (1 : Int32)), .unset, .unset, .unset] [(.int (1 : Int32))])
      refine own_go (fun t_ k_ => XS.istore X4.here hx rfl (hb hby at_74) rfl (l' := #[.val (.int p0), .val (.int p1), .val (.int p2), .val (.int (0 : Int32)), .val (.ref wL), .val (.long ((p0.toInt64) - (p1.toInt64))), .second, .val (.int (1 : Int32)), .val (.int (1 : Int32)), .unset, .unset]) rfl k_) ?_
      show own_Ends _ _ _ _ _ _ _ T4 (mkF m 76 #[.val (.int p0), .val (.int p1), .val (.int p2), .val (.int (0 : Int32)), .val (.ref wL), .val (.long ((p0.toInt64) - (p1.toInt64))), .second, .val (.int (1 : Int32)), .val (.int (1 : Int32)), .unset, .unset] [])
      refine own_go (fun t_ k_ => XS.aload X4.here hx rfl (hb hby at_76) rfl rfl  k_) ?_
      show own_Ends _ _ _ _ _ _ _ T4 (mkF m 78 #[.val (.int p0), .val (.int p1), .val (.int p2), .val (.int (0 : Int32)), .val (.ref wL), .val (.long ((p0.toInt64) - (p1.toInt64))), .second, .val (.int (1 : Int32)), .val (.int (1 : Int32)), .unset, .unset] [(.ref wL)])
      refine own_go (fun t_ k_ => XS.iloadN X4.here hx rfl (hb hby at_78) rfl  k_) ?_
      show own_Ends _ _ _ _ _ _ _ T4 (mkF m 79 #[.val (.int p0), .val (.int p1), .val (.int p2), .val (.int (0 : Int32)), .val (.ref wL), .val (.long ((p0.toInt64) - (p1.toInt64))), .second, .val (.int (1 : Int32)), .val (.int (1 : Int32)), .unset, .unset] [(.int p1), (.ref wL)])
      refine own_go (fun t_ k_ => XS.iloadN X4.here hx rfl (hb hby at_79) rfl  k_) ?_
      show own_Ends _ _ _ _ _ _ _ T4 (mkF m 80 #[.val (.int p0), .val (.int p1), .val (.int p2), .val (.int (0 : Int32)), .val (.ref wL), .val (.long ((p0.toInt64) - (p1.toInt64))), .second, .val (.int (1 : Int32)), .val (.int (1 : Int32)), .unset, .unset] [(.int p0), (.int p1), (.ref wL)])
      obtain ⟨T5, v5, L5, X5, hQ5, st5⟩ := own_callV X4 hx hZ (y := (⟨"com/example/wearcourse/wearcourse/data/ConditionScale", "isBetter", "(II)Z"⟩ : MethodName)) (z := (⟨"com/example/wearcourse/wearcourse/data/ConditionScale", "isBetter", "(II)Z"⟩ : MethodName)) hown (hw _ (List.mem_of_getElem? (i := 3) rfl)) (hw _ (List.mem_of_getElem? (i := 4) rfl)) (notFace_of_selects (args := #[]) (mvT hZ (hw _ (List.mem_of_getElem? (i := 6) rfl)))) (hw _ (List.mem_of_getElem? (i := 6) rfl)) (hw _ (List.mem_of_getElem? (i := 5) rfl)) (hw _ (List.mem_of_getElem? (i := 1) rfl)) (hw _ (List.mem_of_getElem? (i := 7) rfl)) (by decide) (rm1 l Z a0 hw [] wL p1 p0 wH h0 n0 Z0 SH) e4 (g := (mkF m 80 #[.val (.int p0), .val (.int p1), .val (.int p2), .val (.int (0 : Int32)), .val (.ref wL), .val (.long ((p0.toInt64) - (p1.toInt64))), .second, .val (.int (1 : Int32)), .val (.int (1 : Int32)), .unset, .unset] [(.int p0), (.int p1), (.ref wL)])) rfl (by rw [hml]; rfl) wL EL [(.int p1), (.int p0)] [] rfl (lenOf pd__II_Z rfl) rfl 0 (by show 2 * 0 + _ ≤ _; exact Nat.le_of_eq rfl) (hb hby at_80) (by decide) (by decide) (by decide) (by decide)
      obtain ⟨hv5, N5q, e5⟩ := hQ5
      have hb5 : own_bet (wL = wH) p1 p0 = 0 := (if_neg hne).trans (if_neg (own_lf ((own_dlt _ _).mp hc3)))
      rw [hb5] at hv5
      subst hv5
      refine own_go st5 ?_
      have N5 := Fr.app N4 N5q
      show own_Ends _ _ _ _ _ _ _ T5 (mkF m 83 #[.val (.int p0), .val (.int p1), .val (.int p2), .val (.int (0 : Int32)), .val (.ref wL), .val (.long ((p0.toInt64) - (p1.toInt64))), .second, .val (.int (1 : Int32)), .val (.int (1 : Int32)), .unset, .unset] [(.int (0 : Int32))])
      refine own_go (fun t_ k_ => XS.istore X5.here hx rfl (hb hby at_83) rfl (l' := #[.val (.int p0), .val (.int p1), .val (.int p2), .val (.int (0 : Int32)), .val (.ref wL), .val (.long ((p0.toInt64) - (p1.toInt64))), .second, .val (.int (1 : Int32)), .val (.int (1 : Int32)), .val (.int (0 : Int32)), .unset]) rfl k_) ?_
      show own_Ends _ _ _ _ _ _ _ T5 (mkF m 85 #[.val (.int p0), .val (.int p1), .val (.int p2), .val (.int (0 : Int32)), .val (.ref wL), .val (.long ((p0.toInt64) - (p1.toInt64))), .second, .val (.int (1 : Int32)), .val (.int (1 : Int32)), .val (.int (0 : Int32)), .unset] [])
      refine own_go (fun t_ k_ => XS.aload X5.here hx rfl (hb hby at_85) rfl rfl  k_) ?_
      show own_Ends _ _ _ _ _ _ _ T5 (mkF m 87 #[.val (.int p0), .val (.int p1), .val (.int p2), .val (.int (0 : Int32)), .val (.ref wL), .val (.long ((p0.toInt64) - (p1.toInt64))), .second, .val (.int (1 : Int32)), .val (.int (1 : Int32)), .val (.int (0 : Int32)), .unset] [(.ref wL)])
      refine own_go (fun t_ k_ => XS.iloadN X5.here hx rfl (hb hby at_87) rfl  k_) ?_
      show own_Ends _ _ _ _ _ _ _ T5 (mkF m 88 #[.val (.int p0), .val (.int p1), .val (.int p2), .val (.int (0 : Int32)), .val (.ref wL), .val (.long ((p0.toInt64) - (p1.toInt64))), .second, .val (.int (1 : Int32)), .val (.int (1 : Int32)), .val (.int (0 : Int32)), .unset] [(.int p0), (.ref wL)])
      refine own_go (fun t_ k_ => XS.iloadN X5.here hx rfl (hb hby at_88) rfl  k_) ?_
      show own_Ends _ _ _ _ _ _ _ T5 (mkF m 89 #[.val (.int p0), .val (.int p1), .val (.int p2), .val (.int (0 : Int32)), .val (.ref wL), .val (.long ((p0.toInt64) - (p1.toInt64))), .second, .val (.int (1 : Int32)), .val (.int (1 : Int32)), .val (.int (0 : Int32)), .unset] [(.int p0), (.int p0), (.ref wL)])
      obtain ⟨T6, v6, L6, X6, hQ6, st6⟩ := own_callV X5 hx hZ (y := (⟨"com/example/wearcourse/wearcourse/data/ConditionScale", "isBetter", "(II)Z"⟩ : MethodName)) (z := (⟨"com/example/wearcourse/wearcourse/data/ConditionScale", "isBetter", "(II)Z"⟩ : MethodName)) hown (hw _ (List.mem_of_getElem? (i := 3) rfl)) (hw _ (List.mem_of_getElem? (i := 4) rfl)) (notFace_of_selects (args := #[]) (mvT hZ (hw _ (List.mem_of_getElem? (i := 6) rfl)))) (hw _ (List.mem_of_getElem? (i := 6) rfl)) (hw _ (List.mem_of_getElem? (i := 5) rfl)) (hw _ (List.mem_of_getElem? (i := 1) rfl)) (hw _ (List.mem_of_getElem? (i := 7) rfl)) (by decide) (rm1 l Z a0 hw [] wL p0 p0 wH h0 n0 Z0 SH) e5 (g := (mkF m 89 #[.val (.int p0), .val (.int p1), .val (.int p2), .val (.int (0 : Int32)), .val (.ref wL), .val (.long ((p0.toInt64) - (p1.toInt64))), .second, .val (.int (1 : Int32)), .val (.int (1 : Int32)), .val (.int (0 : Int32)), .unset] [(.int p0), (.int p0), (.ref wL)])) rfl (by rw [hml]; rfl) wL EL [(.int p0), (.int p0)] [] rfl (lenOf pd__II_Z rfl) rfl 0 (by show 2 * 0 + _ ≤ _; exact Nat.le_of_eq rfl) (hb hby at_89) (by decide) (by decide) (by decide) (by decide)
      obtain ⟨hv6, N6q, e6⟩ := hQ6
      have hb6 : own_bet (wL = wH) p0 p0 = 0 := (if_neg hne).trans (if_neg (Int32.lt_irrefl))
      rw [hb6] at hv6
      subst hv6
      refine own_go st6 ?_
      have N6 := Fr.app N5 N6q
      show own_Ends _ _ _ _ _ _ _ T6 (mkF m 92 #[.val (.int p0), .val (.int p1), .val (.int p2), .val (.int (0 : Int32)), .val (.ref wL), .val (.long ((p0.toInt64) - (p1.toInt64))), .second, .val (.int (1 : Int32)), .val (.int (1 : Int32)), .val (.int (0 : Int32)), .unset] [(.int (0 : Int32))])
      refine own_go (fun t_ k_ => XS.istore X6.here hx rfl (hb hby at_92) rfl (l' := #[.val (.int p0), .val (.int p1), .val (.int p2), .val (.int (0 : Int32)), .val (.ref wL), .val (.long ((p0.toInt64) - (p1.toInt64))), .second, .val (.int (1 : Int32)), .val (.int (1 : Int32)), .val (.int (0 : Int32)), .val (.int (0 : Int32))]) rfl k_) ?_
      show own_Ends _ _ _ _ _ _ _ T6 (mkF m 94 #[.val (.int p0), .val (.int p1), .val (.int p2), .val (.int (0 : Int32)), .val (.ref wL), .val (.long ((p0.toInt64) - (p1.toInt64))), .second, .val (.int (1 : Int32)), .val (.int (1 : Int32)), .val (.int (0 : Int32)), .val (.int (0 : Int32))] [])
      refine own_go (fun t_ k_ => XS.iload X6.here hx rfl (hb hby at_94) rfl  k_) ?_
      show own_Ends _ _ _ _ _ _ _ T6 (mkF m 96 #[.val (.int p0), .val (.int p1), .val (.int p2), .val (.int (0 : Int32)), .val (.ref wL), .val (.long ((p0.toInt64) - (p1.toInt64))), .second, .val (.int (1 : Int32)), .val (.int (1 : Int32)), .val (.int (0 : Int32)), .val (.int (0 : Int32))] [(.int (1 : Int32))])
      refine own_go (fun t_ k_ => XS.iload X6.here hx rfl (hb hby at_96) rfl  k_) ?_
      show own_Ends _ _ _ _ _ _ _ T6 (mkF m 98 #[.val (.int p0), .val (.int p1), .val (.int p2), .val (.int (0 : Int32)), .val (.ref wL), .val (.long ((p0.toInt64) - (p1.toInt64))), .second, .val (.int (1 : Int32)), .val (.int (1 : Int32)), .val (.int (0 : Int32)), .val (.int (0 : Int32))] [(.int (1 : Int32)), (.int (1 : Int32))])
      refine own_go (fun t_ k_ => XS.icmpNo X6.here hx rfl (hb hby at_98) rfl (teq (by decide : (1 : Int32) = (1 : Int32))).2 k_) ?_
      show own_Ends _ _ _ _ _ _ _ T6 (mkF m 101 #[.val (.int p0), .val (.int p1), .val (.int p2), .val (.int (0 : Int32)), .val (.ref wL), .val (.long ((p0.toInt64) - (p1.toInt64))), .second, .val (.int (1 : Int32)), .val (.int (1 : Int32)), .val (.int (0 : Int32)), .val (.int (0 : Int32))] [])
      refine own_go (fun t_ k_ => XS.iload X6.here hx rfl (hb hby at_101) rfl  k_) ?_
      show own_Ends _ _ _ _ _ _ _ T6 (mkF m 103 #[.val (.int p0), .val (.int p1), .val (.int p2), .val (.int (0 : Int32)), .val (.ref wL), .val (.long ((p0.toInt64) - (p1.toInt64))), .second, .val (.int (1 : Int32)), .val (.int (1 : Int32)), .val (.int (0 : Int32)), .val (.int (0 : Int32))] [(.int (1 : Int32))])
      refine own_go (fun t_ k_ => XS.ifNo X6.here hx rfl (hb hby at_103) rfl ((if0 _ _).trans (feq (by decide : ¬ ((1 : Int32) = (0 : Int32)))).1) k_) ?_
      show own_Ends _ _ _ _ _ _ _ T6 (mkF m 106 #[.val (.int p0), .val (.int p1), .val (.int p2), .val (.int (0 : Int32)), .val (.ref wL), .val (.long ((p0.toInt64) - (p1.toInt64))), .second, .val (.int (1 : Int32)), .val (.int (1 : Int32)), .val (.int (0 : Int32)), .val (.int (0 : Int32))] [])
      refine own_go (fun t_ k_ => XS.iload X6.here hx rfl (hb hby at_106) rfl  k_) ?_
      show own_Ends _ _ _ _ _ _ _ T6 (mkF m 108 #[.val (.int p0), .val (.int p1), .val (.int p2), .val (.int (0 : Int32)), .val (.ref wL), .val (.long ((p0.toInt64) - (p1.toInt64))), .second, .val (.int (1 : Int32)), .val (.int (1 : Int32)), .val (.int (0 : Int32)), .val (.int (0 : Int32))] [(.int (0 : Int32))])
      refine own_go (fun t_ k_ => XS.ifNo X6.here hx rfl (hb hby at_108) rfl ((if0 _ _).trans (teq (by decide : (0 : Int32) = (0 : Int32))).2) k_) ?_
      show own_Ends _ _ _ _ _ _ _ T6 (mkF m 111 #[.val (.int p0), .val (.int p1), .val (.int p2), .val (.int (0 : Int32)), .val (.ref wL), .val (.long ((p0.toInt64) - (p1.toInt64))), .second, .val (.int (1 : Int32)), .val (.int (1 : Int32)), .val (.int (0 : Int32)), .val (.int (0 : Int32))] [])
      refine own_go (fun t_ k_ => XS.iload X6.here hx rfl (hb hby at_111) rfl  k_) ?_
      show own_Ends _ _ _ _ _ _ _ T6 (mkF m 113 #[.val (.int p0), .val (.int p1), .val (.int p2), .val (.int (0 : Int32)), .val (.ref wL), .val (.long ((p0.toInt64) - (p1.toInt64))), .second, .val (.int (1 : Int32)), .val (.int (1 : Int32)), .val (.int (0 : Int32)), .val (.int (0 : Int32))] [(.int (0 : Int32))])
      refine own_go (fun t_ k_ => XS.ifNo X6.here hx rfl (hb hby at_113) rfl ((if0 _ _).trans (teq (by decide : (0 : Int32) = (0 : Int32))).2) k_) ?_
      show own_Ends _ _ _ _ _ _ _ T6 (mkF m 116 #[.val (.int p0), .val (.int p1), .val (.int p2), .val (.int (0 : Int32)), .val (.ref wL), .val (.long ((p0.toInt64) - (p1.toInt64))), .second, .val (.int (1 : Int32)), .val (.int (1 : Int32)), .val (.int (0 : Int32)), .val (.int (0 : Int32))] [])
      refine own_go (fun t_ k_ => XS.iconst X6.here hx rfl (hb hby at_116) k_) ?_
      show own_Ends _ _ _ _ _ _ _ T6 (mkF m 117 #[.val (.int p0), .val (.int p1), .val (.int p2), .val (.int (0 : Int32)), .val (.ref wL), .val (.long ((p0.toInt64) - (p1.toInt64))), .second, .val (.int (1 : Int32)), .val (.int (1 : Int32)), .val (.int (0 : Int32)), .val (.int (0 : Int32))] [(.int (1 : Int32))])
      refine own_go (fun t_ k_ => XS.goto X6.here hx rfl (pc0 := 117) (pc' := 121) rfl (hb hby at_117) (by decide) (by decide) k_) ?_
      show own_Ends _ _ _ _ _ _ _ T6 (mkF m 121 #[.val (.int p0), .val (.int p1), .val (.int p2), .val (.int (0 : Int32)), .val (.ref wL), .val (.long ((p0.toInt64) - (p1.toInt64))), .second, .val (.int (1 : Int32)), .val (.int (1 : Int32)), .val (.int (0 : Int32)), .val (.int (0 : Int32))] [(.int (1 : Int32))])
      refine own_retN X6 hx hlk (t := .boolean) hret (by simp) (hb hby at_121) e6 (by decide) (by decide) ?_
      exact ⟨rfl, N6⟩
    · refine own_go (fun t_ k_ => XS.ifYes X2.here hx rfl (pc0 := 57) (pc' := 64) rfl (hb hby at_57) rfl (XT.ll_ge_t hc3) (by decide) (by decide) k_) ?_
      show own_Ends _ _ _ _ _ _ _ T2 (mkF m 64 #[.val (.int p0), .val (.int p1), .val (.int p2), .val (.int (0 : Int32)), .val (.ref wL), .val (.long ((p0.toInt64) - (p1.toInt64))), .second, .unset, .unset, .unset, .unset] [])
      refine own_go (fun t_ k_ => XS.iconst X2.here hx rfl (hb hby at_64) k_) ?_
      show own_Ends _ _ _ _ _ _ _ T2 (mkF m 65 #[.val (.int p0), .val (.int p1), .val (.int p2), .val (.int (0 : Int32)), .val (.ref wL), .val (.long ((p0.toInt64) - (p1.toInt64))), .second, .unset, .unset, .unset, .unset] [(.int (0 : Int32))])
      refine own_go (fun t_ k_ => XS.istore X2.here hx rfl (hb hby at_65) rfl (l' := #[.val (.int p0), .val (.int p1), .val (.int p2), .val (.int (0 : Int32)), .val (.ref wL), .val (.long ((p0.toInt64) - (p1.toInt64))), .second, .val (.int (0 : Int32)), .unset, .unset, .unset]) rfl k_) ?_
      show own_Ends _ _ _ _ _ _ _ T2 (mkF m 67 #[.val (.int p0), .val (.int p1), .val (.int p2), .val (.int (0 : Int32)), .val (.ref wL), .val (.long ((p0.toInt64) - (p1.toInt64))), .second, .val (.int (0 : Int32)), .unset, .unset, .unset] [])
      refine own_go (fun t_ k_ => XS.aload X2.here hx rfl (hb hby at_67) rfl rfl  k_) ?_
      show own_Ends _ _ _ _ _ _ _ T2 (mkF m 69 #[.val (.int p0), .val (.int p1), .val (.int p2), .val (.int (0 : Int32)), .val (.ref wL), .val (.long ((p0.toInt64) - (p1.toInt64))), .second, .val (.int (0 : Int32)), .unset, .unset, .unset] [(.ref wL)])
      refine own_go (fun t_ k_ => XS.iloadN X2.here hx rfl (hb hby at_69) rfl  k_) ?_
      show own_Ends _ _ _ _ _ _ _ T2 (mkF m 70 #[.val (.int p0), .val (.int p1), .val (.int p2), .val (.int (0 : Int32)), .val (.ref wL), .val (.long ((p0.toInt64) - (p1.toInt64))), .second, .val (.int (0 : Int32)), .unset, .unset, .unset] [(.int p0), (.ref wL)])
      refine own_go (fun t_ k_ => XS.iloadN X2.here hx rfl (hb hby at_70) rfl  k_) ?_
      show own_Ends _ _ _ _ _ _ _ T2 (mkF m 71 #[.val (.int p0), .val (.int p1), .val (.int p2), .val (.int (0 : Int32)), .val (.ref wL), .val (.long ((p0.toInt64) - (p1.toInt64))), .second, .val (.int (0 : Int32)), .unset, .unset, .unset] [(.int p1), (.int p0), (.ref wL)])
      obtain ⟨T7, v7, L7, X7, hQ7, st7⟩ := own_callV X2 hx hZ (y := (⟨"com/example/wearcourse/wearcourse/data/ConditionScale", "isBetter", "(II)Z"⟩ : MethodName)) (z := (⟨"com/example/wearcourse/wearcourse/data/ConditionScale", "isBetter", "(II)Z"⟩ : MethodName)) hown (hw _ (List.mem_of_getElem? (i := 3) rfl)) (hw _ (List.mem_of_getElem? (i := 4) rfl)) (notFace_of_selects (args := #[]) (mvT hZ (hw _ (List.mem_of_getElem? (i := 6) rfl)))) (hw _ (List.mem_of_getElem? (i := 6) rfl)) (hw _ (List.mem_of_getElem? (i := 5) rfl)) (hw _ (List.mem_of_getElem? (i := 1) rfl)) (hw _ (List.mem_of_getElem? (i := 7) rfl)) (by decide) (rm1 l Z a0 hw [] wL p0 p1 wH h0 n0 Z0 SH) e2 (g := (mkF m 71 #[.val (.int p0), .val (.int p1), .val (.int p2), .val (.int (0 : Int32)), .val (.ref wL), .val (.long ((p0.toInt64) - (p1.toInt64))), .second, .val (.int (0 : Int32)), .unset, .unset, .unset] [(.int p1), (.int p0), (.ref wL)])) rfl (by rw [hml]; rfl) wL EL [(.int p0), (.int p1)] [] rfl (lenOf pd__II_Z rfl) rfl 0 (by show 2 * 0 + _ ≤ _; exact Nat.le_of_eq rfl) (hb hby at_71) (by decide) (by decide) (by decide) (by decide)
      obtain ⟨hv7, N7q, e7⟩ := hQ7
      have hb7 : own_bet (wL = wH) p0 p1 = 0 := (if_neg hne).trans (if_neg (fun q => hc3 ((own_dlt _ _).mpr q)))
      rw [hb7] at hv7
      subst hv7
      refine own_go st7 ?_
      have N7 := Fr.app N0 N7q
      show own_Ends _ _ _ _ _ _ _ T7 (mkF m 74 #[.val (.int p0), .val (.int p1), .val (.int p2), .val (.int (0 : Int32)), .val (.ref wL), .val (.long ((p0.toInt64) - (p1.toInt64))), .second, .val (.int (0 : Int32)), .unset, .unset, .unset] [(.int (0 : Int32))])
      refine own_go (fun t_ k_ => XS.istore X7.here hx rfl (hb hby at_74) rfl (l' := #[.val (.int p0), .val (.int p1), .val (.int p2), .val (.int (0 : Int32)), .val (.ref wL), .val (.long ((p0.toInt64) - (p1.toInt64))), .second, .val (.int (0 : Int32)), .val (.int (0 : Int32)), .unset, .unset]) rfl k_) ?_
      show own_Ends _ _ _ _ _ _ _ T7 (mkF m 76 #[.val (.int p0), .val (.int p1), .val (.int p2), .val (.int (0 : Int32)), .val (.ref wL), .val (.long ((p0.toInt64) - (p1.toInt64))), .second, .val (.int (0 : Int32)), .val (.int (0 : Int32)), .unset, .unset] [])
      refine own_go (fun t_ k_ => XS.aload X7.here hx rfl (hb hby at_76) rfl rfl  k_) ?_
      show own_Ends _ _ _ _ _ _ _ T7 (mkF m 78 #[.val (.int p0), .val (.int p1), .val (.int p2), .val (.int (0 : Int32)), .val (.ref wL), .val (.long ((p0.toInt64) - (p1.toInt64))), .second, .val (.int (0 : Int32)), .val (.int (0 : Int32)), .unset, .unset] [(.ref wL)])
      refine own_go (fun t_ k_ => XS.iloadN X7.here hx rfl (hb hby at_78) rfl  k_) ?_
      show own_Ends _ _ _ _ _ _ _ T7 (mkF m 79 #[.val (.int p0), .val (.int p1), .val (.int p2), .val (.int (0 : Int32)), .val (.ref wL), .val (.long ((p0.toInt64) - (p1.toInt64))), .second, .val (.int (0 : Int32)), .val (.int (0 : Int32)), .unset, .unset] [(.int p1), (.ref wL)])
      refine own_go (fun t_ k_ => XS.iloadN X7.here hx rfl (hb hby at_79) rfl  k_) ?_
      show own_Ends _ _ _ _ _ _ _ T7 (mkF m 80 #[.val (.int p0), .val (.int p1), .val (.int p2), .val (.int (0 : Int32)), .val (.ref wL), .val (.long ((p0.toInt64) - (p1.toInt64))), .second, .val (.int (0 : Int32)), .val (.int (0 : Int32)), .unset, .unset] [(.int p0), (.int p1), (.ref wL)])
      obtain ⟨T8, v8, L8, X8, hQ8, st8⟩ := own_callV X7 hx hZ (y := (⟨"com/example/wearcourse/wearcourse/data/ConditionScale", "isBetter", "(II)Z"⟩ : MethodName)) (z := (⟨"com/example/wearcourse/wearcourse/data/ConditionScale", "isBetter", "(II)Z"⟩ : MethodName)) hown (hw _ (List.mem_of_getElem? (i := 3) rfl)) (hw _ (List.mem_of_getElem? (i := 4) rfl)) (notFace_of_selects (args := #[]) (mvT hZ (hw _ (List.mem_of_getElem? (i := 6) rfl)))) (hw _ (List.mem_of_getElem? (i := 6) rfl)) (hw _ (List.mem_of_getElem? (i := 5) rfl)) (hw _ (List.mem_of_getElem? (i := 1) rfl)) (hw _ (List.mem_of_getElem? (i := 7) rfl)) (by decide) (rm1 l Z a0 hw [] wL p1 p0 wH h0 n0 Z0 SH) e7 (g := (mkF m 80 #[.val (.int p0), .val (.int p1), .val (.int p2), .val (.int (0 : Int32)), .val (.ref wL), .val (.long ((p0.toInt64) - (p1.toInt64))), .second, .val (.int (0 : Int32)), .val (.int (0 : Int32)), .unset, .unset] [(.int p0), (.int p1), (.ref wL)])) rfl (by rw [hml]; rfl) wL EL [(.int p1), (.int p0)] [] rfl (lenOf pd__II_Z rfl) rfl 0 (by show 2 * 0 + _ ≤ _; exact Nat.le_of_eq rfl) (hb hby at_80) (by decide) (by decide) (by decide) (by decide)
      obtain ⟨hv8, N8q, e8⟩ := hQ8
      subst hv8
      refine own_go st8 ?_
      have N8 := Fr.app N7 N8q
      show own_Ends _ _ _ _ _ _ _ T8 (mkF m 83 #[.val (.int p0), .val (.int p1), .val (.int p2), .val (.int (0 : Int32)), .val (.ref wL), .val (.long ((p0.toInt64) - (p1.toInt64))), .second, .val (.int (0 : Int32)), .val (.int (0 : Int32)), .unset, .unset] [(.int (own_bet (wL = wH) p1 p0))])
      refine own_go (fun t_ k_ => XS.istore X8.here hx rfl (hb hby at_83) rfl (l' := #[.val (.int p0), .val (.int p1), .val (.int p2), .val (.int (0 : Int32)), .val (.ref wL), .val (.long ((p0.toInt64) - (p1.toInt64))), .second, .val (.int (0 : Int32)), .val (.int (0 : Int32)), .val (.int (own_bet (wL = wH) p1 p0)), .unset]) rfl k_) ?_
      show own_Ends _ _ _ _ _ _ _ T8 (mkF m 85 #[.val (.int p0), .val (.int p1), .val (.int p2), .val (.int (0 : Int32)), .val (.ref wL), .val (.long ((p0.toInt64) - (p1.toInt64))), .second, .val (.int (0 : Int32)), .val (.int (0 : Int32)), .val (.int (own_bet (wL = wH) p1 p0)), .unset] [])
      refine own_go (fun t_ k_ => XS.aload X8.here hx rfl (hb hby at_85) rfl rfl  k_) ?_
      show own_Ends _ _ _ _ _ _ _ T8 (mkF m 87 #[.val (.int p0), .val (.int p1), .val (.int p2), .val (.int (0 : Int32)), .val (.ref wL), .val (.long ((p0.toInt64) - (p1.toInt64))), .second, .val (.int (0 : Int32)), .val (.int (0 : Int32)), .val (.int (own_bet (wL = wH) p1 p0)), .unset] [(.ref wL)])
      refine own_go (fun t_ k_ => XS.iloadN X8.here hx rfl (hb hby at_87) rfl  k_) ?_
      show own_Ends _ _ _ _ _ _ _ T8 (mkF m 88 #[.val (.int p0), .val (.int p1), .val (.int p2), .val (.int (0 : Int32)), .val (.ref wL), .val (.long ((p0.toInt64) - (p1.toInt64))), .second, .val (.int (0 : Int32)), .val (.int (0 : Int32)), .val (.int (own_bet (wL = wH) p1 p0)), .unset] [(.int p0), (.ref wL)])
      refine own_go (fun t_ k_ => XS.iloadN X8.here hx rfl (hb hby at_88) rfl  k_) ?_
      show own_Ends _ _ _ _ _ _ _ T8 (mkF m 89 #[.val (.int p0), .val (.int p1), .val (.int p2), .val (.int (0 : Int32)), .val (.ref wL), .val (.long ((p0.toInt64) - (p1.toInt64))), .second, .val (.int (0 : Int32)), .val (.int (0 : Int32)), .val (.int (own_bet (wL = wH) p1 p0)), .unset] [(.int p0), (.int p0), (.ref wL)])
      obtain ⟨T9, v9, L9, X9, hQ9, st9⟩ := own_callV X8 hx hZ (y := (⟨"com/example/wearcourse/wearcourse/data/ConditionScale", "isBetter", "(II)Z"⟩ : MethodName)) (z := (⟨"com/example/wearcourse/wearcourse/data/ConditionScale", "isBetter", "(II)Z"⟩ : MethodName)) hown (hw _ (List.mem_of_getElem? (i := 3) rfl)) (hw _ (List.mem_of_getElem? (i := 4) rfl)) (notFace_of_selects (args := #[]) (mvT hZ (hw _ (List.mem_of_getElem? (i := 6) rfl)))) (hw _ (List.mem_of_getElem? (i := 6) rfl)) (hw _ (List.mem_of_getElem? (i := 5) rfl)) (hw _ (List.mem_of_getElem? (i := 1) rfl)) (hw _ (List.mem_of_getElem? (i := 7) rfl)) (by decide) (rm1 l Z a0 hw [] wL p0 p0 wH h0 n0 Z0 SH) e8 (g := (mkF m 89 #[.val (.int p0), .val (.int p1), .val (.int p2), .val (.int (0 : Int32)), .val (.ref wL), .val (.long ((p0.toInt64) - (p1.toInt64))), .second, .val (.int (0 : Int32)), .val (.int (0 : Int32)), .val (.int (own_bet (wL = wH) p1 p0)), .unset] [(.int p0), (.int p0), (.ref wL)])) rfl (by rw [hml]; rfl) wL EL [(.int p0), (.int p0)] [] rfl (lenOf pd__II_Z rfl) rfl 0 (by show 2 * 0 + _ ≤ _; exact Nat.le_of_eq rfl) (hb hby at_89) (by decide) (by decide) (by decide) (by decide)
      obtain ⟨hv9, N9q, e9⟩ := hQ9
      have hb9 : own_bet (wL = wH) p0 p0 = 0 := (if_neg hne).trans (if_neg (Int32.lt_irrefl))
      rw [hb9] at hv9
      subst hv9
      refine own_go st9 ?_
      have N9 := Fr.app N8 N9q
      show own_Ends _ _ _ _ _ _ _ T9 (mkF m 92 #[.val (.int p0), .val (.int p1), .val (.int p2), .val (.int (0 : Int32)), .val (.ref wL), .val (.long ((p0.toInt64) - (p1.toInt64))), .second, .val (.int (0 : Int32)), .val (.int (0 : Int32)), .val (.int (own_bet (wL = wH) p1 p0)), .unset] [(.int (0 : Int32))])
      refine own_go (fun t_ k_ => XS.istore X9.here hx rfl (hb hby at_92) rfl (l' := #[.val (.int p0), .val (.int p1), .val (.int p2), .val (.int (0 : Int32)), .val (.ref wL), .val (.long ((p0.toInt64) - (p1.toInt64))), .second, .val (.int (0 : Int32)), .val (.int (0 : Int32)), .val (.int (own_bet (wL = wH) p1 p0)), .val (.int (0 : Int32))]) rfl k_) ?_
      show own_Ends _ _ _ _ _ _ _ T9 (mkF m 94 #[.val (.int p0), .val (.int p1), .val (.int p2), .val (.int (0 : Int32)), .val (.ref wL), .val (.long ((p0.toInt64) - (p1.toInt64))), .second, .val (.int (0 : Int32)), .val (.int (0 : Int32)), .val (.int (own_bet (wL = wH) p1 p0)), .val (.int (0 : Int32))] [])
      refine own_go (fun t_ k_ => XS.iload X9.here hx rfl (hb hby at_94) rfl  k_) ?_
      show own_Ends _ _ _ _ _ _ _ T9 (mkF m 96 #[.val (.int p0), .val (.int p1), .val (.int p2), .val (.int (0 : Int32)), .val (.ref wL), .val (.long ((p0.toInt64) - (p1.toInt64))), .second, .val (.int (0 : Int32)), .val (.int (0 : Int32)), .val (.int (own_bet (wL = wH) p1 p0)), .val (.int (0 : Int32))] [(.int (0 : Int32))])
      refine own_go (fun t_ k_ => XS.iload X9.here hx rfl (hb hby at_96) rfl  k_) ?_
      show own_Ends _ _ _ _ _ _ _ T9 (mkF m 98 #[.val (.int p0), .val (.int p1), .val (.int p2), .val (.int (0 : Int32)), .val (.ref wL), .val (.long ((p0.toInt64) - (p1.toInt64))), .second, .val (.int (0 : Int32)), .val (.int (0 : Int32)), .val (.int (own_bet (wL = wH) p1 p0)), .val (.int (0 : Int32))] [(.int (0 : Int32)), (.int (0 : Int32))])
      refine own_go (fun t_ k_ => XS.icmpNo X9.here hx rfl (hb hby at_98) rfl (teq (by decide : (0 : Int32) = (0 : Int32))).2 k_) ?_
      show own_Ends _ _ _ _ _ _ _ T9 (mkF m 101 #[.val (.int p0), .val (.int p1), .val (.int p2), .val (.int (0 : Int32)), .val (.ref wL), .val (.long ((p0.toInt64) - (p1.toInt64))), .second, .val (.int (0 : Int32)), .val (.int (0 : Int32)), .val (.int (own_bet (wL = wH) p1 p0)), .val (.int (0 : Int32))] [])
      refine own_go (fun t_ k_ => XS.iload X9.here hx rfl (hb hby at_101) rfl  k_) ?_
      show own_Ends _ _ _ _ _ _ _ T9 (mkF m 103 #[.val (.int p0), .val (.int p1), .val (.int p2), .val (.int (0 : Int32)), .val (.ref wL), .val (.long ((p0.toInt64) - (p1.toInt64))), .second, .val (.int (0 : Int32)), .val (.int (0 : Int32)), .val (.int (own_bet (wL = wH) p1 p0)), .val (.int (0 : Int32))] [(.int (0 : Int32))])
      refine own_go (fun t_ k_ => XS.ifYes X9.here hx rfl (pc0 := 103) (pc' := 111) rfl (hb hby at_103) rfl ((if0 _ _).trans (teq (by decide : (0 : Int32) = (0 : Int32))).1) (by decide) (by decide) k_) ?_
      show own_Ends _ _ _ _ _ _ _ T9 (mkF m 111 #[.val (.int p0), .val (.int p1), .val (.int p2), .val (.int (0 : Int32)), .val (.ref wL), .val (.long ((p0.toInt64) - (p1.toInt64))), .second, .val (.int (0 : Int32)), .val (.int (0 : Int32)), .val (.int (own_bet (wL = wH) p1 p0)), .val (.int (0 : Int32))] [])
      refine own_go (fun t_ k_ => XS.iload X9.here hx rfl (hb hby at_111) rfl  k_) ?_
      show own_Ends _ _ _ _ _ _ _ T9 (mkF m 113 #[.val (.int p0), .val (.int p1), .val (.int p2), .val (.int (0 : Int32)), .val (.ref wL), .val (.long ((p0.toInt64) - (p1.toInt64))), .second, .val (.int (0 : Int32)), .val (.int (0 : Int32)), .val (.int (own_bet (wL = wH) p1 p0)), .val (.int (0 : Int32))] [(.int (0 : Int32))])
      refine own_go (fun t_ k_ => XS.ifNo X9.here hx rfl (hb hby at_113) rfl ((if0 _ _).trans (teq (by decide : (0 : Int32) = (0 : Int32))).2) k_) ?_
      show own_Ends _ _ _ _ _ _ _ T9 (mkF m 116 #[.val (.int p0), .val (.int p1), .val (.int p2), .val (.int (0 : Int32)), .val (.ref wL), .val (.long ((p0.toInt64) - (p1.toInt64))), .second, .val (.int (0 : Int32)), .val (.int (0 : Int32)), .val (.int (own_bet (wL = wH) p1 p0)), .val (.int (0 : Int32))] [])
      refine own_go (fun t_ k_ => XS.iconst X9.here hx rfl (hb hby at_116) k_) ?_
      show own_Ends _ _ _ _ _ _ _ T9 (mkF m 117 #[.val (.int p0), .val (.int p1), .val (.int p2), .val (.int (0 : Int32)), .val (.ref wL), .val (.long ((p0.toInt64) - (p1.toInt64))), .second, .val (.int (0 : Int32)), .val (.int (0 : Int32)), .val (.int (own_bet (wL = wH) p1 p0)), .val (.int (0 : Int32))] [(.int (1 : Int32))])
      refine own_go (fun t_ k_ => XS.goto X9.here hx rfl (pc0 := 117) (pc' := 121) rfl (hb hby at_117) (by decide) (by decide) k_) ?_
      show own_Ends _ _ _ _ _ _ _ T9 (mkF m 121 #[.val (.int p0), .val (.int p1), .val (.int p2), .val (.int (0 : Int32)), .val (.ref wL), .val (.long ((p0.toInt64) - (p1.toInt64))), .second, .val (.int (0 : Int32)), .val (.int (0 : Int32)), .val (.int (own_bet (wL = wH) p1 p0)), .val (.int (0 : Int32))] [(.int (1 : Int32))])
      refine own_retN X9 hx hlk (t := .boolean) hret (by simp) (hb hby at_121) e9 (by decide) (by decide) ?_
      exact ⟨rfl, N9⟩
  · refine own_go (fun t_ k_ => XS.ifNo X0.here hx rfl (hb hby at_3) rfl ((if0 _ _).trans (feq hc1).1) k_) ?_
    show own_Ends _ _ _ _ _ _ _ s₁ (mkF m 6 #[.val (.int p0), .val (.int p1), .val (.int p2), .unset, .unset, .unset, .unset, .unset, .unset, .unset, .unset] [])
    refine own_go (fun t_ k_ => XS.iconst X0.here hx rfl (hb hby at_6) k_) ?_
    show own_Ends _ _ _ _ _ _ _ s₁ (mkF m 7 #[.val (.int p0), .val (.int p1), .val (.int p2), .unset, .unset, .unset, .unset, .unset, .unset, .unset, .unset] [(.int (1 : Int32))])
    refine own_go (fun t_ k_ => XS.goto X0.here hx rfl (pc0 := 7) (pc' := 11) rfl (hb hby at_7) (by decide) (by decide) k_) ?_
    show own_Ends _ _ _ _ _ _ _ s₁ (mkF m 11 #[.val (.int p0), .val (.int p1), .val (.int p2), .unset, .unset, .unset, .unset, .unset, .unset, .unset, .unset] [(.int (1 : Int32))])
    refine own_go (fun t_ k_ => XS.istoreN X0.here hx rfl (hb hby at_11) rfl (l' := #[.val (.int p0), .val (.int p1), .val (.int p2), .val (.int (1 : Int32)), .unset, .unset, .unset, .unset, .unset, .unset, .unset]) rfl k_) ?_
    show own_Ends _ _ _ _ _ _ _ s₁ (mkF m 12 #[.val (.int p0), .val (.int p1), .val (.int p2), .val (.int (1 : Int32)), .unset, .unset, .unset, .unset, .unset, .unset, .unset] [])
    refine own_go (fun t_ k_ => XS.iloadN X0.here hx rfl (hb hby at_12) rfl  k_) ?_
    show own_Ends _ _ _ _ _ _ _ s₁ (mkF m 13 #[.val (.int p0), .val (.int p1), .val (.int p2), .val (.int (1 : Int32)), .unset, .unset, .unset, .unset, .unset, .unset, .unset] [(.int (1 : Int32))])
    refine own_go (fun t_ k_ => XS.ifNo X0.here hx rfl (hb hby at_13) rfl ((if0 _ _).trans (feq (by decide : ¬ ((1 : Int32) = (0 : Int32)))).1) k_) ?_
    show own_Ends _ _ _ _ _ _ _ s₁ (mkF m 16 #[.val (.int p0), .val (.int p1), .val (.int p2), .val (.int (1 : Int32)), .unset, .unset, .unset, .unset, .unset, .unset, .unset] [])
    obtain ⟨T10, X10, e10, st10⟩ := getS2 X0 hx hZ hown (host := "") (Or.inl (hw _ (List.mem_of_getElem? (i := 10) rfl))) Via.refl e0 SH (g := (mkF m 16 #[.val (.int p0), .val (.int p1), .val (.int p2), .val (.int (1 : Int32)), .unset, .unset, .unset, .unset, .unset, .unset, .unset] [])) rfl (hb hby at_16)
    refine own_go st10 ?_
    show own_Ends _ _ _ _ _ _ _ T10 (mkF m 19 #[.val (.int p0), .val (.int p1), .val (.int p2), .val (.int (1 : Int32)), .unset, .unset, .unset, .unset, .unset, .unset, .unset] [(.ref wH)])
    refine own_go (fun t_ k_ => XS.goto X10.here hx rfl (pc0 := 19) (pc' := 25) rfl (hb hby at_19) (by decide) (by decide) k_) ?_
    show own_Ends _ _ _ _ _ _ _ T10 (mkF m 25 #[.val (.int p0), .val (.int p1), .val (.int p2), .val (.int (1 : Int32)), .unset, .unset, .unset, .unset, .unset, .unset, .unset] [(.ref wH)])
    refine own_go (fun t_ k_ => XS.astore X10.here hx rfl (hb hby at_25) rfl rfl (l' := #[.val (.int p0), .val (.int p1), .val (.int p2), .val (.int (1 : Int32)), .val (.ref wH), .unset, .unset, .unset, .unset, .unset, .unset]) rfl k_) ?_
    show own_Ends _ _ _ _ _ _ _ T10 (mkF m 27 #[.val (.int p0), .val (.int p1), .val (.int p2), .val (.int (1 : Int32)), .val (.ref wH), .unset, .unset, .unset, .unset, .unset, .unset] [])
    refine own_go (fun t_ k_ => XS.iloadN X10.here hx rfl (hb hby at_27) rfl  k_) ?_
    show own_Ends _ _ _ _ _ _ _ T10 (mkF m 28 #[.val (.int p0), .val (.int p1), .val (.int p2), .val (.int (1 : Int32)), .val (.ref wH), .unset, .unset, .unset, .unset, .unset, .unset] [(.int p0)])
    refine own_go (fun t_ k_ => XT.i2l X10.here hx rfl (hb hby at_28) rfl k_) ?_
    show own_Ends _ _ _ _ _ _ _ T10 (mkF m 29 #[.val (.int p0), .val (.int p1), .val (.int p2), .val (.int (1 : Int32)), .val (.ref wH), .unset, .unset, .unset, .unset, .unset, .unset] [(.long (p0.toInt64))])
    refine own_go (fun t_ k_ => XS.iloadN X10.here hx rfl (hb hby at_29) rfl  k_) ?_
    show own_Ends _ _ _ _ _ _ _ T10 (mkF m 30 #[.val (.int p0), .val (.int p1), .val (.int p2), .val (.int (1 : Int32)), .val (.ref wH), .unset, .unset, .unset, .unset, .unset, .unset] [(.int p1), (.long (p0.toInt64))])
    refine own_go (fun t_ k_ => XT.i2l X10.here hx rfl (hb hby at_30) rfl k_) ?_
    show own_Ends _ _ _ _ _ _ _ T10 (mkF m 31 #[.val (.int p0), .val (.int p1), .val (.int p2), .val (.int (1 : Int32)), .val (.ref wH), .unset, .unset, .unset, .unset, .unset, .unset] [(.long (p1.toInt64)), (.long (p0.toInt64))])
    refine own_go (fun t_ k_ => XT.lsub X10.here hx rfl (hb hby at_31) rfl k_) ?_
    show own_Ends _ _ _ _ _ _ _ T10 (mkF m 32 #[.val (.int p0), .val (.int p1), .val (.int p2), .val (.int (1 : Int32)), .val (.ref wH), .unset, .unset, .unset, .unset, .unset, .unset] [(.long ((p0.toInt64) - (p1.toInt64)))])
    refine own_go (fun t_ k_ => XT.lstore X10.here hx rfl (hb hby at_32) rfl (l' := #[.val (.int p0), .val (.int p1), .val (.int p2), .val (.int (1 : Int32)), .val (.ref wH), .val (.long ((p0.toInt64) - (p1.toInt64))), .second, .unset, .unset, .unset, .unset]) rfl k_) ?_
    show own_Ends _ _ _ _ _ _ _ T10 (mkF m 34 #[.val (.int p0), .val (.int p1), .val (.int p2), .val (.int (1 : Int32)), .val (.ref wH), .val (.long ((p0.toInt64) - (p1.toInt64))), .second, .unset, .unset, .unset, .unset] [])
    refine own_go (fun t_ k_ => XS.iloadN X10.here hx rfl (hb hby at_34) rfl  k_) ?_
    show own_Ends _ _ _ _ _ _ _ T10 (mkF m 35 #[.val (.int p0), .val (.int p1), .val (.int p2), .val (.int (1 : Int32)), .val (.ref wH), .val (.long ((p0.toInt64) - (p1.toInt64))), .second, .unset, .unset, .unset, .unset] [(.int (1 : Int32))])
    refine own_go (fun t_ k_ => XS.ifNo X10.here hx rfl (hb hby at_35) rfl ((if0 _ _).trans (feq (by decide : ¬ ((1 : Int32) = (0 : Int32)))).1) k_) ?_
    show own_Ends _ _ _ _ _ _ _ T10 (mkF m 38 #[.val (.int p0), .val (.int p1), .val (.int p2), .val (.int (1 : Int32)), .val (.ref wH), .val (.long ((p0.toInt64) - (p1.toInt64))), .second, .unset, .unset, .unset, .unset] [])
    refine own_go (fun t_ k_ => XT.lload X10.here hx rfl (hb hby at_38) rfl k_) ?_
    show own_Ends _ _ _ _ _ _ _ T10 (mkF m 40 #[.val (.int p0), .val (.int p1), .val (.int p2), .val (.int (1 : Int32)), .val (.ref wH), .val (.long ((p0.toInt64) - (p1.toInt64))), .second, .unset, .unset, .unset, .unset] [(.long ((p0.toInt64) - (p1.toInt64)))])
    refine own_go (fun t_ k_ => XT.lconst X10.here hx rfl (hb hby at_40) k_) ?_
    show own_Ends _ _ _ _ _ _ _ T10 (mkF m 41 #[.val (.int p0), .val (.int p1), .val (.int p2), .val (.int (1 : Int32)), .val (.ref wH), .val (.long ((p0.toInt64) - (p1.toInt64))), .second, .unset, .unset, .unset, .unset] [(.long (0 : Int64)), (.long ((p0.toInt64) - (p1.toInt64)))])
    refine own_go (fun t_ k_ => XT.lcmp X10.here hx rfl (hb hby at_41) rfl k_) ?_
    show own_Ends _ _ _ _ _ _ _ T10 (mkF m 42 #[.val (.int p0), .val (.int p1), .val (.int p2), .val (.int (1 : Int32)), .val (.ref wH), .val (.long ((p0.toInt64) - (p1.toInt64))), .second, .unset, .unset, .unset, .unset] [(.int (XT.cmpL ((p0.toInt64) - (p1.toInt64)) (0 : Int64)))])
    by_cases hc11 : (0 : Int64) < ((p0.toInt64) - (p1.toInt64))
    · refine own_go (fun t_ k_ => XS.ifNo X10.here hx rfl (hb hby at_42) rfl (XT.ll_le_f hc11) k_) ?_
      show own_Ends _ _ _ _ _ _ _ T10 (mkF m 45 #[.val (.int p0), .val (.int p1), .val (.int p2), .val (.int (1 : Int32)), .val (.ref wH), .val (.long ((p0.toInt64) - (p1.toInt64))), .second, .unset, .unset, .unset, .unset] [])
      refine own_go (fun t_ k_ => XS.iconst X10.here hx rfl (hb hby at_45) k_) ?_
      show own_Ends _ _ _ _ _ _ _ T10 (mkF m 46 #[.val (.int p0), .val (.int p1), .val (.int p2), .val (.int (1 : Int32)), .val (.ref wH), .val (.long ((p0.toInt64) - (p1.toInt64))), .second, .unset, .unset, .unset, .unset] [(.int (1 : Int32))])
      refine own_go (fun t_ k_ => XS.goto X10.here hx rfl (pc0 := 46) (pc' := 65) rfl (hb hby at_46) (by decide) (by decide) k_) ?_
      show own_Ends _ _ _ _ _ _ _ T10 (mkF m 65 #[.val (.int p0), .val (.int p1), .val (.int p2), .val (.int (1 : Int32)), .val (.ref wH), .val (.long ((p0.toInt64) - (p1.toInt64))), .second, .unset, .unset, .unset, .unset] [(.int (1 : Int32))])
      refine own_go (fun t_ k_ => XS.istore X10.here hx rfl (hb hby at_65) rfl (l' := #[.val (.int p0), .val (.int p1), .val (.int p2), .val (.int (1 : Int32)), .val (.ref wH), .val (.long ((p0.toInt64) - (p1.toInt64))), .second, .val (.int (1 : Int32)), .unset, .unset, .unset]) rfl k_) ?_
      show own_Ends _ _ _ _ _ _ _ T10 (mkF m 67 #[.val (.int p0), .val (.int p1), .val (.int p2), .val (.int (1 : Int32)), .val (.ref wH), .val (.long ((p0.toInt64) - (p1.toInt64))), .second, .val (.int (1 : Int32)), .unset, .unset, .unset] [])
      refine own_go (fun t_ k_ => XS.aload X10.here hx rfl (hb hby at_67) rfl rfl  k_) ?_
      show own_Ends _ _ _ _ _ _ _ T10 (mkF m 69 #[.val (.int p0), .val (.int p1), .val (.int p2), .val (.int (1 : Int32)), .val (.ref wH), .val (.long ((p0.toInt64) - (p1.toInt64))), .second, .val (.int (1 : Int32)), .unset, .unset, .unset] [(.ref wH)])
      refine own_go (fun t_ k_ => XS.iloadN X10.here hx rfl (hb hby at_69) rfl  k_) ?_
      show own_Ends _ _ _ _ _ _ _ T10 (mkF m 70 #[.val (.int p0), .val (.int p1), .val (.int p2), .val (.int (1 : Int32)), .val (.ref wH), .val (.long ((p0.toInt64) - (p1.toInt64))), .second, .val (.int (1 : Int32)), .unset, .unset, .unset] [(.int p0), (.ref wH)])
      refine own_go (fun t_ k_ => XS.iloadN X10.here hx rfl (hb hby at_70) rfl  k_) ?_
      show own_Ends _ _ _ _ _ _ _ T10 (mkF m 71 #[.val (.int p0), .val (.int p1), .val (.int p2), .val (.int (1 : Int32)), .val (.ref wH), .val (.long ((p0.toInt64) - (p1.toInt64))), .second, .val (.int (1 : Int32)), .unset, .unset, .unset] [(.int p1), (.int p0), (.ref wH)])
      obtain ⟨T12, v12, L12, X12, hQ12, st12⟩ := own_callV X10 hx hZ (y := (⟨"com/example/wearcourse/wearcourse/data/ConditionScale", "isBetter", "(II)Z"⟩ : MethodName)) (z := (⟨"com/example/wearcourse/wearcourse/data/ConditionScale", "isBetter", "(II)Z"⟩ : MethodName)) hown (hw _ (List.mem_of_getElem? (i := 3) rfl)) (hw _ (List.mem_of_getElem? (i := 4) rfl)) (notFace_of_selects (args := #[]) (mvT hZ (hw _ (List.mem_of_getElem? (i := 6) rfl)))) (hw _ (List.mem_of_getElem? (i := 6) rfl)) (hw _ (List.mem_of_getElem? (i := 5) rfl)) (hw _ (List.mem_of_getElem? (i := 1) rfl)) (hw _ (List.mem_of_getElem? (i := 7) rfl)) (by decide) (rm1 l Z a0 hw [] wH p0 p1 wH h0 n0 Z0 SH) e10 (g := (mkF m 71 #[.val (.int p0), .val (.int p1), .val (.int p2), .val (.int (1 : Int32)), .val (.ref wH), .val (.long ((p0.toInt64) - (p1.toInt64))), .second, .val (.int (1 : Int32)), .unset, .unset, .unset] [(.int p1), (.int p0), (.ref wH)])) rfl (by rw [hml]; rfl) wH EH [(.int p0), (.int p1)] [] rfl (lenOf pd__II_Z rfl) rfl 0 (by show 2 * 0 + _ ≤ _; exact Nat.le_of_eq rfl) (hb hby at_71) (by decide) (by decide) (by decide) (by decide)
      obtain ⟨hv12, N12q, e12⟩ := hQ12
      have hb12 : own_bet (wH = wH) p0 p1 = 1 := (if_pos rfl).trans (if_pos ((own_dgt _ _).mp hc11))
      rw [hb12] at hv12
      subst hv12
      refine own_go st12 ?_
      have N12 := Fr.app N0 N12q
      show own_Ends _ _ _ _ _ _ _ T12 (mkF m 74 #[.val (.int p0), .val (.int p1), .val (.int p2), .val (.int (1 : Int32)), .val (.ref wH), .val (.long ((p0.toInt64) - (p1.toInt64))), .second, .val (.int (1 : Int32)), .unset, .unset, .unset] [(.int (1 : Int32))])
      refine own_go (fun t_ k_ => XS.istore X12.here hx rfl (hb hby at_74) rfl (l' := #[.val (.int p0), .val (.int p1), .val (.int p2), .val (.int (1 : Int32)), .val (.ref wH), .val (.long ((p0.toInt64) - (p1.toInt64))), .second, .val (.int (1 : Int32)), .val (.int (1 : Int32)), .unset, .unset]) rfl k_) ?_
      show own_Ends _ _ _ _ _ _ _ T12 (mkF m 76 #[.val (.int p0), .val (.int p1), .val (.int p2), .val (.int (1 : Int32)), .val (.ref wH), .val (.long ((p0.toInt64) - (p1.toInt64))), .second, .val (.int (1 : Int32)), .val (.int (1 : Int32)), .unset, .unset] [])
      refine own_go (fun t_ k_ => XS.aload X12.here hx rfl (hb hby at_76) rfl rfl  k_) ?_
      show own_Ends _ _ _ _ _ _ _ T12 (mkF m 78 #[.val (.int p0), .val (.int p1), .val (.int p2), .val (.int (1 : Int32)), .val (.ref wH), .val (.long ((p0.toInt64) - (p1.toInt64))), .second, .val (.int (1 : Int32)), .val (.int (1 : Int32)), .unset, .unset] [(.ref wH)])
      refine own_go (fun t_ k_ => XS.iloadN X12.here hx rfl (hb hby at_78) rfl  k_) ?_
      show own_Ends _ _ _ _ _ _ _ T12 (mkF m 79 #[.val (.int p0), .val (.int p1), .val (.int p2), .val (.int (1 : Int32)), .val (.ref wH), .val (.long ((p0.toInt64) - (p1.toInt64))), .second, .val (.int (1 : Int32)), .val (.int (1 : Int32)), .unset, .unset] [(.int p1), (.ref wH)])
      refine own_go (fun t_ k_ => XS.iloadN X12.here hx rfl (hb hby at_79) rfl  k_) ?_
      show own_Ends _ _ _ _ _ _ _ T12 (mkF m 80 #[.val (.int p0), .val (.int p1), .val (.int p2), .val (.int (1 : Int32)), .val (.ref wH), .val (.long ((p0.toInt64) - (p1.toInt64))), .second, .val (.int (1 : Int32)), .val (.int (1 : Int32)), .unset, .unset] [(.int p0), (.int p1), (.ref wH)])
      obtain ⟨T13, v13, L13, X13, hQ13, st13⟩ := own_callV X12 hx hZ (y := (⟨"com/example/wearcourse/wearcourse/data/ConditionScale", "isBetter", "(II)Z"⟩ : MethodName)) (z := (⟨"com/example/wearcourse/wearcourse/data/ConditionScale", "isBetter", "(II)Z"⟩ : MethodName)) hown (hw _ (List.mem_of_getElem? (i := 3) rfl)) (hw _ (List.mem_of_getElem? (i := 4) rfl)) (notFace_of_selects (args := #[]) (mvT hZ (hw _ (List.mem_of_getElem? (i := 6) rfl)))) (hw _ (List.mem_of_getElem? (i := 6) rfl)) (hw _ (List.mem_of_getElem? (i := 5) rfl)) (hw _ (List.mem_of_getElem? (i := 1) rfl)) (hw _ (List.mem_of_getElem? (i := 7) rfl)) (by decide) (rm1 l Z a0 hw [] wH p1 p0 wH h0 n0 Z0 SH) e12 (g := (mkF m 80 #[.val (.int p0), .val (.int p1), .val (.int p2), .val (.int (1 : Int32)), .val (.ref wH), .val (.long ((p0.toInt64) - (p1.toInt64))), .second, .val (.int (1 : Int32)), .val (.int (1 : Int32)), .unset, .unset] [(.int p0), (.int p1), (.ref wH)])) rfl (by rw [hml]; rfl) wH EH [(.int p1), (.int p0)] [] rfl (lenOf pd__II_Z rfl) rfl 0 (by show 2 * 0 + _ ≤ _; exact Nat.le_of_eq rfl) (hb hby at_80) (by decide) (by decide) (by decide) (by decide)
      obtain ⟨hv13, N13q, e13⟩ := hQ13
      have hb13 : own_bet (wH = wH) p1 p0 = 0 := (if_pos rfl).trans (if_neg (own_lf ((own_dgt _ _).mp hc11)))
      rw [hb13] at hv13
      subst hv13
      refine own_go st13 ?_
      have N13 := Fr.app N12 N13q
      show own_Ends _ _ _ _ _ _ _ T13 (mkF m 83 #[.val (.int p0), .val (.int p1), .val (.int p2), .val (.int (1 : Int32)), .val (.ref wH), .val (.long ((p0.toInt64) - (p1.toInt64))), .second, .val (.int (1 : Int32)), .val (.int (1 : Int32)), .unset, .unset] [(.int (0 : Int32))])
      refine own_go (fun t_ k_ => XS.istore X13.here hx rfl (hb hby at_83) rfl (l' := #[.val (.int p0), .val (.int p1), .val (.int p2), .val (.int (1 : Int32)), .val (.ref wH), .val (.long ((p0.toInt64) - (p1.toInt64))), .second, .val (.int (1 : Int32)), .val (.int (1 : Int32)), .val (.int (0 : Int32)), .unset]) rfl k_) ?_
      show own_Ends _ _ _ _ _ _ _ T13 (mkF m 85 #[.val (.int p0), .val (.int p1), .val (.int p2), .val (.int (1 : Int32)), .val (.ref wH), .val (.long ((p0.toInt64) - (p1.toInt64))), .second, .val (.int (1 : Int32)), .val (.int (1 : Int32)), .val (.int (0 : Int32)), .unset] [])
      refine own_go (fun t_ k_ => XS.aload X13.here hx rfl (hb hby at_85) rfl rfl  k_) ?_
      show own_Ends _ _ _ _ _ _ _ T13 (mkF m 87 #[.val (.int p0), .val (.int p1), .val (.int p2), .val (.int (1 : Int32)), .val (.ref wH), .val (.long ((p0.toInt64) - (p1.toInt64))), .second, .val (.int (1 : Int32)), .val (.int (1 : Int32)), .val (.int (0 : Int32)), .unset] [(.ref wH)])
      refine own_go (fun t_ k_ => XS.iloadN X13.here hx rfl (hb hby at_87) rfl  k_) ?_
      show own_Ends _ _ _ _ _ _ _ T13 (mkF m 88 #[.val (.int p0), .val (.int p1), .val (.int p2), .val (.int (1 : Int32)), .val (.ref wH), .val (.long ((p0.toInt64) - (p1.toInt64))), .second, .val (.int (1 : Int32)), .val (.int (1 : Int32)), .val (.int (0 : Int32)), .unset] [(.int p0), (.ref wH)])
      refine own_go (fun t_ k_ => XS.iloadN X13.here hx rfl (hb hby at_88) rfl  k_) ?_
      show own_Ends _ _ _ _ _ _ _ T13 (mkF m 89 #[.val (.int p0), .val (.int p1), .val (.int p2), .val (.int (1 : Int32)), .val (.ref wH), .val (.long ((p0.toInt64) - (p1.toInt64))), .second, .val (.int (1 : Int32)), .val (.int (1 : Int32)), .val (.int (0 : Int32)), .unset] [(.int p0), (.int p0), (.ref wH)])
      obtain ⟨T14, v14, L14, X14, hQ14, st14⟩ := own_callV X13 hx hZ (y := (⟨"com/example/wearcourse/wearcourse/data/ConditionScale", "isBetter", "(II)Z"⟩ : MethodName)) (z := (⟨"com/example/wearcourse/wearcourse/data/ConditionScale", "isBetter", "(II)Z"⟩ : MethodName)) hown (hw _ (List.mem_of_getElem? (i := 3) rfl)) (hw _ (List.mem_of_getElem? (i := 4) rfl)) (notFace_of_selects (args := #[]) (mvT hZ (hw _ (List.mem_of_getElem? (i := 6) rfl)))) (hw _ (List.mem_of_getElem? (i := 6) rfl)) (hw _ (List.mem_of_getElem? (i := 5) rfl)) (hw _ (List.mem_of_getElem? (i := 1) rfl)) (hw _ (List.mem_of_getElem? (i := 7) rfl)) (by decide) (rm1 l Z a0 hw [] wH p0 p0 wH h0 n0 Z0 SH) e13 (g := (mkF m 89 #[.val (.int p0), .val (.int p1), .val (.int p2), .val (.int (1 : Int32)), .val (.ref wH), .val (.long ((p0.toInt64) - (p1.toInt64))), .second, .val (.int (1 : Int32)), .val (.int (1 : Int32)), .val (.int (0 : Int32)), .unset] [(.int p0), (.int p0), (.ref wH)])) rfl (by rw [hml]; rfl) wH EH [(.int p0), (.int p0)] [] rfl (lenOf pd__II_Z rfl) rfl 0 (by show 2 * 0 + _ ≤ _; exact Nat.le_of_eq rfl) (hb hby at_89) (by decide) (by decide) (by decide) (by decide)
      obtain ⟨hv14, N14q, e14⟩ := hQ14
      have hb14 : own_bet (wH = wH) p0 p0 = 0 := (if_pos rfl).trans (if_neg (Int32.lt_irrefl))
      rw [hb14] at hv14
      subst hv14
      refine own_go st14 ?_
      have N14 := Fr.app N13 N14q
      show own_Ends _ _ _ _ _ _ _ T14 (mkF m 92 #[.val (.int p0), .val (.int p1), .val (.int p2), .val (.int (1 : Int32)), .val (.ref wH), .val (.long ((p0.toInt64) - (p1.toInt64))), .second, .val (.int (1 : Int32)), .val (.int (1 : Int32)), .val (.int (0 : Int32)), .unset] [(.int (0 : Int32))])
      refine own_go (fun t_ k_ => XS.istore X14.here hx rfl (hb hby at_92) rfl (l' := #[.val (.int p0), .val (.int p1), .val (.int p2), .val (.int (1 : Int32)), .val (.ref wH), .val (.long ((p0.toInt64) - (p1.toInt64))), .second, .val (.int (1 : Int32)), .val (.int (1 : Int32)), .val (.int (0 : Int32)), .val (.int (0 : Int32))]) rfl k_) ?_
      show own_Ends _ _ _ _ _ _ _ T14 (mkF m 94 #[.val (.int p0), .val (.int p1), .val (.int p2), .val (.int (1 : Int32)), .val (.ref wH), .val (.long ((p0.toInt64) - (p1.toInt64))), .second, .val (.int (1 : Int32)), .val (.int (1 : Int32)), .val (.int (0 : Int32)), .val (.int (0 : Int32))] [])
      refine own_go (fun t_ k_ => XS.iload X14.here hx rfl (hb hby at_94) rfl  k_) ?_
      show own_Ends _ _ _ _ _ _ _ T14 (mkF m 96 #[.val (.int p0), .val (.int p1), .val (.int p2), .val (.int (1 : Int32)), .val (.ref wH), .val (.long ((p0.toInt64) - (p1.toInt64))), .second, .val (.int (1 : Int32)), .val (.int (1 : Int32)), .val (.int (0 : Int32)), .val (.int (0 : Int32))] [(.int (1 : Int32))])
      refine own_go (fun t_ k_ => XS.iload X14.here hx rfl (hb hby at_96) rfl  k_) ?_
      show own_Ends _ _ _ _ _ _ _ T14 (mkF m 98 #[.val (.int p0), .val (.int p1), .val (.int p2), .val (.int (1 : Int32)), .val (.ref wH), .val (.long ((p0.toInt64) - (p1.toInt64))), .second, .val (.int (1 : Int32)), .val (.int (1 : Int32)), .val (.int (0 : Int32)), .val (.int (0 : Int32))] [(.int (1 : Int32)), (.int (1 : Int32))])
      refine own_go (fun t_ k_ => XS.icmpNo X14.here hx rfl (hb hby at_98) rfl (teq (by decide : (1 : Int32) = (1 : Int32))).2 k_) ?_
      show own_Ends _ _ _ _ _ _ _ T14 (mkF m 101 #[.val (.int p0), .val (.int p1), .val (.int p2), .val (.int (1 : Int32)), .val (.ref wH), .val (.long ((p0.toInt64) - (p1.toInt64))), .second, .val (.int (1 : Int32)), .val (.int (1 : Int32)), .val (.int (0 : Int32)), .val (.int (0 : Int32))] [])
      refine own_go (fun t_ k_ => XS.iload X14.here hx rfl (hb hby at_101) rfl  k_) ?_
      show own_Ends _ _ _ _ _ _ _ T14 (mkF m 103 #[.val (.int p0), .val (.int p1), .val (.int p2), .val (.int (1 : Int32)), .val (.ref wH), .val (.long ((p0.toInt64) - (p1.toInt64))), .second, .val (.int (1 : Int32)), .val (.int (1 : Int32)), .val (.int (0 : Int32)), .val (.int (0 : Int32))] [(.int (1 : Int32))])
      refine own_go (fun t_ k_ => XS.ifNo X14.here hx rfl (hb hby at_103) rfl ((if0 _ _).trans (feq (by decide : ¬ ((1 : Int32) = (0 : Int32)))).1) k_) ?_
      show own_Ends _ _ _ _ _ _ _ T14 (mkF m 106 #[.val (.int p0), .val (.int p1), .val (.int p2), .val (.int (1 : Int32)), .val (.ref wH), .val (.long ((p0.toInt64) - (p1.toInt64))), .second, .val (.int (1 : Int32)), .val (.int (1 : Int32)), .val (.int (0 : Int32)), .val (.int (0 : Int32))] [])
      refine own_go (fun t_ k_ => XS.iload X14.here hx rfl (hb hby at_106) rfl  k_) ?_
      show own_Ends _ _ _ _ _ _ _ T14 (mkF m 108 #[.val (.int p0), .val (.int p1), .val (.int p2), .val (.int (1 : Int32)), .val (.ref wH), .val (.long ((p0.toInt64) - (p1.toInt64))), .second, .val (.int (1 : Int32)), .val (.int (1 : Int32)), .val (.int (0 : Int32)), .val (.int (0 : Int32))] [(.int (0 : Int32))])
      refine own_go (fun t_ k_ => XS.ifNo X14.here hx rfl (hb hby at_108) rfl ((if0 _ _).trans (teq (by decide : (0 : Int32) = (0 : Int32))).2) k_) ?_
      show own_Ends _ _ _ _ _ _ _ T14 (mkF m 111 #[.val (.int p0), .val (.int p1), .val (.int p2), .val (.int (1 : Int32)), .val (.ref wH), .val (.long ((p0.toInt64) - (p1.toInt64))), .second, .val (.int (1 : Int32)), .val (.int (1 : Int32)), .val (.int (0 : Int32)), .val (.int (0 : Int32))] [])
      refine own_go (fun t_ k_ => XS.iload X14.here hx rfl (hb hby at_111) rfl  k_) ?_
      show own_Ends _ _ _ _ _ _ _ T14 (mkF m 113 #[.val (.int p0), .val (.int p1), .val (.int p2), .val (.int (1 : Int32)), .val (.ref wH), .val (.long ((p0.toInt64) - (p1.toInt64))), .second, .val (.int (1 : Int32)), .val (.int (1 : Int32)), .val (.int (0 : Int32)), .val (.int (0 : Int32))] [(.int (0 : Int32))])
      refine own_go (fun t_ k_ => XS.ifNo X14.here hx rfl (hb hby at_113) rfl ((if0 _ _).trans (teq (by decide : (0 : Int32) = (0 : Int32))).2) k_) ?_
      show own_Ends _ _ _ _ _ _ _ T14 (mkF m 116 #[.val (.int p0), .val (.int p1), .val (.int p2), .val (.int (1 : Int32)), .val (.ref wH), .val (.long ((p0.toInt64) - (p1.toInt64))), .second, .val (.int (1 : Int32)), .val (.int (1 : Int32)), .val (.int (0 : Int32)), .val (.int (0 : Int32))] [])
      refine own_go (fun t_ k_ => XS.iconst X14.here hx rfl (hb hby at_116) k_) ?_
      show own_Ends _ _ _ _ _ _ _ T14 (mkF m 117 #[.val (.int p0), .val (.int p1), .val (.int p2), .val (.int (1 : Int32)), .val (.ref wH), .val (.long ((p0.toInt64) - (p1.toInt64))), .second, .val (.int (1 : Int32)), .val (.int (1 : Int32)), .val (.int (0 : Int32)), .val (.int (0 : Int32))] [(.int (1 : Int32))])
      refine own_go (fun t_ k_ => XS.goto X14.here hx rfl (pc0 := 117) (pc' := 121) rfl (hb hby at_117) (by decide) (by decide) k_) ?_
      show own_Ends _ _ _ _ _ _ _ T14 (mkF m 121 #[.val (.int p0), .val (.int p1), .val (.int p2), .val (.int (1 : Int32)), .val (.ref wH), .val (.long ((p0.toInt64) - (p1.toInt64))), .second, .val (.int (1 : Int32)), .val (.int (1 : Int32)), .val (.int (0 : Int32)), .val (.int (0 : Int32))] [(.int (1 : Int32))])
      refine own_retN X14 hx hlk (t := .boolean) hret (by simp) (hb hby at_121) e14 (by decide) (by decide) ?_
      exact ⟨rfl, N14⟩
    · refine own_go (fun t_ k_ => XS.ifYes X10.here hx rfl (pc0 := 42) (pc' := 49) rfl (hb hby at_42) rfl (XT.ll_le_t hc11) (by decide) (by decide) k_) ?_
      show own_Ends _ _ _ _ _ _ _ T10 (mkF m 49 #[.val (.int p0), .val (.int p1), .val (.int p2), .val (.int (1 : Int32)), .val (.ref wH), .val (.long ((p0.toInt64) - (p1.toInt64))), .second, .unset, .unset, .unset, .unset] [])
      refine own_go (fun t_ k_ => XS.iconst X10.here hx rfl (hb hby at_49) k_) ?_
      show own_Ends _ _ _ _ _ _ _ T10 (mkF m 50 #[.val (.int p0), .val (.int p1), .val (.int p2), .val (.int (1 : Int32)), .val (.ref wH), .val (.long ((p0.toInt64) - (p1.toInt64))), .second, .unset, .unset, .unset, .unset] [(.int (0 : Int32))])
      refine own_go (fun t_ k_ => XS.goto X10.here hx rfl (pc0 := 50) (pc' := 65) rfl (hb hby at_50) (by decide) (by decide) k_) ?_
      show own_Ends _ _ _ _ _ _ _ T10 (mkF m 65 #[.val (.int p0), .val (.int p1), .val (.int p2), .val (.int (1 : Int32)), .val (.ref wH), .val (.long ((p0.toInt64) - (p1.toInt64))), .second, .unset, .unset, .unset, .unset] [(.int (0 : Int32))])
      refine own_go (fun t_ k_ => XS.istore X10.here hx rfl (hb hby at_65) rfl (l' := #[.val (.int p0), .val (.int p1), .val (.int p2), .val (.int (1 : Int32)), .val (.ref wH), .val (.long ((p0.toInt64) - (p1.toInt64))), .second, .val (.int (0 : Int32)), .unset, .unset, .unset]) rfl k_) ?_
      show own_Ends _ _ _ _ _ _ _ T10 (mkF m 67 #[.val (.int p0), .val (.int p1), .val (.int p2), .val (.int (1 : Int32)), .val (.ref wH), .val (.long ((p0.toInt64) - (p1.toInt64))), .second, .val (.int (0 : Int32)), .unset, .unset, .unset] [])
      refine own_go (fun t_ k_ => XS.aload X10.here hx rfl (hb hby at_67) rfl rfl  k_) ?_
      show own_Ends _ _ _ _ _ _ _ T10 (mkF m 69 #[.val (.int p0), .val (.int p1), .val (.int p2), .val (.int (1 : Int32)), .val (.ref wH), .val (.long ((p0.toInt64) - (p1.toInt64))), .second, .val (.int (0 : Int32)), .unset, .unset, .unset] [(.ref wH)])
      refine own_go (fun t_ k_ => XS.iloadN X10.here hx rfl (hb hby at_69) rfl  k_) ?_
      show own_Ends _ _ _ _ _ _ _ T10 (mkF m 70 #[.val (.int p0), .val (.int p1), .val (.int p2), .val (.int (1 : Int32)), .val (.ref wH), .val (.long ((p0.toInt64) - (p1.toInt64))), .second, .val (.int (0 : Int32)), .unset, .unset, .unset] [(.int p0), (.ref wH)])
      refine own_go (fun t_ k_ => XS.iloadN X10.here hx rfl (hb hby at_70) rfl  k_) ?_
      show own_Ends _ _ _ _ _ _ _ T10 (mkF m 71 #[.val (.int p0), .val (.int p1), .val (.int p2), .val (.int (1 : Int32)), .val (.ref wH), .val (.long ((p0.toInt64) - (p1.toInt64))), .second, .val (.int (0 : Int32)), .unset, .unset, .unset] [(.int p1), (.int p0), (.ref wH)])
      obtain ⟨T15, v15, L15, X15, hQ15, st15⟩ := own_callV X10 hx hZ (y := (⟨"com/example/wearcourse/wearcourse/data/ConditionScale", "isBetter", "(II)Z"⟩ : MethodName)) (z := (⟨"com/example/wearcourse/wearcourse/data/ConditionScale", "isBetter", "(II)Z"⟩ : MethodName)) hown (hw _ (List.mem_of_getElem? (i := 3) rfl)) (hw _ (List.mem_of_getElem? (i := 4) rfl)) (notFace_of_selects (args := #[]) (mvT hZ (hw _ (List.mem_of_getElem? (i := 6) rfl)))) (hw _ (List.mem_of_getElem? (i := 6) rfl)) (hw _ (List.mem_of_getElem? (i := 5) rfl)) (hw _ (List.mem_of_getElem? (i := 1) rfl)) (hw _ (List.mem_of_getElem? (i := 7) rfl)) (by decide) (rm1 l Z a0 hw [] wH p0 p1 wH h0 n0 Z0 SH) e10 (g := (mkF m 71 #[.val (.int p0), .val (.int p1), .val (.int p2), .val (.int (1 : Int32)), .val (.ref wH), .val (.long ((p0.toInt64) - (p1.toInt64))), .second, .val (.int (0 : Int32)), .unset, .unset, .unset] [(.int p1), (.int p0), (.ref wH)])) rfl (by rw [hml]; rfl) wH EH [(.int p0), (.int p1)] [] rfl (lenOf pd__II_Z rfl) rfl 0 (by show 2 * 0 + _ ≤ _; exact Nat.le_of_eq rfl) (hb hby at_71) (by decide) (by decide) (by decide) (by decide)
      obtain ⟨hv15, N15q, e15⟩ := hQ15
      have hb15 : own_bet (wH = wH) p0 p1 = 0 := (if_pos rfl).trans (if_neg (fun q => hc11 ((own_dgt _ _).mpr q)))
      rw [hb15] at hv15
      subst hv15
      refine own_go st15 ?_
      have N15 := Fr.app N0 N15q
      show own_Ends _ _ _ _ _ _ _ T15 (mkF m 74 #[.val (.int p0), .val (.int p1), .val (.int p2), .val (.int (1 : Int32)), .val (.ref wH), .val (.long ((p0.toInt64) - (p1.toInt64))), .second, .val (.int (0 : Int32)), .unset, .unset, .unset] [(.int (0 : Int32))])
      refine own_go (fun t_ k_ => XS.istore X15.here hx rfl (hb hby at_74) rfl (l' := #[.val (.int p0), .val (.int p1), .val (.int p2), .val (.int (1 : Int32)), .val (.ref wH), .val (.long ((p0.toInt64) - (p1.toInt64))), .second, .val (.int (0 : Int32)), .val (.int (0 : Int32)), .unset, .unset]) rfl k_) ?_
      show own_Ends _ _ _ _ _ _ _ T15 (mkF m 76 #[.val (.int p0), .val (.int p1), .val (.int p2), .val (.int (1 : Int32)), .val (.ref wH), .val (.long ((p0.toInt64) - (p1.toInt64))), .second, .val (.int (0 : Int32)), .val (.int (0 : Int32)), .unset, .unset] [])
      refine own_go (fun t_ k_ => XS.aload X15.here hx rfl (hb hby at_76) rfl rfl  k_) ?_
      show own_Ends _ _ _ _ _ _ _ T15 (mkF m 78 #[.val (.int p0), .val (.int p1), .val (.int p2), .val (.int (1 : Int32)), .val (.ref wH), .val (.long ((p0.toInt64) - (p1.toInt64))), .second, .val (.int (0 : Int32)), .val (.int (0 : Int32)), .unset, .unset] [(.ref wH)])
      refine own_go (fun t_ k_ => XS.iloadN X15.here hx rfl (hb hby at_78) rfl  k_) ?_
      show own_Ends _ _ _ _ _ _ _ T15 (mkF m 79 #[.val (.int p0), .val (.int p1), .val (.int p2), .val (.int (1 : Int32)), .val (.ref wH), .val (.long ((p0.toInt64) - (p1.toInt64))), .second, .val (.int (0 : Int32)), .val (.int (0 : Int32)), .unset, .unset] [(.int p1), (.ref wH)])
      refine own_go (fun t_ k_ => XS.iloadN X15.here hx rfl (hb hby at_79) rfl  k_) ?_
      show own_Ends _ _ _ _ _ _ _ T15 (mkF m 80 #[.val (.int p0), .val (.int p1), .val (.int p2), .val (.int (1 : Int32)), .val (.ref wH), .val (.long ((p0.toInt64) - (p1.toInt64))), .second, .val (.int (0 : Int32)), .val (.int (0 : Int32)), .unset, .unset] [(.int p0), (.int p1), (.ref wH)])
      obtain ⟨T16, v16, L16, X16, hQ16, st16⟩ := own_callV X15 hx hZ (y := (⟨"com/example/wearcourse/wearcourse/data/ConditionScale", "isBetter", "(II)Z"⟩ : MethodName)) (z := (⟨"com/example/wearcourse/wearcourse/data/ConditionScale", "isBetter", "(II)Z"⟩ : MethodName)) hown (hw _ (List.mem_of_getElem? (i := 3) rfl)) (hw _ (List.mem_of_getElem? (i := 4) rfl)) (notFace_of_selects (args := #[]) (mvT hZ (hw _ (List.mem_of_getElem? (i := 6) rfl)))) (hw _ (List.mem_of_getElem? (i := 6) rfl)) (hw _ (List.mem_of_getElem? (i := 5) rfl)) (hw _ (List.mem_of_getElem? (i := 1) rfl)) (hw _ (List.mem_of_getElem? (i := 7) rfl)) (by decide) (rm1 l Z a0 hw [] wH p1 p0 wH h0 n0 Z0 SH) e15 (g := (mkF m 80 #[.val (.int p0), .val (.int p1), .val (.int p2), .val (.int (1 : Int32)), .val (.ref wH), .val (.long ((p0.toInt64) - (p1.toInt64))), .second, .val (.int (0 : Int32)), .val (.int (0 : Int32)), .unset, .unset] [(.int p0), (.int p1), (.ref wH)])) rfl (by rw [hml]; rfl) wH EH [(.int p1), (.int p0)] [] rfl (lenOf pd__II_Z rfl) rfl 0 (by show 2 * 0 + _ ≤ _; exact Nat.le_of_eq rfl) (hb hby at_80) (by decide) (by decide) (by decide) (by decide)
      obtain ⟨hv16, N16q, e16⟩ := hQ16
      subst hv16
      refine own_go st16 ?_
      have N16 := Fr.app N15 N16q
      show own_Ends _ _ _ _ _ _ _ T16 (mkF m 83 #[.val (.int p0), .val (.int p1), .val (.int p2), .val (.int (1 : Int32)), .val (.ref wH), .val (.long ((p0.toInt64) - (p1.toInt64))), .second, .val (.int (0 : Int32)), .val (.int (0 : Int32)), .unset, .unset] [(.int (own_bet (wH = wH) p1 p0))])
      refine own_go (fun t_ k_ => XS.istore X16.here hx rfl (hb hby at_83) rfl (l' := #[.val (.int p0), .val (.int p1), .val (.int p2), .val (.int (1 : Int32)), .val (.ref wH), .val (.long ((p0.toInt64) - (p1.toInt64))), .second, .val (.int (0 : Int32)), .val (.int (0 : Int32)), .val (.int (own_bet (wH = wH) p1 p0)), .unset]) rfl k_) ?_
      show own_Ends _ _ _ _ _ _ _ T16 (mkF m 85 #[.val (.int p0), .val (.int p1), .val (.int p2), .val (.int (1 : Int32)), .val (.ref wH), .val (.long ((p0.toInt64) - (p1.toInt64))), .second, .val (.int (0 : Int32)), .val (.int (0 : Int32)), .val (.int (own_bet (wH = wH) p1 p0)), .unset] [])
      refine own_go (fun t_ k_ => XS.aload X16.here hx rfl (hb hby at_85) rfl rfl  k_) ?_
      show own_Ends _ _ _ _ _ _ _ T16 (mkF m 87 #[.val (.int p0), .val (.int p1), .val (.int p2), .val (.int (1 : Int32)), .val (.ref wH), .val (.long ((p0.toInt64) - (p1.toInt64))), .second, .val (.int (0 : Int32)), .val (.int (0 : Int32)), .val (.int (own_bet (wH = wH) p1 p0)), .unset] [(.ref wH)])
      refine own_go (fun t_ k_ => XS.iloadN X16.here hx rfl (hb hby at_87) rfl  k_) ?_
      show own_Ends _ _ _ _ _ _ _ T16 (mkF m 88 #[.val (.int p0), .val (.int p1), .val (.int p2), .val (.int (1 : Int32)), .val (.ref wH), .val (.long ((p0.toInt64) - (p1.toInt64))), .second, .val (.int (0 : Int32)), .val (.int (0 : Int32)), .val (.int (own_bet (wH = wH) p1 p0)), .unset] [(.int p0), (.ref wH)])
      refine own_go (fun t_ k_ => XS.iloadN X16.here hx rfl (hb hby at_88) rfl  k_) ?_
      show own_Ends _ _ _ _ _ _ _ T16 (mkF m 89 #[.val (.int p0), .val (.int p1), .val (.int p2), .val (.int (1 : Int32)), .val (.ref wH), .val (.long ((p0.toInt64) - (p1.toInt64))), .second, .val (.int (0 : Int32)), .val (.int (0 : Int32)), .val (.int (own_bet (wH = wH) p1 p0)), .unset] [(.int p0), (.int p0), (.ref wH)])
      obtain ⟨T17, v17, L17, X17, hQ17, st17⟩ := own_callV X16 hx hZ (y := (⟨"com/example/wearcourse/wearcourse/data/ConditionScale", "isBetter", "(II)Z"⟩ : MethodName)) (z := (⟨"com/example/wearcourse/wearcourse/data/ConditionScale", "isBetter", "(II)Z"⟩ : MethodName)) hown (hw _ (List.mem_of_getElem? (i := 3) rfl)) (hw _ (List.mem_of_getElem? (i := 4) rfl)) (notFace_of_selects (args := #[]) (mvT hZ (hw _ (List.mem_of_getElem? (i := 6) rfl)))) (hw _ (List.mem_of_getElem? (i := 6) rfl)) (hw _ (List.mem_of_getElem? (i := 5) rfl)) (hw _ (List.mem_of_getElem? (i := 1) rfl)) (hw _ (List.mem_of_getElem? (i := 7) rfl)) (by decide) (rm1 l Z a0 hw [] wH p0 p0 wH h0 n0 Z0 SH) e16 (g := (mkF m 89 #[.val (.int p0), .val (.int p1), .val (.int p2), .val (.int (1 : Int32)), .val (.ref wH), .val (.long ((p0.toInt64) - (p1.toInt64))), .second, .val (.int (0 : Int32)), .val (.int (0 : Int32)), .val (.int (own_bet (wH = wH) p1 p0)), .unset] [(.int p0), (.int p0), (.ref wH)])) rfl (by rw [hml]; rfl) wH EH [(.int p0), (.int p0)] [] rfl (lenOf pd__II_Z rfl) rfl 0 (by show 2 * 0 + _ ≤ _; exact Nat.le_of_eq rfl) (hb hby at_89) (by decide) (by decide) (by decide) (by decide)
      obtain ⟨hv17, N17q, e17⟩ := hQ17
      have hb17 : own_bet (wH = wH) p0 p0 = 0 := (if_pos rfl).trans (if_neg (Int32.lt_irrefl))
      rw [hb17] at hv17
      subst hv17
      refine own_go st17 ?_
      have N17 := Fr.app N16 N17q
      show own_Ends _ _ _ _ _ _ _ T17 (mkF m 92 #[.val (.int p0), .val (.int p1), .val (.int p2), .val (.int (1 : Int32)), .val (.ref wH), .val (.long ((p0.toInt64) - (p1.toInt64))), .second, .val (.int (0 : Int32)), .val (.int (0 : Int32)), .val (.int (own_bet (wH = wH) p1 p0)), .unset] [(.int (0 : Int32))])
      refine own_go (fun t_ k_ => XS.istore X17.here hx rfl (hb hby at_92) rfl (l' := #[.val (.int p0), .val (.int p1), .val (.int p2), .val (.int (1 : Int32)), .val (.ref wH), .val (.long ((p0.toInt64) - (p1.toInt64))), .second, .val (.int (0 : Int32)), .val (.int (0 : Int32)), .val (.int (own_bet (wH = wH) p1 p0)), .val (.int (0 : Int32))]) rfl k_) ?_
      show own_Ends _ _ _ _ _ _ _ T17 (mkF m 94 #[.val (.int p0), .val (.int p1), .val (.int p2), .val (.int (1 : Int32)), .val (.ref wH), .val (.long ((p0.toInt64) - (p1.toInt64))), .second, .val (.int (0 : Int32)), .val (.int (0 : Int32)), .val (.int (own_bet (wH = wH) p1 p0)), .val (.int (0 : Int32))] [])
      refine own_go (fun t_ k_ => XS.iload X17.here hx rfl (hb hby at_94) rfl  k_) ?_
      show own_Ends _ _ _ _ _ _ _ T17 (mkF m 96 #[.val (.int p0), .val (.int p1), .val (.int p2), .val (.int (1 : Int32)), .val (.ref wH), .val (.long ((p0.toInt64) - (p1.toInt64))), .second, .val (.int (0 : Int32)), .val (.int (0 : Int32)), .val (.int (own_bet (wH = wH) p1 p0)), .val (.int (0 : Int32))] [(.int (0 : Int32))])
      refine own_go (fun t_ k_ => XS.iload X17.here hx rfl (hb hby at_96) rfl  k_) ?_
      show own_Ends _ _ _ _ _ _ _ T17 (mkF m 98 #[.val (.int p0), .val (.int p1), .val (.int p2), .val (.int (1 : Int32)), .val (.ref wH), .val (.long ((p0.toInt64) - (p1.toInt64))), .second, .val (.int (0 : Int32)), .val (.int (0 : Int32)), .val (.int (own_bet (wH = wH) p1 p0)), .val (.int (0 : Int32))] [(.int (0 : Int32)), (.int (0 : Int32))])
      refine own_go (fun t_ k_ => XS.icmpNo X17.here hx rfl (hb hby at_98) rfl (teq (by decide : (0 : Int32) = (0 : Int32))).2 k_) ?_
      show own_Ends _ _ _ _ _ _ _ T17 (mkF m 101 #[.val (.int p0), .val (.int p1), .val (.int p2), .val (.int (1 : Int32)), .val (.ref wH), .val (.long ((p0.toInt64) - (p1.toInt64))), .second, .val (.int (0 : Int32)), .val (.int (0 : Int32)), .val (.int (own_bet (wH = wH) p1 p0)), .val (.int (0 : Int32))] [])
      refine own_go (fun t_ k_ => XS.iload X17.here hx rfl (hb hby at_101) rfl  k_) ?_
      show own_Ends _ _ _ _ _ _ _ T17 (mkF m 103 #[.val (.int p0), .val (.int p1), .val (.int p2), .val (.int (1 : Int32)), .val (.ref wH), .val (.long ((p0.toInt64) - (p1.toInt64))), .second, .val (.int (0 : Int32)), .val (.int (0 : Int32)), .val (.int (own_bet (wH = wH) p1 p0)), .val (.int (0 : Int32))] [(.int (0 : Int32))])
      refine own_go (fun t_ k_ => XS.ifYes X17.here hx rfl (pc0 := 103) (pc' := 111) rfl (hb hby at_103) rfl ((if0 _ _).trans (teq (by decide : (0 : Int32) = (0 : Int32))).1) (by decide) (by decide) k_) ?_
      show own_Ends _ _ _ _ _ _ _ T17 (mkF m 111 #[.val (.int p0), .val (.int p1), .val (.int p2), .val (.int (1 : Int32)), .val (.ref wH), .val (.long ((p0.toInt64) - (p1.toInt64))), .second, .val (.int (0 : Int32)), .val (.int (0 : Int32)), .val (.int (own_bet (wH = wH) p1 p0)), .val (.int (0 : Int32))] [])
      refine own_go (fun t_ k_ => XS.iload X17.here hx rfl (hb hby at_111) rfl  k_) ?_
      show own_Ends _ _ _ _ _ _ _ T17 (mkF m 113 #[.val (.int p0), .val (.int p1), .val (.int p2), .val (.int (1 : Int32)), .val (.ref wH), .val (.long ((p0.toInt64) - (p1.toInt64))), .second, .val (.int (0 : Int32)), .val (.int (0 : Int32)), .val (.int (own_bet (wH = wH) p1 p0)), .val (.int (0 : Int32))] [(.int (0 : Int32))])
      refine own_go (fun t_ k_ => XS.ifNo X17.here hx rfl (hb hby at_113) rfl ((if0 _ _).trans (teq (by decide : (0 : Int32) = (0 : Int32))).2) k_) ?_
      show own_Ends _ _ _ _ _ _ _ T17 (mkF m 116 #[.val (.int p0), .val (.int p1), .val (.int p2), .val (.int (1 : Int32)), .val (.ref wH), .val (.long ((p0.toInt64) - (p1.toInt64))), .second, .val (.int (0 : Int32)), .val (.int (0 : Int32)), .val (.int (own_bet (wH = wH) p1 p0)), .val (.int (0 : Int32))] [])
      refine own_go (fun t_ k_ => XS.iconst X17.here hx rfl (hb hby at_116) k_) ?_
      show own_Ends _ _ _ _ _ _ _ T17 (mkF m 117 #[.val (.int p0), .val (.int p1), .val (.int p2), .val (.int (1 : Int32)), .val (.ref wH), .val (.long ((p0.toInt64) - (p1.toInt64))), .second, .val (.int (0 : Int32)), .val (.int (0 : Int32)), .val (.int (own_bet (wH = wH) p1 p0)), .val (.int (0 : Int32))] [(.int (1 : Int32))])
      refine own_go (fun t_ k_ => XS.goto X17.here hx rfl (pc0 := 117) (pc' := 121) rfl (hb hby at_117) (by decide) (by decide) k_) ?_
      show own_Ends _ _ _ _ _ _ _ T17 (mkF m 121 #[.val (.int p0), .val (.int p1), .val (.int p2), .val (.int (1 : Int32)), .val (.ref wH), .val (.long ((p0.toInt64) - (p1.toInt64))), .second, .val (.int (0 : Int32)), .val (.int (0 : Int32)), .val (.int (own_bet (wH = wH) p1 p0)), .val (.int (0 : Int32))] [(.int (1 : Int32))])
      refine own_retN X17 hx hlk (t := .boolean) hret (by simp) (hb hby at_121) e17 (by decide) (by decide) ?_
      exact ⟨rfl, N17⟩
set_option maxRecDepth 65536 in
set_option maxHeartbeats 40000000 in
theorem comes_1 {Post : Tables → Env → Array Value → State → Outcome → State → Prop} (hpost : ∀ tb e args s v u, (limb_1_1.after args s (.returned v) u = true ∧ limb_1_2.after args s (.returned v) u = true ∧ True) → FrameEnd s (.returned v) u (Jvm.fieldLocs frame_1_writes args s ++ Jvm.arrayLocs frame_1_arrays args s ++ Jvm.staticLocs frame_1_statics s) 0 0 → Post tb e args s (.returned v) u) :
    ArmFor flags0 classFile x code maxLocals ret World_1 tables_1 room_1 Calls_1 rest_1 Pre_1 Post := by
  intro l hfl _ _ p e ha hc hk s m args below hf hA hF happ hP
  obtain ⟨hcalls, hrest, hpre⟩ := hP
  obtain ⟨-, -, -, hnamed, -, -, -, hat⟩ := (Spec.applies_iff hf).mp happ
  obtain ⟨hg, hn⟩ := and_e (Cond.before_iff.mp (show (Jvm.Cond.and given_1 narrow_1).before args s = true from hpre))
  obtain ⟨g1, g2⟩ := and_e hg
  obtain ⟨g3, g4⟩ := and_e g2
  obtain ⟨g5, g6⟩ := and_e g4
  obtain ⟨w0, w1, w2, rfl⟩ : ∃ w0 w1 w2 : Value, args = #[w0, w1, w2] := by
    have hs : args.size = 3 := by simpa [Cond.value, given_1] using g1
    obtain ⟨L⟩ := args
    match L, hs with
    | [w0, w1, w2], _ => exact ⟨w0, w1, w2, rfl⟩
  have hw := fun d (hd : d ∈ tables_1) => atoms_spec (ws := Jvm.Cond.code x code maxLocals ret :: tables_1) hat d (List.mem_cons_of_mem _ hd)
  have hfit : Fit s := fun {y c} hc i hi => by
    obtain ⟨ha, rfl⟩ := Array.getElem?_eq_some_iff.mp hc
    have q := List.all_eq_true.mp ((Array.all_eq_true_iff_forall_mem.mp hF) _ (Array.getElem_mem ha)) i (List.mem_range.mpr hi)
    simpa [Array.getElem?_eq_getElem hi] using q
  obtain ⟨i0, ei0⟩ := is_v g3
  obtain rfl : w0 = (.int i0) := Option.some.inj ei0
  obtain ⟨i1, ei1⟩ := is_v g5
  obtain rfl : w1 = (.int i1) := Option.some.inj ei1
  obtain ⟨i2, ei2⟩ := is_v g6
  obtain rfl : w2 = (.int i2) := Option.some.inj ei2
  unfold narrow_1 at hn
  obtain ⟨g7, g8⟩ := and_e hn
  obtain ⟨g9, g10⟩ := and_e g8
  obtain ⟨g11, g12⟩ := and_e g10
  obtain ⟨a_LOWER_BETTER, ev_LOWER_BETTER⟩ := exa_v g7
  have E_LOWER_BETTER := Exa.start ev_LOWER_BETTER g7
  have S_LOWER_BETTER := Sta.start ev_LOWER_BETTER (Or.inr ⟨(hw _ (List.mem_of_getElem? (i := 1) rfl)), (hw _ (List.mem_of_getElem? (i := 2) rfl))⟩)
  obtain ⟨a_HIGHER_BETTER, ev_HIGHER_BETTER⟩ := exa_v g9
  have E_HIGHER_BETTER := Exa.start ev_HIGHER_BETTER g9
  have S_HIGHER_BETTER := Sta.start ev_HIGHER_BETTER (Or.inr ⟨(hw _ (List.mem_of_getElem? (i := 1) rfl)), (hw _ (List.mem_of_getElem? (i := 9) rfl))⟩)
  have F_LOWER_BETTER_ordinal := own_fldI ev_LOWER_BETTER g11
  have F_HIGHER_BETTER_ordinal := own_fldI ev_HIGHER_BETTER g12
  obtain ⟨n, o, h1, h2, h3, _, L, rfl, ⟨rfl, N⟩, hq⟩ := rm0 l s _ hw tables_1 i0 i1 i2 a_LOWER_BETTER a_HIGHER_BETTER s.heap s.heap.size (Nat.le_refl _) S_HIGHER_BETTER S_LOWER_BETTER E_HIGHER_BETTER E_LOWER_BETTER (Fld.ne F_LOWER_BETTER_ordinal F_HIGHER_BETTER_ordinal (by decide)) p e ha hc hk s m _ below hf ((Spec.applies_iff_loose hf).mp happ).1 ⟨rfl, State.Warmed39.refl s, rfl⟩ trivial
  refine ⟨n, _, h1, h2, h3, hpost _ _ _ _ _ _ ⟨Cond.after_iff.mpr rfl, Cond.after_iff.mpr (eq_i res_at (Term.int_eval (1)) rfl), trivial⟩ ⟨hq.1, hq.2.1, (hq.2.2.sift fun y hy => Or.inr (N y hy)).mono (by decide) (by decide)⟩⟩
theorem main_1_1 : Claimed_1_1 := comes_1 fun _ _ _ _ _ _ h hF => ⟨h.1, hF⟩
theorem main_1_2 : Claimed_1_2 := comes_1 fun _ _ _ _ _ _ h hF => ⟨h.2.1, hF⟩
end Jvm.Pilot.@@N@@
namespace Jvm.Pilot.@@N@@
open Jvm Jvm.ClassFile Sem Op Lib Jvm.Free Jvm.Stand Jvm.Pilot.@@N@@.Jvm.D
/-! MADE BY PROGRAM (witnessworld.py) out of the Statement's table words and the real class files: 12 classes; the members and pool entries that the words name. The judged class is class 1, her method 1. -/
namespace start1
open Jvm.ClassFile
def u (s : String) : CpInfo := .utf8 (stringToUtf16 s)
/-- a pool by its gaps: so many unusable entries, then the entry; so many at the end -/
def gap : Nat → List CpInfo → List CpInfo
  | 0, r => r
  | n + 1, r => .unusable :: gap n r
def poolList (es : List (Nat × CpInfo)) (last : Nat) : List CpInfo := es.foldr (fun e r => gap e.1 (e.2 :: r)) (gap last [])
def pool (es : List (Nat × CpInfo)) (last : Nat) : Array CpInfo := ⟨poolList es last⟩
def fileOf (pool : Array CpInfo) (this : Nat) (attrs : Array Attribute := #[]) (ms : Array MethodInfo := #[]) (fl : Nat := 33) (sup : Nat := 0) (ifs : Array Nat := #[]) (fds : Array FieldInfo := #[]) : ClassFile where
  minorVersion := 0
  majorVersion := 65
  constantPool := pool
  accessFlags := fl
  thisClass := this
  superClass := sup
  interfaces := ifs
  fields := fds
  methods := ms
  attributes := attrs
def plain (name : String) (sup : Option ClassId) : Class where
  name := name
  kind := .ordinary
  loader := none
  accessFlags := 33
  super := sup
  interfaces := #[]
  cf := none
  fields := #[]
  methods := #[]
  instanceTypes := #[]
  staticTypes := #[]
  resolved := #[]
  callSites := []
  init := .initialized
  statics := none
  mirror := none

def pool0 : Array CpInfo := pool [(5, u "<init>"), (0, u "()V"), (1, .class_ 10), (1, u "java/lang/Object")] 113

def k0m0 : Method := { name := "<init>", desc := "()V", sig := { parameters := [], returnType := none }, accessFlags := 1, code := none }
/-- java/lang/Object -/
def k0 : Class := { plain "java/lang/Object" none with
  accessFlags := 33
  interfaces := #[]
  cf := some (fileOf pool0 8 #[] #[{ accessFlags := 1, nameIndex := 5, descriptorIndex := 6, attributes := #[] }] 33 0 #[] #[])
  fields := #[]
  methods := #[k0m0]
  instanceTypes := #[]
  staticTypes := #[]
  resolved := Array.replicate 124 none
  statics := none }

def pool1 : Array CpInfo := pool [(2, .class_ 4), (1, u "java/lang/Object"), (0, u "<init>"), (0, u "()V"), (0, .fieldref 8 9), (0, .class_ 10), (0, .nameAndType 11 12), (0, u "com/example/wearcourse/wearcourse/data/ConditionScale"), (0, u "HIGHER_BETTER"), (0, u "Lcom/example/wearcourse/wearcourse/data/ConditionScale;"), (0, .fieldref 8 14), (0, .nameAndType 15 12), (0, u "LOWER_BETTER"), (0, .methodref 8 17), (0, .nameAndType 18 19), (0, u "isBetter"), (0, u "(II)Z"), (0, .class_ 21), (0, u "com/example/wearcourse/wearcourse/data/ConditionScaleIsBetterPinLaw"), (2, u "law"), (0, u "(III)Z")] 3

def k1m0 : Method := { name := "<init>", desc := "()V", sig := { parameters := [], returnType := none }, accessFlags := 2, code := none }
def k1c1 : Code := { maxStack := 4, maxLocals := 11, code := code, exceptionTable := #[], attributes := #[] }
def k1m1 : Method := { name := "law", desc := "(III)Z", sig := { parameters := [.int, .int, .int], returnType := some .boolean }, accessFlags := 9, code := some k1c1 }
/-- com/example/wearcourse/wearcourse/data/ConditionScaleIsBetterPinLaw -/
def k1 : Class := { plain "com/example/wearcourse/wearcourse/data/ConditionScaleIsBetterPinLaw" (some 0) with
  accessFlags := 49
  interfaces := #[]
  cf := some (fileOf pool1 20 #[] #[{ accessFlags := 2, nameIndex := 5, descriptorIndex := 6, attributes := #[] }, { accessFlags := 9, nameIndex := 24, descriptorIndex := 25, attributes := #[] }] 49 2 #[] #[])
  fields := #[]
  methods := #[k1m0, k1m1]
  instanceTypes := #[]
  staticTypes := #[]
  resolved := Array.replicate 29 none
  statics := none }

def pool2 : Array CpInfo := pool [(1, .class_ 2), (0, u "java/lang/constant/Constable"), (0, .class_ 4), (0, u "java/lang/Object")] 6

/-- java/lang/constant/Constable -/
def k2 : Class := { plain "java/lang/constant/Constable" (some 0) with
  accessFlags := 1537
  interfaces := #[]
  cf := some (fileOf pool2 1 #[] #[] 1537 3 #[] #[])
  fields := #[]
  methods := #[]
  instanceTypes := #[]
  staticTypes := #[]
  resolved := Array.replicate 11 none
  statics := none }

def pool3 : Array CpInfo := pool [(1, .class_ 2), (0, u "java/lang/Comparable"), (0, .class_ 4), (0, u "java/lang/Object")] 7

/-- java/lang/Comparable -/
def k3 : Class := { plain "java/lang/Comparable" (some 0) with
  accessFlags := 1537
  interfaces := #[]
  cf := some (fileOf pool3 1 #[] #[] 1537 3 #[] #[])
  fields := #[]
  methods := #[]
  instanceTypes := #[]
  staticTypes := #[]
  resolved := Array.replicate 12 none
  statics := none }

def pool4 : Array CpInfo := pool [(1, .class_ 2), (0, u "java/io/Serializable"), (0, .class_ 4), (0, u "java/lang/Object")] 2

/-- java/io/Serializable -/
def k4 : Class := { plain "java/io/Serializable" (some 0) with
  accessFlags := 1537
  interfaces := #[]
  cf := some (fileOf pool4 1 #[] #[] 1537 3 #[] #[])
  fields := #[]
  methods := #[]
  instanceTypes := #[]
  staticTypes := #[]
  resolved := Array.replicate 7 none
  statics := none }

def pool5 : Array CpInfo := pool [(2, .class_ 4), (1, u "java/lang/Enum"), (0, u "name"), (0, u "Ljava/lang/String;"), (2, u "ordinal"), (0, u "I"), (1, .class_ 14), (1, u "java/lang/Object"), (4, u "hash"), (86, .class_ 108), (1, u "java/lang/Enum$EnumDesc"), (2, .class_ 112), (0, u "java/lang/constant/Constable"), (0, .class_ 114), (0, u "java/lang/Comparable"), (0, .class_ 116), (0, u "java/io/Serializable")] 87

/-- java/lang/Enum -/
def k5 : Class := { plain "java/lang/Enum" (some 0) with
  accessFlags := 1057
  interfaces := #[2, 3, 4]
  cf := some (fileOf pool5 2 #[.nestMembers #[106]] #[] 1057 12 #[111, 113, 115] #[{ accessFlags := 18, nameIndex := 5, descriptorIndex := 6, attributes := #[] }, { accessFlags := 18, nameIndex := 9, descriptorIndex := 10, attributes := #[] }, { accessFlags := 2, nameIndex := 19, descriptorIndex := 10, attributes := #[] }])
  fields := #[{ name := "name", type := (.object "java/lang/String"), accessFlags := 18, slot := 0, constantValue := 0 }, { name := "ordinal", type := .int, accessFlags := 18, slot := 1, constantValue := 0 }, { name := "hash", type := .int, accessFlags := 2, slot := 2, constantValue := 0 }]
  methods := #[]
  instanceTypes := #[(.object "java/lang/String"), .int, .int]
  staticTypes := #[]
  resolved := Array.replicate 204 none
  statics := none }

def pool6 : Array CpInfo := pool [(1, .class_ 2), (0, u "com/example/wearcourse/wearcourse/data/ConditionScale"), (0, .fieldref 1 4), (0, .nameAndType 5 6), (0, u "HIGHER_BETTER"), (0, u "Lcom/example/wearcourse/wearcourse/data/ConditionScale;"), (2, u "LOWER_BETTER"), (2, u "$VALUES"), (0, u "[Lcom/example/wearcourse/wearcourse/data/ConditionScale;"), (6, .class_ 22), (1, u "java/lang/Enum"), (8, u "word"), (0, u "Ljava/lang/String;"), (20, u "isBetter"), (0, u "(II)Z")] 41

def k6c0 : Code := { maxStack := 2, maxLocals := 3, code := prog_18_method_5_code, exceptionTable := #[], attributes := #[] }
def k6m0 : Method := { name := "isBetter", desc := "(II)Z", sig := { parameters := [.int, .int], returnType := some .boolean }, accessFlags := 1, code := some k6c0 }
/-- com/example/wearcourse/wearcourse/data/ConditionScale -/
def k6 : Class := { plain "com/example/wearcourse/wearcourse/data/ConditionScale" (some 5) with
  accessFlags := 16433
  interfaces := #[]
  cf := some (fileOf pool6 1 #[] #[{ accessFlags := 1, nameIndex := 53, descriptorIndex := 54, attributes := #[] }] 16433 20 #[] #[{ accessFlags := 16409, nameIndex := 5, descriptorIndex := 6, attributes := #[] }, { accessFlags := 16409, nameIndex := 9, descriptorIndex := 6, attributes := #[] }, { accessFlags := 18, nameIndex := 31, descriptorIndex := 32, attributes := #[] }, { accessFlags := 4122, nameIndex := 12, descriptorIndex := 13, attributes := #[] }])
  fields := #[{ name := "HIGHER_BETTER", type := (.object "com/example/wearcourse/wearcourse/data/ConditionScale"), accessFlags := 16409, slot := 0, constantValue := 0 }, { name := "LOWER_BETTER", type := (.object "com/example/wearcourse/wearcourse/data/ConditionScale"), accessFlags := 16409, slot := 1, constantValue := 0 }, { name := "word", type := (.object "java/lang/String"), accessFlags := 18, slot := 3, constantValue := 0 }, { name := "$VALUES", type := (.array (.object "com/example/wearcourse/wearcourse/data/ConditionScale")), accessFlags := 4122, slot := 2, constantValue := 0 }]
  methods := #[k6m0]
  instanceTypes := #[(.object "java/lang/String"), .int, .int, (.object "java/lang/String")]
  staticTypes := #[(.object "com/example/wearcourse/wearcourse/data/ConditionScale"), (.object "com/example/wearcourse/wearcourse/data/ConditionScale"), (.array (.object "com/example/wearcourse/wearcourse/data/ConditionScale"))]
  resolved := Array.replicate 96 none
  statics := some 0 }

def pool7 : Array CpInfo := pool [(1, u "java/lang/Cloneable"), (0, .class_ 1), (0, u "java/lang/Object"), (0, .class_ 3)] 3

/-- java/lang/Cloneable -/
def k7 : Class := { plain "java/lang/Cloneable" (some 0) with
  accessFlags := 1537
  interfaces := #[]
  cf := some (fileOf pool7 2 #[] #[] 1537 4 #[] #[])
  fields := #[]
  methods := #[]
  instanceTypes := #[]
  staticTypes := #[]
  resolved := Array.replicate 8 none
  statics := none }

/-- the primitive byte -/
def k8 : Class := { plain "byte" none with kind := .primitive 'B', accessFlags := 0x411 }
/-- [B -/
def k9 : Class := { plain "[B" (some 0) with kind := .array 8 .byte, interfaces := #[7, 4], accessFlags := 1041 }

/-- the primitive int -/
def k10 : Class := { plain "int" none with kind := .primitive 'I', accessFlags := 0x411 }
/-- [I -/
def k11 : Class := { plain "[I" (some 0) with kind := .array 10 .int, interfaces := #[7, 4], accessFlags := 1041 }

def heap : Heap := #[{ cls := 6, slots := #[.ref 2, .ref 1, .null], vm := .statics 6 },
  { cls := 6, slots := #[.null, .int 1, .int 0, .null], vm := .none },
  { cls := 6, slots := #[.null, .int 0, .int 0, .null], vm := .none }]
def classes : Array Class := #[k0, k1, k2, k3, k4, k5, k6, k7, k8, k9, k10, k11]
def interned : List (Array UInt16 × Addr) := []
def slotsUsed : Nat := 11
def theMethod : MethodId := ⟨1, 1⟩
def args0 : Array Value := #[.int 5, .int 3, .int 1]
def aboutOver (below : List Frame) : State where
  vm := { classes := classes, interned := interned.toArray }
  heap := heap
  slotsUsed := slotsUsed
  threads := #[{ frames := .invoking theMethod args0 :: below }]
def below0 : List Frame := [.native { method := ⟨0, 0⟩, args := #[] }]
def about1 : State := aboutOver below0
def p0 : Program := .bare "" "" ""
def e0 : Env := launch0.env 0 0 0
theorem w_frames : about1.frames = Frame.invoking theMethod args0 :: below0 := rfl
set_option maxRecDepth 65536 in
theorem w_args : argsFit about1.vm theMethod args0 = true := by decide +kernel
set_option maxRecDepth 65536 in
theorem w_heap : heapFits about1 = true := by decide +kernel
set_option maxRecDepth 65536 in
theorem w_runnable : about1.curStatus? = some .runnable := by decide +kernel
set_option maxRecDepth 65536 in
theorem w_alone : about1.alone = true := by decide +kernel
set_option maxRecDepth 65536 in
theorem w_named : about1.methodNamed? x = some theMethod := by decide +kernel
set_option maxRecDepth 65536 in
theorem w_hears : about1.hears theMethod below0 = true := by decide +kernel
set_option maxRecDepth 65536 in
theorem w_ripe : about1.ripe theMethod args0 below0 = true := by decide +kernel
theorem w_running : about1.status = .running := rfl
set_option maxRecDepth 65536 in
theorem w_room : about1.hasRoom e0.platform room_1 = true :=
  launch0.hasRoom_least _ room_1 (by decide +kernel) (by decide +kernel) (by decide +kernel) (by decide +kernel) (by decide +kernel) (by decide +kernel)
theorem allAtoms_all (ts : List Jvm.Cond) (a : Array Jvm.Value) (st : Jvm.State) : (allAtoms ts).before a st = ts.all (fun c => c.before a st) := by
  induction ts with
  | nil => rfl
  | cons c t ih =>
    show (Jvm.Cond.and c (allAtoms t)).before a st = _
    rw [Jvm.Cond.before_and, ih, List.all_cons]
def words1 : List Jvm.Cond := Jvm.Cond.code x code maxLocals ret :: tables_1
/-- a 'code' word, met by the world's own term for the bytes: nothing is compared byte by byte -/
theorem code_word {y : MethodName} {bytes : ByteArray} {mx : Nat} {rt : Option FieldType} {a : Array Value} {s : State} {m : MethodId} {meth : Method} {c : Code} (h1 : s.methodNamed? y = some m) (h2 : s.vm.method? m = some meth) (h3 : meth.code = some c) (h4 : c.code = bytes)
    (h5 : (c.maxLocals == mx && c.exceptionTable.isEmpty && decide (c.maxStack ≤ mostOperands) && decide (meth.sig.returnType = rt) && !meth.locks && decide (parseMethodDescriptor y.desc = some meth.sig)) = true) : (Jvm.Cond.code y bytes mx rt).before a s = true := by
  simp only [Bool.and_eq_true, beq_iff_eq, Bool.not_eq_true', decide_eq_true_eq] at h5
  obtain ⟨⟨⟨⟨⟨g1, g2⟩, g3⟩, g4⟩, g5⟩, g6⟩ := h5
  simp [Cond.before, Cond.holds, Cond.value, h1, h2, h3, h4, g1, g2, g3, g4, g5, g6]
def isCode : Jvm.Cond → Bool
  | .code _ _ _ _ => true
  | _ => false
theorem all_split {L : List Jvm.Cond} {P : Jvm.Cond → Bool} (h1 : L.all (fun c => isCode c || P c) = true) (h2 : ∀ c ∈ L.filter isCode, P c = true) : L.all P = true := by
  refine List.all_eq_true.mpr fun c hc => ?_
  have h := List.all_eq_true.mp h1 c hc
  rcases Bool.eq_false_or_eq_true (isCode c) with hi | hi
  · exact h2 c (List.mem_filter.mpr ⟨hc, hi⟩)
  · simpa [hi] using h
set_option maxRecDepth 65536 in
theorem w_c0 : (Jvm.Cond.code x code maxLocals ret).before args0 about1 = true := code_word (m := ⟨1, 1⟩) (meth := k1m1) (c := k1c1) (by decide +kernel) rfl rfl rfl (by decide +kernel)
set_option maxRecDepth 65536 in
theorem w_c1 : (Jvm.Cond.code ({ cls := "com/example/wearcourse/wearcourse/data/ConditionScale", name := "isBetter", desc := "(II)Z" } : Jvm.MethodName) prog_18_method_5_code (3 : Nat) (Option.some Jvm.ClassFile.FieldType.boolean)).before args0 about1 = true := code_word (m := ⟨6, 0⟩) (meth := k6m0) (c := k6c0) (by decide +kernel) rfl rfl rfl (by decide +kernel)
def codes1 : List Jvm.Cond := [Jvm.Cond.code x code maxLocals ret, Jvm.Cond.code ({ cls := "com/example/wearcourse/wearcourse/data/ConditionScale", name := "isBetter", desc := "(II)Z" } : Jvm.MethodName) prog_18_method_5_code (3 : Nat) (Option.some Jvm.ClassFile.FieldType.boolean)]
set_option maxRecDepth 65536 in
theorem codes_eq : words1.filter isCode = codes1 := rfl
theorem w_codes : ∀ c ∈ words1.filter isCode, c.before args0 about1 = true := by
  rw [codes_eq]
  intro c hc
  simp only [codes1, List.mem_cons, List.not_mem_nil, or_false] at hc
  rcases hc with rfl | rfl
  · exact w_c0
  · exact w_c1
set_option maxRecDepth 65536 in
theorem w_t1 : words1.all (fun c => isCode c || c.before args0 about1) = true := by decide +kernel
theorem w_tables : (allAtoms (Jvm.Cond.code x code maxLocals ret :: tables_1)).before args0 about1 = true := by
  rw [allAtoms_all]
  show words1.all (fun c => c.before args0 about1) = true
  refine all_split ?_ w_codes
  rw [w_t1]
set_option maxRecDepth 65536 in
theorem w_case : (Jvm.Cond.and given_1 narrow_1).before args0 about1 = true := by decide +kernel
theorem w_applies : (headSpec (Jvm.Cond.code x code maxLocals ret :: tables_1) room_1).applies x e0.platform about1 = true :=
  (Spec.applies_iff w_frames).mpr ⟨w_running, w_runnable, w_alone, w_named, w_hears, w_ripe, w_room, w_tables⟩
theorem atStart : AtStart classFile x code maxLocals ret World_1 tables_1 room_1 Calls_1 rest_1 Pre_1 launch0 p0 e0 about1 theMethod args0 below0 :=
  ⟨lists_1, trivial, launch0.admits_env _ _ _, launch0.least_env, fairChoices_fair.cas, fairChoices_fair.clock, w_frames, w_args, w_heap, w_applies, trivial, trivial, w_case⟩
end start1
theorem witness_1 : WitnessClaimed_1 := ⟨start1.p0, start1.e0, start1.about1, start1.theMethod, start1.args0, start1.below0, start1.atStart⟩
end Jvm.Pilot.@@N@@
