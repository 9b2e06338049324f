import JvmDerived
import JvmDerived.Pilot.@@N@@Statement
import JvmDerived.Pilot.@@N@@Code
set_option linter.unusedVariables false
set_option linter.unusedSimpArgs false
namespace Jvm.Pilot.@@N@@
open Jvm Jvm.ClassFile Sem Op Lib Jvm.Free Jvm.Stand Jvm.LawKit Jvm.RoadKit Bundle Jvm.Pilot.@@N@@.Jvm.D
section OwnKit
variable {p : Program} {l : Launch} {e : Env} {R : Room} {s : State} {m : MethodId} {args : Array Value} {below : List Frame} {meth : Method} {c : Code} {T T' : State} {locs : List Loc} {cells slots : Nat} {Z : State} {a0 : Array Value} {h h0 : Heap} {Q : Option Value → Heap → List Loc → Prop} {kc ks : Nat} {f f' : JFrame}
/-- from T with the frame f on top the run ends as Q says -/
def own_Ends (p : Program) (e : Env) (below : List Frame) (s : State) (Q : Option Value → Heap → List Loc → Prop) (kc ks : Nat) (T : State) (f : JFrame) : Prop :=
  ∃ s₂ o, Steps p.tables e below (T.setTop f) s₂ ∧ s₂.status = .running ∧ Ended s₂ below o ∧ ∃ v L, o = .returned v ∧ Q v s₂.heap L ∧ FrameEnd s o s₂ L kc ks
theorem own_go (st : ∀ target, Steps p.tables e below (T'.setTop f') target → Steps p.tables e below (T.setTop f) target) (k : own_Ends p e below s Q kc ks T' f') : own_Ends p e below s Q kc ks T f := by
  obtain ⟨s₂, o, h1, r⟩ := k
  exact ⟨s₂, o, st _ h1, r⟩
theorem own_fin (X : Stand p l e R s m args below meth c T locs cells slots) (v : Option Value) (hlk : meth.locks = false) (hv : meth.sig.returnType = none → v = none)
    (st : ∀ fs, (∀ (f : JFrame) (acts : List Action), f.method = m → f.locked = none → f.entered = [] → (doReturn e (T.setTop f) acts v).1 = T.setFrames fs) → Steps p.tables e below (T.setTop f) (T.setFrames fs))
    (eT : T.heap = h) (hQ : Q v h locs) (hc : cells ≤ kc) (hs : slots ≤ ks) : own_Ends p e below s Q kc ks T f := by
  subst eT
  obtain ⟨fs, hr, hrun, hended, hW, hsame⟩ := X.leave (v := v) hv hlk
  exact ⟨_, _, st fs hr, hrun, hended, v, locs, rfl, hQ, ⟨_, rfl⟩, hW, hsame.mono hc hs⟩
theorem own_retN (X : Stand p l e R s m args below meth c T locs cells slots) (hx : p.tables.exec = Jvm.exec) (hlk : meth.locks = false) {pc : Nat} {Ls : Array Slot} {z : Int32} {t : FieldType} {rest : List Value} (hret : meth.sig.returnType = some t) (ht : t = .boolean ∨ t = .byte ∨ t = .char ∨ t = .short)
    (hd : decode c.code pc = .ok (.ireturn, 1)) (eT : T.heap = h) (hc : cells ≤ kc) (hs : slots ≤ ks) (hQ : Q (some (.int (nar t z))) h locs) : own_Ends p e below s Q kc ks T (mkF m pc Ls (.int z :: rest)) :=
  own_fin X _ hlk (fun q => by rw [hret] at q; cases q) (fun fs hr => Jvm.RoadKit.retN X hx hret ht hd hr) eT hQ hc hs
theorem own_retI (X : Stand p l e R s m args below meth c T locs cells slots) (hx : p.tables.exec = Jvm.exec) (hlk : meth.locks = false) {pc : Nat} {Ls : Array Slot} {z : Int32} {rest : List Value} (hret : meth.sig.returnType = some .int)
    (hd : decode c.code pc = .ok (.ireturn, 1)) (eT : T.heap = h) (hc : cells ≤ kc) (hs : slots ≤ ks) (hQ : Q (some (.int z)) h locs) : own_Ends p e below s Q kc ks T (mkF m pc Ls (.int z :: rest)) :=
  own_fin X _ hlk (fun q => by rw [hret] at q; cases q) (fun fs hr => Jvm.RoadKit.retOut X hx hret rfl (Or.inl ⟨rfl, Or.inl rfl, _, rfl⟩) hd hr) eT hQ hc hs
theorem own_retJ (X : Stand p l e R s m args below meth c T locs cells slots) (hx : p.tables.exec = Jvm.exec) (hlk : meth.locks = false) {pc : Nat} {Ls : Array Slot} {z : Int64} {rest : List Value} (hret : meth.sig.returnType = some .long)
    (hd : decode c.code pc = .ok (.lreturn, 1)) (eT : T.heap = h) (hc : cells ≤ kc) (hs : slots ≤ ks) (hQ : Q (some (.long z)) h locs) : own_Ends p e below s Q kc ks T (mkF m pc Ls (.long z :: rest)) :=
  own_fin X _ hlk (fun q => by rw [hret] at q; cases q) (fun fs hr => Jvm.RoadKit.retOut X hx hret rfl (Or.inr (Or.inl ⟨rfl, rfl, _, rfl⟩)) hd hr) eT hQ hc hs
theorem own_retD (X : Stand p l e R s m args below meth c T locs cells slots) (hx : p.tables.exec = Jvm.exec) (hlk : meth.locks = false) {pc : Nat} {Ls : Array Slot} {z : UInt64} {rest : List Value} (hret : meth.sig.returnType = some .double)
    (hd : decode c.code pc = .ok (.dreturn, 1)) (eT : T.heap = h) (hc : cells ≤ kc) (hs : slots ≤ ks) (hQ : Q (some (.double z)) h locs) : own_Ends p e below s Q kc ks T (mkF m pc Ls (.double z :: rest)) :=
  own_fin X _ hlk (fun q => by rw [hret] at q; cases q) (fun fs hr => Jvm.RoadKit.retOut X hx hret rfl (Or.inr (Or.inr (Or.inl ⟨rfl, rfl, _, rfl⟩))) hd hr) eT hQ hc hs
theorem own_narR {t : FieldType} {v : Value} (ht : t.isReference = true) : narrow t v = v := by cases t <;> first | (cases ht; done) | (cases v <;> rfl)
theorem own_retR (X : Stand p l e R s m args below meth c T locs cells slots) (hx : p.tables.exec = Jvm.exec) (hlk : meth.locks = false) {pc : Nat} {Ls : Array Slot} {v : Value} {t : FieldType} {rest : List Value} (hret : meth.sig.returnType = some t) (ht : t.isReference = true) (hv : v.isRef = true)
    (hd : decode c.code pc = .ok (.areturn, 1)) (eT : T.heap = h) (hc : cells ≤ kc) (hs : slots ≤ ks) (hQ : Q (some v) h locs) : own_Ends p e below s Q kc ks T (mkF m pc Ls (v :: rest)) :=
  own_fin X _ hlk (fun q => by rw [hret] at q; cases q) (fun fs hr => Jvm.RoadKit.retOut X hx hret (own_narR ht) (Or.inr (Or.inr (Or.inr (Or.inr ⟨rfl, ht, hv⟩)))) hd hr) eT hQ hc hs
theorem own_retV (X : Stand p l e R s m args below meth c T locs cells slots) (hx : p.tables.exec = Jvm.exec) (hlk : meth.locks = false) {pc : Nat} {Ls : Array Slot} (hret : meth.sig.returnType = none)
    (hd : decode c.code pc = .ok (.return_, 1)) (eT : T.heap = h) (hc : cells ≤ kc) (hs : slots ≤ ks) (hQ : Q none h locs) : own_Ends p e below s Q kc ks T (mkF m pc Ls []) :=
  own_fin X none hlk (fun _ => rfl) (fun fs hr => X.returnOut hx hret hd hr) eT hQ hc hs
/-- a body's contract: called with the arguments as' on the heap h0, over tables warmer than Z's, it returns as Q says -/
abbrev own_Met (l : Launch) (y : MethodName) (bytes : ByteArray) (maxL : Nat) (ret : Option FieldType) (rm : Room) (ws : List Jvm.Cond) (as' : Array Value) (Z : State) (h0 : Heap) (Q : Option Value → Heap → List Loc → Prop) : Prop :=
  MetFree l y (head1 (Jvm.Cond.code y bytes maxL ret :: ws) rm) (fun a U => a = as' ∧ Z.Warmed39 U.vm ∧ U.heap = h0) (fun _ _ _ _ _ => True) (fun _ U o U' => ∃ v L, o = .returned v ∧ Q v U'.heap L ∧ FrameEnd U o U' L rm.cells rm.slots)
theorem own_met {y : MethodName} {bytes : ByteArray} {maxL : Nat} {ret : Option FieldType} {rm : Room} {ws : List Jvm.Cond} {as' : Array Value} (hy : plainFor y = true)
    (body : ∀ (p : Program) (e : Env) (s : State) (m : MethodId) (below : List Frame) (meth : Method) (c : Code) (s₁ : State), p.tables.exec = Jvm.exec → Stand p l e rm s m as' below meth c s₁ [] 0 0 → Z.Warmed39 s.vm → s₁.heap = h0 → c.code = bytes → c.maxLocals = maxL →
      s.vm.findClass y.cls = some m.cls → meth.name = y.name → meth.sig.returnType = ret → meth.locks = false → own_Ends p e below s Q rm.cells rm.slots s₁ (entryFrame m as' maxL)) :
    own_Met l y bytes maxL ret rm ws as' Z h0 Q := by
  refine MetFree.of_bodySF hy hisR ?_
  intro p e s m args below meth c s₁ Bd hml0 hP hK
  obtain ⟨rfl, hZ, hh⟩ := hP
  exact body p e s m below meth c s₁ Bd.exec (Stand.of_body Bd) hZ (by rw [← hh, Bd.state]; rfl) Bd.bytes hml0 (findClass_of_methodNamed Bd.named) (name_of_methodNamed Bd.named Bd.method).1 Bd.returns Bd.notSynchronized
theorem own_at {f f' : JFrame} (q : f = f') (k : own_Ends p e below s Q kc ks T f') : own_Ends p e below s Q kc ks T f := q ▸ k
/-- a static call -/
theorem own_callS (X : Stand p l e R s m args below meth c T locs cells slots) (hx : p.tables.exec = Jvm.exec) (hZ : Z.Warmed39 s.vm) {own : String} {index : Nat} {y : MethodName} {bytes : ByteArray} {maxL : Nat} {ret : Option FieldType} {rm : Room} {as' : Array Value} {Q' : Option Value → Heap → List Loc → Prop}
    (hown : s.vm.findClass own = some m.cls) (w1 : (Jvm.Cond.methodLink own index y).before a0 Z = true) (w2 : (Jvm.Cond.static y).before a0 Z = true) (w3 : (Jvm.Cond.initialized y.cls).before a0 Z = true) (w4 : (Jvm.Cond.code y bytes maxL ret).before a0 Z = true)
    (hy : y.cls ≠ "java/lang/invoke/MethodHandle" ∧ y.cls ≠ "java/lang/invoke/VarHandle") (hM : own_Met l y bytes maxL ret rm [] as' Z h Q') (eT : T.heap = h) {g : JFrame} (hg : g.method = m) (hsize : g.locals.size = c.maxLocals) (argsL rest : List Value) (has : argsL.toArray = as')
    (hlen : ∀ sig, parseMethodDescriptor y.desc = some sig → argsL.length = sig.parameters.length) (hstack : g.stack = argsL.reverse ++ rest) (W : Nat) (hW : 2 * g.monitorRoom + (rest.map fun v => v.category).sum ≤ W) (hdg : decode c.code g.pc = .ok (.invokestatic index, 3))
    (hf : rm.frames + 1 ≤ R.frames) (hl : W + (maxL + 11) + rm.locals ≤ R.locals) (hc : cells + rm.cells ≤ R.cells) (hs : slots + rm.slots ≤ R.slots) :
    ∃ (T' : State) (v : Option Value) (L : List Loc), Stand p l e R s m args below meth c T' (locs ++ L) (cells + rm.cells) (slots + rm.slots) ∧ Q' v T'.heap L ∧ ∀ target, Steps p.tables e below (T'.setTop { g with pc := g.pc + 3, stack := v.toList ++ rest }) target → Steps p.tables e below (T.setTop g) target := by
  obtain ⟨v, vm1, ⟨T1, L1, k1, n1⟩, -, X1, ⟨Lc, hQ, l1, y1, z1⟩, st⟩ := Jvm.LawKit.callS X hx hown (mvT hZ w1) (mvT hZ w2) (mvT hZ w3) (mvT hZ w4) hy (backOf (W := W) hM hZ w4 w3 hf hl) hg hsize hlen hstack hW hdg (fun _ _ => ⟨has, eT, hc, hs⟩)
  dsimp only [Pt.U, Pt.locs, Pt.cells, Pt.slots] at X1 l1 y1 z1 st hQ
  subst l1 y1 z1
  exact ⟨T1, v, Lc, X1, hQ, st⟩
/-- a constructor -/
theorem own_callN (X : Stand p l e R s m args below meth c T locs cells slots) (hx : p.tables.exec = Jvm.exec) (hZ : Z.Warmed39 s.vm) {own : String} {index : Nat} {y : MethodName} {bytes : ByteArray} {maxL : Nat} {rm : Room} {as' : Array Value} {Q' : Option Value → Heap → List Loc → Prop}
    (hy1 : y.name = "<init>") (hown : s.vm.findClass own = some m.cls) (w1 : (Jvm.Cond.methodLink own index y).before a0 Z = true) (w2 : (Jvm.Cond.instanceMethod y).before a0 Z = true) (w3 : (Jvm.Cond.initialized y.cls).before a0 Z = true) (w4 : (Jvm.Cond.code y bytes maxL none).before a0 Z = true)
    (hy : y.cls ≠ "java/lang/invoke/MethodHandle" ∧ y.cls ≠ "java/lang/invoke/VarHandle") (hM : own_Met l y bytes maxL none rm [] as' Z h Q') (eT : T.heap = h) {g : JFrame} (hg : g.method = m) (hsize : g.locals.size = c.maxLocals) (b : Addr) (argsL rest : List Value) (has : (.ref b :: argsL).toArray = as')
    (hlen : ∀ sig, parseMethodDescriptor y.desc = some sig → argsL.length = sig.parameters.length) (hstack : g.stack = argsL.reverse ++ .ref b :: rest) (W : Nat) (hW : 2 * g.monitorRoom + (rest.map fun v => v.category).sum ≤ W) (hdg : decode c.code g.pc = .ok (.invokespecial index, 3))
    (hf : rm.frames + 1 ≤ R.frames) (hl : W + (maxL + 11) + rm.locals ≤ R.locals) (hc : cells + rm.cells ≤ R.cells) (hs : slots + rm.slots ≤ R.slots) :
    ∃ (T' : State) (v : Option Value) (L : List Loc), Stand p l e R s m args below meth c T' (locs ++ L) (cells + rm.cells) (slots + rm.slots) ∧ Q' v T'.heap L ∧ ∀ target, Steps p.tables e below (T'.setTop { g with pc := g.pc + 3, stack := v.toList ++ rest }) target → Steps p.tables e below (T.setTop g) target := by
  obtain ⟨v, vm1, ⟨T1, L1, k1, n1⟩, -, X1, ⟨Lc, hQ, l1, y1, z1⟩, st⟩ := X.specialBack hx hy1 hown (mvT hZ w1) (mvT hZ w2) (mvT hZ w4) hy (backOf (W := W) hM hZ w4 w3 hf hl) hg hsize (Steps.refl _) (a := b) hlen hstack hW hdg (fun _ _ => ⟨has, eT, hc, hs⟩)
  dsimp only [Pt.U, Pt.locs, Pt.cells, Pt.slots] at X1 l1 y1 z1 st hQ
  subst l1 y1 z1
  exact ⟨T1, v, Lc, X1, hQ, fun t k => st.trans k⟩
/-- a virtual call: y resolved, z selected by the class C -/
theorem own_callV (X : Stand p l e R s m args below meth c T locs cells slots) (hx : p.tables.exec = Jvm.exec) (hZ : Z.Warmed39 s.vm) {own C : String} {index : Nat} {y z : MethodName} {bytes : ByteArray} {maxL : Nat} {ret : Option FieldType} {rm : Room} {as' : Array Value} {Q' : Option Value → Heap → List Loc → Prop}
    (hown : s.vm.findClass own = some m.cls) (w1 : (Jvm.Cond.methodLink own index y).before a0 Z = true) (w2 : (Jvm.Cond.declares y).before a0 Z = true) (hnf : NotFace s y) (w5 : (Jvm.Cond.selects C y z).before a0 Z = true) (w6 : (Jvm.Cond.instanceMethod z).before a0 Z = true)
    (w3 : (Jvm.Cond.initialized z.cls).before a0 Z = true) (w4 : (Jvm.Cond.code z bytes maxL ret).before a0 Z = true)
    (hy : y.cls ≠ "java/lang/invoke/MethodHandle" ∧ y.cls ≠ "java/lang/invoke/VarHandle") (hM : own_Met l z bytes maxL ret rm [] as' Z h Q') (eT : T.heap = h) {g : JFrame} (hg : g.method = m) (hsize : g.locals.size = c.maxLocals) (b : Addr) (hE : Exa Z h b C) (argsL rest : List Value) (has : (.ref b :: argsL).toArray = as')
    (hlen : ∀ sig, parseMethodDescriptor y.desc = some sig → argsL.length = sig.parameters.length) (hstack : g.stack = argsL.reverse ++ .ref b :: rest) (W : Nat) (hW : 2 * g.monitorRoom + (rest.map fun v => v.category).sum ≤ W) (hdg : decode c.code g.pc = .ok (.invokevirtual index, 3))
    (hf : rm.frames + 1 ≤ R.frames) (hl : W + (maxL + 11) + rm.locals ≤ R.locals) (hc : cells + rm.cells ≤ R.cells) (hs : slots + rm.slots ≤ R.slots) :
    ∃ (T' : State) (v : Option Value) (L : List Loc), Stand p l e R s m args below meth c T' (locs ++ L) (cells + rm.cells) (slots + rm.slots) ∧ Q' v T'.heap L ∧ ∀ target, Steps p.tables e below (T'.setTop { g with pc := g.pc + 3, stack := v.toList ++ rest }) target → Steps p.tables e below (T.setTop g) target := by
  obtain ⟨cq, kq, qa, qb, qc⟩ := isOf hZ eT hE
  obtain ⟨v, vm1, ⟨T1, L1, k1, n1⟩, -, X1, ⟨Lc, hQ, l1, y1, z1⟩, st⟩ := X.virtualBack hx hown (mvT hZ w1) (mvT hZ w2) hnf (mvT hZ w5) (mvT hZ w6) hy (backOf (W := W) hM hZ w4 w3 hf hl) qa qc hg hsize (Steps.refl _) hlen hstack hW hdg (fun _ _ => ⟨has, eT, hc, hs⟩)
  dsimp only [Pt.U, Pt.locs, Pt.cells, Pt.slots] at X1 l1 y1 z1 st hQ
  subst l1 y1 z1
  exact ⟨T1, v, Lc, X1, hQ, fun t k => st.trans k⟩
/-- a virtual call whose method is declared further up, by the class 'owner' -/
theorem own_callVU (X : Stand p l e R s m args below meth c T locs cells slots) (hx : p.tables.exec = Jvm.exec) (hZ : Z.Warmed39 s.vm) {own C owner : String} {index : Nat} {y z : MethodName} {bytes : ByteArray} {maxL : Nat} {ret : Option FieldType} {rm : Room} {as' : Array Value} {Q' : Option Value → Heap → List Loc → Prop}
    (hown : s.vm.findClass own = some m.cls) (w1 : (Jvm.Cond.methodLink own index y).before a0 Z = true) (w2 : (Jvm.Cond.sameMethod y.cls owner y.name y.desc).before a0 Z = true) (w7 : (Jvm.Cond.declares ⟨owner, y.name, y.desc⟩).before a0 Z = true) (w5 : (Jvm.Cond.selects C y z).before a0 Z = true) (w6 : (Jvm.Cond.instanceMethod z).before a0 Z = true)
    (w3 : (Jvm.Cond.initialized z.cls).before a0 Z = true) (w4 : (Jvm.Cond.code z bytes maxL ret).before a0 Z = true)
    (hy : owner ≠ "java/lang/invoke/MethodHandle" ∧ owner ≠ "java/lang/invoke/VarHandle") (hM : own_Met l z bytes maxL ret rm [] as' Z h Q') (eT : T.heap = h) {g : JFrame} (hg : g.method = m) (hsize : g.locals.size = c.maxLocals) (b : Addr) (hE : Exa Z h b C) (argsL rest : List Value) (has : (.ref b :: argsL).toArray = as')
    (hlen : ∀ sig, parseMethodDescriptor y.desc = some sig → argsL.length = sig.parameters.length) (hstack : g.stack = argsL.reverse ++ .ref b :: rest) (W : Nat) (hW : 2 * g.monitorRoom + (rest.map fun v => v.category).sum ≤ W) (hdg : decode c.code g.pc = .ok (.invokevirtual index, 3))
    (hf : rm.frames + 1 ≤ R.frames) (hl : W + (maxL + 11) + rm.locals ≤ R.locals) (hc : cells + rm.cells ≤ R.cells) (hs : slots + rm.slots ≤ R.slots) :
    ∃ (T' : State) (v : Option Value) (L : List Loc), Stand p l e R s m args below meth c T' (locs ++ L) (cells + rm.cells) (slots + rm.slots) ∧ Q' v T'.heap L ∧ ∀ target, Steps p.tables e below (T'.setTop { g with pc := g.pc + 3, stack := v.toList ++ rest }) target → Steps p.tables e below (T.setTop g) target := by
  obtain ⟨cq, kq, qa, qb, qc⟩ := isOf hZ eT hE
  obtain ⟨v, vm1, ⟨T1, L1, k1, n1⟩, -, X1, ⟨Lc, hQ, l1, y1, z1⟩, st⟩ := X.virtualBackUp hx hown (mvT hZ w1) (mvT hZ w2) (mvT hZ w7) hy (mvT hZ w5) (mvT hZ w6) (backOf (W := W) hM hZ w4 w3 hf hl) qa qc hg hsize (Steps.refl _) hlen hstack hW hdg (fun _ _ => ⟨has, eT, hc, hs⟩)
  dsimp only [Pt.U, Pt.locs, Pt.cells, Pt.slots] at X1 l1 y1 z1 st hQ
  subst l1 y1 z1
  exact ⟨T1, v, Lc, X1, hQ, fun t k => st.trans k⟩
/-- calls by a 'Back' -/
theorem own_callNB (X : Stand p l e R s m args below meth c T locs cells slots) (hx : p.tables.exec = Jvm.exec) (hZ : Z.Warmed39 s.vm) {own : String} {index : Nat} {y : MethodName} {bytes : ByteArray} {maxL : Nat} {as' : Array Value} {Q' : Option Value → Heap → List Loc → Prop} {W rc rs : Nat}
    (hy1 : y.name = "<init>") (hown : s.vm.findClass own = some m.cls) (w1 : (Jvm.Cond.methodLink own index y).before a0 Z = true) (w2 : (Jvm.Cond.instanceMethod y).before a0 Z = true) (w4 : (Jvm.Cond.code y bytes maxL none).before a0 Z = true)
    (hy : y.cls ≠ "java/lang/invoke/MethodHandle" ∧ y.cls ≠ "java/lang/invoke/VarHandle")
    (hK : Back l R p e below s args y 3 W (fun A a => a = as' ∧ A.U.heap = h ∧ A.cells + rc ≤ R.cells ∧ A.slots + rs ≤ R.slots) (fun A _ v B => ∃ L, Q' v B.U.heap L ∧ B.locs = A.locs ++ L ∧ B.cells = A.cells + rc ∧ B.slots = A.slots + rs))
    (eT : T.heap = h) {g : JFrame} (hg : g.method = m) (hsize : g.locals.size = c.maxLocals) (b : Addr) (argsL rest : List Value) (has : (.ref b :: argsL).toArray = as')
    (hlen : ∀ sig, parseMethodDescriptor y.desc = some sig → argsL.length = sig.parameters.length) (hstack : g.stack = argsL.reverse ++ .ref b :: rest) (hW : 2 * g.monitorRoom + (rest.map fun v => v.category).sum ≤ W) (hdg : decode c.code g.pc = .ok (.invokespecial index, 3))
    (hc : cells + rc ≤ R.cells) (hs : slots + rs ≤ R.slots) :
    ∃ (T' : State) (v : Option Value) (L : List Loc), Stand p l e R s m args below meth c T' (locs ++ L) (cells + rc) (slots + rs) ∧ Q' v T'.heap L ∧ ∀ target, Steps p.tables e below (T'.setTop { g with pc := g.pc + 3, stack := v.toList ++ rest }) target → Steps p.tables e below (T.setTop g) target := by
  obtain ⟨v, vm1, ⟨T1, L1, k1, n1⟩, -, X1, ⟨Lc, hQ, l1, y1, z1⟩, st⟩ := X.specialBack hx hy1 hown (mvT hZ w1) (mvT hZ w2) (mvT hZ w4) hy hK hg hsize (Steps.refl _) (a := b) hlen hstack hW hdg (fun _ _ => ⟨has, eT, hc, hs⟩)
  dsimp only [Pt.U, Pt.locs, Pt.cells, Pt.slots] at X1 l1 y1 z1 st hQ
  subst l1 y1 z1
  exact ⟨T1, v, Lc, X1, hQ, fun t k => st.trans k⟩
theorem own_fldI {t : Jvm.Term} {a : Addr} {C n d : String} {k : Int32} (ev : t.eval args s none [] s = some (.ref a)) (hq : (Jvm.Cond.eq (Jvm.Term.field t C n d) (Jvm.Term.int k)).value args s none s [] = some true) : Fld s s.heap a C n d (.int k) := by
  obtain ⟨x, y, e1, e2, k1, -⟩ := cmp_v (Or.inl hq)
  have e2' : y = .int k := by have := e2; simp only [Jvm.Term.eval] at this; exact (Option.some.inj this).symm
  subst e2'
  have hx : x = .int k := by
    simp only [Jvm.Cond.value, e1, e2] at hq
    cases x <;> simp_all [Kin, Value.isRef]
  subst hx
  exact Fld.start ((fld_at ev).symm.trans e1)
theorem own_irem {g : JFrame} {target : State} (X : Stand p l e R s m args below meth c T locs cells slots) (hx : p.tables.exec = Jvm.exec) (hg : g.method = m) {x y : Int32} {rest : List Value} (hd : decode c.code g.pc = .ok (.irem, 1)) (hs : g.stack = .int y :: .int x :: rest) (hy : y ≠ 0)
    (hr : Steps p.tables e below (T.setTop { g with pc := g.pc + 1, stack := .int (x % y) :: rest }) target) : Steps p.tables e below (T.setTop g) target := iremM X hx hg hd hs hy hr
theorem own_fitR {t : FieldType} {v : Value} (hv : v.isRef = true) (ht : t.isReference = true) : fits t v = true := by cases t <;> first | (cases ht; done) | (cases v <;> first | rfl | (cases hv; done))
theorem own_staK {C n d : String} {v : Value} {h' : Heap} {ws : List Addr} (F : Sta Z h C n d v) (K : Keep h h' ws) (q : ∀ x ∈ ws, ∀ cell : Cell, h[x]? = some cell → cell.vm.isStatics = false) : Sta Z h' C n d v := by
  obtain ⟨cf, i, k, f, st, cell, h1, h2, h3, h4, h5, h6, h7⟩ := F
  exact ⟨cf, i, k, f, st, cell, h1, h2, h3, h4, K.2.1 _ _ h5 (fun hm => by rw [q st hm cell h5] at h6; cases h6), h6, h7⟩
end OwnKit
def own_pick (i : Int32) (w0 w1 w2 w3 w4 w5 w6 w7 w8 w9 : Addr) : Addr := if i = 0 then w0 else if i = 1 then w1 else if i = 2 then w2 else if i = 3 then w3 else if i = 4 then w4 else if i = 5 then w5 else if i = 6 then w6 else if i = 7 then w7 else if i = 8 then w8 else w9
def own_end (i : Int32) (w0 w3 w8 w9 : Addr) : Addr := if i < 3 then w0 else if i < 8 then w3 else if i = 8 then w8 else w9
theorem own_ten {i : Int32} (h1 : 0 ≤ i.toInt) (h2 : i.toInt < 10) : i = 0 ∨ i = 1 ∨ i = 2 ∨ i = 3 ∨ i = 4 ∨ i = 5 ∨ i = 6 ∨ i = 7 ∨ i = 8 ∨ i = 9 := by
  simp only [← Int32.toInt_inj]
  simp only [show (0 : Int32).toInt = 0 from rfl, show (1 : Int32).toInt = 1 from rfl, show (2 : Int32).toInt = 2 from rfl, show (3 : Int32).toInt = 3 from rfl, show (4 : Int32).toInt = 4 from rfl, show (5 : Int32).toInt = 5 from rfl, show (6 : Int32).toInt = 6 from rfl, show (7 : Int32).toInt = 7 from rfl, show (8 : Int32).toInt = 8 from rfl, show (9 : Int32).toInt = 9 from rfl]
  omega
theorem own_ix (x : Int32) : 0 ≤ ((x &&& (2147483647 : Int32)) % (10 : Int32)).toInt ∧ ((x &&& (2147483647 : Int32)) % (10 : Int32)).toInt < 10 := by
  have h1 := c_and x 2147483647 (by decide)
  have h2 := (c_iremV (x &&& 2147483647) 10).1 h1.1 (by decide)
  have h3 : (10 : Int32).toInt = 10 := rfl
  omega
theorem own_pickF {Z : State} {h : Heap} {i : Int32} {w0 w1 w2 w3 w4 w5 w6 w7 w8 w9 : Addr} (hi : i = 0 ∨ i = 1 ∨ i = 2 ∨ i = 3 ∨ i = 4 ∨ i = 5 ∨ i = 6 ∨ i = 7 ∨ i = 8 ∨ i = 9) (E0 : Exa Z h w0 "com/example/quayside/quayside/Outcome") (E1 : Exa Z h w1 "com/example/quayside/quayside/Outcome") (E2 : Exa Z h w2 "com/example/quayside/quayside/Outcome") (E3 : Exa Z h w3 "com/example/quayside/quayside/Outcome") (E4 : Exa Z h w4 "com/example/quayside/quayside/Outcome") (E5 : Exa Z h w5 "com/example/quayside/quayside/Outcome") (E6 : Exa Z h w6 "com/example/quayside/quayside/Outcome") (E7 : Exa Z h w7 "com/example/quayside/quayside/Outcome") (E8 : Exa Z h w8 "com/example/quayside/quayside/Outcome") (E9 : Exa Z h w9 "com/example/quayside/quayside/Outcome") (F0 : Fld Z h w0 "java/lang/Enum" "ordinal" "I" (.int 0)) (F1 : Fld Z h w1 "java/lang/Enum" "ordinal" "I" (.int 1)) (F2 : Fld Z h w2 "java/lang/Enum" "ordinal" "I" (.int 2)) (F3 : Fld Z h w3 "java/lang/Enum" "ordinal" "I" (.int 3)) (F4 : Fld Z h w4 "java/lang/Enum" "ordinal" "I" (.int 4)) (F5 : Fld Z h w5 "java/lang/Enum" "ordinal" "I" (.int 5)) (F6 : Fld Z h w6 "java/lang/Enum" "ordinal" "I" (.int 6)) (F7 : Fld Z h w7 "java/lang/Enum" "ordinal" "I" (.int 7)) (F8 : Fld Z h w8 "java/lang/Enum" "ordinal" "I" (.int 8)) (F9 : Fld Z h w9 "java/lang/Enum" "ordinal" "I" (.int 9)) :
    ∃ t : Addr, own_pick i w0 w1 w2 w3 w4 w5 w6 w7 w8 w9 = t ∧ Exa Z h t "com/example/quayside/quayside/Outcome" ∧ Fld Z h t "java/lang/Enum" "ordinal" "I" (.int i) := by
  rcases hi with rfl | rfl | rfl | rfl | rfl | rfl | rfl | rfl | rfl | rfl
  · exact ⟨w0, rfl, E0, F0⟩
  · exact ⟨w1, rfl, E1, F1⟩
  · exact ⟨w2, rfl, E2, F2⟩
  · exact ⟨w3, rfl, E3, F3⟩
  · exact ⟨w4, rfl, E4, F4⟩
  · exact ⟨w5, rfl, E5, F5⟩
  · exact ⟨w6, rfl, E6, F6⟩
  · exact ⟨w7, rfl, E7, F7⟩
  · exact ⟨w8, rfl, E8, F8⟩
  · exact ⟨w9, rfl, E9, F9⟩
theorem own_endF {Z : State} {h : Heap} {i : Int32} {w0 w1 w2 w3 w4 w5 w6 w7 w8 w9 : Addr} (hi : i = 0 ∨ i = 1 ∨ i = 2 ∨ i = 3 ∨ i = 4 ∨ i = 5 ∨ i = 6 ∨ i = 7 ∨ i = 8 ∨ i = 9) (E0 : Exa Z h w0 "com/example/quayside/quayside/Outcome") (E1 : Exa Z h w1 "com/example/quayside/quayside/Outcome") (E2 : Exa Z h w2 "com/example/quayside/quayside/Outcome") (E3 : Exa Z h w3 "com/example/quayside/quayside/Outcome") (E4 : Exa Z h w4 "com/example/quayside/quayside/Outcome") (E5 : Exa Z h w5 "com/example/quayside/quayside/Outcome") (E6 : Exa Z h w6 "com/example/quayside/quayside/Outcome") (E7 : Exa Z h w7 "com/example/quayside/quayside/Outcome") (E8 : Exa Z h w8 "com/example/quayside/quayside/Outcome") (E9 : Exa Z h w9 "com/example/quayside/quayside/Outcome") (F0 : Fld Z h w0 "java/lang/Enum" "ordinal" "I" (.int 0)) (F1 : Fld Z h w1 "java/lang/Enum" "ordinal" "I" (.int 1)) (F2 : Fld Z h w2 "java/lang/Enum" "ordinal" "I" (.int 2)) (F3 : Fld Z h w3 "java/lang/Enum" "ordinal" "I" (.int 3)) (F4 : Fld Z h w4 "java/lang/Enum" "ordinal" "I" (.int 4)) (F5 : Fld Z h w5 "java/lang/Enum" "ordinal" "I" (.int 5)) (F6 : Fld Z h w6 "java/lang/Enum" "ordinal" "I" (.int 6)) (F7 : Fld Z h w7 "java/lang/Enum" "ordinal" "I" (.int 7)) (F8 : Fld Z h w8 "java/lang/Enum" "ordinal" "I" (.int 8)) (F9 : Fld Z h w9 "java/lang/Enum" "ordinal" "I" (.int 9)) :
    ∃ (u : Addr) (j : Int32), own_end i w0 w3 w8 w9 = u ∧ Exa Z h u "com/example/quayside/quayside/Outcome" ∧ Fld Z h u "java/lang/Enum" "ordinal" "I" (.int j) ∧ own_end j w0 w3 w8 w9 = u ∧ (j = 0 ∨ j = 1 ∨ j = 2 ∨ j = 3 ∨ j = 4 ∨ j = 5 ∨ j = 6 ∨ j = 7 ∨ j = 8 ∨ j = 9) := by
  rcases hi with rfl | rfl | rfl | rfl | rfl | rfl | rfl | rfl | rfl | rfl
  · exact ⟨w0, 0, rfl, E0, F0, rfl, by decide⟩
  · exact ⟨w0, 0, rfl, E0, F0, rfl, by decide⟩
  · exact ⟨w0, 0, rfl, E0, F0, rfl, by decide⟩
  · exact ⟨w3, 3, rfl, E3, F3, rfl, by decide⟩
  · exact ⟨w3, 3, rfl, E3, F3, rfl, by decide⟩
  · exact ⟨w3, 3, rfl, E3, F3, rfl, by decide⟩
  · exact ⟨w3, 3, rfl, E3, F3, rfl, by decide⟩
  · exact ⟨w3, 3, rfl, E3, F3, rfl, by decide⟩
  · exact ⟨w8, 8, rfl, E8, F8, rfl, by decide⟩
  · exact ⟨w9, 9, rfl, E9, F9, rfl, by decide⟩
theorem d1_0 : decode method_2_code 0 = .ok (.iload_n 0, 1) := by decide +kernel
theorem d1_1 : decode method_2_code 1 = .ok (.ifCond .ne 7, 3) := by decide +kernel
theorem d1_4 : decode method_2_code 4 = .ok (.getstatic 7, 3) := by decide +kernel
theorem d1_7 : decode method_2_code 7 = .ok (.areturn, 1) := by decide +kernel
theorem d1_8 : decode method_2_code 8 = .ok (.iload_n 0, 1) := by decide +kernel
theorem d1_9 : decode method_2_code 9 = .ok (.iconst 1, 1) := by decide +kernel
theorem d1_10 : decode method_2_code 10 = .ok (.if_icmp .ne 7, 3) := by decide +kernel
theorem d1_13 : decode method_2_code 13 = .ok (.getstatic 13, 3) := by decide +kernel
theorem d1_16 : decode method_2_code 16 = .ok (.areturn, 1) := by decide +kernel
theorem d1_17 : decode method_2_code 17 = .ok (.iload_n 0, 1) := by decide +kernel
theorem d1_18 : decode method_2_code 18 = .ok (.iconst 2, 1) := by decide +kernel
theorem d1_19 : decode method_2_code 19 = .ok (.if_icmp .ne 7, 3) := by decide +kernel
theorem d1_22 : decode method_2_code 22 = .ok (.getstatic 16, 3) := by decide +kernel
theorem d1_25 : decode method_2_code 25 = .ok (.areturn, 1) := by decide +kernel
theorem d1_26 : decode method_2_code 26 = .ok (.iload_n 0, 1) := by decide +kernel
theorem d1_27 : decode method_2_code 27 = .ok (.iconst 3, 1) := by decide +kernel
theorem d1_28 : decode method_2_code 28 = .ok (.if_icmp .ne 7, 3) := by decide +kernel
theorem d1_31 : decode method_2_code 31 = .ok (.getstatic 19, 3) := by decide +kernel
theorem d1_34 : decode method_2_code 34 = .ok (.areturn, 1) := by decide +kernel
theorem d1_35 : decode method_2_code 35 = .ok (.iload_n 0, 1) := by decide +kernel
theorem d1_36 : decode method_2_code 36 = .ok (.iconst 4, 1) := by decide +kernel
theorem d1_37 : decode method_2_code 37 = .ok (.if_icmp .ne 7, 3) := by decide +kernel
theorem d1_40 : decode method_2_code 40 = .ok (.getstatic 22, 3) := by decide +kernel
theorem d1_43 : decode method_2_code 43 = .ok (.areturn, 1) := by decide +kernel
theorem d1_44 : decode method_2_code 44 = .ok (.iload_n 0, 1) := by decide +kernel
theorem d1_45 : decode method_2_code 45 = .ok (.iconst 5, 1) := by decide +kernel
theorem d1_46 : decode method_2_code 46 = .ok (.if_icmp .ne 7, 3) := by decide +kernel
theorem d1_49 : decode method_2_code 49 = .ok (.getstatic 25, 3) := by decide +kernel
theorem d1_52 : decode method_2_code 52 = .ok (.areturn, 1) := by decide +kernel
theorem d1_53 : decode method_2_code 53 = .ok (.iload_n 0, 1) := by decide +kernel
theorem d1_54 : decode method_2_code 54 = .ok (.bipush 6, 2) := by decide +kernel
theorem d1_56 : decode method_2_code 56 = .ok (.if_icmp .ne 7, 3) := by decide +kernel
theorem d1_59 : decode method_2_code 59 = .ok (.getstatic 28, 3) := by decide +kernel
theorem d1_62 : decode method_2_code 62 = .ok (.areturn, 1) := by decide +kernel
theorem d1_63 : decode method_2_code 63 = .ok (.iload_n 0, 1) := by decide +kernel
theorem d1_64 : decode method_2_code 64 = .ok (.bipush 7, 2) := by decide +kernel
theorem d1_66 : decode method_2_code 66 = .ok (.if_icmp .ne 7, 3) := by decide +kernel
theorem d1_69 : decode method_2_code 69 = .ok (.getstatic 31, 3) := by decide +kernel
theorem d1_72 : decode method_2_code 72 = .ok (.areturn, 1) := by decide +kernel
theorem d1_73 : decode method_2_code 73 = .ok (.iload_n 0, 1) := by decide +kernel
theorem d1_74 : decode method_2_code 74 = .ok (.bipush 8, 2) := by decide +kernel
theorem d1_76 : decode method_2_code 76 = .ok (.if_icmp .ne 7, 3) := by decide +kernel
theorem d1_79 : decode method_2_code 79 = .ok (.getstatic 34, 3) := by decide +kernel
theorem d1_82 : decode method_2_code 82 = .ok (.areturn, 1) := by decide +kernel
theorem d1_83 : decode method_2_code 83 = .ok (.getstatic 37, 3) := by decide +kernel
theorem d1_86 : decode method_2_code 86 = .ok (.areturn, 1) := by decide +kernel
theorem pn1 : plainFor (⟨"com/example/quayside/quayside/OutcomeEndingPinLaw", "pick", "(I)Lcom/example/quayside/quayside/Outcome;"⟩ : MethodName) = true := plainFor_of_name (by first | (simp [plainName, overriddenIn]; done) | decide +kernel)
set_option maxRecDepth 65536 in
set_option maxHeartbeats 40000000 in
theorem rm1 (l : Launch) (Z : State) (a0 : Array Value) (hw : ∀ d ∈ tables_1, d.before a0 Z = true) (ws : List Jvm.Cond) (p0 : Int32) (w0 w1 w2 w3 w4 w5 w6 w7 w8 w9 : Addr) (h0 : Heap) (n0 : Nat) (Z0 : n0 ≤ h0.size) (S0 : Sta Z h0 "com/example/quayside/quayside/Outcome" "SUCCEED" "Lcom/example/quayside/quayside/Outcome;" (.ref w0)) (S1 : Sta Z h0 "com/example/quayside/quayside/Outcome" "VALCHANGE" "Lcom/example/quayside/quayside/Outcome;" (.ref w1)) (S2 : Sta Z h0 "com/example/quayside/quayside/Outcome" "MULTIPLE_HITS" "Lcom/example/quayside/quayside/Outcome;" (.ref w2)) (S3 : Sta Z h0 "com/example/quayside/quayside/Outcome" "FAIL" "Lcom/example/quayside/quayside/Outcome;" (.ref w3)) (S4 : Sta Z h0 "com/example/quayside/quayside/Outcome" "FAIL_RETRIEVE_BY_CONTENT" "Lcom/example/quayside/quayside/Outcome;" (.ref w4)) (S5 : Sta Z h0 "com/example/quayside/quayside/Outcome" "BO_DOES_NOT_EXIST" "Lcom/example/quayside/quayside/Outcome;" (.ref w5)) (S6 : Sta Z h0 "com/example/quayside/quayside/Outcome" "UNABLE_TO_LOGIN" "Lcom/example/quayside/quayside/Outcome;" (.ref w6)) (S7 : Sta Z h0 "com/example/quayside/quayside/Outcome" "VALDUPES" "Lcom/example/quayside/quayside/Outcome;" (.ref w7)) (S8 : Sta Z h0 "com/example/quayside/quayside/Outcome" "UNSUBSCRIBED" "Lcom/example/quayside/quayside/Outcome;" (.ref w8)) (S9 : Sta Z h0 "com/example/quayside/quayside/Outcome" "APPRESPONSETIMEOUT" "Lcom/example/quayside/quayside/Outcome;" (.ref w9)) :
    own_Met l (⟨"com/example/quayside/quayside/OutcomeEndingPinLaw", "pick", "(I)Lcom/example/quayside/quayside/Outcome;"⟩ : MethodName) method_2_code 1 (some (.object "com/example/quayside/quayside/Outcome")) ({ frames := 0, cells := 0, slots := 0, locals := 0 } : Room) ws #[(.int p0)] Z h0 (fun v h L => v = some (.ref (own_pick p0 w0 w1 w2 w3 w4 w5 w6 w7 w8 w9)) ∧ Fr n0 L ∧ h = h0) := by
  refine own_met pn1 ?_
  intro p e s m below meth c s₁ hx X0 hZ e0 hby hml hown hnm hret hlk
  have N0 := Fr.nil n0
  refine own_at (f' := mkF m 0 #[.val (.int p0)] []) (by first | rfl | (simp [entryFrame, mkF, argsToLocals, Value.category]; done)) ?_
  show own_Ends _ _ _ _ _ _ _ s₁ (mkF m 0 #[.val (.int p0)] [])
  refine own_go (fun t_ k_ => XS.iloadN X0.here hx rfl (hb hby d1_0) rfl  k_) ?_
  show own_Ends _ _ _ _ _ _ _ s₁ (mkF m 1 #[.val (.int p0)] [(.int p0)])
  by_cases hc1 : p0 = (0 : Int32)
  · refine own_go (fun t_ k_ => XS.ifNo X0.here hx rfl (hb hby d1_1) rfl ((if0 _ _).trans (teq hc1).2) k_) ?_
    show own_Ends _ _ _ _ _ _ _ s₁ (mkF m 4 #[.val (.int p0)] [])
    obtain ⟨T2, X2, e2, st2⟩ := getS2 X0 hx hZ hown (host := "") (Or.inl (hw _ (List.mem_of_getElem? (i := 5) rfl))) Via.refl e0 S0 (g := (mkF m 4 #[.val (.int p0)] [])) rfl (hb hby d1_4)
    refine own_go st2 ?_
    show own_Ends _ _ _ _ _ _ _ T2 (mkF m 7 #[.val (.int p0)] [(.ref w0)])
    refine own_retR X2 hx hlk hret rfl rfl (hb hby d1_7) e2 (by decide) (by decide) ?_
    exact ⟨by simp [own_pick, hc1], N0, rfl⟩
  · refine own_go (fun t_ k_ => XS.ifYes X0.here hx rfl (pc0 := 1) (pc' := 8) rfl (hb hby d1_1) rfl ((if0 _ _).trans (feq hc1).2) (by decide) (by decide) k_) ?_
    show own_Ends _ _ _ _ _ _ _ s₁ (mkF m 8 #[.val (.int p0)] [])
    refine own_go (fun t_ k_ => XS.iloadN X0.here hx rfl (hb hby d1_8) rfl  k_) ?_
    show own_Ends _ _ _ _ _ _ _ s₁ (mkF m 9 #[.val (.int p0)] [(.int p0)])
    refine own_go (fun t_ k_ => XS.iconst X0.here hx rfl (hb hby d1_9) k_) ?_
    show own_Ends _ _ _ _ _ _ _ s₁ (mkF m 10 #[.val (.int p0)] [(.int (1 : Int32)), (.int p0)])
    by_cases hc3 : p0 = (1 : Int32)
    · refine own_go (fun t_ k_ => XS.icmpNo X0.here hx rfl (hb hby d1_10) rfl (teq hc3).2 k_) ?_
      show own_Ends _ _ _ _ _ _ _ s₁ (mkF m 13 #[.val (.int p0)] [])
      obtain ⟨T4, X4, e4, st4⟩ := getS2 X0 hx hZ hown (host := "") (Or.inl (hw _ (List.mem_of_getElem? (i := 29) rfl))) Via.refl e0 S1 (g := (mkF m 13 #[.val (.int p0)] [])) rfl (hb hby d1_13)
      refine own_go st4 ?_
      show own_Ends _ _ _ _ _ _ _ T4 (mkF m 16 #[.val (.int p0)] [(.ref w1)])
      refine own_retR X4 hx hlk hret rfl rfl (hb hby d1_16) e4 (by decide) (by decide) ?_
      exact ⟨by simp [own_pick, hc1, hc3], N0, rfl⟩
    · refine own_go (fun t_ k_ => XS.icmpYes X0.here hx rfl (pc0 := 10) (pc' := 17) rfl (hb hby d1_10) rfl (feq hc3).2 (by decide) (by decide) k_) ?_
      show own_Ends _ _ _ _ _ _ _ s₁ (mkF m 17 #[.val (.int p0)] [])
      refine own_go (fun t_ k_ => XS.iloadN X0.here hx rfl (hb hby d1_17) rfl  k_) ?_
      show own_Ends _ _ _ _ _ _ _ s₁ (mkF m 18 #[.val (.int p0)] [(.int p0)])
      refine own_go (fun t_ k_ => XS.iconst X0.here hx rfl (hb hby d1_18) k_) ?_
      show own_Ends _ _ _ _ _ _ _ s₁ (mkF m 19 #[.val (.int p0)] [(.int (2 : Int32)), (.int p0)])
      by_cases hc5 : p0 = (2 : Int32)
      · refine own_go (fun t_ k_ => XS.icmpNo X0.here hx rfl (hb hby d1_19) rfl (teq hc5).2 k_) ?_
        show own_Ends _ _ _ _ _ _ _ s₁ (mkF m 22 #[.val (.int p0)] [])
        obtain ⟨T6, X6, e6, st6⟩ := getS2 X0 hx hZ hown (host := "") (Or.inl (hw _ (List.mem_of_getElem? (i := 35) rfl))) Via.refl e0 S2 (g := (mkF m 22 #[.val (.int p0)] [])) rfl (hb hby d1_22)
        refine own_go st6 ?_
        show own_Ends _ _ _ _ _ _ _ T6 (mkF m 25 #[.val (.int p0)] [(.ref w2)])
        refine own_retR X6 hx hlk hret rfl rfl (hb hby d1_25) e6 (by decide) (by decide) ?_
        exact ⟨by simp [own_pick, hc1, hc3, hc5], N0, rfl⟩
      · refine own_go (fun t_ k_ => XS.icmpYes X0.here hx rfl (pc0 := 19) (pc' := 26) rfl (hb hby d1_19) rfl (feq hc5).2 (by decide) (by decide) k_) ?_
        show own_Ends _ _ _ _ _ _ _ s₁ (mkF m 26 #[.val (.int p0)] [])
        refine own_go (fun t_ k_ => XS.iloadN X0.here hx rfl (hb hby d1_26) rfl  k_) ?_
        show own_Ends _ _ _ _ _ _ _ s₁ (mkF m 27 #[.val (.int p0)] [(.int p0)])
        refine own_go (fun t_ k_ => XS.iconst X0.here hx rfl (hb hby d1_27) k_) ?_
        show own_Ends _ _ _ _ _ _ _ s₁ (mkF m 28 #[.val (.int p0)] [(.int (3 : Int32)), (.int p0)])
        by_cases hc7 : p0 = (3 : Int32)
        · refine own_go (fun t_ k_ => XS.icmpNo X0.here hx rfl (hb hby d1_28) rfl (teq hc7).2 k_) ?_
          show own_Ends _ _ _ _ _ _ _ s₁ (mkF m 31 #[.val (.int p0)] [])
          obtain ⟨T8, X8, e8, st8⟩ := getS2 X0 hx hZ hown (host := "") (Or.inl (hw _ (List.mem_of_getElem? (i := 26) rfl))) Via.refl e0 S3 (g := (mkF m 31 #[.val (.int p0)] [])) rfl (hb hby d1_31)
          refine own_go st8 ?_
          show own_Ends _ _ _ _ _ _ _ T8 (mkF m 34 #[.val (.int p0)] [(.ref w3)])
          refine own_retR X8 hx hlk hret rfl rfl (hb hby d1_34) e8 (by decide) (by decide) ?_
          exact ⟨by simp [own_pick, hc1, hc3, hc5, hc7], N0, rfl⟩
        · refine own_go (fun t_ k_ => XS.icmpYes X0.here hx rfl (pc0 := 28) (pc' := 35) rfl (hb hby d1_28) rfl (feq hc7).2 (by decide) (by decide) k_) ?_
          show own_Ends _ _ _ _ _ _ _ s₁ (mkF m 35 #[.val (.int p0)] [])
          refine own_go (fun t_ k_ => XS.iloadN X0.here hx rfl (hb hby d1_35) rfl  k_) ?_
          show own_Ends _ _ _ _ _ _ _ s₁ (mkF m 36 #[.val (.int p0)] [(.int p0)])
          refine own_go (fun t_ k_ => XS.iconst X0.here hx rfl (hb hby d1_36) k_) ?_
          show own_Ends _ _ _ _ _ _ _ s₁ (mkF m 37 #[.val (.int p0)] [(.int (4 : Int32)), (.int p0)])
          by_cases hc9 : p0 = (4 : Int32)
          · refine own_go (fun t_ k_ => XS.icmpNo X0.here hx rfl (hb hby d1_37) rfl (teq hc9).2 k_) ?_
            show own_Ends _ _ _ _ _ _ _ s₁ (mkF m 40 #[.val (.int p0)] [])
            obtain ⟨T10, X10, e10, st10⟩ := getS2 X0 hx hZ hown (host := "") (Or.inl (hw _ (List.mem_of_getElem? (i := 31) rfl))) Via.refl e0 S4 (g := (mkF m 40 #[.val (.int p0)] [])) rfl (hb hby d1_40)
            refine own_go st10 ?_
            show own_Ends _ _ _ _ _ _ _ T10 (mkF m 43 #[.val (.int p0)] [(.ref w4)])
            refine own_retR X10 hx hlk hret rfl rfl (hb hby d1_43) e10 (by decide) (by decide) ?_
            exact ⟨by simp [own_pick, hc1, hc3, hc5, hc7, hc9], N0, rfl⟩
          · refine own_go (fun t_ k_ => XS.icmpYes X0.here hx rfl (pc0 := 37) (pc' := 44) rfl (hb hby d1_37) rfl (feq hc9).2 (by decide) (by decide) k_) ?_
            show own_Ends _ _ _ _ _ _ _ s₁ (mkF m 44 #[.val (.int p0)] [])
            refine own_go (fun t_ k_ => XS.iloadN X0.here hx rfl (hb hby d1_44) rfl  k_) ?_
            show own_Ends _ _ _ _ _ _ _ s₁ (mkF m 45 #[.val (.int p0)] [(.int p0)])
            refine own_go (fun t_ k_ => XS.iconst X0.here hx rfl (hb hby d1_45) k_) ?_
            show own_Ends _ _ _ _ _ _ _ s₁ (mkF m 46 #[.val (.int p0)] [(.int (5 : Int32)), (.int p0)])
            by_cases hc11 : p0 = (5 : Int32)
            · refine own_go (fun t_ k_ => XS.icmpNo X0.here hx rfl (hb hby d1_46) rfl (teq hc11).2 k_) ?_
              show own_Ends _ _ _ _ _ _ _ s₁ (mkF m 49 #[.val (.int p0)] [])
              obtain ⟨T12, X12, e12, st12⟩ := getS2 X0 hx hZ hown (host := "") (Or.inl (hw _ (List.mem_of_getElem? (i := 43) rfl))) Via.refl e0 S5 (g := (mkF m 49 #[.val (.int p0)] [])) rfl (hb hby d1_49)
              refine own_go st12 ?_
              show own_Ends _ _ _ _ _ _ _ T12 (mkF m 52 #[.val (.int p0)] [(.ref w5)])
              refine own_retR X12 hx hlk hret rfl rfl (hb hby d1_52) e12 (by decide) (by decide) ?_
              exact ⟨by simp [own_pick, hc1, hc3, hc5, hc7, hc9, hc11], N0, rfl⟩
            · refine own_go (fun t_ k_ => XS.icmpYes X0.here hx rfl (pc0 := 46) (pc' := 53) rfl (hb hby d1_46) rfl (feq hc11).2 (by decide) (by decide) k_) ?_
              show own_Ends _ _ _ _ _ _ _ s₁ (mkF m 53 #[.val (.int p0)] [])
              refine own_go (fun t_ k_ => XS.iloadN X0.here hx rfl (hb hby d1_53) rfl  k_) ?_
              show own_Ends _ _ _ _ _ _ _ s₁ (mkF m 54 #[.val (.int p0)] [(.int p0)])
              refine own_go (fun t_ k_ => XS.bipush X0.here hx rfl (hb hby d1_54) k_) ?_
              show own_Ends _ _ _ _ _ _ _ s₁ (mkF m 56 #[.val (.int p0)] [(.int (6 : Int32)), (.int p0)])
              by_cases hc13 : p0 = (6 : Int32)
              · refine own_go (fun t_ k_ => XS.icmpNo X0.here hx rfl (hb hby d1_56) rfl (teq hc13).2 k_) ?_
                show own_Ends _ _ _ _ _ _ _ s₁ (mkF m 59 #[.val (.int p0)] [])
                obtain ⟨T14, X14, e14, st14⟩ := getS2 X0 hx hZ hown (host := "") (Or.inl (hw _ (List.mem_of_getElem? (i := 45) rfl))) Via.refl e0 S6 (g := (mkF m 59 #[.val (.int p0)] [])) rfl (hb hby d1_59)
                refine own_go st14 ?_
                show own_Ends _ _ _ _ _ _ _ T14 (mkF m 62 #[.val (.int p0)] [(.ref w6)])
                refine own_retR X14 hx hlk hret rfl rfl (hb hby d1_62) e14 (by decide) (by decide) ?_
                exact ⟨by simp [own_pick, hc1, hc3, hc5, hc7, hc9, hc11, hc13], N0, rfl⟩
              · refine own_go (fun t_ k_ => XS.icmpYes X0.here hx rfl (pc0 := 56) (pc' := 63) rfl (hb hby d1_56) rfl (feq hc13).2 (by decide) (by decide) k_) ?_
                show own_Ends _ _ _ _ _ _ _ s₁ (mkF m 63 #[.val (.int p0)] [])
                refine own_go (fun t_ k_ => XS.iloadN X0.here hx rfl (hb hby d1_63) rfl  k_) ?_
                show own_Ends _ _ _ _ _ _ _ s₁ (mkF m 64 #[.val (.int p0)] [(.int p0)])
                refine own_go (fun t_ k_ => XS.bipush X0.here hx rfl (hb hby d1_64) k_) ?_
                show own_Ends _ _ _ _ _ _ _ s₁ (mkF m 66 #[.val (.int p0)] [(.int (7 : Int32)), (.int p0)])
                by_cases hc15 : p0 = (7 : Int32)
                · refine own_go (fun t_ k_ => XS.icmpNo X0.here hx rfl (hb hby d1_66) rfl (teq hc15).2 k_) ?_
                  show own_Ends _ _ _ _ _ _ _ s₁ (mkF m 69 #[.val (.int p0)] [])
                  obtain ⟨T16, X16, e16, st16⟩ := getS2 X0 hx hZ hown (host := "") (Or.inl (hw _ (List.mem_of_getElem? (i := 33) rfl))) Via.refl e0 S7 (g := (mkF m 69 #[.val (.int p0)] [])) rfl (hb hby d1_69)
                  refine own_go st16 ?_
                  show own_Ends _ _ _ _ _ _ _ T16 (mkF m 72 #[.val (.int p0)] [(.ref w7)])
                  refine own_retR X16 hx hlk hret rfl rfl (hb hby d1_72) e16 (by decide) (by decide) ?_
                  exact ⟨by simp [own_pick, hc1, hc3, hc5, hc7, hc9, hc11, hc13, hc15], N0, rfl⟩
                · refine own_go (fun t_ k_ => XS.icmpYes X0.here hx rfl (pc0 := 66) (pc' := 73) rfl (hb hby d1_66) rfl (feq hc15).2 (by decide) (by decide) k_) ?_
                  show own_Ends _ _ _ _ _ _ _ s₁ (mkF m 73 #[.val (.int p0)] [])
                  refine own_go (fun t_ k_ => XS.iloadN X0.here hx rfl (hb hby d1_73) rfl  k_) ?_
                  show own_Ends _ _ _ _ _ _ _ s₁ (mkF m 74 #[.val (.int p0)] [(.int p0)])
                  refine own_go (fun t_ k_ => XS.bipush X0.here hx rfl (hb hby d1_74) k_) ?_
                  show own_Ends _ _ _ _ _ _ _ s₁ (mkF m 76 #[.val (.int p0)] [(.int (8 : Int32)), (.int p0)])
                  by_cases hc17 : p0 = (8 : Int32)
                  · refine own_go (fun t_ k_ => XS.icmpNo X0.here hx rfl (hb hby d1_76) rfl (teq hc17).2 k_) ?_
                    show own_Ends _ _ _ _ _ _ _ s₁ (mkF m 79 #[.val (.int p0)] [])
                    obtain ⟨T18, X18, e18, st18⟩ := getS2 X0 hx hZ hown (host := "") (Or.inl (hw _ (List.mem_of_getElem? (i := 37) rfl))) Via.refl e0 S8 (g := (mkF m 79 #[.val (.int p0)] [])) rfl (hb hby d1_79)
                    refine own_go st18 ?_
                    show own_Ends _ _ _ _ _ _ _ T18 (mkF m 82 #[.val (.int p0)] [(.ref w8)])
                    refine own_retR X18 hx hlk hret rfl rfl (hb hby d1_82) e18 (by decide) (by decide) ?_
                    exact ⟨by simp [own_pick, hc1, hc3, hc5, hc7, hc9, hc11, hc13, hc15, hc17], N0, rfl⟩
                  · refine own_go (fun t_ k_ => XS.icmpYes X0.here hx rfl (pc0 := 76) (pc' := 83) rfl (hb hby d1_76) rfl (feq hc17).2 (by decide) (by decide) k_) ?_
                    show own_Ends _ _ _ _ _ _ _ s₁ (mkF m 83 #[.val (.int p0)] [])
                    obtain ⟨T19, X19, e19, st19⟩ := getS2 X0 hx hZ hown (host := "") (Or.inl (hw _ (List.mem_of_getElem? (i := 40) rfl))) Via.refl e0 S9 (g := (mkF m 83 #[.val (.int p0)] [])) rfl (hb hby d1_83)
                    refine own_go st19 ?_
                    show own_Ends _ _ _ _ _ _ _ T19 (mkF m 86 #[.val (.int p0)] [(.ref w9)])
                    refine own_retR X19 hx hlk hret rfl rfl (hb hby d1_86) e19 (by decide) (by decide) ?_
                    exact ⟨by simp [own_pick, hc1, hc3, hc5, hc7, hc9, hc11, hc13, hc15, hc17], N0, rfl⟩
theorem d3_0 : decode jdk_37_method_2_code 0 = .ok (.aload_n 0, 1) := by decide +kernel
theorem d3_1 : decode jdk_37_method_2_code 1 = .ok (.getfield 7, 3) := by decide +kernel
theorem d3_4 : decode jdk_37_method_2_code 4 = .ok (.ireturn, 1) := by decide +kernel
theorem pn3 : plainFor (⟨"java/lang/Enum", "ordinal", "()I"⟩ : MethodName) = true := plainFor_of_name (by first | (simp [plainName, overriddenIn]; done) | decide +kernel)
set_option maxRecDepth 65536 in
set_option maxHeartbeats 40000000 in
theorem rm3 (l : Launch) (Z : State) (a0 : Array Value) (hw : ∀ d ∈ tables_1, d.before a0 Z = true) (ws : List Jvm.Cond)  (t : Addr) (i : Int32) (h0 : Heap) (n0 : Nat) (Z0 : n0 ≤ h0.size) (Ft : Fld Z h0 t "java/lang/Enum" "ordinal" "I" (.int i)) :
    own_Met l (⟨"java/lang/Enum", "ordinal", "()I"⟩ : MethodName) jdk_37_method_2_code 1 (some .int) ({ frames := 0, cells := 0, slots := 0, locals := 0 } : Room) ws #[(.ref t)] Z h0 (fun v h L => v = some (.int i) ∧ Fr n0 L ∧ h = h0) := by
  refine own_met pn3 ?_
  intro p e s m below meth c s₁ hx X0 hZ e0 hby hml hown hnm hret hlk
  have N0 := Fr.nil n0
  refine own_at (f' := mkF m 0 #[.val (.ref t)] []) (by first | rfl | (simp [entryFrame, mkF, argsToLocals, Value.category]; done)) ?_
  show own_Ends _ _ _ _ _ _ _ s₁ (mkF m 0 #[.val (.ref t)] [])
  refine own_go (fun t_ k_ => XS.aloadN X0.here hx rfl (hb hby d3_0) rfl rfl  k_) ?_
  show own_Ends _ _ _ _ _ _ _ s₁ (mkF m 1 #[.val (.ref t)] [(.ref t)])
  obtain ⟨T1, X1, e1, st1⟩ := getF X0 hx hZ hown (host := "") (Or.inl (hw _ (List.mem_of_getElem? (i := 20) rfl))) Via.refl e0 Ft (g := (mkF m 1 #[.val (.ref t)] [(.ref t)])) rfl rfl (hb hby d3_1)
  refine own_go st1 ?_
  show own_Ends _ _ _ _ _ _ _ T1 (mkF m 4 #[.val (.ref t)] [(.int i)])
  refine own_retI X1 hx hlk hret (hb hby d3_4) e1 (by decide) (by decide) ?_
  exact ⟨rfl, N0, rfl⟩
theorem d4_0 : decode method_3_code 0 = .ok (.iload_n 0, 1) := by decide +kernel
theorem d4_1 : decode method_3_code 1 = .ok (.iconst 3, 1) := by decide +kernel
theorem d4_2 : decode method_3_code 2 = .ok (.if_icmp .ge 7, 3) := by decide +kernel
theorem d4_5 : decode method_3_code 5 = .ok (.getstatic 7, 3) := by decide +kernel
theorem d4_8 : decode method_3_code 8 = .ok (.areturn, 1) := by decide +kernel
theorem d4_9 : decode method_3_code 9 = .ok (.iload_n 0, 1) := by decide +kernel
theorem d4_10 : decode method_3_code 10 = .ok (.bipush 8, 2) := by decide +kernel
theorem d4_12 : decode method_3_code 12 = .ok (.if_icmp .ge 7, 3) := by decide +kernel
theorem d4_15 : decode method_3_code 15 = .ok (.getstatic 19, 3) := by decide +kernel
theorem d4_18 : decode method_3_code 18 = .ok (.areturn, 1) := by decide +kernel
theorem d4_19 : decode method_3_code 19 = .ok (.iload_n 0, 1) := by decide +kernel
theorem d4_20 : decode method_3_code 20 = .ok (.bipush 8, 2) := by decide +kernel
theorem d4_22 : decode method_3_code 22 = .ok (.if_icmp .ne 7, 3) := by decide +kernel
theorem d4_25 : decode method_3_code 25 = .ok (.getstatic 34, 3) := by decide +kernel
theorem d4_28 : decode method_3_code 28 = .ok (.areturn, 1) := by decide +kernel
theorem d4_29 : decode method_3_code 29 = .ok (.getstatic 37, 3) := by decide +kernel
theorem d4_32 : decode method_3_code 32 = .ok (.areturn, 1) := by decide +kernel
theorem pn4 : plainFor (⟨"com/example/quayside/quayside/OutcomeEndingPinLaw", "expected", "(I)Lcom/example/quayside/quayside/Outcome;"⟩ : MethodName) = true := plainFor_of_name (by first | (simp [plainName, overriddenIn]; done) | decide +kernel)
set_option maxRecDepth 65536 in
set_option maxHeartbeats 40000000 in
theorem rm4 (l : Launch) (Z : State) (a0 : Array Value) (hw : ∀ d ∈ tables_1, d.before a0 Z = true) (ws : List Jvm.Cond) (p0 : Int32) (w0 w3 w8 w9 : Addr) (h0 : Heap) (n0 : Nat) (Z0 : n0 ≤ h0.size) (S0 : Sta Z h0 "com/example/quayside/quayside/Outcome" "SUCCEED" "Lcom/example/quayside/quayside/Outcome;" (.ref w0)) (S3 : Sta Z h0 "com/example/quayside/quayside/Outcome" "FAIL" "Lcom/example/quayside/quayside/Outcome;" (.ref w3)) (S8 : Sta Z h0 "com/example/quayside/quayside/Outcome" "UNSUBSCRIBED" "Lcom/example/quayside/quayside/Outcome;" (.ref w8)) (S9 : Sta Z h0 "com/example/quayside/quayside/Outcome" "APPRESPONSETIMEOUT" "Lcom/example/quayside/quayside/Outcome;" (.ref w9)) :
    own_Met l (⟨"com/example/quayside/quayside/OutcomeEndingPinLaw", "expected", "(I)Lcom/example/quayside/quayside/Outcome;"⟩ : MethodName) method_3_code 1 (some (.object "com/example/quayside/quayside/Outcome")) ({ frames := 0, cells := 0, slots := 0, locals := 0 } : Room) ws #[(.int p0)] Z h0 (fun v h L => v = some (.ref (own_end p0 w0 w3 w8 w9)) ∧ Fr n0 L ∧ h = h0) := by
  refine own_met pn4 ?_
  intro p e s m below meth c s₁ hx X0 hZ e0 hby hml hown hnm hret hlk
  have N0 := Fr.nil n0
  refine own_at (f' := mkF m 0 #[.val (.int p0)] []) (by first | rfl | (simp [entryFrame, mkF, argsToLocals, Value.category]; done)) ?_
  show own_Ends _ _ _ _ _ _ _ s₁ (mkF m 0 #[.val (.int p0)] [])
  refine own_go (fun t_ k_ => XS.iloadN X0.here hx rfl (hb hby d4_0) rfl  k_) ?_
  show own_Ends _ _ _ _ _ _ _ s₁ (mkF m 1 #[.val (.int p0)] [(.int p0)])
  refine own_go (fun t_ k_ => XS.iconst X0.here hx rfl (hb hby d4_1) k_) ?_
  show own_Ends _ _ _ _ _ _ _ s₁ (mkF m 2 #[.val (.int p0)] [(.int (3 : Int32)), (.int p0)])
  by_cases hc1 : p0 < (3 : Int32)
  · refine own_go (fun t_ k_ => XS.icmpNo X0.here hx rfl (hb hby d4_2) rfl (tlt hc1).2.1 k_) ?_
    show own_Ends _ _ _ _ _ _ _ s₁ (mkF m 5 #[.val (.int p0)] [])
    obtain ⟨T2, X2, e2, st2⟩ := getS2 X0 hx hZ hown (host := "") (Or.inl (hw _ (List.mem_of_getElem? (i := 5) rfl))) Via.refl e0 S0 (g := (mkF m 5 #[.val (.int p0)] [])) rfl (hb hby d4_5)
    refine own_go st2 ?_
    show own_Ends _ _ _ _ _ _ _ T2 (mkF m 8 #[.val (.int p0)] [(.ref w0)])
    refine own_retR X2 hx hlk hret rfl rfl (hb hby d4_8) e2 (by decide) (by decide) ?_
    exact ⟨by simp [own_end, hc1], N0, rfl⟩
  · refine own_go (fun t_ k_ => XS.icmpYes X0.here hx rfl (pc0 := 2) (pc' := 9) rfl (hb hby d4_2) rfl (flt hc1).2.1 (by decide) (by decide) k_) ?_
    show own_Ends _ _ _ _ _ _ _ s₁ (mkF m 9 #[.val (.int p0)] [])
    refine own_go (fun t_ k_ => XS.iloadN X0.here hx rfl (hb hby d4_9) rfl  k_) ?_
    show own_Ends _ _ _ _ _ _ _ s₁ (mkF m 10 #[.val (.int p0)] [(.int p0)])
    refine own_go (fun t_ k_ => XS.bipush X0.here hx rfl (hb hby d4_10) k_) ?_
    show own_Ends _ _ _ _ _ _ _ s₁ (mkF m 12 #[.val (.int p0)] [(.int (8 : Int32)), (.int p0)])
    by_cases hc3 : p0 < (8 : Int32)
    · refine own_go (fun t_ k_ => XS.icmpNo X0.here hx rfl (hb hby d4_12) rfl (tlt hc3).2.1 k_) ?_
      show own_Ends _ _ _ _ _ _ _ s₁ (mkF m 15 #[.val (.int p0)] [])
      obtain ⟨T4, X4, e4, st4⟩ := getS2 X0 hx hZ hown (host := "") (Or.inl (hw _ (List.mem_of_getElem? (i := 26) rfl))) Via.refl e0 S3 (g := (mkF m 15 #[.val (.int p0)] [])) rfl (hb hby d4_15)
      refine own_go st4 ?_
      show own_Ends _ _ _ _ _ _ _ T4 (mkF m 18 #[.val (.int p0)] [(.ref w3)])
      refine own_retR X4 hx hlk hret rfl rfl (hb hby d4_18) e4 (by decide) (by decide) ?_
      exact ⟨by simp [own_end, hc1, hc3], N0, rfl⟩
    · refine own_go (fun t_ k_ => XS.icmpYes X0.here hx rfl (pc0 := 12) (pc' := 19) rfl (hb hby d4_12) rfl (flt hc3).2.1 (by decide) (by decide) k_) ?_
      show own_Ends _ _ _ _ _ _ _ s₁ (mkF m 19 #[.val (.int p0)] [])
      refine own_go (fun t_ k_ => XS.iloadN X0.here hx rfl (hb hby d4_19) rfl  k_) ?_
      show own_Ends _ _ _ _ _ _ _ s₁ (mkF m 20 #[.val (.int p0)] [(.int p0)])
      refine own_go (fun t_ k_ => XS.bipush X0.here hx rfl (hb hby d4_20) k_) ?_
      show own_Ends _ _ _ _ _ _ _ s₁ (mkF m 22 #[.val (.int p0)] [(.int (8 : Int32)), (.int p0)])
      by_cases hc5 : p0 = (8 : Int32)
      · refine own_go (fun t_ k_ => XS.icmpNo X0.here hx rfl (hb hby d4_22) rfl (teq hc5).2 k_) ?_
        show own_Ends _ _ _ _ _ _ _ s₁ (mkF m 25 #[.val (.int p0)] [])
        obtain ⟨T6, X6, e6, st6⟩ := getS2 X0 hx hZ hown (host := "") (Or.inl (hw _ (List.mem_of_getElem? (i := 37) rfl))) Via.refl e0 S8 (g := (mkF m 25 #[.val (.int p0)] [])) rfl (hb hby d4_25)
        refine own_go st6 ?_
        show own_Ends _ _ _ _ _ _ _ T6 (mkF m 28 #[.val (.int p0)] [(.ref w8)])
        refine own_retR X6 hx hlk hret rfl rfl (hb hby d4_28) e6 (by decide) (by decide) ?_
        exact ⟨by simp [own_end, hc1, hc3, hc5], N0, rfl⟩
      · refine own_go (fun t_ k_ => XS.icmpYes X0.here hx rfl (pc0 := 22) (pc' := 29) rfl (hb hby d4_22) rfl (feq hc5).2 (by decide) (by decide) k_) ?_
        show own_Ends _ _ _ _ _ _ _ s₁ (mkF m 29 #[.val (.int p0)] [])
        obtain ⟨T7, X7, e7, st7⟩ := getS2 X0 hx hZ hown (host := "") (Or.inl (hw _ (List.mem_of_getElem? (i := 40) rfl))) Via.refl e0 S9 (g := (mkF m 29 #[.val (.int p0)] [])) rfl (hb hby d4_29)
        refine own_go st7 ?_
        show own_Ends _ _ _ _ _ _ _ T7 (mkF m 32 #[.val (.int p0)] [(.ref w9)])
        refine own_retR X7 hx hlk hret rfl rfl (hb hby d4_32) e7 (by decide) (by decide) ?_
        exact ⟨by simp [own_end, hc1, hc3, hc5], N0, rfl⟩
theorem d2_0 : decode prog_12_method_6_code 0 = .ok (.aload_n 0, 1) := by decide +kernel
theorem d2_1 : decode prog_12_method_6_code 1 = .ok (.invokevirtual 53, 3) := by decide +kernel
theorem pd___I : parseMethodDescriptor "()I" = some ⟨[], some .int⟩ := by decide +kernel
theorem d2_4 : decode prog_12_method_6_code 4 = .ok (.tableswitch 56 0 9 #[66, 66, 66, 72, 72, 72, 72, 72, 78, 84], 56) := by decide +kernel
theorem d2_70 : decode prog_12_method_6_code 70 = .ok (.getstatic 3, 3) := by decide +kernel
theorem d2_73 : decode prog_12_method_6_code 73 = .ok (.goto 18, 3) := by decide +kernel
theorem d2_91 : decode prog_12_method_6_code 91 = .ok (.areturn, 1) := by decide +kernel
theorem d2_76 : decode prog_12_method_6_code 76 = .ok (.getstatic 13, 3) := by decide +kernel
theorem d2_79 : decode prog_12_method_6_code 79 = .ok (.goto 12, 3) := by decide +kernel
theorem d2_82 : decode prog_12_method_6_code 82 = .ok (.getstatic 28, 3) := by decide +kernel
theorem d2_85 : decode prog_12_method_6_code 85 = .ok (.goto 6, 3) := by decide +kernel
theorem d2_88 : decode prog_12_method_6_code 88 = .ok (.getstatic 31, 3) := by decide +kernel
theorem pn2 : plainFor (⟨"com/example/quayside/quayside/Outcome", "ending", "()Lcom/example/quayside/quayside/Outcome;"⟩ : MethodName) = true := plainFor_of_name (by first | (simp [plainName, overriddenIn]; done) | decide +kernel)
set_option maxRecDepth 65536 in
set_option maxHeartbeats 40000000 in
theorem rm2 (l : Launch) (Z : State) (a0 : Array Value) (hw : ∀ d ∈ tables_1, d.before a0 Z = true) (ws : List Jvm.Cond)  (t : Addr) (i : Int32) (w0 w3 w8 w9 : Addr) (h0 : Heap) (n0 : Nat) (Z0 : n0 ≤ h0.size) (hi : i = 0 ∨ i = 1 ∨ i = 2 ∨ i = 3 ∨ i = 4 ∨ i = 5 ∨ i = 6 ∨ i = 7 ∨ i = 8 ∨ i = 9) (Et : Exa Z h0 t "com/example/quayside/quayside/Outcome") (Ft : Fld Z h0 t "java/lang/Enum" "ordinal" "I" (.int i)) (S0 : Sta Z h0 "com/example/quayside/quayside/Outcome" "SUCCEED" "Lcom/example/quayside/quayside/Outcome;" (.ref w0)) (S3 : Sta Z h0 "com/example/quayside/quayside/Outcome" "FAIL" "Lcom/example/quayside/quayside/Outcome;" (.ref w3)) (S8 : Sta Z h0 "com/example/quayside/quayside/Outcome" "UNSUBSCRIBED" "Lcom/example/quayside/quayside/Outcome;" (.ref w8)) (S9 : Sta Z h0 "com/example/quayside/quayside/Outcome" "APPRESPONSETIMEOUT" "Lcom/example/quayside/quayside/Outcome;" (.ref w9)) :
    own_Met l (⟨"com/example/quayside/quayside/Outcome", "ending", "()Lcom/example/quayside/quayside/Outcome;"⟩ : MethodName) prog_12_method_6_code 1 (some (.object "com/example/quayside/quayside/Outcome")) ({ frames := 1, cells := 0, slots := 0, locals := 12 } : Room) ws #[(.ref t)] Z h0 (fun v h L => v = some (.ref (own_end i w0 w3 w8 w9)) ∧ Fr n0 L ∧ h = h0) := by
  refine own_met pn2 ?_
  intro p e s m below meth c s₁ hx X0 hZ e0 hby hml hown hnm hret hlk
  have N0 := Fr.nil n0
  refine own_at (f' := mkF m 0 #[.val (.ref t)] []) (by first | rfl | (simp [entryFrame, mkF, argsToLocals, Value.category]; done)) ?_
  show own_Ends _ _ _ _ _ _ _ s₁ (mkF m 0 #[.val (.ref t)] [])
  refine own_go (fun t_ k_ => XS.aloadN X0.here hx rfl (hb hby d2_0) rfl rfl  k_) ?_
  show own_Ends _ _ _ _ _ _ _ s₁ (mkF m 1 #[.val (.ref t)] [(.ref t)])
  obtain ⟨T1, v1, L1, X1, hQ1, st1⟩ := own_callVU X0 hx hZ (owner := "java/lang/Enum") (y := (⟨"com/example/quayside/quayside/Outcome", "ordinal", "()I"⟩ : MethodName)) (z := (⟨"java/lang/Enum", "ordinal", "()I"⟩ : MethodName)) hown (hw _ (List.mem_of_getElem? (i := 13) rfl)) (hw _ (List.mem_of_getElem? (i := 14) rfl)) (hw _ (List.mem_of_getElem? (i := 15) rfl)) (hw _ (List.mem_of_getElem? (i := 17) rfl)) (hw _ (List.mem_of_getElem? (i := 16) rfl)) (hw _ (List.mem_of_getElem? (i := 18) rfl)) (hw _ (List.mem_of_getElem? (i := 19) rfl)) (by decide) (rm3 l Z a0 hw [] t i h0 n0 Z0 Ft) e0 (g := (mkF m 1 #[.val (.ref t)] [(.ref t)])) rfl (by rw [hml]; rfl) t Et [] [] rfl (lenOf pd___I rfl) rfl 0 (by show 2 * 0 + _ ≤ _; exact Nat.le_of_eq rfl) (hb hby d2_1) (by decide) (by decide) (by decide) (by decide)
  obtain ⟨rfl, N1q, e1⟩ := hQ1
  refine own_go st1 ?_
  have N1 := Fr.app N0 N1q
  rcases hi with rfl | rfl | rfl | rfl | rfl | rfl | rfl | rfl | rfl | rfl
  · show own_Ends _ _ _ _ _ _ _ T1 (mkF m 4 #[.val (.ref t)] [(.int (0 : Int32))])
    refine own_go (fun t_ k_ => XS.tswIn X1.here hx rfl (pc0 := 4) (pc' := 70) rfl (hb hby d2_4) rfl (by decide) (o := 66) (by decide) (by decide) (by decide) k_) ?_
    show own_Ends _ _ _ _ _ _ _ T1 (mkF m 70 #[.val (.ref t)] [])
    obtain ⟨T2, X2, e2, st2⟩ := getS2 X1 hx hZ hown (host := "") (Or.inl (hw _ (List.mem_of_getElem? (i := 22) rfl))) Via.refl e1 S0 (g := (mkF m 70 #[.val (.ref t)] [])) rfl (hb hby d2_70)
    refine own_go st2 ?_
    show own_Ends _ _ _ _ _ _ _ T2 (mkF m 73 #[.val (.ref t)] [(.ref w0)])
    refine own_go (fun t_ k_ => XS.goto X2.here hx rfl (pc0 := 73) (pc' := 91) rfl (hb hby d2_73) (by decide) (by decide) k_) ?_
    show own_Ends _ _ _ _ _ _ _ T2 (mkF m 91 #[.val (.ref t)] [(.ref w0)])
    refine own_retR X2 hx hlk hret rfl rfl (hb hby d2_91) e2 (by decide) (by decide) ?_
    exact ⟨rfl, N1, rfl⟩
  · show own_Ends _ _ _ _ _ _ _ T1 (mkF m 4 #[.val (.ref t)] [(.int (1 : Int32))])
    refine own_go (fun t_ k_ => XS.tswIn X1.here hx rfl (pc0 := 4) (pc' := 70) rfl (hb hby d2_4) rfl (by decide) (o := 66) (by decide) (by decide) (by decide) k_) ?_
    show own_Ends _ _ _ _ _ _ _ T1 (mkF m 70 #[.val (.ref t)] [])
    obtain ⟨T3, X3, e3, st3⟩ := getS2 X1 hx hZ hown (host := "") (Or.inl (hw _ (List.mem_of_getElem? (i := 22) rfl))) Via.refl e1 S0 (g := (mkF m 70 #[.val (.ref t)] [])) rfl (hb hby d2_70)
    refine own_go st3 ?_
    show own_Ends _ _ _ _ _ _ _ T3 (mkF m 73 #[.val (.ref t)] [(.ref w0)])
    refine own_go (fun t_ k_ => XS.goto X3.here hx rfl (pc0 := 73) (pc' := 91) rfl (hb hby d2_73) (by decide) (by decide) k_) ?_
    show own_Ends _ _ _ _ _ _ _ T3 (mkF m 91 #[.val (.ref t)] [(.ref w0)])
    refine own_retR X3 hx hlk hret rfl rfl (hb hby d2_91) e3 (by decide) (by decide) ?_
    exact ⟨rfl, N1, rfl⟩
  · show own_Ends _ _ _ _ _ _ _ T1 (mkF m 4 #[.val (.ref t)] [(.int (2 : Int32))])
    refine own_go (fun t_ k_ => XS.tswIn X1.here hx rfl (pc0 := 4) (pc' := 70) rfl (hb hby d2_4) rfl (by decide) (o := 66) (by decide) (by decide) (by decide) k_) ?_
    show own_Ends _ _ _ _ _ _ _ T1 (mkF m 70 #[.val (.ref t)] [])
    obtain ⟨T4, X4, e4, st4⟩ := getS2 X1 hx hZ hown (host := "") (Or.inl (hw _ (List.mem_of_getElem? (i := 22) rfl))) Via.refl e1 S0 (g := (mkF m 70 #[.val (.ref t)] [])) rfl (hb hby d2_70)
    refine own_go st4 ?_
    show own_Ends _ _ _ _ _ _ _ T4 (mkF m 73 #[.val (.ref t)] [(.ref w0)])
    refine own_go (fun t_ k_ => XS.goto X4.here hx rfl (pc0 := 73) (pc' := 91) rfl (hb hby d2_73) (by decide) (by decide) k_) ?_
    show own_Ends _ _ _ _ _ _ _ T4 (mkF m 91 #[.val (.ref t)] [(.ref w0)])
    refine own_retR X4 hx hlk hret rfl rfl (hb hby d2_91) e4 (by decide) (by decide) ?_
    exact ⟨rfl, N1, rfl⟩
  · show own_Ends _ _ _ _ _ _ _ T1 (mkF m 4 #[.val (.ref t)] [(.int (3 : Int32))])
    refine own_go (fun t_ k_ => XS.tswIn X1.here hx rfl (pc0 := 4) (pc' := 76) rfl (hb hby d2_4) rfl (by decide) (o := 72) (by decide) (by decide) (by decide) k_) ?_
    show own_Ends _ _ _ _ _ _ _ T1 (mkF m 76 #[.val (.ref t)] [])
    obtain ⟨T5, X5, e5, st5⟩ := getS2 X1 hx hZ hown (host := "") (Or.inl (hw _ (List.mem_of_getElem? (i := 28) rfl))) Via.refl e1 S3 (g := (mkF m 76 #[.val (.ref t)] [])) rfl (hb hby d2_76)
    refine own_go st5 ?_
    show own_Ends _ _ _ _ _ _ _ T5 (mkF m 79 #[.val (.ref t)] [(.ref w3)])
    refine own_go (fun t_ k_ => XS.goto X5.here hx rfl (pc0 := 79) (pc' := 91) rfl (hb hby d2_79) (by decide) (by decide) k_) ?_
    show own_Ends _ _ _ _ _ _ _ T5 (mkF m 91 #[.val (.ref t)] [(.ref w3)])
    refine own_retR X5 hx hlk hret rfl rfl (hb hby d2_91) e5 (by decide) (by decide) ?_
    exact ⟨rfl, N1, rfl⟩
  · show own_Ends _ _ _ _ _ _ _ T1 (mkF m 4 #[.val (.ref t)] [(.int (4 : Int32))])
    refine own_go (fun t_ k_ => XS.tswIn X1.here hx rfl (pc0 := 4) (pc' := 76) rfl (hb hby d2_4) rfl (by decide) (o := 72) (by decide) (by decide) (by decide) k_) ?_
    show own_Ends _ _ _ _ _ _ _ T1 (mkF m 76 #[.val (.ref t)] [])
    obtain ⟨T6, X6, e6, st6⟩ := getS2 X1 hx hZ hown (host := "") (Or.inl (hw _ (List.mem_of_getElem? (i := 28) rfl))) Via.refl e1 S3 (g := (mkF m 76 #[.val (.ref t)] [])) rfl (hb hby d2_76)
    refine own_go st6 ?_
    show own_Ends _ _ _ _ _ _ _ T6 (mkF m 79 #[.val (.ref t)] [(.ref w3)])
    refine own_go (fun t_ k_ => XS.goto X6.here hx rfl (pc0 := 79) (pc' := 91) rfl (hb hby d2_79) (by decide) (by decide) k_) ?_
    show own_Ends _ _ _ _ _ _ _ T6 (mkF m 91 #[.val (.ref t)] [(.ref w3)])
    refine own_retR X6 hx hlk hret rfl rfl (hb hby d2_91) e6 (by decide) (by decide) ?_
    exact ⟨rfl, N1, rfl⟩
  · show own_Ends _ _ _ _ _ _ _ T1 (mkF m 4 #[.val (.ref t)] [(.int (5 : Int32))])
    refine own_go (fun t_ k_ => XS.tswIn X1.here hx rfl (pc0 := 4) (pc' := 76) rfl (hb hby d2_4) rfl (by decide) (o := 72) (by decide) (by decide) (by decide) k_) ?_
    show own_Ends _ _ _ _ _ _ _ T1 (mkF m 76 #[.val (.ref t)] [])
    obtain ⟨T7, X7, e7, st7⟩ := getS2 X1 hx hZ hown (host := "") (Or.inl (hw _ (List.mem_of_getElem? (i := 28) rfl))) Via.refl e1 S3 (g := (mkF m 76 #[.val (.ref t)] [])) rfl (hb hby d2_76)
    refine own_go st7 ?_
    show own_Ends _ _ _ _ _ _ _ T7 (mkF m 79 #[.val (.ref t)] [(.ref w3)])
    refine own_go (fun t_ k_ => XS.goto X7.here hx rfl (pc0 := 79) (pc' := 91) rfl (hb hby d2_79) (by decide) (by decide) k_) ?_
    show own_Ends _ _ _ _ _ _ _ T7 (mkF m 91 #[.val (.ref t)] [(.ref w3)])
    refine own_retR X7 hx hlk hret rfl rfl (hb hby d2_91) e7 (by decide) (by decide) ?_
    exact ⟨rfl, N1, rfl⟩
  · show own_Ends _ _ _ _ _ _ _ T1 (mkF m 4 #[.val (.ref t)] [(.int (6 : Int32))])
    refine own_go (fun t_ k_ => XS.tswIn X1.here hx rfl (pc0 := 4) (pc' := 76) rfl (hb hby d2_4) rfl (by decide) (o := 72) (by decide) (by decide) (by decide) k_) ?_
    show own_Ends _ _ _ _ _ _ _ T1 (mkF m 76 #[.val (.ref t)] [])
    obtain ⟨T8, X8, e8, st8⟩ := getS2 X1 hx hZ hown (host := "") (Or.inl (hw _ (List.mem_of_getElem? (i := 28) rfl))) Via.refl e1 S3 (g := (mkF m 76 #[.val (.ref t)] [])) rfl (hb hby d2_76)
    refine own_go st8 ?_
    show own_Ends _ _ _ _ _ _ _ T8 (mkF m 79 #[.val (.ref t)] [(.ref w3)])
    refine own_go (fun t_ k_ => XS.goto X8.here hx rfl (pc0 := 79) (pc' := 91) rfl (hb hby d2_79) (by decide) (by decide) k_) ?_
    show own_Ends _ _ _ _ _ _ _ T8 (mkF m 91 #[.val (.ref t)] [(.ref w3)])
    refine own_retR X8 hx hlk hret rfl rfl (hb hby d2_91) e8 (by decide) (by decide) ?_
    exact ⟨rfl, N1, rfl⟩
  · show own_Ends _ _ _ _ _ _ _ T1 (mkF m 4 #[.val (.ref t)] [(.int (7 : Int32))])
    refine own_go (fun t_ k_ => XS.tswIn X1.here hx rfl (pc0 := 4) (pc' := 76) rfl (hb hby d2_4) rfl (by decide) (o := 72) (by decide) (by decide) (by decide) k_) ?_
    show own_Ends _ _ _ _ _ _ _ T1 (mkF m 76 #[.val (.ref t)] [])
    obtain ⟨T9, X9, e9, st9⟩ := getS2 X1 hx hZ hown (host := "") (Or.inl (hw _ (List.mem_of_getElem? (i := 28) rfl))) Via.refl e1 S3 (g := (mkF m 76 #[.val (.ref t)] [])) rfl (hb hby d2_76)
    refine own_go st9 ?_
    show own_Ends _ _ _ _ _ _ _ T9 (mkF m 79 #[.val (.ref t)] [(.ref w3)])
    refine own_go (fun t_ k_ => XS.goto X9.here hx rfl (pc0 := 79) (pc' := 91) rfl (hb hby d2_79) (by decide) (by decide) k_) ?_
    show own_Ends _ _ _ _ _ _ _ T9 (mkF m 91 #[.val (.ref t)] [(.ref w3)])
    refine own_retR X9 hx hlk hret rfl rfl (hb hby d2_91) e9 (by decide) (by decide) ?_
    exact ⟨rfl, N1, rfl⟩
  · show own_Ends _ _ _ _ _ _ _ T1 (mkF m 4 #[.val (.ref t)] [(.int (8 : Int32))])
    refine own_go (fun t_ k_ => XS.tswIn X1.here hx rfl (pc0 := 4) (pc' := 82) rfl (hb hby d2_4) rfl (by decide) (o := 78) (by decide) (by decide) (by decide) k_) ?_
    show own_Ends _ _ _ _ _ _ _ T1 (mkF m 82 #[.val (.ref t)] [])
    obtain ⟨T10, X10, e10, st10⟩ := getS2 X1 hx hZ hown (host := "") (Or.inl (hw _ (List.mem_of_getElem? (i := 39) rfl))) Via.refl e1 S8 (g := (mkF m 82 #[.val (.ref t)] [])) rfl (hb hby d2_82)
    refine own_go st10 ?_
    show own_Ends _ _ _ _ _ _ _ T10 (mkF m 85 #[.val (.ref t)] [(.ref w8)])
    refine own_go (fun t_ k_ => XS.goto X10.here hx rfl (pc0 := 85) (pc' := 91) rfl (hb hby d2_85) (by decide) (by decide) k_) ?_
    show own_Ends _ _ _ _ _ _ _ T10 (mkF m 91 #[.val (.ref t)] [(.ref w8)])
    refine own_retR X10 hx hlk hret rfl rfl (hb hby d2_91) e10 (by decide) (by decide) ?_
    exact ⟨rfl, N1, rfl⟩
  · show own_Ends _ _ _ _ _ _ _ T1 (mkF m 4 #[.val (.ref t)] [(.int (9 : Int32))])
    refine own_go (fun t_ k_ => XS.tswIn X1.here hx rfl (pc0 := 4) (pc' := 88) rfl (hb hby d2_4) rfl (by decide) (o := 84) (by decide) (by decide) (by decide) k_) ?_
    show own_Ends _ _ _ _ _ _ _ T1 (mkF m 88 #[.val (.ref t)] [])
    obtain ⟨T11, X11, e11, st11⟩ := getS2 X1 hx hZ hown (host := "") (Or.inl (hw _ (List.mem_of_getElem? (i := 42) rfl))) Via.refl e1 S9 (g := (mkF m 88 #[.val (.ref t)] [])) rfl (hb hby d2_88)
    refine own_go st11 ?_
    show own_Ends _ _ _ _ _ _ _ T11 (mkF m 91 #[.val (.ref t)] [(.ref w9)])
    refine own_retR X11 hx hlk hret rfl rfl (hb hby d2_91) e11 (by decide) (by decide) ?_
    exact ⟨rfl, N1, rfl⟩
theorem pd__I_Lcom_example_quayside_quayside_Outcome_ : parseMethodDescriptor "(I)Lcom/example/quayside/quayside/Outcome;" = some ⟨[.int], some (.object "com/example/quayside/quayside/Outcome")⟩ := by decide +kernel
theorem pd___Lcom_example_quayside_quayside_Outcome_ : parseMethodDescriptor "()Lcom/example/quayside/quayside/Outcome;" = some ⟨[], some (.object "com/example/quayside/quayside/Outcome")⟩ := by decide +kernel
theorem pn0 : plainFor (⟨"com/example/quayside/quayside/OutcomeEndingPinLaw", "law", "(I)Z"⟩ : MethodName) = true := plainFor_of_name (by first | (simp [plainName, overriddenIn]; done) | decide +kernel)
set_option maxRecDepth 65536 in
set_option maxHeartbeats 40000000 in
theorem rm0 (l : Launch) (Z : State) (a0 : Array Value) (hw : ∀ d ∈ tables_1, d.before a0 Z = true) (ws : List Jvm.Cond) (p0 : Int32) (w0 w1 w2 w3 w4 w5 w6 w7 w8 w9 : Addr) (h0 : Heap) (n0 : Nat) (Z0 : n0 ≤ h0.size) (S0 : Sta Z h0 "com/example/quayside/quayside/Outcome" "SUCCEED" "Lcom/example/quayside/quayside/Outcome;" (.ref w0)) (S1 : Sta Z h0 "com/example/quayside/quayside/Outcome" "VALCHANGE" "Lcom/example/quayside/quayside/Outcome;" (.ref w1)) (S2 : Sta Z h0 "com/example/quayside/quayside/Outcome" "MULTIPLE_HITS" "Lcom/example/quayside/quayside/Outcome;" (.ref w2)) (S3 : Sta Z h0 "com/example/quayside/quayside/Outcome" "FAIL" "Lcom/example/quayside/quayside/Outcome;" (.ref w3)) (S4 : Sta Z h0 "com/example/quayside/quayside/Outcome" "FAIL_RETRIEVE_BY_CONTENT" "Lcom/example/quayside/quayside/Outcome;" (.ref w4)) (S5 : Sta Z h0 "com/example/quayside/quayside/Outcome" "BO_DOES_NOT_EXIST" "Lcom/example/quayside/quayside/Outcome;" (.ref w5)) (S6 : Sta Z h0 "com/example/quayside/quayside/Outcome" "UNABLE_TO_LOGIN" "Lcom/example/quayside/quayside/Outcome;" (.ref w6)) (S7 : Sta Z h0 "com/example/quayside/quayside/Outcome" "VALDUPES" "Lcom/example/quayside/quayside/Outcome;" (.ref w7)) (S8 : Sta Z h0 "com/example/quayside/quayside/Outcome" "UNSUBSCRIBED" "Lcom/example/quayside/quayside/Outcome;" (.ref w8)) (S9 : Sta Z h0 "com/example/quayside/quayside/Outcome" "APPRESPONSETIMEOUT" "Lcom/example/quayside/quayside/Outcome;" (.ref w9)) (E0 : Exa Z h0 w0 "com/example/quayside/quayside/Outcome") (E1 : Exa Z h0 w1 "com/example/quayside/quayside/Outcome") (E2 : Exa Z h0 w2 "com/example/quayside/quayside/Outcome") (E3 : Exa Z h0 w3 "com/example/quayside/quayside/Outcome") (E4 : Exa Z h0 w4 "com/example/quayside/quayside/Outcome") (E5 : Exa Z h0 w5 "com/example/quayside/quayside/Outcome") (E6 : Exa Z h0 w6 "com/example/quayside/quayside/Outcome") (E7 : Exa Z h0 w7 "com/example/quayside/quayside/Outcome") (E8 : Exa Z h0 w8 "com/example/quayside/quayside/Outcome") (E9 : Exa Z h0 w9 "com/example/quayside/quayside/Outcome") (F0 : Fld Z h0 w0 "java/lang/Enum" "ordinal" "I" (.int 0)) (F1 : Fld Z h0 w1 "java/lang/Enum" "ordinal" "I" (.int 1)) (F2 : Fld Z h0 w2 "java/lang/Enum" "ordinal" "I" (.int 2)) (F3 : Fld Z h0 w3 "java/lang/Enum" "ordinal" "I" (.int 3)) (F4 : Fld Z h0 w4 "java/lang/Enum" "ordinal" "I" (.int 4)) (F5 : Fld Z h0 w5 "java/lang/Enum" "ordinal" "I" (.int 5)) (F6 : Fld Z h0 w6 "java/lang/Enum" "ordinal" "I" (.int 6)) (F7 : Fld Z h0 w7 "java/lang/Enum" "ordinal" "I" (.int 7)) (F8 : Fld Z h0 w8 "java/lang/Enum" "ordinal" "I" (.int 8)) (F9 : Fld Z h0 w9 "java/lang/Enum" "ordinal" "I" (.int 9)) :
    own_Met l x code maxLocals ret room_1 ws #[(.int p0)] Z h0 (fun v h L => v = some (.int 1) ∧ Fr n0 L) := by
  refine own_met pn0 ?_
  intro p e s m below meth c s₁ hx X0 hZ e0 hby hml hown hnm hret hlk
  have N0 := Fr.nil n0
  refine own_at (f' := mkF m 0 #[.val (.int p0), .unset, .unset, .unset] []) (by first | rfl | (simp [entryFrame, mkF, argsToLocals, Value.category, maxLocals]; done)) ?_
  show own_Ends _ _ _ _ _ _ _ s₁ (mkF m 0 #[.val (.int p0), .unset, .unset, .unset] [])
  refine own_go (fun t_ k_ => XS.iloadN X0.here hx rfl (hb hby at_0) rfl  k_) ?_
  show own_Ends _ _ _ _ _ _ _ s₁ (mkF m 1 #[.val (.int p0), .unset, .unset, .unset] [(.int p0)])
  refine own_go (X0.ldcInt hx hown (mvT hZ (hw _ (List.mem_of_getElem? (i := 0) rfl))) (g := (mkF m 1 #[.val (.int p0), .unset, .unset, .unset] [(.int p0)])) rfl (hb hby at_1)) ?_
  show own_Ends _ _ _ _ _ _ _ s₁ (mkF m 3 #[.val (.int p0), .unset, .unset, .unset] [(.int (2147483647 : Int32)), (.int p0)])
  refine own_go (fun t_ k_ => XS.iand X0.here hx rfl (hb hby at_3) rfl k_) ?_
  show own_Ends _ _ _ _ _ _ _ s₁ (mkF m 4 #[.val (.int p0), .unset, .unset, .unset] [(.int (p0 &&& (2147483647 : Int32)))])
  refine own_go (fun t_ k_ => XS.bipush X0.here hx rfl (hb hby at_4) k_) ?_
  show own_Ends _ _ _ _ _ _ _ s₁ (mkF m 6 #[.val (.int p0), .unset, .unset, .unset] [(.int (10 : Int32)), (.int (p0 &&& (2147483647 : Int32)))])
  refine own_go (fun t_ k_ => own_irem X0 hx rfl (hb hby at_6) rfl (by decide) k_) ?_
  show own_Ends _ _ _ _ _ _ _ s₁ (mkF m 7 #[.val (.int p0), .unset, .unset, .unset] [(.int ((p0 &&& (2147483647 : Int32)) % (10 : Int32)))])
  refine own_go (fun t_ k_ => XS.istoreN X0.here hx rfl (hb hby at_7) rfl (l' := #[.val (.int p0), .val (.int ((p0 &&& (2147483647 : Int32)) % (10 : Int32))), .unset, .unset]) rfl k_) ?_
  show own_Ends _ _ _ _ _ _ _ s₁ (mkF m 8 #[.val (.int p0), .val (.int ((p0 &&& (2147483647 : Int32)) % (10 : Int32))), .unset, .unset] [])
  refine own_go (fun t_ k_ => XS.iloadN X0.here hx rfl (hb hby at_8) rfl  k_) ?_
  show own_Ends _ _ _ _ _ _ _ s₁ (mkF m 9 #[.val (.int p0), .val (.int ((p0 &&& (2147483647 : Int32)) % (10 : Int32))), .unset, .unset] [(.int ((p0 &&& (2147483647 : Int32)) % (10 : Int32)))])
  obtain ⟨T1, v1, L1, X1, hQ1, st1⟩ := own_callS X0 hx hZ (y := (⟨"com/example/quayside/quayside/OutcomeEndingPinLaw", "pick", "(I)Lcom/example/quayside/quayside/Outcome;"⟩ : MethodName)) hown (hw _ (List.mem_of_getElem? (i := 1) rfl)) (hw _ (List.mem_of_getElem? (i := 2) rfl)) (hw _ (List.mem_of_getElem? (i := 3) rfl)) (hw _ (List.mem_of_getElem? (i := 4) rfl)) (by decide) (rm1 l Z a0 hw [] ((p0 &&& (2147483647 : Int32)) % (10 : Int32)) w0 w1 w2 w3 w4 w5 w6 w7 w8 w9 h0 n0 Z0 S0 S1 S2 S3 S4 S5 S6 S7 S8 S9) e0 (g := (mkF m 9 #[.val (.int p0), .val (.int ((p0 &&& (2147483647 : Int32)) % (10 : Int32))), .unset, .unset] [(.int ((p0 &&& (2147483647 : Int32)) % (10 : Int32)))])) rfl (by rw [hml]; rfl) [(.int ((p0 &&& (2147483647 : Int32)) % (10 : Int32)))] [] rfl (lenOf pd__I_Lcom_example_quayside_quayside_Outcome_ rfl) rfl 0 (by show 2 * 0 + _ ≤ _; exact Nat.le_of_eq rfl) (hb hby at_9) (by decide) (by decide) (by decide) (by decide)
  obtain ⟨hv1, N1q, e1⟩ := hQ1
  have hi := own_ten (own_ix p0).1 (own_ix p0).2
  obtain ⟨t, ht, Et, Ft⟩ := own_pickF hi E0 E1 E2 E3 E4 E5 E6 E7 E8 E9 F0 F1 F2 F3 F4 F5 F6 F7 F8 F9
  obtain ⟨u, j, hu, Eu, Fu, huj, hj⟩ := own_endF hi E0 E1 E2 E3 E4 E5 E6 E7 E8 E9 F0 F1 F2 F3 F4 F5 F6 F7 F8 F9
  rw [ht] at hv1
  subst hv1
  refine own_go st1 ?_
  have N1 := Fr.app N0 N1q
  show own_Ends _ _ _ _ _ _ _ T1 (mkF m 12 #[.val (.int p0), .val (.int ((p0 &&& (2147483647 : Int32)) % (10 : Int32))), .unset, .unset] [(.ref t)])
  refine own_go (fun t_ k_ => XS.astoreN X1.here hx rfl (hb hby at_12) rfl rfl (l' := #[.val (.int p0), .val (.int ((p0 &&& (2147483647 : Int32)) % (10 : Int32))), .val (.ref t), .unset]) rfl k_) ?_
  show own_Ends _ _ _ _ _ _ _ T1 (mkF m 13 #[.val (.int p0), .val (.int ((p0 &&& (2147483647 : Int32)) % (10 : Int32))), .val (.ref t), .unset] [])
  refine own_go (fun t_ k_ => XS.aloadN X1.here hx rfl (hb hby at_13) rfl rfl  k_) ?_
  show own_Ends _ _ _ _ _ _ _ T1 (mkF m 14 #[.val (.int p0), .val (.int ((p0 &&& (2147483647 : Int32)) % (10 : Int32))), .val (.ref t), .unset] [(.ref t)])
  obtain ⟨T2, v2, L2, X2, hQ2, st2⟩ := own_callV X1 hx hZ (y := (⟨"com/example/quayside/quayside/Outcome", "ending", "()Lcom/example/quayside/quayside/Outcome;"⟩ : MethodName)) (z := (⟨"com/example/quayside/quayside/Outcome", "ending", "()Lcom/example/quayside/quayside/Outcome;"⟩ : MethodName)) hown (hw _ (List.mem_of_getElem? (i := 8) rfl)) (hw _ (List.mem_of_getElem? (i := 9) rfl)) (notFace_of_selects (args := #[]) (mvT hZ (hw _ (List.mem_of_getElem? (i := 11) rfl)))) (hw _ (List.mem_of_getElem? (i := 11) rfl)) (hw _ (List.mem_of_getElem? (i := 10) rfl)) (hw _ (List.mem_of_getElem? (i := 6) rfl)) (hw _ (List.mem_of_getElem? (i := 12) rfl)) (by decide) (rm2 l Z a0 hw [] t ((p0 &&& (2147483647 : Int32)) % (10 : Int32)) w0 w3 w8 w9 h0 n0 Z0 hi Et Ft S0 S3 S8 S9) e1 (g := (mkF m 14 #[.val (.int p0), .val (.int ((p0 &&& (2147483647 : Int32)) % (10 : Int32))), .val (.ref t), .unset] [(.ref t)])) rfl (by rw [hml]; rfl) t Et [] [] rfl (lenOf pd___Lcom_example_quayside_quayside_Outcome_ rfl) rfl 0 (by show 2 * 0 + _ ≤ _; exact Nat.le_of_eq rfl) (hb hby at_14) (by decide) (by decide) (by decide) (by decide)
  obtain ⟨hv2, N2q, e2⟩ := hQ2
  rw [hu] at hv2
  subst hv2
  refine own_go st2 ?_
  have N2 := Fr.app N1 N2q
  show own_Ends _ _ _ _ _ _ _ T2 (mkF m 17 #[.val (.int p0), .val (.int ((p0 &&& (2147483647 : Int32)) % (10 : Int32))), .val (.ref t), .unset] [(.ref u)])
  refine own_go (fun t_ k_ => XS.astoreN X2.here hx rfl (hb hby at_17) rfl rfl (l' := #[.val (.int p0), .val (.int ((p0 &&& (2147483647 : Int32)) % (10 : Int32))), .val (.ref t), .val (.ref u)]) rfl k_) ?_
  show own_Ends _ _ _ _ _ _ _ T2 (mkF m 18 #[.val (.int p0), .val (.int ((p0 &&& (2147483647 : Int32)) % (10 : Int32))), .val (.ref t), .val (.ref u)] [])
  refine own_go (fun t_ k_ => XS.aloadN X2.here hx rfl (hb hby at_18) rfl rfl  k_) ?_
  show own_Ends _ _ _ _ _ _ _ T2 (mkF m 19 #[.val (.int p0), .val (.int ((p0 &&& (2147483647 : Int32)) % (10 : Int32))), .val (.ref t), .val (.ref u)] [(.ref u)])
  refine own_go (fun t_ k_ => XS.iloadN X2.here hx rfl (hb hby at_19) rfl  k_) ?_
  show own_Ends _ _ _ _ _ _ _ T2 (mkF m 20 #[.val (.int p0), .val (.int ((p0 &&& (2147483647 : Int32)) % (10 : Int32))), .val (.ref t), .val (.ref u)] [(.int ((p0 &&& (2147483647 : Int32)) % (10 : Int32))), (.ref u)])
  obtain ⟨T3, v3, L3, X3, hQ3, st3⟩ := own_callS X2 hx hZ (y := (⟨"com/example/quayside/quayside/OutcomeEndingPinLaw", "expected", "(I)Lcom/example/quayside/quayside/Outcome;"⟩ : MethodName)) hown (hw _ (List.mem_of_getElem? (i := 23) rfl)) (hw _ (List.mem_of_getElem? (i := 24) rfl)) (hw _ (List.mem_of_getElem? (i := 3) rfl)) (hw _ (List.mem_of_getElem? (i := 25) rfl)) (by decide) (rm4 l Z a0 hw [] ((p0 &&& (2147483647 : Int32)) % (10 : Int32)) w0 w3 w8 w9 h0 n0 Z0 S0 S3 S8 S9) e2 (g := (mkF m 20 #[.val (.int p0), .val (.int ((p0 &&& (2147483647 : Int32)) % (10 : Int32))), .val (.ref t), .val (.ref u)] [(.int ((p0 &&& (2147483647 : Int32)) % (10 : Int32))), (.ref u)])) rfl (by rw [hml]; rfl) [(.int ((p0 &&& (2147483647 : Int32)) % (10 : Int32)))] [(.ref u)] rfl (lenOf pd__I_Lcom_example_quayside_quayside_Outcome_ rfl) rfl 1 (by show 2 * 0 + _ ≤ _; exact Nat.le_of_eq rfl) (hb hby at_20) (by decide) (by decide) (by decide) (by decide)
  obtain ⟨hv3, N3q, e3⟩ := hQ3
  rw [hu] at hv3
  subst hv3
  refine own_go st3 ?_
  have N3 := Fr.app N2 N3q
  show own_Ends _ _ _ _ _ _ _ T3 (mkF m 23 #[.val (.int p0), .val (.int ((p0 &&& (2147483647 : Int32)) % (10 : Int32))), .val (.ref t), .val (.ref u)] [(.ref u), (.ref u)])
  refine own_go (fun t_ k_ => XT.acmpNo X3.here hx rfl (hb hby at_23) rfl rfl rfl (XT.aa_ne_f rfl) k_) ?_
  show own_Ends _ _ _ _ _ _ _ T3 (mkF m 26 #[.val (.int p0), .val (.int ((p0 &&& (2147483647 : Int32)) % (10 : Int32))), .val (.ref t), .val (.ref u)] [])
  refine own_go (fun t_ k_ => XS.aloadN X3.here hx rfl (hb hby at_26) rfl rfl  k_) ?_
  show own_Ends _ _ _ _ _ _ _ T3 (mkF m 27 #[.val (.int p0), .val (.int ((p0 &&& (2147483647 : Int32)) % (10 : Int32))), .val (.ref t), .val (.ref u)] [(.ref u)])
  obtain ⟨T4, v4, L4, X4, hQ4, st4⟩ := own_callV X3 hx hZ (y := (⟨"com/example/quayside/quayside/Outcome", "ending", "()Lcom/example/quayside/quayside/Outcome;"⟩ : MethodName)) (z := (⟨"com/example/quayside/quayside/Outcome", "ending", "()Lcom/example/quayside/quayside/Outcome;"⟩ : MethodName)) hown (hw _ (List.mem_of_getElem? (i := 8) rfl)) (hw _ (List.mem_of_getElem? (i := 9) rfl)) (notFace_of_selects (args := #[]) (mvT hZ (hw _ (List.mem_of_getElem? (i := 11) rfl)))) (hw _ (List.mem_of_getElem? (i := 11) rfl)) (hw _ (List.mem_of_getElem? (i := 10) rfl)) (hw _ (List.mem_of_getElem? (i := 6) rfl)) (hw _ (List.mem_of_getElem? (i := 12) rfl)) (by decide) (rm2 l Z a0 hw [] u j w0 w3 w8 w9 h0 n0 Z0 hj Eu Fu S0 S3 S8 S9) e3 (g := (mkF m 27 #[.val (.int p0), .val (.int ((p0 &&& (2147483647 : Int32)) % (10 : Int32))), .val (.ref t), .val (.ref u)] [(.ref u)])) rfl (by rw [hml]; rfl) u Eu [] [] rfl (lenOf pd___Lcom_example_quayside_quayside_Outcome_ rfl) rfl 0 (by show 2 * 0 + _ ≤ _; exact Nat.le_of_eq rfl) (hb hby at_27) (by decide) (by decide) (by decide) (by decide)
  obtain ⟨hv4, N4q, e4⟩ := hQ4
  rw [huj] at hv4
  subst hv4
  refine own_go st4 ?_
  have N4 := Fr.app N3 N4q
  show own_Ends _ _ _ _ _ _ _ T4 (mkF m 30 #[.val (.int p0), .val (.int ((p0 &&& (2147483647 : Int32)) % (10 : Int32))), .val (.ref t), .val (.ref u)] [(.ref u)])
  refine own_go (fun t_ k_ => XS.aloadN X4.here hx rfl (hb hby at_30) rfl rfl  k_) ?_
  show own_Ends _ _ _ _ _ _ _ T4 (mkF m 31 #[.val (.int p0), .val (.int ((p0 &&& (2147483647 : Int32)) % (10 : Int32))), .val (.ref t), .val (.ref u)] [(.ref u), (.ref u)])
  refine own_go (fun t_ k_ => XT.acmpNo X4.here hx rfl (hb hby at_31) rfl rfl rfl (XT.aa_ne_f rfl) k_) ?_
  show own_Ends _ _ _ _ _ _ _ T4 (mkF m 34 #[.val (.int p0), .val (.int ((p0 &&& (2147483647 : Int32)) % (10 : Int32))), .val (.ref t), .val (.ref u)] [])
  refine own_go (fun t_ k_ => XS.iconst X4.here hx rfl (hb hby at_34) k_) ?_
  show own_Ends _ _ _ _ _ _ _ T4 (mkF m 35 #[.val (.int p0), .val (.int ((p0 &&& (2147483647 : Int32)) % (10 : Int32))), .val (.ref t), .val (.ref u)] [(.int (1 : Int32))])
  refine own_go (fun t_ k_ => XS.goto X4.here hx rfl (pc0 := 35) (pc' := 39) rfl (hb hby at_35) (by decide) (by decide) k_) ?_
  show own_Ends _ _ _ _ _ _ _ T4 (mkF m 39 #[.val (.int p0), .val (.int ((p0 &&& (2147483647 : Int32)) % (10 : Int32))), .val (.ref t), .val (.ref u)] [(.int (1 : Int32))])
  refine own_retN X4 hx hlk (t := .boolean) hret (by simp) (hb hby at_39) e4 (by decide) (by decide) ?_
  exact ⟨rfl, N4⟩
set_option maxRecDepth 65536 in
set_option maxHeartbeats 40000000 in
theorem comes_1 {Post : Tables → Env → Array Value → State → Outcome → State → Prop} (hpost : ∀ tb e args s v u, (limb_1_1.after args s (.returned v) u = true ∧ limb_1_2.after args s (.returned v) u = true ∧ True) → FrameEnd s (.returned v) u (Jvm.fieldLocs frame_1_writes args s ++ Jvm.arrayLocs frame_1_arrays args s ++ Jvm.staticLocs frame_1_statics s) 0 0 → Post tb e args s (.returned v) u) :
    ArmFor flags0 classFile x code maxLocals ret World_1 tables_1 room_1 Calls_1 rest_1 Pre_1 Post := by
  intro l hfl _ _ p e ha hc hk s m args below hf hA hF happ hP
  obtain ⟨hcalls, hrest, hpre⟩ := hP
  obtain ⟨-, -, -, hnamed, -, -, -, hat⟩ := (Spec.applies_iff hf).mp happ
  obtain ⟨hg, hn⟩ := and_e (Cond.before_iff.mp (show (Jvm.Cond.and given_1 narrow_1).before args s = true from hpre))
  obtain ⟨g1, g2⟩ := and_e hg
  obtain ⟨w0, rfl⟩ : ∃ w0 : Value, args = #[w0] := by
    have hs : args.size = 1 := by simpa [Cond.value, given_1] using g1
    obtain ⟨L⟩ := args
    match L, hs with
    | [w0], _ => exact ⟨w0, rfl⟩
  have hw := fun d (hd : d ∈ tables_1) => atoms_spec (ws := Jvm.Cond.code x code maxLocals ret :: tables_1) hat d (List.mem_cons_of_mem _ hd)
  have hfit : Fit s := fun {y c} hc i hi => by
    obtain ⟨ha, rfl⟩ := Array.getElem?_eq_some_iff.mp hc
    have q := List.all_eq_true.mp ((Array.all_eq_true_iff_forall_mem.mp hF) _ (Array.getElem_mem ha)) i (List.mem_range.mpr hi)
    simpa [Array.getElem?_eq_getElem hi] using q
  obtain ⟨i0, ei0⟩ := is_v g2
  obtain rfl : w0 = (.int i0) := Option.some.inj ei0
  unfold narrow_1 at hn
  obtain ⟨g3, g4⟩ := and_e hn
  obtain ⟨g5, g6⟩ := and_e g4
  obtain ⟨g7, g8⟩ := and_e g6
  obtain ⟨g9, g10⟩ := and_e g8
  obtain ⟨g11, g12⟩ := and_e g10
  obtain ⟨g13, g14⟩ := and_e g12
  obtain ⟨g15, g16⟩ := and_e g14
  obtain ⟨g17, g18⟩ := and_e g16
  obtain ⟨g19, g20⟩ := and_e g18
  obtain ⟨g21, g22⟩ := and_e g20
  obtain ⟨g23, g24⟩ := and_e g22
  obtain ⟨g25, g26⟩ := and_e g24
  obtain ⟨g27, g28⟩ := and_e g26
  obtain ⟨g29, g30⟩ := and_e g28
  obtain ⟨g31, g32⟩ := and_e g30
  obtain ⟨g33, g34⟩ := and_e g32
  obtain ⟨g35, g36⟩ := and_e g34
  obtain ⟨g37, g38⟩ := and_e g36
  obtain ⟨g39, g40⟩ := and_e g38
  obtain ⟨a_SUCCEED, ev_SUCCEED⟩ := exa_v g3
  have E_SUCCEED := Exa.start ev_SUCCEED g3
  have S_SUCCEED := Sta.start ev_SUCCEED (Or.inr ⟨(hw _ (List.mem_of_getElem? (i := 6) rfl)), (hw _ (List.mem_of_getElem? (i := 7) rfl))⟩)
  have F_SUCCEED_ordinal := own_fldI ev_SUCCEED g5
  obtain ⟨a_FAIL, ev_FAIL⟩ := exa_v g7
  have E_FAIL := Exa.start ev_FAIL g7
  have S_FAIL := Sta.start ev_FAIL (Or.inr ⟨(hw _ (List.mem_of_getElem? (i := 6) rfl)), (hw _ (List.mem_of_getElem? (i := 27) rfl))⟩)
  have F_FAIL_ordinal := own_fldI ev_FAIL g9
  obtain ⟨a_VALCHANGE, ev_VALCHANGE⟩ := exa_v g11
  have E_VALCHANGE := Exa.start ev_VALCHANGE g11
  have S_VALCHANGE := Sta.start ev_VALCHANGE (Or.inr ⟨(hw _ (List.mem_of_getElem? (i := 6) rfl)), (hw _ (List.mem_of_getElem? (i := 30) rfl))⟩)
  have F_VALCHANGE_ordinal := own_fldI ev_VALCHANGE g13
  obtain ⟨a_FAIL_RETRIEVE_BY_CONTENT, ev_FAIL_RETRIEVE_BY_CONTENT⟩ := exa_v g15
  have E_FAIL_RETRIEVE_BY_CONTENT := Exa.start ev_FAIL_RETRIEVE_BY_CONTENT g15
  have S_FAIL_RETRIEVE_BY_CONTENT := Sta.start ev_FAIL_RETRIEVE_BY_CONTENT (Or.inr ⟨(hw _ (List.mem_of_getElem? (i := 6) rfl)), (hw _ (List.mem_of_getElem? (i := 32) rfl))⟩)
  have F_FAIL_RETRIEVE_BY_CONTENT_ordinal := own_fldI ev_FAIL_RETRIEVE_BY_CONTENT g17
  obtain ⟨a_VALDUPES, ev_VALDUPES⟩ := exa_v g19
  have E_VALDUPES := Exa.start ev_VALDUPES g19
  have S_VALDUPES := Sta.start ev_VALDUPES (Or.inr ⟨(hw _ (List.mem_of_getElem? (i := 6) rfl)), (hw _ (List.mem_of_getElem? (i := 34) rfl))⟩)
  have F_VALDUPES_ordinal := own_fldI ev_VALDUPES g21
  obtain ⟨a_MULTIPLE_HITS, ev_MULTIPLE_HITS⟩ := exa_v g23
  have E_MULTIPLE_HITS := Exa.start ev_MULTIPLE_HITS g23
  have S_MULTIPLE_HITS := Sta.start ev_MULTIPLE_HITS (Or.inr ⟨(hw _ (List.mem_of_getElem? (i := 6) rfl)), (hw _ (List.mem_of_getElem? (i := 36) rfl))⟩)
  have F_MULTIPLE_HITS_ordinal := own_fldI ev_MULTIPLE_HITS g25
  obtain ⟨a_UNSUBSCRIBED, ev_UNSUBSCRIBED⟩ := exa_v g27
  have E_UNSUBSCRIBED := Exa.start ev_UNSUBSCRIBED g27
  have S_UNSUBSCRIBED := Sta.start ev_UNSUBSCRIBED (Or.inr ⟨(hw _ (List.mem_of_getElem? (i := 6) rfl)), (hw _ (List.mem_of_getElem? (i := 38) rfl))⟩)
  have F_UNSUBSCRIBED_ordinal := own_fldI ev_UNSUBSCRIBED g29
  obtain ⟨a_APPRESPONSETIMEOUT, ev_APPRESPONSETIMEOUT⟩ := exa_v g31
  have E_APPRESPONSETIMEOUT := Exa.start ev_APPRESPONSETIMEOUT g31
  have S_APPRESPONSETIMEOUT := Sta.start ev_APPRESPONSETIMEOUT (Or.inr ⟨(hw _ (List.mem_of_getElem? (i := 6) rfl)), (hw _ (List.mem_of_getElem? (i := 41) rfl))⟩)
  have F_APPRESPONSETIMEOUT_ordinal := own_fldI ev_APPRESPONSETIMEOUT g33
  obtain ⟨a_BO_DOES_NOT_EXIST, ev_BO_DOES_NOT_EXIST⟩ := exa_v g35
  have E_BO_DOES_NOT_EXIST := Exa.start ev_BO_DOES_NOT_EXIST g35
  have S_BO_DOES_NOT_EXIST := Sta.start ev_BO_DOES_NOT_EXIST (Or.inr ⟨(hw _ (List.mem_of_getElem? (i := 6) rfl)), (hw _ (List.mem_of_getElem? (i := 44) rfl))⟩)
  have F_BO_DOES_NOT_EXIST_ordinal := own_fldI ev_BO_DOES_NOT_EXIST g37
  obtain ⟨a_UNABLE_TO_LOGIN, ev_UNABLE_TO_LOGIN⟩ := exa_v g39
  have E_UNABLE_TO_LOGIN := Exa.start ev_UNABLE_TO_LOGIN g39
  have S_UNABLE_TO_LOGIN := Sta.start ev_UNABLE_TO_LOGIN (Or.inr ⟨(hw _ (List.mem_of_getElem? (i := 6) rfl)), (hw _ (List.mem_of_getElem? (i := 46) rfl))⟩)
  have F_UNABLE_TO_LOGIN_ordinal := own_fldI ev_UNABLE_TO_LOGIN g40
  obtain ⟨n, o, h1, h2, h3, _, L, rfl, ⟨rfl, N⟩, hq⟩ := rm0 l s _ hw tables_1 i0 a_SUCCEED a_VALCHANGE a_MULTIPLE_HITS a_FAIL a_FAIL_RETRIEVE_BY_CONTENT a_BO_DOES_NOT_EXIST a_UNABLE_TO_LOGIN a_VALDUPES a_UNSUBSCRIBED a_APPRESPONSETIMEOUT s.heap s.heap.size (Nat.le_refl _) S_SUCCEED S_VALCHANGE S_MULTIPLE_HITS S_FAIL S_FAIL_RETRIEVE_BY_CONTENT S_BO_DOES_NOT_EXIST S_UNABLE_TO_LOGIN S_VALDUPES S_UNSUBSCRIBED S_APPRESPONSETIMEOUT E_SUCCEED E_VALCHANGE E_MULTIPLE_HITS E_FAIL E_FAIL_RETRIEVE_BY_CONTENT E_BO_DOES_NOT_EXIST E_UNABLE_TO_LOGIN E_VALDUPES E_UNSUBSCRIBED E_APPRESPONSETIMEOUT F_SUCCEED_ordinal F_VALCHANGE_ordinal F_MULTIPLE_HITS_ordinal F_FAIL_ordinal F_FAIL_RETRIEVE_BY_CONTENT_ordinal F_BO_DOES_NOT_EXIST_ordinal F_UNABLE_TO_LOGIN_ordinal F_VALDUPES_ordinal F_UNSUBSCRIBED_ordinal F_APPRESPONSETIMEOUT_ordinal p e ha hc hk s m _ below hf ((Spec.applies_iff_loose hf).mp happ).1 ⟨rfl, State.Warmed39.refl s, rfl⟩ trivial
  refine ⟨n, _, h1, h2, h3, hpost _ _ _ _ _ _ ⟨Cond.after_iff.mpr rfl, Cond.after_iff.mpr (eq_i res_at (Term.int_eval (1)) rfl), trivial⟩ ⟨hq.1, hq.2.1, (hq.2.2.sift fun y hy => Or.inr (N y hy)).mono (by decide) (by decide)⟩⟩
theorem main_1_1 : Claimed_1_1 := comes_1 fun _ _ _ _ _ _ h hF => ⟨h.1, hF⟩
theorem main_1_2 : Claimed_1_2 := comes_1 fun _ _ _ _ _ _ h hF => ⟨h.2.1, hF⟩
end Jvm.Pilot.@@N@@
namespace Jvm.Pilot.@@N@@
open Jvm Jvm.ClassFile Sem Op Lib Jvm.Free Jvm.Stand Jvm.Pilot.@@N@@.Jvm.D
/-! MADE BY PROGRAM (witnessworld.py) out of the Statement's table words and the real class files: 13 classes; the members and pool entries that the words name. The judged class is class 1, her method 3. -/
namespace start1
open Jvm.ClassFile
def u (s : String) : CpInfo := .utf8 (stringToUtf16 s)
/-- a pool by its gaps: so many unusable entries, then the entry; so many at the end -/
def gap : Nat → List CpInfo → List CpInfo
  | 0, r => r
  | n + 1, r => .unusable :: gap n r
def poolList (es : List (Nat × CpInfo)) (last : Nat) : List CpInfo := es.foldr (fun e r => gap e.1 (e.2 :: r)) (gap last [])
def pool (es : List (Nat × CpInfo)) (last : Nat) : Array CpInfo := ⟨poolList es last⟩
def fileOf (pool : Array CpInfo) (this : Nat) (attrs : Array Attribute := #[]) (ms : Array MethodInfo := #[]) (fl : Nat := 33) (sup : Nat := 0) (ifs : Array Nat := #[]) (fds : Array FieldInfo := #[]) : ClassFile where
  minorVersion := 0
  majorVersion := 65
  constantPool := pool
  accessFlags := fl
  thisClass := this
  superClass := sup
  interfaces := ifs
  fields := fds
  methods := ms
  attributes := attrs
def plain (name : String) (sup : Option ClassId) : Class where
  name := name
  kind := .ordinary
  loader := none
  accessFlags := 33
  super := sup
  interfaces := #[]
  cf := none
  fields := #[]
  methods := #[]
  instanceTypes := #[]
  staticTypes := #[]
  resolved := #[]
  callSites := []
  init := .initialized
  statics := none
  mirror := none

def pool0 : Array CpInfo := pool [(5, u "<init>"), (0, u "()V"), (1, .class_ 10), (1, u "java/lang/Object")] 113

def k0m0 : Method := { name := "<init>", desc := "()V", sig := { parameters := [], returnType := none }, accessFlags := 1, code := none }
/-- java/lang/Object -/
def k0 : Class := { plain "java/lang/Object" none with
  accessFlags := 33
  interfaces := #[]
  cf := some (fileOf pool0 8 #[] #[{ accessFlags := 1, nameIndex := 5, descriptorIndex := 6, attributes := #[] }] 33 0 #[] #[])
  fields := #[]
  methods := #[k0m0]
  instanceTypes := #[]
  staticTypes := #[]
  resolved := Array.replicate 124 none
  statics := none }

def pool1 : Array CpInfo := pool [(2, .class_ 4), (1, u "java/lang/Object"), (0, u "<init>"), (0, u "()V"), (0, .fieldref 8 9), (0, .class_ 10), (0, .nameAndType 11 12), (0, u "com/example/quayside/quayside/Outcome"), (0, u "SUCCEED"), (0, u "Lcom/example/quayside/quayside/Outcome;"), (0, .fieldref 8 14), (0, .nameAndType 15 12), (0, u "VALCHANGE"), (0, .fieldref 8 17), (0, .nameAndType 18 12), (0, u "MULTIPLE_HITS"), (0, .fieldref 8 20), (0, .nameAndType 21 12), (0, u "FAIL"), (0, .fieldref 8 23), (0, .nameAndType 24 12), (0, u "FAIL_RETRIEVE_BY_CONTENT"), (0, .fieldref 8 26), (0, .nameAndType 27 12), (0, u "BO_DOES_NOT_EXIST"), (0, .fieldref 8 29), (0, .nameAndType 30 12), (0, u "UNABLE_TO_LOGIN"), (0, .fieldref 8 32), (0, .nameAndType 33 12), (0, u "VALDUPES"), (0, .fieldref 8 35), (0, .nameAndType 36 12), (0, u "UNSUBSCRIBED"), (0, .fieldref 8 38), (0, .nameAndType 39 12), (0, u "APPRESPONSETIMEOUT"), (0, .integer 2147483647), (0, .methodref 42 43), (0, .class_ 44), (0, .nameAndType 45 46), (0, u "com/example/quayside/quayside/OutcomeEndingPinLaw"), (0, u "pick"), (0, u "(I)Lcom/example/quayside/quayside/Outcome;"), (0, .methodref 8 48), (0, .nameAndType 49 50), (0, u "ending"), (0, u "()Lcom/example/quayside/quayside/Outcome;"), (0, .methodref 42 52), (0, .nameAndType 53 46), (0, u "expected"), (3, u "law"), (0, u "(I)Z")] 2

def k1m0 : Method := { name := "<init>", desc := "()V", sig := { parameters := [], returnType := none }, accessFlags := 1, code := none }
def k1c1 : Code := { maxStack := 2, maxLocals := 1, code := method_2_code, exceptionTable := #[], attributes := #[] }
def k1m1 : Method := { name := "pick", desc := "(I)Lcom/example/quayside/quayside/Outcome;", sig := { parameters := [.int], returnType := some (.object "com/example/quayside/quayside/Outcome") }, accessFlags := 10, code := some k1c1 }
def k1c2 : Code := { maxStack := 2, maxLocals := 1, code := method_3_code, exceptionTable := #[], attributes := #[] }
def k1m2 : Method := { name := "expected", desc := "(I)Lcom/example/quayside/quayside/Outcome;", sig := { parameters := [.int], returnType := some (.object "com/example/quayside/quayside/Outcome") }, accessFlags := 10, code := some k1c2 }
def k1c3 : Code := { maxStack := 2, maxLocals := 4, code := code, exceptionTable := #[], attributes := #[] }
def k1m3 : Method := { name := "law", desc := "(I)Z", sig := { parameters := [.int], returnType := some .boolean }, accessFlags := 9, code := some k1c3 }
/-- com/example/quayside/quayside/OutcomeEndingPinLaw -/
def k1 : Class := { plain "com/example/quayside/quayside/OutcomeEndingPinLaw" (some 0) with
  accessFlags := 49
  interfaces := #[]
  cf := some (fileOf pool1 42 #[] #[{ accessFlags := 1, nameIndex := 5, descriptorIndex := 6, attributes := #[] }, { accessFlags := 10, nameIndex := 45, descriptorIndex := 46, attributes := #[] }, { accessFlags := 10, nameIndex := 53, descriptorIndex := 46, attributes := #[] }, { accessFlags := 9, nameIndex := 57, descriptorIndex := 58, attributes := #[] }] 49 2 #[] #[])
  fields := #[]
  methods := #[k1m0, k1m1, k1m2, k1m3]
  instanceTypes := #[]
  staticTypes := #[]
  resolved := Array.replicate 61 none
  statics := none }

def pool2 : Array CpInfo := pool [(1, .class_ 2), (0, u "java/lang/constant/Constable"), (0, .class_ 4), (0, u "java/lang/Object")] 6

/-- java/lang/constant/Constable -/
def k2 : Class := { plain "java/lang/constant/Constable" (some 0) with
  accessFlags := 1537
  interfaces := #[]
  cf := some (fileOf pool2 1 #[] #[] 1537 3 #[] #[])
  fields := #[]
  methods := #[]
  instanceTypes := #[]
  staticTypes := #[]
  resolved := Array.replicate 11 none
  statics := none }

def pool3 : Array CpInfo := pool [(1, .class_ 2), (0, u "java/lang/Comparable"), (0, .class_ 4), (0, u "java/lang/Object")] 7

/-- java/lang/Comparable -/
def k3 : Class := { plain "java/lang/Comparable" (some 0) with
  accessFlags := 1537
  interfaces := #[]
  cf := some (fileOf pool3 1 #[] #[] 1537 3 #[] #[])
  fields := #[]
  methods := #[]
  instanceTypes := #[]
  staticTypes := #[]
  resolved := Array.replicate 12 none
  statics := none }

def pool4 : Array CpInfo := pool [(1, .class_ 2), (0, u "java/io/Serializable"), (0, .class_ 4), (0, u "java/lang/Object")] 2

/-- java/io/Serializable -/
def k4 : Class := { plain "java/io/Serializable" (some 0) with
  accessFlags := 1537
  interfaces := #[]
  cf := some (fileOf pool4 1 #[] #[] 1537 3 #[] #[])
  fields := #[]
  methods := #[]
  instanceTypes := #[]
  staticTypes := #[]
  resolved := Array.replicate 7 none
  statics := none }

def pool5 : Array CpInfo := pool [(2, .class_ 4), (1, u "java/lang/Enum"), (0, u "name"), (0, u "Ljava/lang/String;"), (0, .fieldref 2 8), (0, .nameAndType 9 10), (0, u "ordinal"), (0, u "I"), (1, .class_ 14), (1, u "java/lang/Object"), (4, u "hash"), (86, .class_ 108), (1, u "java/lang/Enum$EnumDesc"), (2, .class_ 112), (0, u "java/lang/constant/Constable"), (0, .class_ 114), (0, u "java/lang/Comparable"), (0, .class_ 116), (0, u "java/io/Serializable"), (9, u "()I")] 77

def k5c0 : Code := { maxStack := 1, maxLocals := 1, code := jdk_37_method_2_code, exceptionTable := #[], attributes := #[] }
def k5m0 : Method := { name := "ordinal", desc := "()I", sig := { parameters := [], returnType := some .int }, accessFlags := 17, code := some k5c0 }
/-- java/lang/Enum -/
def k5 : Class := { plain "java/lang/Enum" (some 0) with
  accessFlags := 1057
  interfaces := #[2, 3, 4]
  cf := some (fileOf pool5 2 #[.nestMembers #[106]] #[{ accessFlags := 17, nameIndex := 9, descriptorIndex := 126, attributes := #[] }] 1057 12 #[111, 113, 115] #[{ accessFlags := 18, nameIndex := 5, descriptorIndex := 6, attributes := #[] }, { accessFlags := 18, nameIndex := 9, descriptorIndex := 10, attributes := #[] }, { accessFlags := 2, nameIndex := 19, descriptorIndex := 10, attributes := #[] }])
  fields := #[{ name := "name", type := (.object "java/lang/String"), accessFlags := 18, slot := 0, constantValue := 0 }, { name := "ordinal", type := .int, accessFlags := 18, slot := 1, constantValue := 0 }, { name := "hash", type := .int, accessFlags := 2, slot := 2, constantValue := 0 }]
  methods := #[k5m0]
  instanceTypes := #[(.object "java/lang/String"), .int, .int]
  staticTypes := #[]
  resolved := Array.replicate 204 none
  statics := none }

def pool6 : Array CpInfo := pool [(8, .class_ 10), (1, u "com/example/quayside/quayside/Answer"), (10, .class_ 22), (0, u "com/example/quayside/quayside/Answer$1"), (4, .class_ 28), (0, u "java/lang/Object")] 11

/-- com/example/quayside/quayside/Answer -/
def k6 : Class := { plain "com/example/quayside/quayside/Answer" (some 0) with
  accessFlags := 1537
  interfaces := #[]
  cf := some (fileOf pool6 8 #[.nestMembers #[21]] #[] 1537 27 #[] #[])
  fields := #[]
  methods := #[]
  instanceTypes := #[]
  staticTypes := #[]
  resolved := Array.replicate 40 none
  statics := none }

def pool7 : Array CpInfo := pool [(1, .class_ 2), (0, u "com/example/quayside/quayside/Outcome"), (0, .fieldref 1 4), (0, .nameAndType 5 6), (0, u "SUCCEED"), (0, u "Lcom/example/quayside/quayside/Outcome;"), (2, u "VALCHANGE"), (2, u "MULTIPLE_HITS"), (0, .fieldref 1 14), (0, .nameAndType 15 6), (0, u "FAIL"), (2, u "FAIL_RETRIEVE_BY_CONTENT"), (2, u "BO_DOES_NOT_EXIST"), (2, u "UNABLE_TO_LOGIN"), (2, u "VALDUPES"), (0, .fieldref 1 29), (0, .nameAndType 30 6), (0, u "UNSUBSCRIBED"), (0, .fieldref 1 32), (0, .nameAndType 33 6), (0, u "APPRESPONSETIMEOUT"), (2, u "$VALUES"), (0, u "[Lcom/example/quayside/quayside/Outcome;"), (6, .class_ 46), (1, u "java/lang/Enum"), (6, .methodref 1 54), (0, .nameAndType 55 56), (0, u "ordinal"), (0, u "()I"), (20, .class_ 78), (0, u "com/example/quayside/quayside/Answer"), (8, u "()Lcom/example/quayside/quayside/Outcome;"), (2, u "ending")] 5

def k7c0 : Code := { maxStack := 4, maxLocals := 1, code := prog_12_method_6_code, exceptionTable := #[], attributes := #[] }
def k7m0 : Method := { name := "ending", desc := "()Lcom/example/quayside/quayside/Outcome;", sig := { parameters := [], returnType := some (.object "com/example/quayside/quayside/Outcome") }, accessFlags := 0, code := some k7c0 }
/-- com/example/quayside/quayside/Outcome -/
def k7 : Class := { plain "com/example/quayside/quayside/Outcome" (some 5) with
  accessFlags := 16433
  interfaces := #[6]
  cf := some (fileOf pool7 1 #[] #[{ accessFlags := 0, nameIndex := 90, descriptorIndex := 87, attributes := #[] }] 16433 44 #[77] #[{ accessFlags := 16409, nameIndex := 5, descriptorIndex := 6, attributes := #[] }, { accessFlags := 16409, nameIndex := 9, descriptorIndex := 6, attributes := #[] }, { accessFlags := 16409, nameIndex := 12, descriptorIndex := 6, attributes := #[] }, { accessFlags := 16409, nameIndex := 15, descriptorIndex := 6, attributes := #[] }, { accessFlags := 16409, nameIndex := 18, descriptorIndex := 6, attributes := #[] }, { accessFlags := 16409, nameIndex := 21, descriptorIndex := 6, attributes := #[] }, { accessFlags := 16409, nameIndex := 24, descriptorIndex := 6, attributes := #[] }, { accessFlags := 16409, nameIndex := 27, descriptorIndex := 6, attributes := #[] }, { accessFlags := 16409, nameIndex := 30, descriptorIndex := 6, attributes := #[] }, { accessFlags := 16409, nameIndex := 33, descriptorIndex := 6, attributes := #[] }, { accessFlags := 4122, nameIndex := 36, descriptorIndex := 37, attributes := #[] }])
  fields := #[{ name := "SUCCEED", type := (.object "com/example/quayside/quayside/Outcome"), accessFlags := 16409, slot := 0, constantValue := 0 }, { name := "VALCHANGE", type := (.object "com/example/quayside/quayside/Outcome"), accessFlags := 16409, slot := 1, constantValue := 0 }, { name := "MULTIPLE_HITS", type := (.object "com/example/quayside/quayside/Outcome"), accessFlags := 16409, slot := 2, constantValue := 0 }, { name := "FAIL", type := (.object "com/example/quayside/quayside/Outcome"), accessFlags := 16409, slot := 3, constantValue := 0 }, { name := "FAIL_RETRIEVE_BY_CONTENT", type := (.object "com/example/quayside/quayside/Outcome"), accessFlags := 16409, slot := 4, constantValue := 0 }, { name := "BO_DOES_NOT_EXIST", type := (.object "com/example/quayside/quayside/Outcome"), accessFlags := 16409, slot := 5, constantValue := 0 }, { name := "UNABLE_TO_LOGIN", type := (.object "com/example/quayside/quayside/Outcome"), accessFlags := 16409, slot := 6, constantValue := 0 }, { name := "VALDUPES", type := (.object "com/example/quayside/quayside/Outcome"), accessFlags := 16409, slot := 7, constantValue := 0 }, { name := "UNSUBSCRIBED", type := (.object "com/example/quayside/quayside/Outcome"), accessFlags := 16409, slot := 8, constantValue := 0 }, { name := "APPRESPONSETIMEOUT", type := (.object "com/example/quayside/quayside/Outcome"), accessFlags := 16409, slot := 9, constantValue := 0 }, { name := "$VALUES", type := (.array (.object "com/example/quayside/quayside/Outcome")), accessFlags := 4122, slot := 10, constantValue := 0 }]
  methods := #[k7m0]
  instanceTypes := #[(.object "java/lang/String"), .int, .int]
  staticTypes := #[(.object "com/example/quayside/quayside/Outcome"), (.object "com/example/quayside/quayside/Outcome"), (.object "com/example/quayside/quayside/Outcome"), (.object "com/example/quayside/quayside/Outcome"), (.object "com/example/quayside/quayside/Outcome"), (.object "com/example/quayside/quayside/Outcome"), (.object "com/example/quayside/quayside/Outcome"), (.object "com/example/quayside/quayside/Outcome"), (.object "com/example/quayside/quayside/Outcome"), (.object "com/example/quayside/quayside/Outcome"), (.array (.object "com/example/quayside/quayside/Outcome"))]
  resolved := Array.replicate 96 none
  statics := some 0 }

def pool8 : Array CpInfo := pool [(1, u "java/lang/Cloneable"), (0, .class_ 1), (0, u "java/lang/Object"), (0, .class_ 3)] 3

/-- java/lang/Cloneable -/
def k8 : Class := { plain "java/lang/Cloneable" (some 0) with
  accessFlags := 1537
  interfaces := #[]
  cf := some (fileOf pool8 2 #[] #[] 1537 4 #[] #[])
  fields := #[]
  methods := #[]
  instanceTypes := #[]
  staticTypes := #[]
  resolved := Array.replicate 8 none
  statics := none }

/-- the primitive byte -/
def k9 : Class := { plain "byte" none with kind := .primitive 'B', accessFlags := 0x411 }
/-- [B -/
def k10 : Class := { plain "[B" (some 0) with kind := .array 9 .byte, interfaces := #[8, 4], accessFlags := 1041 }

/-- the primitive int -/
def k11 : Class := { plain "int" none with kind := .primitive 'I', accessFlags := 0x411 }
/-- [I -/
def k12 : Class := { plain "[I" (some 0) with kind := .array 11 .int, interfaces := #[8, 4], accessFlags := 1041 }

def heap : Heap := #[{ cls := 7, slots := #[.ref 1, .ref 2, .ref 3, .ref 4, .ref 5, .ref 6, .ref 7, .ref 8, .ref 9, .ref 10, .null], vm := .statics 7 },
  { cls := 7, slots := #[.null, .int 0, .int 0], vm := .none },
  { cls := 7, slots := #[.null, .int 1, .int 0], vm := .none },
  { cls := 7, slots := #[.null, .int 2, .int 0], vm := .none },
  { cls := 7, slots := #[.null, .int 3, .int 0], vm := .none },
  { cls := 7, slots := #[.null, .int 4, .int 0], vm := .none },
  { cls := 7, slots := #[.null, .int 5, .int 0], vm := .none },
  { cls := 7, slots := #[.null, .int 6, .int 0], vm := .none },
  { cls := 7, slots := #[.null, .int 7, .int 0], vm := .none },
  { cls := 7, slots := #[.null, .int 8, .int 0], vm := .none },
  { cls := 7, slots := #[.null, .int 9, .int 0], vm := .none }]
def classes : Array Class := #[k0, k1, k2, k3, k4, k5, k6, k7, k8, k9, k10, k11, k12]
def interned : List (Array UInt16 × Addr) := []
def slotsUsed : Nat := 41
def theMethod : MethodId := ⟨1, 3⟩
def args0 : Array Value := #[.int 5]
def aboutOver (below : List Frame) : State where
  vm := { classes := classes, interned := interned.toArray }
  heap := heap
  slotsUsed := slotsUsed
  threads := #[{ frames := .invoking theMethod args0 :: below }]
def below0 : List Frame := [.native { method := ⟨0, 0⟩, args := #[] }]
def about1 : State := aboutOver below0
def p0 : Program := .bare "" "" ""
def e0 : Env := launch0.env 0 0 0
theorem w_frames : about1.frames = Frame.invoking theMethod args0 :: below0 := rfl
set_option maxRecDepth 65536 in
theorem w_args : argsFit about1.vm theMethod args0 = true := by decide +kernel
set_option maxRecDepth 65536 in
theorem w_heap : heapFits about1 = true := by decide +kernel
set_option maxRecDepth 65536 in
theorem w_runnable : about1.curStatus? = some .runnable := by decide +kernel
set_option maxRecDepth 65536 in
theorem w_alone : about1.alone = true := by decide +kernel
set_option maxRecDepth 65536 in
theorem w_named : about1.methodNamed? x = some theMethod := by decide +kernel
set_option maxRecDepth 65536 in
theorem w_hears : about1.hears theMethod below0 = true := by decide +kernel
set_option maxRecDepth 65536 in
theorem w_ripe : about1.ripe theMethod args0 below0 = true := by decide +kernel
theorem w_running : about1.status = .running := rfl
set_option maxRecDepth 65536 in
theorem w_room : about1.hasRoom e0.platform room_1 = true :=
  launch0.hasRoom_least _ room_1 (by decide +kernel) (by decide +kernel) (by decide +kernel) (by decide +kernel) (by decide +kernel) (by decide +kernel)
theorem allAtoms_all (ts : List Jvm.Cond) (a : Array Jvm.Value) (st : Jvm.State) : (allAtoms ts).before a st = ts.all (fun c => c.before a st) := by
  induction ts with
  | nil => rfl
  | cons c t ih =>
    show (Jvm.Cond.and c (allAtoms t)).before a st = _
    rw [Jvm.Cond.before_and, ih, List.all_cons]
def words1 : List Jvm.Cond := Jvm.Cond.code x code maxLocals ret :: tables_1
/-- a 'code' word, met by the world's own term for the bytes: nothing is compared byte by byte -/
theorem code_word {y : MethodName} {bytes : ByteArray} {mx : Nat} {rt : Option FieldType} {a : Array Value} {s : State} {m : MethodId} {meth : Method} {c : Code} (h1 : s.methodNamed? y = some m) (h2 : s.vm.method? m = some meth) (h3 : meth.code = some c) (h4 : c.code = bytes)
    (h5 : (c.maxLocals == mx && c.exceptionTable.isEmpty && decide (c.maxStack ≤ mostOperands) && decide (meth.sig.returnType = rt) && !meth.locks && decide (parseMethodDescriptor y.desc = some meth.sig)) = true) : (Jvm.Cond.code y bytes mx rt).before a s = true := by
  simp only [Bool.and_eq_true, beq_iff_eq, Bool.not_eq_true', decide_eq_true_eq] at h5
  obtain ⟨⟨⟨⟨⟨g1, g2⟩, g3⟩, g4⟩, g5⟩, g6⟩ := h5
  simp [Cond.before, Cond.holds, Cond.value, h1, h2, h3, h4, g1, g2, g3, g4, g5, g6]
def isCode : Jvm.Cond → Bool
  | .code _ _ _ _ => true
  | _ => false
theorem all_split {L : List Jvm.Cond} {P : Jvm.Cond → Bool} (h1 : L.all (fun c => isCode c || P c) = true) (h2 : ∀ c ∈ L.filter isCode, P c = true) : L.all P = true := by
  refine List.all_eq_true.mpr fun c hc => ?_
  have h := List.all_eq_true.mp h1 c hc
  rcases Bool.eq_false_or_eq_true (isCode c) with hi | hi
  · exact h2 c (List.mem_filter.mpr ⟨hc, hi⟩)
  · simpa [hi] using h
set_option maxRecDepth 65536 in
theorem w_c0 : (Jvm.Cond.code x code maxLocals ret).before args0 about1 = true := code_word (m := ⟨1, 3⟩) (meth := k1m3) (c := k1c3) (by decide +kernel) rfl rfl rfl (by decide +kernel)
set_option maxRecDepth 65536 in
theorem w_c1 : (Jvm.Cond.code ({ cls := "com/example/quayside/quayside/OutcomeEndingPinLaw", name := "pick", desc := "(I)Lcom/example/quayside/quayside/Outcome;" } : Jvm.MethodName) method_2_code (1 : Nat) (Option.some (Jvm.ClassFile.FieldType.object "com/example/quayside/quayside/Outcome"))).before args0 about1 = true := code_word (m := ⟨1, 1⟩) (meth := k1m1) (c := k1c1) (by decide +kernel) rfl rfl rfl (by decide +kernel)
set_option maxRecDepth 65536 in
theorem w_c2 : (Jvm.Cond.code ({ cls := "com/example/quayside/quayside/Outcome", name := "ending", desc := "()Lcom/example/quayside/quayside/Outcome;" } : Jvm.MethodName) prog_12_method_6_code (1 : Nat) (Option.some (Jvm.ClassFile.FieldType.object "com/example/quayside/quayside/Outcome"))).before args0 about1 = true := code_word (m := ⟨7, 0⟩) (meth := k7m0) (c := k7c0) (by decide +kernel) rfl rfl rfl (by decide +kernel)
set_option maxRecDepth 65536 in
theorem w_c3 : (Jvm.Cond.code ({ cls := "java/lang/Enum", name := "ordinal", desc := "()I" } : Jvm.MethodName) jdk_37_method_2_code (1 : Nat) (Option.some Jvm.ClassFile.FieldType.int)).before args0 about1 = true := code_word (m := ⟨5, 0⟩) (meth := k5m0) (c := k5c0) (by decide +kernel) rfl rfl rfl (by decide +kernel)
set_option maxRecDepth 65536 in
theorem w_c4 : (Jvm.Cond.code ({ cls := "com/example/quayside/quayside/OutcomeEndingPinLaw", name := "expected", desc := "(I)Lcom/example/quayside/quayside/Outcome;" } : Jvm.MethodName) method_3_code (1 : Nat) (Option.some (Jvm.ClassFile.FieldType.object "com/example/quayside/quayside/Outcome"))).before args0 about1 = true := code_word (m := ⟨1, 2⟩) (meth := k1m2) (c := k1c2) (by decide +kernel) rfl rfl rfl (by decide +kernel)
def codes1 : List Jvm.Cond := [Jvm.Cond.code x code maxLocals ret, Jvm.Cond.code ({ cls := "com/example/quayside/quayside/OutcomeEndingPinLaw", name := "pick", desc := "(I)Lcom/example/quayside/quayside/Outcome;" } : Jvm.MethodName) method_2_code (1 : Nat) (Option.some (Jvm.ClassFile.FieldType.object "com/example/quayside/quayside/Outcome")), Jvm.Cond.code ({ cls := "com/example/quayside/quayside/Outcome", name := "ending", desc := "()Lcom/example/quayside/quayside/Outcome;" } : Jvm.MethodName) prog_12_method_6_code (1 : Nat) (Option.some (Jvm.ClassFile.FieldType.object "com/example/quayside/quayside/Outcome")), Jvm.Cond.code ({ cls := "java/lang/Enum", name := "ordinal", desc := "()I" } : Jvm.MethodName) jdk_37_method_2_code (1 : Nat) (Option.some Jvm.ClassFile.FieldType.int), Jvm.Cond.code ({ cls := "com/example/quayside/quayside/OutcomeEndingPinLaw", name := "expected", desc := "(I)Lcom/example/quayside/quayside/Outcome;" } : Jvm.MethodName) method_3_code (1 : Nat) (Option.some (Jvm.ClassFile.FieldType.object "com/example/quayside/quayside/Outcome"))]
set_option maxRecDepth 65536 in
theorem codes_eq : words1.filter isCode = codes1 := rfl
theorem w_codes : ∀ c ∈ words1.filter isCode, c.before args0 about1 = true := by
  rw [codes_eq]
  intro c hc
  simp only [codes1, List.mem_cons, List.not_mem_nil, or_false] at hc
  rcases hc with rfl | rfl | rfl | rfl | rfl
  · exact w_c0
  · exact w_c1
  · exact w_c2
  · exact w_c3
  · exact w_c4
set_option maxRecDepth 65536 in
theorem w_t1 : (words1.take 24).all (fun c => isCode c || c.before args0 about1) = true := by decide +kernel
set_option maxRecDepth 65536 in
theorem w_t2 : (words1.drop 24).all (fun c => isCode c || c.before args0 about1) = true := by decide +kernel
theorem w_tables : (allAtoms (Jvm.Cond.code x code maxLocals ret :: tables_1)).before args0 about1 = true := by
  rw [allAtoms_all]
  show words1.all (fun c => c.before args0 about1) = true
  refine all_split ?_ w_codes
  rw [← List.take_append_drop 24 words1, List.all_append, w_t1, w_t2]
  rfl
set_option maxRecDepth 65536 in
theorem w_case : (Jvm.Cond.and given_1 narrow_1).before args0 about1 = true := by decide +kernel
theorem w_applies : (headSpec (Jvm.Cond.code x code maxLocals ret :: tables_1) room_1).applies x e0.platform about1 = true :=
  (Spec.applies_iff w_frames).mpr ⟨w_running, w_runnable, w_alone, w_named, w_hears, w_ripe, w_room, w_tables⟩
theorem atStart : AtStart classFile x code maxLocals ret World_1 tables_1 room_1 Calls_1 rest_1 Pre_1 launch0 p0 e0 about1 theMethod args0 below0 :=
  ⟨lists_1, trivial, launch0.admits_env _ _ _, launch0.least_env, fairChoices_fair.cas, fairChoices_fair.clock, w_frames, w_args, w_heap, w_applies, trivial, trivial, w_case⟩
end start1
theorem witness_1 : WitnessClaimed_1 := ⟨start1.p0, start1.e0, start1.about1, start1.theMethod, start1.args0, start1.below0, start1.atStart⟩
end Jvm.Pilot.@@N@@
