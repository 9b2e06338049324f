import JvmDerived
import JvmDerived.Pilot.@@N@@Statement
import JvmDerived.Pilot.@@N@@Code
set_option linter.unusedVariables false
set_option linter.unusedSimpArgs false
namespace Jvm.Pilot.@@N@@
open Jvm Jvm.ClassFile Sem Op Lib Jvm.Free Jvm.Stand Jvm.LawKit Jvm.RoadKit Bundle Jvm.Pilot.@@N@@.Jvm.D
section OwnKit
variable {p : Program} {l : Launch} {e : Env} {R : Room} {s : State} {m : MethodId} {args : Array Value} {below : List Frame} {meth : Method} {c : Code} {T T' : State} {locs : List Loc} {cells slots : Nat} {Z : State} {a0 : Array Value} {h h0 : Heap} {Q : Option Value → Heap → List Loc → Prop} {kc ks : Nat} {f f' : JFrame}
/-- from T with the frame f on top the run ends as Q says -/
def own_Ends (p : Program) (e : Env) (below : List Frame) (s : State) (Q : Option Value → Heap → List Loc → Prop) (kc ks : Nat) (T : State) (f : JFrame) : Prop :=
  ∃ s₂ o, Steps p.tables e below (T.setTop f) s₂ ∧ s₂.status = .running ∧ Ended s₂ below o ∧ ∃ v L, o = .returned v ∧ Q v s₂.heap L ∧ FrameEnd s o s₂ L kc ks
theorem own_go (st : ∀ target, Steps p.tables e below (T'.setTop f') target → Steps p.tables e below (T.setTop f) target) (k : own_Ends p e below s Q kc ks T' f') : own_Ends p e below s Q kc ks T f := by
  obtain ⟨s₂, o, h1, r⟩ := k
  exact ⟨s₂, o, st _ h1, r⟩
theorem own_fin (X : Stand p l e R s m args below meth c T locs cells slots) (v : Option Value) (hlk : meth.locks = false) (hv : meth.sig.returnType = none → v = none)
    (st : ∀ fs, (∀ (f : JFrame) (acts : List Action), f.method = m → f.locked = none → f.entered = [] → (doReturn e (T.setTop f) acts v).1 = T.setFrames fs) → Steps p.tables e below (T.setTop f) (T.setFrames fs))
    (eT : T.heap = h) (hQ : Q v h locs) (hc : cells ≤ kc) (hs : slots ≤ ks) : own_Ends p e below s Q kc ks T f := by
  subst eT
  obtain ⟨fs, hr, hrun, hended, hW, hsame⟩ := X.leave (v := v) hv hlk
  exact ⟨_, _, st fs hr, hrun, hended, v, locs, rfl, hQ, ⟨_, rfl⟩, hW, hsame.mono hc hs⟩
theorem own_retN (X : Stand p l e R s m args below meth c T locs cells slots) (hx : p.tables.exec = Jvm.exec) (hlk : meth.locks = false) {pc : Nat} {Ls : Array Slot} {z : Int32} {t : FieldType} {rest : List Value} (hret : meth.sig.returnType = some t) (ht : t = .boolean ∨ t = .byte ∨ t = .char ∨ t = .short)
    (hd : decode c.code pc = .ok (.ireturn, 1)) (eT : T.heap = h) (hc : cells ≤ kc) (hs : slots ≤ ks) (hQ : Q (some (.int (nar t z))) h locs) : own_Ends p e below s Q kc ks T (mkF m pc Ls (.int z :: rest)) :=
  own_fin X _ hlk (fun q => by rw [hret] at q; cases q) (fun fs hr => Jvm.RoadKit.retN X hx hret ht hd hr) eT hQ hc hs
theorem own_retI (X : Stand p l e R s m args below meth c T locs cells slots) (hx : p.tables.exec = Jvm.exec) (hlk : meth.locks = false) {pc : Nat} {Ls : Array Slot} {z : Int32} {rest : List Value} (hret : meth.sig.returnType = some .int)
    (hd : decode c.code pc = .ok (.ireturn, 1)) (eT : T.heap = h) (hc : cells ≤ kc) (hs : slots ≤ ks) (hQ : Q (some (.int z)) h locs) : own_Ends p e below s Q kc ks T (mkF m pc Ls (.int z :: rest)) :=
  own_fin X _ hlk (fun q => by rw [hret] at q; cases q) (fun fs hr => Jvm.RoadKit.retOut X hx hret rfl (Or.inl ⟨rfl, Or.inl rfl, _, rfl⟩) hd hr) eT hQ hc hs
theorem own_retJ (X : Stand p l e R s m args below meth c T locs cells slots) (hx : p.tables.exec = Jvm.exec) (hlk : meth.locks = false) {pc : Nat} {Ls : Array Slot} {z : Int64} {rest : List Value} (hret : meth.sig.returnType = some .long)
    (hd : decode c.code pc = .ok (.lreturn, 1)) (eT : T.heap = h) (hc : cells ≤ kc) (hs : slots ≤ ks) (hQ : Q (some (.long z)) h locs) : own_Ends p e below s Q kc ks T (mkF m pc Ls (.long z :: rest)) :=
  own_fin X _ hlk (fun q => by rw [hret] at q; cases q) (fun fs hr => Jvm.RoadKit.retOut X hx hret rfl (Or.inr (Or.inl ⟨rfl, rfl, _, rfl⟩)) hd hr) eT hQ hc hs
theorem own_retD (X : Stand p l e R s m args below meth c T locs cells slots) (hx : p.tables.exec = Jvm.exec) (hlk : meth.locks = false) {pc : Nat} {Ls : Array Slot} {z : UInt64} {rest : List Value} (hret : meth.sig.returnType = some .double)
    (hd : decode c.code pc = .ok (.dreturn, 1)) (eT : T.heap = h) (hc : cells ≤ kc) (hs : slots ≤ ks) (hQ : Q (some (.double z)) h locs) : own_Ends p e below s Q kc ks T (mkF m pc Ls (.double z :: rest)) :=
  own_fin X _ hlk (fun q => by rw [hret] at q; cases q) (fun fs hr => Jvm.RoadKit.retOut X hx hret rfl (Or.inr (Or.inr (Or.inl ⟨rfl, rfl, _, rfl⟩))) hd hr) eT hQ hc hs
theorem own_narR {t : FieldType} {v : Value} (ht : t.isReference = true) : narrow t v = v := by cases t <;> first | (cases ht; done) | (cases v <;> rfl)
theorem own_retR (X : Stand p l e R s m args below meth c T locs cells slots) (hx : p.tables.exec = Jvm.exec) (hlk : meth.locks = false) {pc : Nat} {Ls : Array Slot} {v : Value} {t : FieldType} {rest : List Value} (hret : meth.sig.returnType = some t) (ht : t.isReference = true) (hv : v.isRef = true)
    (hd : decode c.code pc = .ok (.areturn, 1)) (eT : T.heap = h) (hc : cells ≤ kc) (hs : slots ≤ ks) (hQ : Q (some v) h locs) : own_Ends p e below s Q kc ks T (mkF m pc Ls (v :: rest)) :=
  own_fin X _ hlk (fun q => by rw [hret] at q; cases q) (fun fs hr => Jvm.RoadKit.retOut X hx hret (own_narR ht) (Or.inr (Or.inr (Or.inr (Or.inr ⟨rfl, ht, hv⟩)))) hd hr) eT hQ hc hs
theorem own_retV (X : Stand p l e R s m args below meth c T locs cells slots) (hx : p.tables.exec = Jvm.exec) (hlk : meth.locks = false) {pc : Nat} {Ls : Array Slot} (hret : meth.sig.returnType = none)
    (hd : decode c.code pc = .ok (.return_, 1)) (eT : T.heap = h) (hc : cells ≤ kc) (hs : slots ≤ ks) (hQ : Q none h locs) : own_Ends p e below s Q kc ks T (mkF m pc Ls []) :=
  own_fin X none hlk (fun _ => rfl) (fun fs hr => X.returnOut hx hret hd hr) eT hQ hc hs
/-- a body's contract: called with the arguments as' on the heap h0, over tables warmer than Z's, it returns as Q says -/
abbrev own_Met (l : Launch) (y : MethodName) (bytes : ByteArray) (maxL : Nat) (ret : Option FieldType) (rm : Room) (ws : List Jvm.Cond) (as' : Array Value) (Z : State) (h0 : Heap) (Q : Option Value → Heap → List Loc → Prop) : Prop :=
  MetFree l y (head1 (Jvm.Cond.code y bytes maxL ret :: ws) rm) (fun a U => a = as' ∧ Z.Warmed39 U.vm ∧ U.heap = h0) (fun _ _ _ _ _ => True) (fun _ U o U' => ∃ v L, o = .returned v ∧ Q v U'.heap L ∧ FrameEnd U o U' L rm.cells rm.slots)
theorem own_met {y : MethodName} {bytes : ByteArray} {maxL : Nat} {ret : Option FieldType} {rm : Room} {ws : List Jvm.Cond} {as' : Array Value} (hy : plainFor y = true)
    (body : ∀ (p : Program) (e : Env) (s : State) (m : MethodId) (below : List Frame) (meth : Method) (c : Code) (s₁ : State), p.tables.exec = Jvm.exec → Stand p l e rm s m as' below meth c s₁ [] 0 0 → Z.Warmed39 s.vm → s₁.heap = h0 → c.code = bytes → c.maxLocals = maxL →
      s.vm.findClass y.cls = some m.cls → meth.name = y.name → meth.sig.returnType = ret → meth.locks = false → own_Ends p e below s Q rm.cells rm.slots s₁ (entryFrame m as' maxL)) :
    own_Met l y bytes maxL ret rm ws as' Z h0 Q := by
  refine MetFree.of_bodySF hy hisR ?_
  intro p e s m args below meth c s₁ Bd hml0 hP hK
  obtain ⟨rfl, hZ, hh⟩ := hP
  exact body p e s m below meth c s₁ Bd.exec (Stand.of_body Bd) hZ (by rw [← hh, Bd.state]; rfl) Bd.bytes hml0 (findClass_of_methodNamed Bd.named) (name_of_methodNamed Bd.named Bd.method).1 Bd.returns Bd.notSynchronized
theorem own_at {f f' : JFrame} (q : f = f') (k : own_Ends p e below s Q kc ks T f') : own_Ends p e below s Q kc ks T f := q ▸ k
/-- a static call -/
theorem own_callS (X : Stand p l e R s m args below meth c T locs cells slots) (hx : p.tables.exec = Jvm.exec) (hZ : Z.Warmed39 s.vm) {own : String} {index : Nat} {y : MethodName} {bytes : ByteArray} {maxL : Nat} {ret : Option FieldType} {rm : Room} {as' : Array Value} {Q' : Option Value → Heap → List Loc → Prop}
    (hown : s.vm.findClass own = some m.cls) (w1 : (Jvm.Cond.methodLink own index y).before a0 Z = true) (w2 : (Jvm.Cond.static y).before a0 Z = true) (w3 : (Jvm.Cond.initialized y.cls).before a0 Z = true) (w4 : (Jvm.Cond.code y bytes maxL ret).before a0 Z = true)
    (hy : y.cls ≠ "java/lang/invoke/MethodHandle" ∧ y.cls ≠ "java/lang/invoke/VarHandle") (hM : own_Met l y bytes maxL ret rm [] as' Z h Q') (eT : T.heap = h) {g : JFrame} (hg : g.method = m) (hsize : g.locals.size = c.maxLocals) (argsL rest : List Value) (has : argsL.toArray = as')
    (hlen : ∀ sig, parseMethodDescriptor y.desc = some sig → argsL.length = sig.parameters.length) (hstack : g.stack = argsL.reverse ++ rest) (W : Nat) (hW : 2 * g.monitorRoom + (rest.map fun v => v.category).sum ≤ W) (hdg : decode c.code g.pc = .ok (.invokestatic index, 3))
    (hf : rm.frames + 1 ≤ R.frames) (hl : W + (maxL + 11) + rm.locals ≤ R.locals) (hc : cells + rm.cells ≤ R.cells) (hs : slots + rm.slots ≤ R.slots) :
    ∃ (T' : State) (v : Option Value) (L : List Loc), Stand p l e R s m args below meth c T' (locs ++ L) (cells + rm.cells) (slots + rm.slots) ∧ Q' v T'.heap L ∧ ∀ target, Steps p.tables e below (T'.setTop { g with pc := g.pc + 3, stack := v.toList ++ rest }) target → Steps p.tables e below (T.setTop g) target := by
  obtain ⟨v, vm1, ⟨T1, L1, k1, n1⟩, -, X1, ⟨Lc, hQ, l1, y1, z1⟩, st⟩ := Jvm.LawKit.callS X hx hown (mvT hZ w1) (mvT hZ w2) (mvT hZ w3) (mvT hZ w4) hy (backOf (W := W) hM hZ w4 w3 hf hl) hg hsize hlen hstack hW hdg (fun _ _ => ⟨has, eT, hc, hs⟩)
  dsimp only [Pt.U, Pt.locs, Pt.cells, Pt.slots] at X1 l1 y1 z1 st hQ
  subst l1 y1 z1
  exact ⟨T1, v, Lc, X1, hQ, st⟩
/-- a constructor -/
theorem own_callN (X : Stand p l e R s m args below meth c T locs cells slots) (hx : p.tables.exec = Jvm.exec) (hZ : Z.Warmed39 s.vm) {own : String} {index : Nat} {y : MethodName} {bytes : ByteArray} {maxL : Nat} {rm : Room} {as' : Array Value} {Q' : Option Value → Heap → List Loc → Prop}
    (hy1 : y.name = "<init>") (hown : s.vm.findClass own = some m.cls) (w1 : (Jvm.Cond.methodLink own index y).before a0 Z = true) (w2 : (Jvm.Cond.instanceMethod y).before a0 Z = true) (w3 : (Jvm.Cond.initialized y.cls).before a0 Z = true) (w4 : (Jvm.Cond.code y bytes maxL none).before a0 Z = true)
    (hy : y.cls ≠ "java/lang/invoke/MethodHandle" ∧ y.cls ≠ "java/lang/invoke/VarHandle") (hM : own_Met l y bytes maxL none rm [] as' Z h Q') (eT : T.heap = h) {g : JFrame} (hg : g.method = m) (hsize : g.locals.size = c.maxLocals) (b : Addr) (argsL rest : List Value) (has : (.ref b :: argsL).toArray = as')
    (hlen : ∀ sig, parseMethodDescriptor y.desc = some sig → argsL.length = sig.parameters.length) (hstack : g.stack = argsL.reverse ++ .ref b :: rest) (W : Nat) (hW : 2 * g.monitorRoom + (rest.map fun v => v.category).sum ≤ W) (hdg : decode c.code g.pc = .ok (.invokespecial index, 3))
    (hf : rm.frames + 1 ≤ R.frames) (hl : W + (maxL + 11) + rm.locals ≤ R.locals) (hc : cells + rm.cells ≤ R.cells) (hs : slots + rm.slots ≤ R.slots) :
    ∃ (T' : State) (v : Option Value) (L : List Loc), Stand p l e R s m args below meth c T' (locs ++ L) (cells + rm.cells) (slots + rm.slots) ∧ Q' v T'.heap L ∧ ∀ target, Steps p.tables e below (T'.setTop { g with pc := g.pc + 3, stack := v.toList ++ rest }) target → Steps p.tables e below (T.setTop g) target := by
  obtain ⟨v, vm1, ⟨T1, L1, k1, n1⟩, -, X1, ⟨Lc, hQ, l1, y1, z1⟩, st⟩ := X.specialBack hx hy1 hown (mvT hZ w1) (mvT hZ w2) (mvT hZ w4) hy (backOf (W := W) hM hZ w4 w3 hf hl) hg hsize (Steps.refl _) (a := b) hlen hstack hW hdg (fun _ _ => ⟨has, eT, hc, hs⟩)
  dsimp only [Pt.U, Pt.locs, Pt.cells, Pt.slots] at X1 l1 y1 z1 st hQ
  subst l1 y1 z1
  exact ⟨T1, v, Lc, X1, hQ, fun t k => st.trans k⟩
/-- a virtual call: y resolved, z selected by the class C -/
theorem own_callV (X : Stand p l e R s m args below meth c T locs cells slots) (hx : p.tables.exec = Jvm.exec) (hZ : Z.Warmed39 s.vm) {own C : String} {index : Nat} {y z : MethodName} {bytes : ByteArray} {maxL : Nat} {ret : Option FieldType} {rm : Room} {as' : Array Value} {Q' : Option Value → Heap → List Loc → Prop}
    (hown : s.vm.findClass own = some m.cls) (w1 : (Jvm.Cond.methodLink own index y).before a0 Z = true) (w2 : (Jvm.Cond.declares y).before a0 Z = true) (hnf : NotFace s y) (w5 : (Jvm.Cond.selects C y z).before a0 Z = true) (w6 : (Jvm.Cond.instanceMethod z).before a0 Z = true)
    (w3 : (Jvm.Cond.initialized z.cls).before a0 Z = true) (w4 : (Jvm.Cond.code z bytes maxL ret).before a0 Z = true)
    (hy : y.cls ≠ "java/lang/invoke/MethodHandle" ∧ y.cls ≠ "java/lang/invoke/VarHandle") (hM : own_Met l z bytes maxL ret rm [] as' Z h Q') (eT : T.heap = h) {g : JFrame} (hg : g.method = m) (hsize : g.locals.size = c.maxLocals) (b : Addr) (hE : Exa Z h b C) (argsL rest : List Value) (has : (.ref b :: argsL).toArray = as')
    (hlen : ∀ sig, parseMethodDescriptor y.desc = some sig → argsL.length = sig.parameters.length) (hstack : g.stack = argsL.reverse ++ .ref b :: rest) (W : Nat) (hW : 2 * g.monitorRoom + (rest.map fun v => v.category).sum ≤ W) (hdg : decode c.code g.pc = .ok (.invokevirtual index, 3))
    (hf : rm.frames + 1 ≤ R.frames) (hl : W + (maxL + 11) + rm.locals ≤ R.locals) (hc : cells + rm.cells ≤ R.cells) (hs : slots + rm.slots ≤ R.slots) :
    ∃ (T' : State) (v : Option Value) (L : List Loc), Stand p l e R s m args below meth c T' (locs ++ L) (cells + rm.cells) (slots + rm.slots) ∧ Q' v T'.heap L ∧ ∀ target, Steps p.tables e below (T'.setTop { g with pc := g.pc + 3, stack := v.toList ++ rest }) target → Steps p.tables e below (T.setTop g) target := by
  obtain ⟨cq, kq, qa, qb, qc⟩ := isOf hZ eT hE
  obtain ⟨v, vm1, ⟨T1, L1, k1, n1⟩, -, X1, ⟨Lc, hQ, l1, y1, z1⟩, st⟩ := X.virtualBack hx hown (mvT hZ w1) (mvT hZ w2) hnf (mvT hZ w5) (mvT hZ w6) hy (backOf (W := W) hM hZ w4 w3 hf hl) qa qc hg hsize (Steps.refl _) hlen hstack hW hdg (fun _ _ => ⟨has, eT, hc, hs⟩)
  dsimp only [Pt.U, Pt.locs, Pt.cells, Pt.slots] at X1 l1 y1 z1 st hQ
  subst l1 y1 z1
  exact ⟨T1, v, Lc, X1, hQ, fun t k => st.trans k⟩
/-- a virtual call whose method is declared further up, by the class 'owner' -/
theorem own_callVU (X : Stand p l e R s m args below meth c T locs cells slots) (hx : p.tables.exec = Jvm.exec) (hZ : Z.Warmed39 s.vm) {own C owner : String} {index : Nat} {y z : MethodName} {bytes : ByteArray} {maxL : Nat} {ret : Option FieldType} {rm : Room} {as' : Array Value} {Q' : Option Value → Heap → List Loc → Prop}
    (hown : s.vm.findClass own = some m.cls) (w1 : (Jvm.Cond.methodLink own index y).before a0 Z = true) (w2 : (Jvm.Cond.sameMethod y.cls owner y.name y.desc).before a0 Z = true) (w7 : (Jvm.Cond.declares ⟨owner, y.name, y.desc⟩).before a0 Z = true) (w5 : (Jvm.Cond.selects C y z).before a0 Z = true) (w6 : (Jvm.Cond.instanceMethod z).before a0 Z = true)
    (w3 : (Jvm.Cond.initialized z.cls).before a0 Z = true) (w4 : (Jvm.Cond.code z bytes maxL ret).before a0 Z = true)
    (hy : owner ≠ "java/lang/invoke/MethodHandle" ∧ owner ≠ "java/lang/invoke/VarHandle") (hM : own_Met l z bytes maxL ret rm [] as' Z h Q') (eT : T.heap = h) {g : JFrame} (hg : g.method = m) (hsize : g.locals.size = c.maxLocals) (b : Addr) (hE : Exa Z h b C) (argsL rest : List Value) (has : (.ref b :: argsL).toArray = as')
    (hlen : ∀ sig, parseMethodDescriptor y.desc = some sig → argsL.length = sig.parameters.length) (hstack : g.stack = argsL.reverse ++ .ref b :: rest) (W : Nat) (hW : 2 * g.monitorRoom + (rest.map fun v => v.category).sum ≤ W) (hdg : decode c.code g.pc = .ok (.invokevirtual index, 3))
    (hf : rm.frames + 1 ≤ R.frames) (hl : W + (maxL + 11) + rm.locals ≤ R.locals) (hc : cells + rm.cells ≤ R.cells) (hs : slots + rm.slots ≤ R.slots) :
    ∃ (T' : State) (v : Option Value) (L : List Loc), Stand p l e R s m args below meth c T' (locs ++ L) (cells + rm.cells) (slots + rm.slots) ∧ Q' v T'.heap L ∧ ∀ target, Steps p.tables e below (T'.setTop { g with pc := g.pc + 3, stack := v.toList ++ rest }) target → Steps p.tables e below (T.setTop g) target := by
  obtain ⟨cq, kq, qa, qb, qc⟩ := isOf hZ eT hE
  obtain ⟨v, vm1, ⟨T1, L1, k1, n1⟩, -, X1, ⟨Lc, hQ, l1, y1, z1⟩, st⟩ := X.virtualBackUp hx hown (mvT hZ w1) (mvT hZ w2) (mvT hZ w7) hy (mvT hZ w5) (mvT hZ w6) (backOf (W := W) hM hZ w4 w3 hf hl) qa qc hg hsize (Steps.refl _) hlen hstack hW hdg (fun _ _ => ⟨has, eT, hc, hs⟩)
  dsimp only [Pt.U, Pt.locs, Pt.cells, Pt.slots] at X1 l1 y1 z1 st hQ
  subst l1 y1 z1
  exact ⟨T1, v, Lc, X1, hQ, fun t k => st.trans k⟩
/-- calls by a 'Back' -/
theorem own_callNB (X : Stand p l e R s m args below meth c T locs cells slots) (hx : p.tables.exec = Jvm.exec) (hZ : Z.Warmed39 s.vm) {own : String} {index : Nat} {y : MethodName} {bytes : ByteArray} {maxL : Nat} {as' : Array Value} {Q' : Option Value → Heap → List Loc → Prop} {W rc rs : Nat}
    (hy1 : y.name = "<init>") (hown : s.vm.findClass own = some m.cls) (w1 : (Jvm.Cond.methodLink own index y).before a0 Z = true) (w2 : (Jvm.Cond.instanceMethod y).before a0 Z = true) (w4 : (Jvm.Cond.code y bytes maxL none).before a0 Z = true)
    (hy : y.cls ≠ "java/lang/invoke/MethodHandle" ∧ y.cls ≠ "java/lang/invoke/VarHandle")
    (hK : Back l R p e below s args y 3 W (fun A a => a = as' ∧ A.U.heap = h ∧ A.cells + rc ≤ R.cells ∧ A.slots + rs ≤ R.slots) (fun A _ v B => ∃ L, Q' v B.U.heap L ∧ B.locs = A.locs ++ L ∧ B.cells = A.cells + rc ∧ B.slots = A.slots + rs))
    (eT : T.heap = h) {g : JFrame} (hg : g.method = m) (hsize : g.locals.size = c.maxLocals) (b : Addr) (argsL rest : List Value) (has : (.ref b :: argsL).toArray = as')
    (hlen : ∀ sig, parseMethodDescriptor y.desc = some sig → argsL.length = sig.parameters.length) (hstack : g.stack = argsL.reverse ++ .ref b :: rest) (hW : 2 * g.monitorRoom + (rest.map fun v => v.category).sum ≤ W) (hdg : decode c.code g.pc = .ok (.invokespecial index, 3))
    (hc : cells + rc ≤ R.cells) (hs : slots + rs ≤ R.slots) :
    ∃ (T' : State) (v : Option Value) (L : List Loc), Stand p l e R s m args below meth c T' (locs ++ L) (cells + rc) (slots + rs) ∧ Q' v T'.heap L ∧ ∀ target, Steps p.tables e below (T'.setTop { g with pc := g.pc + 3, stack := v.toList ++ rest }) target → Steps p.tables e below (T.setTop g) target := by
  obtain ⟨v, vm1, ⟨T1, L1, k1, n1⟩, -, X1, ⟨Lc, hQ, l1, y1, z1⟩, st⟩ := X.specialBack hx hy1 hown (mvT hZ w1) (mvT hZ w2) (mvT hZ w4) hy hK hg hsize (Steps.refl _) (a := b) hlen hstack hW hdg (fun _ _ => ⟨has, eT, hc, hs⟩)
  dsimp only [Pt.U, Pt.locs, Pt.cells, Pt.slots] at X1 l1 y1 z1 st hQ
  subst l1 y1 z1
  exact ⟨T1, v, Lc, X1, hQ, fun t k => st.trans k⟩
theorem own_fldI {t : Jvm.Term} {a : Addr} {C n d : String} {k : Int32} (ev : t.eval args s none [] s = some (.ref a)) (hq : (Jvm.Cond.eq (Jvm.Term.field t C n d) (Jvm.Term.int k)).value args s none s [] = some true) : Fld s s.heap a C n d (.int k) := by
  obtain ⟨x, y, e1, e2, k1, -⟩ := cmp_v (Or.inl hq)
  have e2' : y = .int k := by have := e2; simp only [Jvm.Term.eval] at this; exact (Option.some.inj this).symm
  subst e2'
  have hx : x = .int k := by
    simp only [Jvm.Cond.value, e1, e2] at hq
    cases x <;> simp_all [Kin, Value.isRef]
  subst hx
  exact Fld.start ((fld_at ev).symm.trans e1)
theorem own_irem {g : JFrame} {target : State} (X : Stand p l e R s m args below meth c T locs cells slots) (hx : p.tables.exec = Jvm.exec) (hg : g.method = m) {x y : Int32} {rest : List Value} (hd : decode c.code g.pc = .ok (.irem, 1)) (hs : g.stack = .int y :: .int x :: rest) (hy : y ≠ 0)
    (hr : Steps p.tables e below (T.setTop { g with pc := g.pc + 1, stack := .int (x % y) :: rest }) target) : Steps p.tables e below (T.setTop g) target := iremM X hx hg hd hs hy hr
theorem own_fitR {t : FieldType} {v : Value} (hv : v.isRef = true) (ht : t.isReference = true) : fits t v = true := by cases t <;> first | (cases ht; done) | (cases v <;> first | rfl | (cases hv; done))
theorem own_staK {C n d : String} {v : Value} {h' : Heap} {ws : List Addr} (F : Sta Z h C n d v) (K : Keep h h' ws) (q : ∀ x ∈ ws, ∀ cell : Cell, h[x]? = some cell → cell.vm.isStatics = false) : Sta Z h' C n d v := by
  obtain ⟨cf, i, k, f, st, cell, h1, h2, h3, h4, h5, h6, h7⟩ := F
  exact ⟨cf, i, k, f, st, cell, h1, h2, h3, h4, K.2.1 _ _ h5 (fun hm => by rw [q st hm cell h5] at h6; cases h6), h6, h7⟩
end OwnKit
def own_pick (i : Int32) (w0 w1 w2 w3 w4 w5 w6 w7 w8 w9 w10 w11 : Addr) : Addr := if i = 0 then w0 else if i = 1 then w1 else if i = 2 then w2 else if i = 3 then w3 else if i = 4 then w4 else if i = 5 then w5 else if i = 6 then w6 else if i = 7 then w7 else if i = 8 then w8 else if i = 9 then w9 else if i = 10 then w10 else w11
theorem own_pickF {Z : State} {h : Heap} {i : Int32} {w0 w1 w2 w3 w4 w5 w6 w7 w8 w9 w10 w11 : Addr} (h1 : 0 ≤ i.toInt) (h2 : i.toInt < 12) (E0 : Exa Z h w0 "com/example/ferret/ferret/model/IntegerType") (E1 : Exa Z h w1 "com/example/ferret/ferret/model/IntegerType") (E2 : Exa Z h w2 "com/example/ferret/ferret/model/IntegerType") (E3 : Exa Z h w3 "com/example/ferret/ferret/model/IntegerType") (E4 : Exa Z h w4 "com/example/ferret/ferret/model/IntegerType") (E5 : Exa Z h w5 "com/example/ferret/ferret/model/IntegerType") (E6 : Exa Z h w6 "com/example/ferret/ferret/model/IntegerType") (E7 : Exa Z h w7 "com/example/ferret/ferret/model/IntegerType") (E8 : Exa Z h w8 "com/example/ferret/ferret/model/IntegerType") (E9 : Exa Z h w9 "com/example/ferret/ferret/model/IntegerType") (E10 : Exa Z h w10 "com/example/ferret/ferret/model/IntegerType") (E11 : Exa Z h w11 "com/example/ferret/ferret/model/IntegerType") (F0 : Fld Z h w0 "com/example/ferret/ferret/model/IntegerType" "rank" "I" (.int 0)) (F1 : Fld Z h w1 "com/example/ferret/ferret/model/IntegerType" "rank" "I" (.int 1)) (F2 : Fld Z h w2 "com/example/ferret/ferret/model/IntegerType" "rank" "I" (.int 1)) (F3 : Fld Z h w3 "com/example/ferret/ferret/model/IntegerType" "rank" "I" (.int 1)) (F4 : Fld Z h w4 "com/example/ferret/ferret/model/IntegerType" "rank" "I" (.int 2)) (F5 : Fld Z h w5 "com/example/ferret/ferret/model/IntegerType" "rank" "I" (.int 2)) (F6 : Fld Z h w6 "com/example/ferret/ferret/model/IntegerType" "rank" "I" (.int 3)) (F7 : Fld Z h w7 "com/example/ferret/ferret/model/IntegerType" "rank" "I" (.int 3)) (F8 : Fld Z h w8 "com/example/ferret/ferret/model/IntegerType" "rank" "I" (.int 4)) (F9 : Fld Z h w9 "com/example/ferret/ferret/model/IntegerType" "rank" "I" (.int 4)) (F10 : Fld Z h w10 "com/example/ferret/ferret/model/IntegerType" "rank" "I" (.int 5)) (F11 : Fld Z h w11 "com/example/ferret/ferret/model/IntegerType" "rank" "I" (.int 5)) :
    ∃ (t : Addr) (r : Int32), own_pick i w0 w1 w2 w3 w4 w5 w6 w7 w8 w9 w10 w11 = t ∧ Exa Z h t "com/example/ferret/ferret/model/IntegerType" ∧ Fld Z h t "com/example/ferret/ferret/model/IntegerType" "rank" "I" (.int r) ∧ (¬ (5 : Int32) < i → r < 3) ∧ ((5 : Int32) < i → ¬ r < 3) := by
  have hi : i = 0 ∨ i = 1 ∨ i = 2 ∨ i = 3 ∨ i = 4 ∨ i = 5 ∨ i = 6 ∨ i = 7 ∨ i = 8 ∨ i = 9 ∨ i = 10 ∨ i = 11 := by
    simp only [← Int32.toInt_inj]
    have : ∀ k : Int32, k.toInt = k.toInt := fun _ => rfl
    simp only [show (0 : Int32).toInt = 0 from rfl, show (1 : Int32).toInt = 1 from rfl, show (2 : Int32).toInt = 2 from rfl, show (3 : Int32).toInt = 3 from rfl, show (4 : Int32).toInt = 4 from rfl, show (5 : Int32).toInt = 5 from rfl, show (6 : Int32).toInt = 6 from rfl, show (7 : Int32).toInt = 7 from rfl, show (8 : Int32).toInt = 8 from rfl, show (9 : Int32).toInt = 9 from rfl, show (10 : Int32).toInt = 10 from rfl, show (11 : Int32).toInt = 11 from rfl]
    omega
  rcases hi with rfl | rfl | rfl | rfl | rfl | rfl | rfl | rfl | rfl | rfl | rfl | rfl
  · exact ⟨w0, 0, rfl, E0, F0, by decide, by decide⟩
  · exact ⟨w1, 1, rfl, E1, F1, by decide, by decide⟩
  · exact ⟨w2, 1, rfl, E2, F2, by decide, by decide⟩
  · exact ⟨w3, 1, rfl, E3, F3, by decide, by decide⟩
  · exact ⟨w4, 2, rfl, E4, F4, by decide, by decide⟩
  · exact ⟨w5, 2, rfl, E5, F5, by decide, by decide⟩
  · exact ⟨w6, 3, rfl, E6, F6, by decide, by decide⟩
  · exact ⟨w7, 3, rfl, E7, F7, by decide, by decide⟩
  · exact ⟨w8, 4, rfl, E8, F8, by decide, by decide⟩
  · exact ⟨w9, 4, rfl, E9, F9, by decide, by decide⟩
  · exact ⟨w10, 5, rfl, E10, F10, by decide, by decide⟩
  · exact ⟨w11, 5, rfl, E11, F11, by decide, by decide⟩
theorem d1_0 : decode method_2_code 0 = .ok (.iload_n 0, 1) := by decide +kernel
theorem d1_1 : decode method_2_code 1 = .ok (.ifCond .ne 7, 3) := by decide +kernel
theorem d1_4 : decode method_2_code 4 = .ok (.getstatic 7, 3) := by decide +kernel
theorem d1_7 : decode method_2_code 7 = .ok (.areturn, 1) := by decide +kernel
theorem d1_8 : decode method_2_code 8 = .ok (.iload_n 0, 1) := by decide +kernel
theorem d1_9 : decode method_2_code 9 = .ok (.iconst 1, 1) := by decide +kernel
theorem d1_10 : decode method_2_code 10 = .ok (.if_icmp .ne 7, 3) := by decide +kernel
theorem d1_13 : decode method_2_code 13 = .ok (.getstatic 13, 3) := by decide +kernel
theorem d1_16 : decode method_2_code 16 = .ok (.areturn, 1) := by decide +kernel
theorem d1_17 : decode method_2_code 17 = .ok (.iload_n 0, 1) := by decide +kernel
theorem d1_18 : decode method_2_code 18 = .ok (.iconst 2, 1) := by decide +kernel
theorem d1_19 : decode method_2_code 19 = .ok (.if_icmp .ne 7, 3) := by decide +kernel
theorem d1_22 : decode method_2_code 22 = .ok (.getstatic 16, 3) := by decide +kernel
theorem d1_25 : decode method_2_code 25 = .ok (.areturn, 1) := by decide +kernel
theorem d1_26 : decode method_2_code 26 = .ok (.iload_n 0, 1) := by decide +kernel
theorem d1_27 : decode method_2_code 27 = .ok (.iconst 3, 1) := by decide +kernel
theorem d1_28 : decode method_2_code 28 = .ok (.if_icmp .ne 7, 3) := by decide +kernel
theorem d1_31 : decode method_2_code 31 = .ok (.getstatic 19, 3) := by decide +kernel
theorem d1_34 : decode method_2_code 34 = .ok (.areturn, 1) := by decide +kernel
theorem d1_35 : decode method_2_code 35 = .ok (.iload_n 0, 1) := by decide +kernel
theorem d1_36 : decode method_2_code 36 = .ok (.iconst 4, 1) := by decide +kernel
theorem d1_37 : decode method_2_code 37 = .ok (.if_icmp .ne 7, 3) := by decide +kernel
theorem d1_40 : decode method_2_code 40 = .ok (.getstatic 22, 3) := by decide +kernel
theorem d1_43 : decode method_2_code 43 = .ok (.areturn, 1) := by decide +kernel
theorem d1_44 : decode method_2_code 44 = .ok (.iload_n 0, 1) := by decide +kernel
theorem d1_45 : decode method_2_code 45 = .ok (.iconst 5, 1) := by decide +kernel
theorem d1_46 : decode method_2_code 46 = .ok (.if_icmp .ne 7, 3) := by decide +kernel
theorem d1_49 : decode method_2_code 49 = .ok (.getstatic 25, 3) := by decide +kernel
theorem d1_52 : decode method_2_code 52 = .ok (.areturn, 1) := by decide +kernel
theorem d1_53 : decode method_2_code 53 = .ok (.iload_n 0, 1) := by decide +kernel
theorem d1_54 : decode method_2_code 54 = .ok (.bipush 6, 2) := by decide +kernel
theorem d1_56 : decode method_2_code 56 = .ok (.if_icmp .ne 7, 3) := by decide +kernel
theorem d1_59 : decode method_2_code 59 = .ok (.getstatic 28, 3) := by decide +kernel
theorem d1_62 : decode method_2_code 62 = .ok (.areturn, 1) := by decide +kernel
theorem d1_63 : decode method_2_code 63 = .ok (.iload_n 0, 1) := by decide +kernel
theorem d1_64 : decode method_2_code 64 = .ok (.bipush 7, 2) := by decide +kernel
theorem d1_66 : decode method_2_code 66 = .ok (.if_icmp .ne 7, 3) := by decide +kernel
theorem d1_69 : decode method_2_code 69 = .ok (.getstatic 31, 3) := by decide +kernel
theorem d1_72 : decode method_2_code 72 = .ok (.areturn, 1) := by decide +kernel
theorem d1_73 : decode method_2_code 73 = .ok (.iload_n 0, 1) := by decide +kernel
theorem d1_74 : decode method_2_code 74 = .ok (.bipush 8, 2) := by decide +kernel
theorem d1_76 : decode method_2_code 76 = .ok (.if_icmp .ne 7, 3) := by decide +kernel
theorem d1_79 : decode method_2_code 79 = .ok (.getstatic 34, 3) := by decide +kernel
theorem d1_82 : decode method_2_code 82 = .ok (.areturn, 1) := by decide +kernel
theorem d1_83 : decode method_2_code 83 = .ok (.iload_n 0, 1) := by decide +kernel
theorem d1_84 : decode method_2_code 84 = .ok (.bipush 9, 2) := by decide +kernel
theorem d1_86 : decode method_2_code 86 = .ok (.if_icmp .ne 7, 3) := by decide +kernel
theorem d1_89 : decode method_2_code 89 = .ok (.getstatic 37, 3) := by decide +kernel
theorem d1_92 : decode method_2_code 92 = .ok (.areturn, 1) := by decide +kernel
theorem d1_93 : decode method_2_code 93 = .ok (.iload_n 0, 1) := by decide +kernel
theorem d1_94 : decode method_2_code 94 = .ok (.bipush 10, 2) := by decide +kernel
theorem d1_96 : decode method_2_code 96 = .ok (.if_icmp .ne 7, 3) := by decide +kernel
theorem d1_99 : decode method_2_code 99 = .ok (.getstatic 40, 3) := by decide +kernel
theorem d1_102 : decode method_2_code 102 = .ok (.areturn, 1) := by decide +kernel
theorem d1_103 : decode method_2_code 103 = .ok (.getstatic 43, 3) := by decide +kernel
theorem d1_106 : decode method_2_code 106 = .ok (.areturn, 1) := by decide +kernel
theorem pn1 : plainFor (⟨"com/example/ferret/ferret/model/IntegerTypePromotedPinLaw", "pick", "(I)Lcom/example/ferret/ferret/model/IntegerType;"⟩ : MethodName) = true := plainFor_of_name (by first | (simp [plainName, overriddenIn]; done) | decide +kernel)
set_option maxRecDepth 65536 in
set_option maxHeartbeats 40000000 in
theorem rm1 (l : Launch) (Z : State) (a0 : Array Value) (hw : ∀ d ∈ tables_1, d.before a0 Z = true) (ws : List Jvm.Cond) (p0 : Int32) (w0 w1 w2 w3 w4 w5 w6 w7 w8 w9 w10 w11 : Addr) (h0 : Heap) (n0 : Nat) (Z0 : n0 ≤ h0.size) (S0 : Sta Z h0 "com/example/ferret/ferret/model/IntegerType" "BOOL" "Lcom/example/ferret/ferret/model/IntegerType;" (.ref w0)) (S1 : Sta Z h0 "com/example/ferret/ferret/model/IntegerType" "CHAR" "Lcom/example/ferret/ferret/model/IntegerType;" (.ref w1)) (S2 : Sta Z h0 "com/example/ferret/ferret/model/IntegerType" "SIGNED_CHAR" "Lcom/example/ferret/ferret/model/IntegerType;" (.ref w2)) (S3 : Sta Z h0 "com/example/ferret/ferret/model/IntegerType" "UNSIGNED_CHAR" "Lcom/example/ferret/ferret/model/IntegerType;" (.ref w3)) (S4 : Sta Z h0 "com/example/ferret/ferret/model/IntegerType" "SHORT" "Lcom/example/ferret/ferret/model/IntegerType;" (.ref w4)) (S5 : Sta Z h0 "com/example/ferret/ferret/model/IntegerType" "UNSIGNED_SHORT" "Lcom/example/ferret/ferret/model/IntegerType;" (.ref w5)) (S6 : Sta Z h0 "com/example/ferret/ferret/model/IntegerType" "INT" "Lcom/example/ferret/ferret/model/IntegerType;" (.ref w6)) (S7 : Sta Z h0 "com/example/ferret/ferret/model/IntegerType" "UNSIGNED_INT" "Lcom/example/ferret/ferret/model/IntegerType;" (.ref w7)) (S8 : Sta Z h0 "com/example/ferret/ferret/model/IntegerType" "LONG" "Lcom/example/ferret/ferret/model/IntegerType;" (.ref w8)) (S9 : Sta Z h0 "com/example/ferret/ferret/model/IntegerType" "UNSIGNED_LONG" "Lcom/example/ferret/ferret/model/IntegerType;" (.ref w9)) (S10 : Sta Z h0 "com/example/ferret/ferret/model/IntegerType" "LONG_LONG" "Lcom/example/ferret/ferret/model/IntegerType;" (.ref w10)) (S11 : Sta Z h0 "com/example/ferret/ferret/model/IntegerType" "UNSIGNED_LONG_LONG" "Lcom/example/ferret/ferret/model/IntegerType;" (.ref w11)) :
    own_Met l (⟨"com/example/ferret/ferret/model/IntegerTypePromotedPinLaw", "pick", "(I)Lcom/example/ferret/ferret/model/IntegerType;"⟩ : MethodName) method_2_code 1 (some (.object "com/example/ferret/ferret/model/IntegerType")) ({ frames := 0, cells := 0, slots := 0, locals := 0 } : Room) ws #[(.int p0)] Z h0 (fun v h L => v = some (.ref (own_pick p0 w0 w1 w2 w3 w4 w5 w6 w7 w8 w9 w10 w11)) ∧ Fr n0 L ∧ h = h0) := by
  refine own_met pn1 ?_
  intro p e s m below meth c s₁ hx X0 hZ e0 hby hml hown hnm hret hlk
  have N0 := Fr.nil n0
  refine own_at (f' := mkF m 0 #[.val (.int p0)] []) (by first | rfl | (simp [entryFrame, mkF, argsToLocals, Value.category]; done)) ?_
  show own_Ends _ _ _ _ _ _ _ s₁ (mkF m 0 #[.val (.int p0)] [])
  refine own_go (fun t_ k_ => XS.iloadN X0.here hx rfl (hb hby d1_0) rfl  k_) ?_
  show own_Ends _ _ _ _ _ _ _ s₁ (mkF m 1 #[.val (.int p0)] [(.int p0)])
  by_cases hc1 : p0 = (0 : Int32)
  · refine own_go (fun t_ k_ => XS.ifNo X0.here hx rfl (hb hby d1_1) rfl ((if0 _ _).trans (teq hc1).2) k_) ?_
    show own_Ends _ _ _ _ _ _ _ s₁ (mkF m 4 #[.val (.int p0)] [])
    obtain ⟨T2, X2, e2, st2⟩ := getS2 X0 hx hZ hown (host := "") (Or.inl (hw _ (List.mem_of_getElem? (i := 5) rfl))) Via.refl e0 S0 (g := (mkF m 4 #[.val (.int p0)] [])) rfl (hb hby d1_4)
    refine own_go st2 ?_
    show own_Ends _ _ _ _ _ _ _ T2 (mkF m 7 #[.val (.int p0)] [(.ref w0)])
    refine own_retR X2 hx hlk hret rfl rfl (hb hby d1_7) e2 (by decide) (by decide) ?_
    exact ⟨by simp [own_pick, hc1], N0, rfl⟩
  · refine own_go (fun t_ k_ => XS.ifYes X0.here hx rfl (pc0 := 1) (pc' := 8) rfl (hb hby d1_1) rfl ((if0 _ _).trans (feq hc1).2) (by decide) (by decide) k_) ?_
    show own_Ends _ _ _ _ _ _ _ s₁ (mkF m 8 #[.val (.int p0)] [])
    refine own_go (fun t_ k_ => XS.iloadN X0.here hx rfl (hb hby d1_8) rfl  k_) ?_
    show own_Ends _ _ _ _ _ _ _ s₁ (mkF m 9 #[.val (.int p0)] [(.int p0)])
    refine own_go (fun t_ k_ => XS.iconst X0.here hx rfl (hb hby d1_9) k_) ?_
    show own_Ends _ _ _ _ _ _ _ s₁ (mkF m 10 #[.val (.int p0)] [(.int (1 : Int32)), (.int p0)])
    by_cases hc3 : p0 = (1 : Int32)
    · refine own_go (fun t_ k_ => XS.icmpNo X0.here hx rfl (hb hby d1_10) rfl (teq hc3).2 k_) ?_
      show own_Ends _ _ _ _ _ _ _ s₁ (mkF m 13 #[.val (.int p0)] [])
      obtain ⟨T4, X4, e4, st4⟩ := getS2 X0 hx hZ hown (host := "") (Or.inl (hw _ (List.mem_of_getElem? (i := 30) rfl))) Via.refl e0 S1 (g := (mkF m 13 #[.val (.int p0)] [])) rfl (hb hby d1_13)
      refine own_go st4 ?_
      show own_Ends _ _ _ _ _ _ _ T4 (mkF m 16 #[.val (.int p0)] [(.ref w1)])
      refine own_retR X4 hx hlk hret rfl rfl (hb hby d1_16) e4 (by decide) (by decide) ?_
      exact ⟨by simp [own_pick, hc1, hc3], N0, rfl⟩
    · refine own_go (fun t_ k_ => XS.icmpYes X0.here hx rfl (pc0 := 10) (pc' := 17) rfl (hb hby d1_10) rfl (feq hc3).2 (by decide) (by decide) k_) ?_
      show own_Ends _ _ _ _ _ _ _ s₁ (mkF m 17 #[.val (.int p0)] [])
      refine own_go (fun t_ k_ => XS.iloadN X0.here hx rfl (hb hby d1_17) rfl  k_) ?_
      show own_Ends _ _ _ _ _ _ _ s₁ (mkF m 18 #[.val (.int p0)] [(.int p0)])
      refine own_go (fun t_ k_ => XS.iconst X0.here hx rfl (hb hby d1_18) k_) ?_
      show own_Ends _ _ _ _ _ _ _ s₁ (mkF m 19 #[.val (.int p0)] [(.int (2 : Int32)), (.int p0)])
      by_cases hc5 : p0 = (2 : Int32)
      · refine own_go (fun t_ k_ => XS.icmpNo X0.here hx rfl (hb hby d1_19) rfl (teq hc5).2 k_) ?_
        show own_Ends _ _ _ _ _ _ _ s₁ (mkF m 22 #[.val (.int p0)] [])
        obtain ⟨T6, X6, e6, st6⟩ := getS2 X0 hx hZ hown (host := "") (Or.inl (hw _ (List.mem_of_getElem? (i := 20) rfl))) Via.refl e0 S2 (g := (mkF m 22 #[.val (.int p0)] [])) rfl (hb hby d1_22)
        refine own_go st6 ?_
        show own_Ends _ _ _ _ _ _ _ T6 (mkF m 25 #[.val (.int p0)] [(.ref w2)])
        refine own_retR X6 hx hlk hret rfl rfl (hb hby d1_25) e6 (by decide) (by decide) ?_
        exact ⟨by simp [own_pick, hc1, hc3, hc5], N0, rfl⟩
      · refine own_go (fun t_ k_ => XS.icmpYes X0.here hx rfl (pc0 := 19) (pc' := 26) rfl (hb hby d1_19) rfl (feq hc5).2 (by decide) (by decide) k_) ?_
        show own_Ends _ _ _ _ _ _ _ s₁ (mkF m 26 #[.val (.int p0)] [])
        refine own_go (fun t_ k_ => XS.iloadN X0.here hx rfl (hb hby d1_26) rfl  k_) ?_
        show own_Ends _ _ _ _ _ _ _ s₁ (mkF m 27 #[.val (.int p0)] [(.int p0)])
        refine own_go (fun t_ k_ => XS.iconst X0.here hx rfl (hb hby d1_27) k_) ?_
        show own_Ends _ _ _ _ _ _ _ s₁ (mkF m 28 #[.val (.int p0)] [(.int (3 : Int32)), (.int p0)])
        by_cases hc7 : p0 = (3 : Int32)
        · refine own_go (fun t_ k_ => XS.icmpNo X0.here hx rfl (hb hby d1_28) rfl (teq hc7).2 k_) ?_
          show own_Ends _ _ _ _ _ _ _ s₁ (mkF m 31 #[.val (.int p0)] [])
          obtain ⟨T8, X8, e8, st8⟩ := getS2 X0 hx hZ hown (host := "") (Or.inl (hw _ (List.mem_of_getElem? (i := 18) rfl))) Via.refl e0 S3 (g := (mkF m 31 #[.val (.int p0)] [])) rfl (hb hby d1_31)
          refine own_go st8 ?_
          show own_Ends _ _ _ _ _ _ _ T8 (mkF m 34 #[.val (.int p0)] [(.ref w3)])
          refine own_retR X8 hx hlk hret rfl rfl (hb hby d1_34) e8 (by decide) (by decide) ?_
          exact ⟨by simp [own_pick, hc1, hc3, hc5, hc7], N0, rfl⟩
        · refine own_go (fun t_ k_ => XS.icmpYes X0.here hx rfl (pc0 := 28) (pc' := 35) rfl (hb hby d1_28) rfl (feq hc7).2 (by decide) (by decide) k_) ?_
          show own_Ends _ _ _ _ _ _ _ s₁ (mkF m 35 #[.val (.int p0)] [])
          refine own_go (fun t_ k_ => XS.iloadN X0.here hx rfl (hb hby d1_35) rfl  k_) ?_
          show own_Ends _ _ _ _ _ _ _ s₁ (mkF m 36 #[.val (.int p0)] [(.int p0)])
          refine own_go (fun t_ k_ => XS.iconst X0.here hx rfl (hb hby d1_36) k_) ?_
          show own_Ends _ _ _ _ _ _ _ s₁ (mkF m 37 #[.val (.int p0)] [(.int (4 : Int32)), (.int p0)])
          by_cases hc9 : p0 = (4 : Int32)
          · refine own_go (fun t_ k_ => XS.icmpNo X0.here hx rfl (hb hby d1_37) rfl (teq hc9).2 k_) ?_
            show own_Ends _ _ _ _ _ _ _ s₁ (mkF m 40 #[.val (.int p0)] [])
            obtain ⟨T10, X10, e10, st10⟩ := getS2 X0 hx hZ hown (host := "") (Or.inl (hw _ (List.mem_of_getElem? (i := 26) rfl))) Via.refl e0 S4 (g := (mkF m 40 #[.val (.int p0)] [])) rfl (hb hby d1_40)
            refine own_go st10 ?_
            show own_Ends _ _ _ _ _ _ _ T10 (mkF m 43 #[.val (.int p0)] [(.ref w4)])
            refine own_retR X10 hx hlk hret rfl rfl (hb hby d1_43) e10 (by decide) (by decide) ?_
            exact ⟨by simp [own_pick, hc1, hc3, hc5, hc7, hc9], N0, rfl⟩
          · refine own_go (fun t_ k_ => XS.icmpYes X0.here hx rfl (pc0 := 37) (pc' := 44) rfl (hb hby d1_37) rfl (feq hc9).2 (by decide) (by decide) k_) ?_
            show own_Ends _ _ _ _ _ _ _ s₁ (mkF m 44 #[.val (.int p0)] [])
            refine own_go (fun t_ k_ => XS.iloadN X0.here hx rfl (hb hby d1_44) rfl  k_) ?_
            show own_Ends _ _ _ _ _ _ _ s₁ (mkF m 45 #[.val (.int p0)] [(.int p0)])
            refine own_go (fun t_ k_ => XS.iconst X0.here hx rfl (hb hby d1_45) k_) ?_
            show own_Ends _ _ _ _ _ _ _ s₁ (mkF m 46 #[.val (.int p0)] [(.int (5 : Int32)), (.int p0)])
            by_cases hc11 : p0 = (5 : Int32)
            · refine own_go (fun t_ k_ => XS.icmpNo X0.here hx rfl (hb hby d1_46) rfl (teq hc11).2 k_) ?_
              show own_Ends _ _ _ _ _ _ _ s₁ (mkF m 49 #[.val (.int p0)] [])
              obtain ⟨T12, X12, e12, st12⟩ := getS2 X0 hx hZ hown (host := "") (Or.inl (hw _ (List.mem_of_getElem? (i := 36) rfl))) Via.refl e0 S5 (g := (mkF m 49 #[.val (.int p0)] [])) rfl (hb hby d1_49)
              refine own_go st12 ?_
              show own_Ends _ _ _ _ _ _ _ T12 (mkF m 52 #[.val (.int p0)] [(.ref w5)])
              refine own_retR X12 hx hlk hret rfl rfl (hb hby d1_52) e12 (by decide) (by decide) ?_
              exact ⟨by simp [own_pick, hc1, hc3, hc5, hc7, hc9, hc11], N0, rfl⟩
            · refine own_go (fun t_ k_ => XS.icmpYes X0.here hx rfl (pc0 := 46) (pc' := 53) rfl (hb hby d1_46) rfl (feq hc11).2 (by decide) (by decide) k_) ?_
              show own_Ends _ _ _ _ _ _ _ s₁ (mkF m 53 #[.val (.int p0)] [])
              refine own_go (fun t_ k_ => XS.iloadN X0.here hx rfl (hb hby d1_53) rfl  k_) ?_
              show own_Ends _ _ _ _ _ _ _ s₁ (mkF m 54 #[.val (.int p0)] [(.int p0)])
              refine own_go (fun t_ k_ => XS.bipush X0.here hx rfl (hb hby d1_54) k_) ?_
              show own_Ends _ _ _ _ _ _ _ s₁ (mkF m 56 #[.val (.int p0)] [(.int (6 : Int32)), (.int p0)])
              by_cases hc13 : p0 = (6 : Int32)
              · refine own_go (fun t_ k_ => XS.icmpNo X0.here hx rfl (hb hby d1_56) rfl (teq hc13).2 k_) ?_
                show own_Ends _ _ _ _ _ _ _ s₁ (mkF m 59 #[.val (.int p0)] [])
                obtain ⟨T14, X14, e14, st14⟩ := getS2 X0 hx hZ hown (host := "") (Or.inl (hw _ (List.mem_of_getElem? (i := 8) rfl))) Via.refl e0 S6 (g := (mkF m 59 #[.val (.int p0)] [])) rfl (hb hby d1_59)
                refine own_go st14 ?_
                show own_Ends _ _ _ _ _ _ _ T14 (mkF m 62 #[.val (.int p0)] [(.ref w6)])
                refine own_retR X14 hx hlk hret rfl rfl (hb hby d1_62) e14 (by decide) (by decide) ?_
                exact ⟨by simp [own_pick, hc1, hc3, hc5, hc7, hc9, hc11, hc13], N0, rfl⟩
              · refine own_go (fun t_ k_ => XS.icmpYes X0.here hx rfl (pc0 := 56) (pc' := 63) rfl (hb hby d1_56) rfl (feq hc13).2 (by decide) (by decide) k_) ?_
                show own_Ends _ _ _ _ _ _ _ s₁ (mkF m 63 #[.val (.int p0)] [])
                refine own_go (fun t_ k_ => XS.iloadN X0.here hx rfl (hb hby d1_63) rfl  k_) ?_
                show own_Ends _ _ _ _ _ _ _ s₁ (mkF m 64 #[.val (.int p0)] [(.int p0)])
                refine own_go (fun t_ k_ => XS.bipush X0.here hx rfl (hb hby d1_64) k_) ?_
                show own_Ends _ _ _ _ _ _ _ s₁ (mkF m 66 #[.val (.int p0)] [(.int (7 : Int32)), (.int p0)])
                by_cases hc15 : p0 = (7 : Int32)
                · refine own_go (fun t_ k_ => XS.icmpNo X0.here hx rfl (hb hby d1_66) rfl (teq hc15).2 k_) ?_
                  show own_Ends _ _ _ _ _ _ _ s₁ (mkF m 69 #[.val (.int p0)] [])
                  obtain ⟨T16, X16, e16, st16⟩ := getS2 X0 hx hZ hown (host := "") (Or.inl (hw _ (List.mem_of_getElem? (i := 22) rfl))) Via.refl e0 S7 (g := (mkF m 69 #[.val (.int p0)] [])) rfl (hb hby d1_69)
                  refine own_go st16 ?_
                  show own_Ends _ _ _ _ _ _ _ T16 (mkF m 72 #[.val (.int p0)] [(.ref w7)])
                  refine own_retR X16 hx hlk hret rfl rfl (hb hby d1_72) e16 (by decide) (by decide) ?_
                  exact ⟨by simp [own_pick, hc1, hc3, hc5, hc7, hc9, hc11, hc13, hc15], N0, rfl⟩
                · refine own_go (fun t_ k_ => XS.icmpYes X0.here hx rfl (pc0 := 66) (pc' := 73) rfl (hb hby d1_66) rfl (feq hc15).2 (by decide) (by decide) k_) ?_
                  show own_Ends _ _ _ _ _ _ _ s₁ (mkF m 73 #[.val (.int p0)] [])
                  refine own_go (fun t_ k_ => XS.iloadN X0.here hx rfl (hb hby d1_73) rfl  k_) ?_
                  show own_Ends _ _ _ _ _ _ _ s₁ (mkF m 74 #[.val (.int p0)] [(.int p0)])
                  refine own_go (fun t_ k_ => XS.bipush X0.here hx rfl (hb hby d1_74) k_) ?_
                  show own_Ends _ _ _ _ _ _ _ s₁ (mkF m 76 #[.val (.int p0)] [(.int (8 : Int32)), (.int p0)])
                  by_cases hc17 : p0 = (8 : Int32)
                  · refine own_go (fun t_ k_ => XS.icmpNo X0.here hx rfl (hb hby d1_76) rfl (teq hc17).2 k_) ?_
                    show own_Ends _ _ _ _ _ _ _ s₁ (mkF m 79 #[.val (.int p0)] [])
                    obtain ⟨T18, X18, e18, st18⟩ := getS2 X0 hx hZ hown (host := "") (Or.inl (hw _ (List.mem_of_getElem? (i := 28) rfl))) Via.refl e0 S8 (g := (mkF m 79 #[.val (.int p0)] [])) rfl (hb hby d1_79)
                    refine own_go st18 ?_
                    show own_Ends _ _ _ _ _ _ _ T18 (mkF m 82 #[.val (.int p0)] [(.ref w8)])
                    refine own_retR X18 hx hlk hret rfl rfl (hb hby d1_82) e18 (by decide) (by decide) ?_
                    exact ⟨by simp [own_pick, hc1, hc3, hc5, hc7, hc9, hc11, hc13, hc15, hc17], N0, rfl⟩
                  · refine own_go (fun t_ k_ => XS.icmpYes X0.here hx rfl (pc0 := 76) (pc' := 83) rfl (hb hby d1_76) rfl (feq hc17).2 (by decide) (by decide) k_) ?_
                    show own_Ends _ _ _ _ _ _ _ s₁ (mkF m 83 #[.val (.int p0)] [])
                    refine own_go (fun t_ k_ => XS.iloadN X0.here hx rfl (hb hby d1_83) rfl  k_) ?_
                    show own_Ends _ _ _ _ _ _ _ s₁ (mkF m 84 #[.val (.int p0)] [(.int p0)])
                    refine own_go (fun t_ k_ => XS.bipush X0.here hx rfl (hb hby d1_84) k_) ?_
                    show own_Ends _ _ _ _ _ _ _ s₁ (mkF m 86 #[.val (.int p0)] [(.int (9 : Int32)), (.int p0)])
                    by_cases hc19 : p0 = (9 : Int32)
                    · refine own_go (fun t_ k_ => XS.icmpNo X0.here hx rfl (hb hby d1_86) rfl (teq hc19).2 k_) ?_
                      show own_Ends _ _ _ _ _ _ _ s₁ (mkF m 89 #[.val (.int p0)] [])
                      obtain ⟨T20, X20, e20, st20⟩ := getS2 X0 hx hZ hown (host := "") (Or.inl (hw _ (List.mem_of_getElem? (i := 34) rfl))) Via.refl e0 S9 (g := (mkF m 89 #[.val (.int p0)] [])) rfl (hb hby d1_89)
                      refine own_go st20 ?_
                      show own_Ends _ _ _ _ _ _ _ T20 (mkF m 92 #[.val (.int p0)] [(.ref w9)])
                      refine own_retR X20 hx hlk hret rfl rfl (hb hby d1_92) e20 (by decide) (by decide) ?_
                      exact ⟨by simp [own_pick, hc1, hc3, hc5, hc7, hc9, hc11, hc13, hc15, hc17, hc19], N0, rfl⟩
                    · refine own_go (fun t_ k_ => XS.icmpYes X0.here hx rfl (pc0 := 86) (pc' := 93) rfl (hb hby d1_86) rfl (feq hc19).2 (by decide) (by decide) k_) ?_
                      show own_Ends _ _ _ _ _ _ _ s₁ (mkF m 93 #[.val (.int p0)] [])
                      refine own_go (fun t_ k_ => XS.iloadN X0.here hx rfl (hb hby d1_93) rfl  k_) ?_
                      show own_Ends _ _ _ _ _ _ _ s₁ (mkF m 94 #[.val (.int p0)] [(.int p0)])
                      refine own_go (fun t_ k_ => XS.bipush X0.here hx rfl (hb hby d1_94) k_) ?_
                      show own_Ends _ _ _ _ _ _ _ s₁ (mkF m 96 #[.val (.int p0)] [(.int (10 : Int32)), (.int p0)])
                      by_cases hc21 : p0 = (10 : Int32)
                      · refine own_go (fun t_ k_ => XS.icmpNo X0.here hx rfl (hb hby d1_96) rfl (teq hc21).2 k_) ?_
                        show own_Ends _ _ _ _ _ _ _ s₁ (mkF m 99 #[.val (.int p0)] [])
                        obtain ⟨T22, X22, e22, st22⟩ := getS2 X0 hx hZ hown (host := "") (Or.inl (hw _ (List.mem_of_getElem? (i := 32) rfl))) Via.refl e0 S10 (g := (mkF m 99 #[.val (.int p0)] [])) rfl (hb hby d1_99)
                        refine own_go st22 ?_
                        show own_Ends _ _ _ _ _ _ _ T22 (mkF m 102 #[.val (.int p0)] [(.ref w10)])
                        refine own_retR X22 hx hlk hret rfl rfl (hb hby d1_102) e22 (by decide) (by decide) ?_
                        exact ⟨by simp [own_pick, hc1, hc3, hc5, hc7, hc9, hc11, hc13, hc15, hc17, hc19, hc21], N0, rfl⟩
                      · refine own_go (fun t_ k_ => XS.icmpYes X0.here hx rfl (pc0 := 96) (pc' := 103) rfl (hb hby d1_96) rfl (feq hc21).2 (by decide) (by decide) k_) ?_
                        show own_Ends _ _ _ _ _ _ _ s₁ (mkF m 103 #[.val (.int p0)] [])
                        obtain ⟨T23, X23, e23, st23⟩ := getS2 X0 hx hZ hown (host := "") (Or.inl (hw _ (List.mem_of_getElem? (i := 24) rfl))) Via.refl e0 S11 (g := (mkF m 103 #[.val (.int p0)] [])) rfl (hb hby d1_103)
                        refine own_go st23 ?_
                        show own_Ends _ _ _ _ _ _ _ T23 (mkF m 106 #[.val (.int p0)] [(.ref w11)])
                        refine own_retR X23 hx hlk hret rfl rfl (hb hby d1_106) e23 (by decide) (by decide) ?_
                        exact ⟨by simp [own_pick, hc1, hc3, hc5, hc7, hc9, hc11, hc13, hc15, hc17, hc19, hc21], N0, rfl⟩
theorem d2_0 : decode prog_148_method_9_code 0 = .ok (.aload_n 0, 1) := by decide +kernel
theorem d2_1 : decode prog_148_method_9_code 1 = .ok (.getfield 62, 3) := by decide +kernel
theorem d2_4 : decode prog_148_method_9_code 4 = .ok (.getstatic 22, 3) := by decide +kernel
theorem d2_7 : decode prog_148_method_9_code 7 = .ok (.getfield 62, 3) := by decide +kernel
theorem d2_10 : decode prog_148_method_9_code 10 = .ok (.if_icmp .ge 9, 3) := by decide +kernel
theorem d2_13 : decode prog_148_method_9_code 13 = .ok (.getstatic 22, 3) := by decide +kernel
theorem d2_16 : decode prog_148_method_9_code 16 = .ok (.goto 4, 3) := by decide +kernel
theorem d2_20 : decode prog_148_method_9_code 20 = .ok (.areturn, 1) := by decide +kernel
theorem d2_19 : decode prog_148_method_9_code 19 = .ok (.aload_n 0, 1) := by decide +kernel
theorem pn2 : plainFor (⟨"com/example/ferret/ferret/model/IntegerType", "promoted", "()Lcom/example/ferret/ferret/model/IntegerType;"⟩ : MethodName) = true := plainFor_of_name (by first | (simp [plainName, overriddenIn]; done) | decide +kernel)
set_option maxRecDepth 65536 in
set_option maxHeartbeats 40000000 in
theorem rm2 (l : Launch) (Z : State) (a0 : Array Value) (hw : ∀ d ∈ tables_1, d.before a0 Z = true) (ws : List Jvm.Cond)  (t wI : Addr) (r : Int32) (h0 : Heap) (n0 : Nat) (Z0 : n0 ≤ h0.size) (SI : Sta Z h0 "com/example/ferret/ferret/model/IntegerType" "INT" "Lcom/example/ferret/ferret/model/IntegerType;" (.ref wI)) (Ft : Fld Z h0 t "com/example/ferret/ferret/model/IntegerType" "rank" "I" (.int r)) (FI : Fld Z h0 wI "com/example/ferret/ferret/model/IntegerType" "rank" "I" (.int 3)) :
    own_Met l (⟨"com/example/ferret/ferret/model/IntegerType", "promoted", "()Lcom/example/ferret/ferret/model/IntegerType;"⟩ : MethodName) prog_148_method_9_code 1 (some (.object "com/example/ferret/ferret/model/IntegerType")) ({ frames := 0, cells := 0, slots := 0, locals := 0 } : Room) ws #[(.ref t)] Z h0 (fun v h L => v = some (.ref (if r < 3 then wI else t)) ∧ Fr n0 L ∧ h = h0) := by
  refine own_met pn2 ?_
  intro p e s m below meth c s₁ hx X0 hZ e0 hby hml hown hnm hret hlk
  have N0 := Fr.nil n0
  refine own_at (f' := mkF m 0 #[.val (.ref t)] []) (by first | rfl | (simp [entryFrame, mkF, argsToLocals, Value.category]; done)) ?_
  show own_Ends _ _ _ _ _ _ _ s₁ (mkF m 0 #[.val (.ref t)] [])
  refine own_go (fun t_ k_ => XS.aloadN X0.here hx rfl (hb hby d2_0) rfl rfl  k_) ?_
  show own_Ends _ _ _ _ _ _ _ s₁ (mkF m 1 #[.val (.ref t)] [(.ref t)])
  obtain ⟨T1, X1, e1, st1⟩ := getF X0 hx hZ hown (host := "") (Or.inl (hw _ (List.mem_of_getElem? (i := 15) rfl))) Via.refl e0 Ft (g := (mkF m 1 #[.val (.ref t)] [(.ref t)])) rfl rfl (hb hby d2_1)
  refine own_go st1 ?_
  show own_Ends _ _ _ _ _ _ _ T1 (mkF m 4 #[.val (.ref t)] [(.int r)])
  obtain ⟨T2, X2, e2, st2⟩ := getS2 X1 hx hZ hown (host := "") (Or.inl (hw _ (List.mem_of_getElem? (i := 17) rfl))) Via.refl e1 SI (g := (mkF m 4 #[.val (.ref t)] [(.int r)])) rfl (hb hby d2_4)
  refine own_go st2 ?_
  show own_Ends _ _ _ _ _ _ _ T2 (mkF m 7 #[.val (.ref t)] [(.ref wI), (.int r)])
  obtain ⟨T3, X3, e3, st3⟩ := getF X2 hx hZ hown (host := "") (Or.inl (hw _ (List.mem_of_getElem? (i := 15) rfl))) Via.refl e2 FI (g := (mkF m 7 #[.val (.ref t)] [(.ref wI), (.int r)])) rfl rfl (hb hby d2_7)
  refine own_go st3 ?_
  show own_Ends _ _ _ _ _ _ _ T3 (mkF m 10 #[.val (.ref t)] [(.int (3 : Int32)), (.int r)])
  by_cases hc4 : r < (3 : Int32)
  · refine own_go (fun t_ k_ => XS.icmpNo X3.here hx rfl (hb hby d2_10) rfl (tlt hc4).2.1 k_) ?_
    show own_Ends _ _ _ _ _ _ _ T3 (mkF m 13 #[.val (.ref t)] [])
    obtain ⟨T5, X5, e5, st5⟩ := getS2 X3 hx hZ hown (host := "") (Or.inl (hw _ (List.mem_of_getElem? (i := 17) rfl))) Via.refl e3 SI (g := (mkF m 13 #[.val (.ref t)] [])) rfl (hb hby d2_13)
    refine own_go st5 ?_
    show own_Ends _ _ _ _ _ _ _ T5 (mkF m 16 #[.val (.ref t)] [(.ref wI)])
    refine own_go (fun t_ k_ => XS.goto X5.here hx rfl (pc0 := 16) (pc' := 20) rfl (hb hby d2_16) (by decide) (by decide) k_) ?_
    show own_Ends _ _ _ _ _ _ _ T5 (mkF m 20 #[.val (.ref t)] [(.ref wI)])
    refine own_retR X5 hx hlk hret rfl rfl (hb hby d2_20) e5 (by decide) (by decide) ?_
    exact ⟨by simp [hc4], N0, rfl⟩
  · refine own_go (fun t_ k_ => XS.icmpYes X3.here hx rfl (pc0 := 10) (pc' := 19) rfl (hb hby d2_10) rfl (flt hc4).2.1 (by decide) (by decide) k_) ?_
    show own_Ends _ _ _ _ _ _ _ T3 (mkF m 19 #[.val (.ref t)] [])
    refine own_go (fun t_ k_ => XS.aloadN X3.here hx rfl (hb hby d2_19) rfl rfl  k_) ?_
    show own_Ends _ _ _ _ _ _ _ T3 (mkF m 20 #[.val (.ref t)] [(.ref t)])
    refine own_retR X3 hx hlk hret rfl rfl (hb hby d2_20) e3 (by decide) (by decide) ?_
    exact ⟨by simp [hc4], N0, rfl⟩
theorem own_ix (x : Int32) : 0 ≤ ((x &&& (2147483647 : Int32)) % (12 : Int32)).toInt ∧ ((x &&& (2147483647 : Int32)) % (12 : Int32)).toInt < 12 := by
  have h1 := c_and x 2147483647 (by decide)
  have h2 := (c_iremV (x &&& 2147483647) 12).1 h1.1 (by decide)
  have h3 : (12 : Int32).toInt = 12 := rfl
  omega
theorem pd__I_Lcom_example_ferret_ferret_model_IntegerType_ : parseMethodDescriptor "(I)Lcom/example/ferret/ferret/model/IntegerType;" = some ⟨[.int], some (.object "com/example/ferret/ferret/model/IntegerType")⟩ := by decide +kernel
theorem pd___Lcom_example_ferret_ferret_model_IntegerType_ : parseMethodDescriptor "()Lcom/example/ferret/ferret/model/IntegerType;" = some ⟨[], some (.object "com/example/ferret/ferret/model/IntegerType")⟩ := by decide +kernel
theorem pn0 : plainFor (⟨"com/example/ferret/ferret/model/IntegerTypePromotedPinLaw", "law", "(I)Z"⟩ : MethodName) = true := plainFor_of_name (by first | (simp [plainName, overriddenIn]; done) | decide +kernel)
set_option maxRecDepth 65536 in
set_option maxHeartbeats 40000000 in
theorem rm0 (l : Launch) (Z : State) (a0 : Array Value) (hw : ∀ d ∈ tables_1, d.before a0 Z = true) (ws : List Jvm.Cond) (p0 : Int32) (w0 w1 w2 w3 w4 w5 w6 w7 w8 w9 w10 w11 : Addr) (h0 : Heap) (n0 : Nat) (Z0 : n0 ≤ h0.size) (S0 : Sta Z h0 "com/example/ferret/ferret/model/IntegerType" "BOOL" "Lcom/example/ferret/ferret/model/IntegerType;" (.ref w0)) (S1 : Sta Z h0 "com/example/ferret/ferret/model/IntegerType" "CHAR" "Lcom/example/ferret/ferret/model/IntegerType;" (.ref w1)) (S2 : Sta Z h0 "com/example/ferret/ferret/model/IntegerType" "SIGNED_CHAR" "Lcom/example/ferret/ferret/model/IntegerType;" (.ref w2)) (S3 : Sta Z h0 "com/example/ferret/ferret/model/IntegerType" "UNSIGNED_CHAR" "Lcom/example/ferret/ferret/model/IntegerType;" (.ref w3)) (S4 : Sta Z h0 "com/example/ferret/ferret/model/IntegerType" "SHORT" "Lcom/example/ferret/ferret/model/IntegerType;" (.ref w4)) (S5 : Sta Z h0 "com/example/ferret/ferret/model/IntegerType" "UNSIGNED_SHORT" "Lcom/example/ferret/ferret/model/IntegerType;" (.ref w5)) (S6 : Sta Z h0 "com/example/ferret/ferret/model/IntegerType" "INT" "Lcom/example/ferret/ferret/model/IntegerType;" (.ref w6)) (S7 : Sta Z h0 "com/example/ferret/ferret/model/IntegerType" "UNSIGNED_INT" "Lcom/example/ferret/ferret/model/IntegerType;" (.ref w7)) (S8 : Sta Z h0 "com/example/ferret/ferret/model/IntegerType" "LONG" "Lcom/example/ferret/ferret/model/IntegerType;" (.ref w8)) (S9 : Sta Z h0 "com/example/ferret/ferret/model/IntegerType" "UNSIGNED_LONG" "Lcom/example/ferret/ferret/model/IntegerType;" (.ref w9)) (S10 : Sta Z h0 "com/example/ferret/ferret/model/IntegerType" "LONG_LONG" "Lcom/example/ferret/ferret/model/IntegerType;" (.ref w10)) (S11 : Sta Z h0 "com/example/ferret/ferret/model/IntegerType" "UNSIGNED_LONG_LONG" "Lcom/example/ferret/ferret/model/IntegerType;" (.ref w11)) (E0 : Exa Z h0 w0 "com/example/ferret/ferret/model/IntegerType") (E1 : Exa Z h0 w1 "com/example/ferret/ferret/model/IntegerType") (E2 : Exa Z h0 w2 "com/example/ferret/ferret/model/IntegerType") (E3 : Exa Z h0 w3 "com/example/ferret/ferret/model/IntegerType") (E4 : Exa Z h0 w4 "com/example/ferret/ferret/model/IntegerType") (E5 : Exa Z h0 w5 "com/example/ferret/ferret/model/IntegerType") (E6 : Exa Z h0 w6 "com/example/ferret/ferret/model/IntegerType") (E7 : Exa Z h0 w7 "com/example/ferret/ferret/model/IntegerType") (E8 : Exa Z h0 w8 "com/example/ferret/ferret/model/IntegerType") (E9 : Exa Z h0 w9 "com/example/ferret/ferret/model/IntegerType") (E10 : Exa Z h0 w10 "com/example/ferret/ferret/model/IntegerType") (E11 : Exa Z h0 w11 "com/example/ferret/ferret/model/IntegerType") (F0 : Fld Z h0 w0 "com/example/ferret/ferret/model/IntegerType" "rank" "I" (.int 0)) (F1 : Fld Z h0 w1 "com/example/ferret/ferret/model/IntegerType" "rank" "I" (.int 1)) (F2 : Fld Z h0 w2 "com/example/ferret/ferret/model/IntegerType" "rank" "I" (.int 1)) (F3 : Fld Z h0 w3 "com/example/ferret/ferret/model/IntegerType" "rank" "I" (.int 1)) (F4 : Fld Z h0 w4 "com/example/ferret/ferret/model/IntegerType" "rank" "I" (.int 2)) (F5 : Fld Z h0 w5 "com/example/ferret/ferret/model/IntegerType" "rank" "I" (.int 2)) (F6 : Fld Z h0 w6 "com/example/ferret/ferret/model/IntegerType" "rank" "I" (.int 3)) (F7 : Fld Z h0 w7 "com/example/ferret/ferret/model/IntegerType" "rank" "I" (.int 3)) (F8 : Fld Z h0 w8 "com/example/ferret/ferret/model/IntegerType" "rank" "I" (.int 4)) (F9 : Fld Z h0 w9 "com/example/ferret/ferret/model/IntegerType" "rank" "I" (.int 4)) (F10 : Fld Z h0 w10 "com/example/ferret/ferret/model/IntegerType" "rank" "I" (.int 5)) (F11 : Fld Z h0 w11 "com/example/ferret/ferret/model/IntegerType" "rank" "I" (.int 5)) :
    own_Met l x code maxLocals ret room_1 ws #[(.int p0)] Z h0 (fun v h L => v = some (.int 1) ∧ Fr n0 L) := by
  refine own_met pn0 ?_
  intro p e s m below meth c s₁ hx X0 hZ e0 hby hml hown hnm hret hlk
  have N0 := Fr.nil n0
  refine own_at (f' := mkF m 0 #[.val (.int p0), .unset, .unset, .unset] []) (by first | rfl | (simp [entryFrame, mkF, argsToLocals, Value.category, maxLocals]; done)) ?_
  show own_Ends _ _ _ _ _ _ _ s₁ (mkF m 0 #[.val (.int p0), .unset, .unset, .unset] [])
  refine own_go (fun t_ k_ => XS.iloadN X0.here hx rfl (hb hby at_0) rfl  k_) ?_
  show own_Ends _ _ _ _ _ _ _ s₁ (mkF m 1 #[.val (.int p0), .unset, .unset, .unset] [(.int p0)])
  refine own_go (X0.ldcInt hx hown (mvT hZ (hw _ (List.mem_of_getElem? (i := 0) rfl))) (g := (mkF m 1 #[.val (.int p0), .unset, .unset, .unset] [(.int p0)])) rfl (hb hby at_1)) ?_
  show own_Ends _ _ _ _ _ _ _ s₁ (mkF m 3 #[.val (.int p0), .unset, .unset, .unset] [(.int (2147483647 : Int32)), (.int p0)])
  refine own_go (fun t_ k_ => XS.iand X0.here hx rfl (hb hby at_3) rfl k_) ?_
  show own_Ends _ _ _ _ _ _ _ s₁ (mkF m 4 #[.val (.int p0), .unset, .unset, .unset] [(.int (p0 &&& (2147483647 : Int32)))])
  refine own_go (fun t_ k_ => XS.bipush X0.here hx rfl (hb hby at_4) k_) ?_
  show own_Ends _ _ _ _ _ _ _ s₁ (mkF m 6 #[.val (.int p0), .unset, .unset, .unset] [(.int (12 : Int32)), (.int (p0 &&& (2147483647 : Int32)))])
  refine own_go (fun t_ k_ => own_irem X0 hx rfl (hb hby at_6) rfl (by decide) k_) ?_
  show own_Ends _ _ _ _ _ _ _ s₁ (mkF m 7 #[.val (.int p0), .unset, .unset, .unset] [(.int ((p0 &&& (2147483647 : Int32)) % (12 : Int32)))])
  refine own_go (fun t_ k_ => XS.istoreN X0.here hx rfl (hb hby at_7) rfl (l' := #[.val (.int p0), .val (.int ((p0 &&& (2147483647 : Int32)) % (12 : Int32))), .unset, .unset]) rfl k_) ?_
  show own_Ends _ _ _ _ _ _ _ s₁ (mkF m 8 #[.val (.int p0), .val (.int ((p0 &&& (2147483647 : Int32)) % (12 : Int32))), .unset, .unset] [])
  refine own_go (fun t_ k_ => XS.iloadN X0.here hx rfl (hb hby at_8) rfl  k_) ?_
  show own_Ends _ _ _ _ _ _ _ s₁ (mkF m 9 #[.val (.int p0), .val (.int ((p0 &&& (2147483647 : Int32)) % (12 : Int32))), .unset, .unset] [(.int ((p0 &&& (2147483647 : Int32)) % (12 : Int32)))])
  obtain ⟨T1, v1, L1, X1, hQ1, st1⟩ := own_callS X0 hx hZ (y := (⟨"com/example/ferret/ferret/model/IntegerTypePromotedPinLaw", "pick", "(I)Lcom/example/ferret/ferret/model/IntegerType;"⟩ : MethodName)) hown (hw _ (List.mem_of_getElem? (i := 1) rfl)) (hw _ (List.mem_of_getElem? (i := 2) rfl)) (hw _ (List.mem_of_getElem? (i := 3) rfl)) (hw _ (List.mem_of_getElem? (i := 4) rfl)) (by decide) (rm1 l Z a0 hw [] ((p0 &&& (2147483647 : Int32)) % (12 : Int32)) w0 w1 w2 w3 w4 w5 w6 w7 w8 w9 w10 w11 h0 n0 Z0 S0 S1 S2 S3 S4 S5 S6 S7 S8 S9 S10 S11) e0 (g := (mkF m 9 #[.val (.int p0), .val (.int ((p0 &&& (2147483647 : Int32)) % (12 : Int32))), .unset, .unset] [(.int ((p0 &&& (2147483647 : Int32)) % (12 : Int32)))])) rfl (by rw [hml]; rfl) [(.int ((p0 &&& (2147483647 : Int32)) % (12 : Int32)))] [] rfl (lenOf pd__I_Lcom_example_ferret_ferret_model_IntegerType_ rfl) rfl 0 (by show 2 * 0 + _ ≤ _; exact Nat.le_of_eq rfl) (hb hby at_9) (by decide) (by decide) (by decide) (by decide)
  obtain ⟨hv1, N1q, e1⟩ := hQ1
  obtain ⟨hi1, hi2⟩ := own_ix p0
  obtain ⟨t, r, ht, Et, Ft, hr1, hr2⟩ := own_pickF hi1 hi2 E0 E1 E2 E3 E4 E5 E6 E7 E8 E9 E10 E11 F0 F1 F2 F3 F4 F5 F6 F7 F8 F9 F10 F11
  rw [ht] at hv1
  subst hv1
  refine own_go st1 ?_
  have N1 := Fr.app N0 N1q
  show own_Ends _ _ _ _ _ _ _ T1 (mkF m 12 #[.val (.int p0), .val (.int ((p0 &&& (2147483647 : Int32)) % (12 : Int32))), .unset, .unset] [(.ref t)])
  refine own_go (fun t_ k_ => XS.astoreN X1.here hx rfl (hb hby at_12) rfl rfl (l' := #[.val (.int p0), .val (.int ((p0 &&& (2147483647 : Int32)) % (12 : Int32))), .val (.ref t), .unset]) rfl k_) ?_
  show own_Ends _ _ _ _ _ _ _ T1 (mkF m 13 #[.val (.int p0), .val (.int ((p0 &&& (2147483647 : Int32)) % (12 : Int32))), .val (.ref t), .unset] [])
  refine own_go (fun t_ k_ => XS.iloadN X1.here hx rfl (hb hby at_13) rfl  k_) ?_
  show own_Ends _ _ _ _ _ _ _ T1 (mkF m 14 #[.val (.int p0), .val (.int ((p0 &&& (2147483647 : Int32)) % (12 : Int32))), .val (.ref t), .unset] [(.int ((p0 &&& (2147483647 : Int32)) % (12 : Int32)))])
  refine own_go (fun t_ k_ => XS.iconst X1.here hx rfl (hb hby at_14) k_) ?_
  show own_Ends _ _ _ _ _ _ _ T1 (mkF m 15 #[.val (.int p0), .val (.int ((p0 &&& (2147483647 : Int32)) % (12 : Int32))), .val (.ref t), .unset] [(.int (5 : Int32)), (.int ((p0 &&& (2147483647 : Int32)) % (12 : Int32)))])
  by_cases hc2 : (5 : Int32) < ((p0 &&& (2147483647 : Int32)) % (12 : Int32))
  · refine own_go (fun t_ k_ => XS.icmpYes X1.here hx rfl (pc0 := 15) (pc' := 24) rfl (hb hby at_15) rfl (tlt hc2).2.2.1 (by decide) (by decide) k_) ?_
    show own_Ends _ _ _ _ _ _ _ T1 (mkF m 24 #[.val (.int p0), .val (.int ((p0 &&& (2147483647 : Int32)) % (12 : Int32))), .val (.ref t), .unset] [])
    refine own_go (fun t_ k_ => XS.aloadN X1.here hx rfl (hb hby at_24) rfl rfl  k_) ?_
    show own_Ends _ _ _ _ _ _ _ T1 (mkF m 25 #[.val (.int p0), .val (.int ((p0 &&& (2147483647 : Int32)) % (12 : Int32))), .val (.ref t), .unset] [(.ref t)])
    refine own_go (fun t_ k_ => XS.astoreN X1.here hx rfl (hb hby at_25) rfl rfl (l' := #[.val (.int p0), .val (.int ((p0 &&& (2147483647 : Int32)) % (12 : Int32))), .val (.ref t), .val (.ref t)]) rfl k_) ?_
    show own_Ends _ _ _ _ _ _ _ T1 (mkF m 26 #[.val (.int p0), .val (.int ((p0 &&& (2147483647 : Int32)) % (12 : Int32))), .val (.ref t), .val (.ref t)] [])
    refine own_go (fun t_ k_ => XS.aloadN X1.here hx rfl (hb hby at_26) rfl rfl  k_) ?_
    show own_Ends _ _ _ _ _ _ _ T1 (mkF m 27 #[.val (.int p0), .val (.int ((p0 &&& (2147483647 : Int32)) % (12 : Int32))), .val (.ref t), .val (.ref t)] [(.ref t)])
    obtain ⟨T3, v3, L3, X3, hQ3, st3⟩ := own_callV X1 hx hZ (y := (⟨"com/example/ferret/ferret/model/IntegerType", "promoted", "()Lcom/example/ferret/ferret/model/IntegerType;"⟩ : MethodName)) (z := (⟨"com/example/ferret/ferret/model/IntegerType", "promoted", "()Lcom/example/ferret/ferret/model/IntegerType;"⟩ : MethodName)) hown (hw _ (List.mem_of_getElem? (i := 10) rfl)) (hw _ (List.mem_of_getElem? (i := 11) rfl)) (notFace_of_selects (args := #[]) (mvT hZ (hw _ (List.mem_of_getElem? (i := 13) rfl)))) (hw _ (List.mem_of_getElem? (i := 13) rfl)) (hw _ (List.mem_of_getElem? (i := 12) rfl)) (hw _ (List.mem_of_getElem? (i := 6) rfl)) (hw _ (List.mem_of_getElem? (i := 14) rfl)) (by decide) (rm2 l Z a0 hw [] t w6 r h0 n0 Z0 S6 Ft F6) e1 (g := (mkF m 27 #[.val (.int p0), .val (.int ((p0 &&& (2147483647 : Int32)) % (12 : Int32))), .val (.ref t), .val (.ref t)] [(.ref t)])) rfl (by rw [hml]; rfl) t Et [] [] rfl (lenOf pd___Lcom_example_ferret_ferret_model_IntegerType_ rfl) rfl 0 (by show 2 * 0 + _ ≤ _; exact Nat.le_of_eq rfl) (hb hby at_27) (by decide) (by decide) (by decide) (by decide)
    obtain ⟨hv3, N3q, e3⟩ := hQ3
    rw [if_neg (hr2 hc2)] at hv3
    subst hv3
    refine own_go st3 ?_
    have N3 := Fr.app N1 N3q
    show own_Ends _ _ _ _ _ _ _ T3 (mkF m 30 #[.val (.int p0), .val (.int ((p0 &&& (2147483647 : Int32)) % (12 : Int32))), .val (.ref t), .val (.ref t)] [(.ref t)])
    refine own_go (fun t_ k_ => XS.aloadN X3.here hx rfl (hb hby at_30) rfl rfl  k_) ?_
    show own_Ends _ _ _ _ _ _ _ T3 (mkF m 31 #[.val (.int p0), .val (.int ((p0 &&& (2147483647 : Int32)) % (12 : Int32))), .val (.ref t), .val (.ref t)] [(.ref t), (.ref t)])
    refine own_go (fun t_ k_ => XT.acmpNo X3.here hx rfl (hb hby at_31) rfl rfl rfl (XT.aa_ne_f rfl) k_) ?_
    show own_Ends _ _ _ _ _ _ _ T3 (mkF m 34 #[.val (.int p0), .val (.int ((p0 &&& (2147483647 : Int32)) % (12 : Int32))), .val (.ref t), .val (.ref t)] [])
    refine own_go (fun t_ k_ => XS.iconst X3.here hx rfl (hb hby at_34) k_) ?_
    show own_Ends _ _ _ _ _ _ _ T3 (mkF m 35 #[.val (.int p0), .val (.int ((p0 &&& (2147483647 : Int32)) % (12 : Int32))), .val (.ref t), .val (.ref t)] [(.int (1 : Int32))])
    refine own_go (fun t_ k_ => XS.goto X3.here hx rfl (pc0 := 35) (pc' := 39) rfl (hb hby at_35) (by decide) (by decide) k_) ?_
    show own_Ends _ _ _ _ _ _ _ T3 (mkF m 39 #[.val (.int p0), .val (.int ((p0 &&& (2147483647 : Int32)) % (12 : Int32))), .val (.ref t), .val (.ref t)] [(.int (1 : Int32))])
    refine own_retN X3 hx hlk (t := .boolean) hret (by simp) (hb hby at_39) e3 (by decide) (by decide) ?_
    exact ⟨rfl, N3⟩
  · refine own_go (fun t_ k_ => XS.icmpNo X1.here hx rfl (hb hby at_15) rfl (flt hc2).2.2.1 k_) ?_
    show own_Ends _ _ _ _ _ _ _ T1 (mkF m 18 #[.val (.int p0), .val (.int ((p0 &&& (2147483647 : Int32)) % (12 : Int32))), .val (.ref t), .unset] [])
    obtain ⟨T4, X4, e4, st4⟩ := getS2 X1 hx hZ hown (host := "") (Or.inl (hw _ (List.mem_of_getElem? (i := 8) rfl))) Via.refl e1 S6 (g := (mkF m 18 #[.val (.int p0), .val (.int ((p0 &&& (2147483647 : Int32)) % (12 : Int32))), .val (.ref t), .unset] [])) rfl (hb hby at_18)
    refine own_go st4 ?_
    show own_Ends _ _ _ _ _ _ _ T4 (mkF m 21 #[.val (.int p0), .val (.int ((p0 &&& (2147483647 : Int32)) % (12 : Int32))), .val (.ref t), .unset] [(.ref w6)])
    refine own_go (fun t_ k_ => XS.goto X4.here hx rfl (pc0 := 21) (pc' := 25) rfl (hb hby at_21) (by decide) (by decide) k_) ?_
    show own_Ends _ _ _ _ _ _ _ T4 (mkF m 25 #[.val (.int p0), .val (.int ((p0 &&& (2147483647 : Int32)) % (12 : Int32))), .val (.ref t), .unset] [(.ref w6)])
    refine own_go (fun t_ k_ => XS.astoreN X4.here hx rfl (hb hby at_25) rfl rfl (l' := #[.val (.int p0), .val (.int ((p0 &&& (2147483647 : Int32)) % (12 : Int32))), .val (.ref t), .val (.ref w6)]) rfl k_) ?_
    show own_Ends _ _ _ _ _ _ _ T4 (mkF m 26 #[.val (.int p0), .val (.int ((p0 &&& (2147483647 : Int32)) % (12 : Int32))), .val (.ref t), .val (.ref w6)] [])
    refine own_go (fun t_ k_ => XS.aloadN X4.here hx rfl (hb hby at_26) rfl rfl  k_) ?_
    show own_Ends _ _ _ _ _ _ _ T4 (mkF m 27 #[.val (.int p0), .val (.int ((p0 &&& (2147483647 : Int32)) % (12 : Int32))), .val (.ref t), .val (.ref w6)] [(.ref t)])
    obtain ⟨T5, v5, L5, X5, hQ5, st5⟩ := own_callV X4 hx hZ (y := (⟨"com/example/ferret/ferret/model/IntegerType", "promoted", "()Lcom/example/ferret/ferret/model/IntegerType;"⟩ : MethodName)) (z := (⟨"com/example/ferret/ferret/model/IntegerType", "promoted", "()Lcom/example/ferret/ferret/model/IntegerType;"⟩ : MethodName)) hown (hw _ (List.mem_of_getElem? (i := 10) rfl)) (hw _ (List.mem_of_getElem? (i := 11) rfl)) (notFace_of_selects (args := #[]) (mvT hZ (hw _ (List.mem_of_getElem? (i := 13) rfl)))) (hw _ (List.mem_of_getElem? (i := 13) rfl)) (hw _ (List.mem_of_getElem? (i := 12) rfl)) (hw _ (List.mem_of_getElem? (i := 6) rfl)) (hw _ (List.mem_of_getElem? (i := 14) rfl)) (by decide) (rm2 l Z a0 hw [] t w6 r h0 n0 Z0 S6 Ft F6) e4 (g := (mkF m 27 #[.val (.int p0), .val (.int ((p0 &&& (2147483647 : Int32)) % (12 : Int32))), .val (.ref t), .val (.ref w6)] [(.ref t)])) rfl (by rw [hml]; rfl) t Et [] [] rfl (lenOf pd___Lcom_example_ferret_ferret_model_IntegerType_ rfl) rfl 0 (by show 2 * 0 + _ ≤ _; exact Nat.le_of_eq rfl) (hb hby at_27) (by decide) (by decide) (by decide) (by decide)
    obtain ⟨hv5, N5q, e5⟩ := hQ5
    rw [if_pos (hr1 hc2)] at hv5
    subst hv5
    refine own_go st5 ?_
    have N5 := Fr.app N1 N5q
    show own_Ends _ _ _ _ _ _ _ T5 (mkF m 30 #[.val (.int p0), .val (.int ((p0 &&& (2147483647 : Int32)) % (12 : Int32))), .val (.ref t), .val (.ref w6)] [(.ref w6)])
    refine own_go (fun t_ k_ => XS.aloadN X5.here hx rfl (hb hby at_30) rfl rfl  k_) ?_
    show own_Ends _ _ _ _ _ _ _ T5 (mkF m 31 #[.val (.int p0), .val (.int ((p0 &&& (2147483647 : Int32)) % (12 : Int32))), .val (.ref t), .val (.ref w6)] [(.ref w6), (.ref w6)])
    refine own_go (fun t_ k_ => XT.acmpNo X5.here hx rfl (hb hby at_31) rfl rfl rfl (XT.aa_ne_f rfl) k_) ?_
    show own_Ends _ _ _ _ _ _ _ T5 (mkF m 34 #[.val (.int p0), .val (.int ((p0 &&& (2147483647 : Int32)) % (12 : Int32))), .val (.ref t), .val (.ref w6)] [])
    refine own_go (fun t_ k_ => XS.iconst X5.here hx rfl (hb hby at_34) k_) ?_
    show own_Ends _ _ _ _ _ _ _ T5 (mkF m 35 #[.val (.int p0), .val (.int ((p0 &&& (2147483647 : Int32)) % (12 : Int32))), .val (.ref t), .val (.ref w6)] [(.int (1 : Int32))])
    refine own_go (fun t_ k_ => XS.goto X5.here hx rfl (pc0 := 35) (pc' := 39) rfl (hb hby at_35) (by decide) (by decide) k_) ?_
    show own_Ends _ _ _ _ _ _ _ T5 (mkF m 39 #[.val (.int p0), .val (.int ((p0 &&& (2147483647 : Int32)) % (12 : Int32))), .val (.ref t), .val (.ref w6)] [(.int (1 : Int32))])
    refine own_retN X5 hx hlk (t := .boolean) hret (by simp) (hb hby at_39) e5 (by decide) (by decide) ?_
    exact ⟨rfl, N5⟩
set_option maxRecDepth 65536 in
set_option maxHeartbeats 40000000 in
theorem comes_1 {Post : Tables → Env → Array Value → State → Outcome → State → Prop} (hpost : ∀ tb e args s v u, (limb_1_1.after args s (.returned v) u = true ∧ limb_1_2.after args s (.returned v) u = true ∧ True) → FrameEnd s (.returned v) u (Jvm.fieldLocs frame_1_writes args s ++ Jvm.arrayLocs frame_1_arrays args s ++ Jvm.staticLocs frame_1_statics s) 0 0 → Post tb e args s (.returned v) u) :
    ArmFor flags0 classFile x code maxLocals ret World_1 tables_1 room_1 Calls_1 rest_1 Pre_1 Post := by
  intro l hfl _ _ p e ha hc hk s m args below hf hA hF happ hP
  obtain ⟨hcalls, hrest, hpre⟩ := hP
  obtain ⟨-, -, -, hnamed, -, -, -, hat⟩ := (Spec.applies_iff hf).mp happ
  obtain ⟨hg, hn⟩ := and_e (Cond.before_iff.mp (show (Jvm.Cond.and given_1 narrow_1).before args s = true from hpre))
  obtain ⟨g1, g2⟩ := and_e hg
  obtain ⟨w0, rfl⟩ : ∃ w0 : Value, args = #[w0] := by
    have hs : args.size = 1 := by simpa [Cond.value, given_1] using g1
    obtain ⟨L⟩ := args
    match L, hs with
    | [w0], _ => exact ⟨w0, rfl⟩
  have hw := fun d (hd : d ∈ tables_1) => atoms_spec (ws := Jvm.Cond.code x code maxLocals ret :: tables_1) hat d (List.mem_cons_of_mem _ hd)
  have hfit : Fit s := fun {y c} hc i hi => by
    obtain ⟨ha, rfl⟩ := Array.getElem?_eq_some_iff.mp hc
    have q := List.all_eq_true.mp ((Array.all_eq_true_iff_forall_mem.mp hF) _ (Array.getElem_mem ha)) i (List.mem_range.mpr hi)
    simpa [Array.getElem?_eq_getElem hi] using q
  obtain ⟨i0, ei0⟩ := is_v g2
  obtain rfl : w0 = (.int i0) := Option.some.inj ei0
  unfold narrow_1 at hn
  obtain ⟨g3, g4⟩ := and_e hn
  obtain ⟨g5, g6⟩ := and_e g4
  obtain ⟨g7, g8⟩ := and_e g6
  obtain ⟨g9, g10⟩ := and_e g8
  obtain ⟨g11, g12⟩ := and_e g10
  obtain ⟨g13, g14⟩ := and_e g12
  obtain ⟨g15, g16⟩ := and_e g14
  obtain ⟨g17, g18⟩ := and_e g16
  obtain ⟨g19, g20⟩ := and_e g18
  obtain ⟨g21, g22⟩ := and_e g20
  obtain ⟨g23, g24⟩ := and_e g22
  obtain ⟨g25, g26⟩ := and_e g24
  obtain ⟨g27, g28⟩ := and_e g26
  obtain ⟨g29, g30⟩ := and_e g28
  obtain ⟨g31, g32⟩ := and_e g30
  obtain ⟨g33, g34⟩ := and_e g32
  obtain ⟨g35, g36⟩ := and_e g34
  obtain ⟨g37, g38⟩ := and_e g36
  obtain ⟨g39, g40⟩ := and_e g38
  obtain ⟨g41, g42⟩ := and_e g40
  obtain ⟨g43, g44⟩ := and_e g42
  obtain ⟨g45, g46⟩ := and_e g44
  obtain ⟨g47, g48⟩ := and_e g46
  obtain ⟨a_BOOL, ev_BOOL⟩ := exa_v g3
  have E_BOOL := Exa.start ev_BOOL g3
  have S_BOOL := Sta.start ev_BOOL (Or.inr ⟨(hw _ (List.mem_of_getElem? (i := 6) rfl)), (hw _ (List.mem_of_getElem? (i := 7) rfl))⟩)
  obtain ⟨a_INT, ev_INT⟩ := exa_v g5
  have E_INT := Exa.start ev_INT g5
  have S_INT := Sta.start ev_INT (Or.inr ⟨(hw _ (List.mem_of_getElem? (i := 6) rfl)), (hw _ (List.mem_of_getElem? (i := 9) rfl))⟩)
  have F_BOOL_rank := own_fldI ev_BOOL g7
  have F_INT_rank := own_fldI ev_INT g9
  obtain ⟨a_UNSIGNED_CHAR, ev_UNSIGNED_CHAR⟩ := exa_v g11
  have E_UNSIGNED_CHAR := Exa.start ev_UNSIGNED_CHAR g11
  have S_UNSIGNED_CHAR := Sta.start ev_UNSIGNED_CHAR (Or.inr ⟨(hw _ (List.mem_of_getElem? (i := 6) rfl)), (hw _ (List.mem_of_getElem? (i := 19) rfl))⟩)
  have F_UNSIGNED_CHAR_rank := own_fldI ev_UNSIGNED_CHAR g13
  obtain ⟨a_SIGNED_CHAR, ev_SIGNED_CHAR⟩ := exa_v g15
  have E_SIGNED_CHAR := Exa.start ev_SIGNED_CHAR g15
  have S_SIGNED_CHAR := Sta.start ev_SIGNED_CHAR (Or.inr ⟨(hw _ (List.mem_of_getElem? (i := 6) rfl)), (hw _ (List.mem_of_getElem? (i := 21) rfl))⟩)
  have F_SIGNED_CHAR_rank := own_fldI ev_SIGNED_CHAR g17
  obtain ⟨a_UNSIGNED_INT, ev_UNSIGNED_INT⟩ := exa_v g19
  have E_UNSIGNED_INT := Exa.start ev_UNSIGNED_INT g19
  have S_UNSIGNED_INT := Sta.start ev_UNSIGNED_INT (Or.inr ⟨(hw _ (List.mem_of_getElem? (i := 6) rfl)), (hw _ (List.mem_of_getElem? (i := 23) rfl))⟩)
  have F_UNSIGNED_INT_rank := own_fldI ev_UNSIGNED_INT g21
  obtain ⟨a_UNSIGNED_LONG_LONG, ev_UNSIGNED_LONG_LONG⟩ := exa_v g23
  have E_UNSIGNED_LONG_LONG := Exa.start ev_UNSIGNED_LONG_LONG g23
  have S_UNSIGNED_LONG_LONG := Sta.start ev_UNSIGNED_LONG_LONG (Or.inr ⟨(hw _ (List.mem_of_getElem? (i := 6) rfl)), (hw _ (List.mem_of_getElem? (i := 25) rfl))⟩)
  have F_UNSIGNED_LONG_LONG_rank := own_fldI ev_UNSIGNED_LONG_LONG g25
  obtain ⟨a_SHORT, ev_SHORT⟩ := exa_v g27
  have E_SHORT := Exa.start ev_SHORT g27
  have S_SHORT := Sta.start ev_SHORT (Or.inr ⟨(hw _ (List.mem_of_getElem? (i := 6) rfl)), (hw _ (List.mem_of_getElem? (i := 27) rfl))⟩)
  have F_SHORT_rank := own_fldI ev_SHORT g29
  obtain ⟨a_LONG, ev_LONG⟩ := exa_v g31
  have E_LONG := Exa.start ev_LONG g31
  have S_LONG := Sta.start ev_LONG (Or.inr ⟨(hw _ (List.mem_of_getElem? (i := 6) rfl)), (hw _ (List.mem_of_getElem? (i := 29) rfl))⟩)
  have F_LONG_rank := own_fldI ev_LONG g33
  obtain ⟨a_CHAR, ev_CHAR⟩ := exa_v g35
  have E_CHAR := Exa.start ev_CHAR g35
  have S_CHAR := Sta.start ev_CHAR (Or.inr ⟨(hw _ (List.mem_of_getElem? (i := 6) rfl)), (hw _ (List.mem_of_getElem? (i := 31) rfl))⟩)
  have F_CHAR_rank := own_fldI ev_CHAR g37
  obtain ⟨a_LONG_LONG, ev_LONG_LONG⟩ := exa_v g39
  have E_LONG_LONG := Exa.start ev_LONG_LONG g39
  have S_LONG_LONG := Sta.start ev_LONG_LONG (Or.inr ⟨(hw _ (List.mem_of_getElem? (i := 6) rfl)), (hw _ (List.mem_of_getElem? (i := 33) rfl))⟩)
  have F_LONG_LONG_rank := own_fldI ev_LONG_LONG g41
  obtain ⟨a_UNSIGNED_LONG, ev_UNSIGNED_LONG⟩ := exa_v g43
  have E_UNSIGNED_LONG := Exa.start ev_UNSIGNED_LONG g43
  have S_UNSIGNED_LONG := Sta.start ev_UNSIGNED_LONG (Or.inr ⟨(hw _ (List.mem_of_getElem? (i := 6) rfl)), (hw _ (List.mem_of_getElem? (i := 35) rfl))⟩)
  have F_UNSIGNED_LONG_rank := own_fldI ev_UNSIGNED_LONG g45
  obtain ⟨a_UNSIGNED_SHORT, ev_UNSIGNED_SHORT⟩ := exa_v g47
  have E_UNSIGNED_SHORT := Exa.start ev_UNSIGNED_SHORT g47
  have S_UNSIGNED_SHORT := Sta.start ev_UNSIGNED_SHORT (Or.inr ⟨(hw _ (List.mem_of_getElem? (i := 6) rfl)), (hw _ (List.mem_of_getElem? (i := 37) rfl))⟩)
  have F_UNSIGNED_SHORT_rank := own_fldI ev_UNSIGNED_SHORT g48
  obtain ⟨n, o, h1, h2, h3, _, L, rfl, ⟨rfl, N⟩, hq⟩ := rm0 l s _ hw tables_1 i0 a_BOOL a_CHAR a_SIGNED_CHAR a_UNSIGNED_CHAR a_SHORT a_UNSIGNED_SHORT a_INT a_UNSIGNED_INT a_LONG a_UNSIGNED_LONG a_LONG_LONG a_UNSIGNED_LONG_LONG s.heap s.heap.size (Nat.le_refl _) S_BOOL S_CHAR S_SIGNED_CHAR S_UNSIGNED_CHAR S_SHORT S_UNSIGNED_SHORT S_INT S_UNSIGNED_INT S_LONG S_UNSIGNED_LONG S_LONG_LONG S_UNSIGNED_LONG_LONG E_BOOL E_CHAR E_SIGNED_CHAR E_UNSIGNED_CHAR E_SHORT E_UNSIGNED_SHORT E_INT E_UNSIGNED_INT E_LONG E_UNSIGNED_LONG E_LONG_LONG E_UNSIGNED_LONG_LONG F_BOOL_rank F_CHAR_rank F_SIGNED_CHAR_rank F_UNSIGNED_CHAR_rank F_SHORT_rank F_UNSIGNED_SHORT_rank F_INT_rank F_UNSIGNED_INT_rank F_LONG_rank F_UNSIGNED_LONG_rank F_LONG_LONG_rank F_UNSIGNED_LONG_LONG_rank p e ha hc hk s m _ below hf ((Spec.applies_iff_loose hf).mp happ).1 ⟨rfl, State.Warmed39.refl s, rfl⟩ trivial
  refine ⟨n, _, h1, h2, h3, hpost _ _ _ _ _ _ ⟨Cond.after_iff.mpr rfl, Cond.after_iff.mpr (eq_i res_at (Term.int_eval (1)) rfl), trivial⟩ ⟨hq.1, hq.2.1, (hq.2.2.sift fun y hy => Or.inr (N y hy)).mono (by decide) (by decide)⟩⟩
theorem main_1_1 : Claimed_1_1 := comes_1 fun _ _ _ _ _ _ h hF => ⟨h.1, hF⟩
theorem main_1_2 : Claimed_1_2 := comes_1 fun _ _ _ _ _ _ h hF => ⟨h.2.1, hF⟩
end Jvm.Pilot.@@N@@
namespace Jvm.Pilot.@@N@@
open Jvm Jvm.ClassFile Sem Op Lib Jvm.Free Jvm.Stand Jvm.Pilot.@@N@@.Jvm.D
/-! MADE BY PROGRAM (witnessworld.py) out of the Statement's table words and the real class files: 13 classes; the members and pool entries that the words name. The judged class is class 1, her method 2. -/
namespace start1
open Jvm.ClassFile
def u (s : String) : CpInfo := .utf8 (stringToUtf16 s)
/-- a pool by its gaps: so many unusable entries, then the entry; so many at the end -/
def gap : Nat → List CpInfo → List CpInfo
  | 0, r => r
  | n + 1, r => .unusable :: gap n r
def poolList (es : List (Nat × CpInfo)) (last : Nat) : List CpInfo := es.foldr (fun e r => gap e.1 (e.2 :: r)) (gap last [])
def pool (es : List (Nat × CpInfo)) (last : Nat) : Array CpInfo := ⟨poolList es last⟩
def fileOf (pool : Array CpInfo) (this : Nat) (attrs : Array Attribute := #[]) (ms : Array MethodInfo := #[]) (fl : Nat := 33) (sup : Nat := 0) (ifs : Array Nat := #[]) (fds : Array FieldInfo := #[]) : ClassFile where
  minorVersion := 0
  majorVersion := 65
  constantPool := pool
  accessFlags := fl
  thisClass := this
  superClass := sup
  interfaces := ifs
  fields := fds
  methods := ms
  attributes := attrs
def plain (name : String) (sup : Option ClassId) : Class where
  name := name
  kind := .ordinary
  loader := none
  accessFlags := 33
  super := sup
  interfaces := #[]
  cf := none
  fields := #[]
  methods := #[]
  instanceTypes := #[]
  staticTypes := #[]
  resolved := #[]
  callSites := []
  init := .initialized
  statics := none
  mirror := none

def pool0 : Array CpInfo := pool [(5, u "<init>"), (0, u "()V"), (1, .class_ 10), (1, u "java/lang/Object")] 113

def k0m0 : Method := { name := "<init>", desc := "()V", sig := { parameters := [], returnType := none }, accessFlags := 1, code := none }
/-- java/lang/Object -/
def k0 : Class := { plain "java/lang/Object" none with
  accessFlags := 33
  interfaces := #[]
  cf := some (fileOf pool0 8 #[] #[{ accessFlags := 1, nameIndex := 5, descriptorIndex := 6, attributes := #[] }] 33 0 #[] #[])
  fields := #[]
  methods := #[k0m0]
  instanceTypes := #[]
  staticTypes := #[]
  resolved := Array.replicate 124 none
  statics := none }

def pool1 : Array CpInfo := pool [(2, .class_ 4), (1, u "java/lang/Object"), (0, u "<init>"), (0, u "()V"), (0, .fieldref 8 9), (0, .class_ 10), (0, .nameAndType 11 12), (0, u "com/example/ferret/ferret/model/IntegerType"), (0, u "BOOL"), (0, u "Lcom/example/ferret/ferret/model/IntegerType;"), (0, .fieldref 8 14), (0, .nameAndType 15 12), (0, u "CHAR"), (0, .fieldref 8 17), (0, .nameAndType 18 12), (0, u "SIGNED_CHAR"), (0, .fieldref 8 20), (0, .nameAndType 21 12), (0, u "UNSIGNED_CHAR"), (0, .fieldref 8 23), (0, .nameAndType 24 12), (0, u "SHORT"), (0, .fieldref 8 26), (0, .nameAndType 27 12), (0, u "UNSIGNED_SHORT"), (0, .fieldref 8 29), (0, .nameAndType 30 12), (0, u "INT"), (0, .fieldref 8 32), (0, .nameAndType 33 12), (0, u "UNSIGNED_INT"), (0, .fieldref 8 35), (0, .nameAndType 36 12), (0, u "LONG"), (0, .fieldref 8 38), (0, .nameAndType 39 12), (0, u "UNSIGNED_LONG"), (0, .fieldref 8 41), (0, .nameAndType 42 12), (0, u "LONG_LONG"), (0, .fieldref 8 44), (0, .nameAndType 45 12), (0, u "UNSIGNED_LONG_LONG"), (0, .integer 2147483647), (0, .methodref 48 49), (0, .class_ 50), (0, .nameAndType 51 52), (0, u "com/example/ferret/ferret/model/IntegerTypePromotedPinLaw"), (0, u "pick"), (0, u "(I)Lcom/example/ferret/ferret/model/IntegerType;"), (0, .methodref 8 54), (0, .nameAndType 55 56), (0, u "promoted"), (0, u "()Lcom/example/ferret/ferret/model/IntegerType;"), (3, u "law"), (0, u "(I)Z")] 2

def k1m0 : Method := { name := "<init>", desc := "()V", sig := { parameters := [], returnType := none }, accessFlags := 1, code := none }
def k1c1 : Code := { maxStack := 2, maxLocals := 1, code := method_2_code, exceptionTable := #[], attributes := #[] }
def k1m1 : Method := { name := "pick", desc := "(I)Lcom/example/ferret/ferret/model/IntegerType;", sig := { parameters := [.int], returnType := some (.object "com/example/ferret/ferret/model/IntegerType") }, accessFlags := 10, code := some k1c1 }
def k1c2 : Code := { maxStack := 2, maxLocals := 4, code := code, exceptionTable := #[], attributes := #[] }
def k1m2 : Method := { name := "law", desc := "(I)Z", sig := { parameters := [.int], returnType := some .boolean }, accessFlags := 9, code := some k1c2 }
/-- com/example/ferret/ferret/model/IntegerTypePromotedPinLaw -/
def k1 : Class := { plain "com/example/ferret/ferret/model/IntegerTypePromotedPinLaw" (some 0) with
  accessFlags := 49
  interfaces := #[]
  cf := some (fileOf pool1 48 #[] #[{ accessFlags := 1, nameIndex := 5, descriptorIndex := 6, attributes := #[] }, { accessFlags := 10, nameIndex := 51, descriptorIndex := 52, attributes := #[] }, { accessFlags := 9, nameIndex := 60, descriptorIndex := 61, attributes := #[] }] 49 2 #[] #[])
  fields := #[]
  methods := #[k1m0, k1m1, k1m2]
  instanceTypes := #[]
  staticTypes := #[]
  resolved := Array.replicate 64 none
  statics := none }

def pool2 : Array CpInfo := pool [(1, .class_ 2), (0, u "java/lang/constant/Constable"), (0, .class_ 4), (0, u "java/lang/Object")] 6

/-- java/lang/constant/Constable -/
def k2 : Class := { plain "java/lang/constant/Constable" (some 0) with
  accessFlags := 1537
  interfaces := #[]
  cf := some (fileOf pool2 1 #[] #[] 1537 3 #[] #[])
  fields := #[]
  methods := #[]
  instanceTypes := #[]
  staticTypes := #[]
  resolved := Array.replicate 11 none
  statics := none }

def pool3 : Array CpInfo := pool [(1, .class_ 2), (0, u "java/lang/Comparable"), (0, .class_ 4), (0, u "java/lang/Object")] 7

/-- java/lang/Comparable -/
def k3 : Class := { plain "java/lang/Comparable" (some 0) with
  accessFlags := 1537
  interfaces := #[]
  cf := some (fileOf pool3 1 #[] #[] 1537 3 #[] #[])
  fields := #[]
  methods := #[]
  instanceTypes := #[]
  staticTypes := #[]
  resolved := Array.replicate 12 none
  statics := none }

def pool4 : Array CpInfo := pool [(1, .class_ 2), (0, u "java/io/Serializable"), (0, .class_ 4), (0, u "java/lang/Object")] 2

/-- java/io/Serializable -/
def k4 : Class := { plain "java/io/Serializable" (some 0) with
  accessFlags := 1537
  interfaces := #[]
  cf := some (fileOf pool4 1 #[] #[] 1537 3 #[] #[])
  fields := #[]
  methods := #[]
  instanceTypes := #[]
  staticTypes := #[]
  resolved := Array.replicate 7 none
  statics := none }

def pool5 : Array CpInfo := pool [(2, .class_ 4), (1, u "java/lang/Enum"), (0, u "name"), (0, u "Ljava/lang/String;"), (2, u "ordinal"), (0, u "I"), (1, .class_ 14), (1, u "java/lang/Object"), (4, u "hash"), (86, .class_ 108), (1, u "java/lang/Enum$EnumDesc"), (2, .class_ 112), (0, u "java/lang/constant/Constable"), (0, .class_ 114), (0, u "java/lang/Comparable"), (0, .class_ 116), (0, u "java/io/Serializable")] 87

/-- java/lang/Enum -/
def k5 : Class := { plain "java/lang/Enum" (some 0) with
  accessFlags := 1057
  interfaces := #[2, 3, 4]
  cf := some (fileOf pool5 2 #[.nestMembers #[106]] #[] 1057 12 #[111, 113, 115] #[{ accessFlags := 18, nameIndex := 5, descriptorIndex := 6, attributes := #[] }, { accessFlags := 18, nameIndex := 9, descriptorIndex := 10, attributes := #[] }, { accessFlags := 2, nameIndex := 19, descriptorIndex := 10, attributes := #[] }])
  fields := #[{ name := "name", type := (.object "java/lang/String"), accessFlags := 18, slot := 0, constantValue := 0 }, { name := "ordinal", type := .int, accessFlags := 18, slot := 1, constantValue := 0 }, { name := "hash", type := .int, accessFlags := 2, slot := 2, constantValue := 0 }]
  methods := #[]
  instanceTypes := #[(.object "java/lang/String"), .int, .int]
  staticTypes := #[]
  resolved := Array.replicate 204 none
  statics := none }

def pool6 : Array CpInfo := pool [(1, .class_ 2), (0, u "com/example/ferret/ferret/model/ScalarType$Pointer"), (5, .class_ 10), (1, u "com/example/ferret/ferret/model/ScalarType"), (0, u "POINTER"), (0, u "Lcom/example/ferret/ferret/model/ScalarType$Pointer;"), (0, .class_ 14), (0, u "java/lang/Object")] 11

/-- com/example/ferret/ferret/model/ScalarType -/
def k6 : Class := { plain "com/example/ferret/ferret/model/ScalarType" (some 0) with
  accessFlags := 1537
  interfaces := #[]
  cf := some (fileOf pool6 8 #[.nestMembers #[1]] #[] 1537 13 #[] #[{ accessFlags := 25, nameIndex := 11, descriptorIndex := 12, attributes := #[] }])
  fields := #[{ name := "POINTER", type := (.object "com/example/ferret/ferret/model/ScalarType$Pointer"), accessFlags := 25, slot := 0, constantValue := 0 }]
  methods := #[]
  instanceTypes := #[]
  staticTypes := #[(.object "com/example/ferret/ferret/model/ScalarType$Pointer")]
  resolved := Array.replicate 26 none
  statics := none }

def pool7 : Array CpInfo := pool [(1, .class_ 2), (0, u "com/example/ferret/ferret/model/IntegerType"), (2, u "BOOL"), (0, u "Lcom/example/ferret/ferret/model/IntegerType;"), (2, u "CHAR"), (2, u "SIGNED_CHAR"), (2, u "UNSIGNED_CHAR"), (2, u "SHORT"), (2, u "UNSIGNED_SHORT"), (0, .fieldref 1 23), (0, .nameAndType 24 6), (0, u "INT"), (2, u "UNSIGNED_INT"), (2, u "LONG"), (2, u "UNSIGNED_LONG"), (2, u "LONG_LONG"), (2, u "UNSIGNED_LONG_LONG"), (2, u "$VALUES"), (0, u "[Lcom/example/ferret/ferret/model/IntegerType;"), (6, .class_ 52), (1, u "java/lang/Enum"), (9, .fieldref 1 63), (0, .nameAndType 64 65), (0, u "rank"), (0, u "I"), (2, u "bits"), (5, u "Ljava/math/BigInteger;"), (6, u "modulus"), (12, u "min"), (6, u "max"), (6, u "promoted"), (0, u "()Lcom/example/ferret/ferret/model/IntegerType;"), (62, .class_ 173), (0, u "com/example/ferret/ferret/model/ScalarType")] 40

def k7c0 : Code := { maxStack := 2, maxLocals := 1, code := prog_148_method_9_code, exceptionTable := #[], attributes := #[] }
def k7m0 : Method := { name := "promoted", desc := "()Lcom/example/ferret/ferret/model/IntegerType;", sig := { parameters := [], returnType := some (.object "com/example/ferret/ferret/model/IntegerType") }, accessFlags := 1, code := some k7c0 }
/-- com/example/ferret/ferret/model/IntegerType -/
def k7 : Class := { plain "com/example/ferret/ferret/model/IntegerType" (some 5) with
  accessFlags := 16433
  interfaces := #[6]
  cf := some (fileOf pool7 1 #[] #[{ accessFlags := 1, nameIndex := 108, descriptorIndex := 109, attributes := #[] }] 16433 50 #[172] #[{ accessFlags := 16409, nameIndex := 5, descriptorIndex := 6, attributes := #[] }, { accessFlags := 16409, nameIndex := 9, descriptorIndex := 6, attributes := #[] }, { accessFlags := 16409, nameIndex := 12, descriptorIndex := 6, attributes := #[] }, { accessFlags := 16409, nameIndex := 15, descriptorIndex := 6, attributes := #[] }, { accessFlags := 16409, nameIndex := 18, descriptorIndex := 6, attributes := #[] }, { accessFlags := 16409, nameIndex := 21, descriptorIndex := 6, attributes := #[] }, { accessFlags := 16409, nameIndex := 24, descriptorIndex := 6, attributes := #[] }, { accessFlags := 16409, nameIndex := 27, descriptorIndex := 6, attributes := #[] }, { accessFlags := 16409, nameIndex := 30, descriptorIndex := 6, attributes := #[] }, { accessFlags := 16409, nameIndex := 33, descriptorIndex := 6, attributes := #[] }, { accessFlags := 16409, nameIndex := 36, descriptorIndex := 6, attributes := #[] }, { accessFlags := 16409, nameIndex := 39, descriptorIndex := 6, attributes := #[] }, { accessFlags := 18, nameIndex := 64, descriptorIndex := 65, attributes := #[] }, { accessFlags := 18, nameIndex := 68, descriptorIndex := 65, attributes := #[] }, { accessFlags := 18, nameIndex := 81, descriptorIndex := 74, attributes := #[] }, { accessFlags := 18, nameIndex := 94, descriptorIndex := 74, attributes := #[] }, { accessFlags := 18, nameIndex := 101, descriptorIndex := 74, attributes := #[] }, { accessFlags := 4122, nameIndex := 42, descriptorIndex := 43, attributes := #[] }])
  fields := #[{ name := "BOOL", type := (.object "com/example/ferret/ferret/model/IntegerType"), accessFlags := 16409, slot := 0, constantValue := 0 }, { name := "CHAR", type := (.object "com/example/ferret/ferret/model/IntegerType"), accessFlags := 16409, slot := 1, constantValue := 0 }, { name := "SIGNED_CHAR", type := (.object "com/example/ferret/ferret/model/IntegerType"), accessFlags := 16409, slot := 2, constantValue := 0 }, { name := "UNSIGNED_CHAR", type := (.object "com/example/ferret/ferret/model/IntegerType"), accessFlags := 16409, slot := 3, constantValue := 0 }, { name := "SHORT", type := (.object "com/example/ferret/ferret/model/IntegerType"), accessFlags := 16409, slot := 4, constantValue := 0 }, { name := "UNSIGNED_SHORT", type := (.object "com/example/ferret/ferret/model/IntegerType"), accessFlags := 16409, slot := 5, constantValue := 0 }, { name := "INT", type := (.object "com/example/ferret/ferret/model/IntegerType"), accessFlags := 16409, slot := 6, constantValue := 0 }, { name := "UNSIGNED_INT", type := (.object "com/example/ferret/ferret/model/IntegerType"), accessFlags := 16409, slot := 7, constantValue := 0 }, { name := "LONG", type := (.object "com/example/ferret/ferret/model/IntegerType"), accessFlags := 16409, slot := 8, constantValue := 0 }, { name := "UNSIGNED_LONG", type := (.object "com/example/ferret/ferret/model/IntegerType"), accessFlags := 16409, slot := 9, constantValue := 0 }, { name := "LONG_LONG", type := (.object "com/example/ferret/ferret/model/IntegerType"), accessFlags := 16409, slot := 10, constantValue := 0 }, { name := "UNSIGNED_LONG_LONG", type := (.object "com/example/ferret/ferret/model/IntegerType"), accessFlags := 16409, slot := 11, constantValue := 0 }, { name := "rank", type := .int, accessFlags := 18, slot := 3, constantValue := 0 }, { name := "bits", type := .int, accessFlags := 18, slot := 4, constantValue := 0 }, { name := "modulus", type := (.object "java/math/BigInteger"), accessFlags := 18, slot := 5, constantValue := 0 }, { name := "min", type := (.object "java/math/BigInteger"), accessFlags := 18, slot := 6, constantValue := 0 }, { name := "max", type := (.object "java/math/BigInteger"), accessFlags := 18, slot := 7, constantValue := 0 }, { name := "$VALUES", type := (.array (.object "com/example/ferret/ferret/model/IntegerType")), accessFlags := 4122, slot := 12, constantValue := 0 }]
  methods := #[k7m0]
  instanceTypes := #[(.object "java/lang/String"), .int, .int, .int, .int, (.object "java/math/BigInteger"), (.object "java/math/BigInteger"), (.object "java/math/BigInteger")]
  staticTypes := #[(.object "com/example/ferret/ferret/model/IntegerType"), (.object "com/example/ferret/ferret/model/IntegerType"), (.object "com/example/ferret/ferret/model/IntegerType"), (.object "com/example/ferret/ferret/model/IntegerType"), (.object "com/example/ferret/ferret/model/IntegerType"), (.object "com/example/ferret/ferret/model/IntegerType"), (.object "com/example/ferret/ferret/model/IntegerType"), (.object "com/example/ferret/ferret/model/IntegerType"), (.object "com/example/ferret/ferret/model/IntegerType"), (.object "com/example/ferret/ferret/model/IntegerType"), (.object "com/example/ferret/ferret/model/IntegerType"), (.object "com/example/ferret/ferret/model/IntegerType"), (.array (.object "com/example/ferret/ferret/model/IntegerType"))]
  resolved := Array.replicate 214 none
  statics := some 0 }

def pool8 : Array CpInfo := pool [(1, u "java/lang/Cloneable"), (0, .class_ 1), (0, u "java/lang/Object"), (0, .class_ 3)] 3

/-- java/lang/Cloneable -/
def k8 : Class := { plain "java/lang/Cloneable" (some 0) with
  accessFlags := 1537
  interfaces := #[]
  cf := some (fileOf pool8 2 #[] #[] 1537 4 #[] #[])
  fields := #[]
  methods := #[]
  instanceTypes := #[]
  staticTypes := #[]
  resolved := Array.replicate 8 none
  statics := none }

/-- the primitive byte -/
def k9 : Class := { plain "byte" none with kind := .primitive 'B', accessFlags := 0x411 }
/-- [B -/
def k10 : Class := { plain "[B" (some 0) with kind := .array 9 .byte, interfaces := #[8, 4], accessFlags := 1041 }

/-- the primitive int -/
def k11 : Class := { plain "int" none with kind := .primitive 'I', accessFlags := 0x411 }
/-- [I -/
def k12 : Class := { plain "[I" (some 0) with kind := .array 11 .int, interfaces := #[8, 4], accessFlags := 1041 }

def heap : Heap := #[{ cls := 7, slots := #[.ref 1, .ref 2, .ref 3, .ref 4, .ref 5, .ref 6, .ref 7, .ref 8, .ref 9, .ref 10, .ref 11, .ref 12, .null], vm := .statics 7 },
  { cls := 7, slots := #[.null, .int 0, .int 0, .int 0, .int 0, .null, .null, .null], vm := .none },
  { cls := 7, slots := #[.null, .int 0, .int 0, .int 1, .int 0, .null, .null, .null], vm := .none },
  { cls := 7, slots := #[.null, .int 0, .int 0, .int 1, .int 0, .null, .null, .null], vm := .none },
  { cls := 7, slots := #[.null, .int 0, .int 0, .int 1, .int 0, .null, .null, .null], vm := .none },
  { cls := 7, slots := #[.null, .int 0, .int 0, .int 2, .int 0, .null, .null, .null], vm := .none },
  { cls := 7, slots := #[.null, .int 0, .int 0, .int 2, .int 0, .null, .null, .null], vm := .none },
  { cls := 7, slots := #[.null, .int 0, .int 0, .int 3, .int 0, .null, .null, .null], vm := .none },
  { cls := 7, slots := #[.null, .int 0, .int 0, .int 3, .int 0, .null, .null, .null], vm := .none },
  { cls := 7, slots := #[.null, .int 0, .int 0, .int 4, .int 0, .null, .null, .null], vm := .none },
  { cls := 7, slots := #[.null, .int 0, .int 0, .int 4, .int 0, .null, .null, .null], vm := .none },
  { cls := 7, slots := #[.null, .int 0, .int 0, .int 5, .int 0, .null, .null, .null], vm := .none },
  { cls := 7, slots := #[.null, .int 0, .int 0, .int 5, .int 0, .null, .null, .null], vm := .none }]
def classes : Array Class := #[k0, k1, k2, k3, k4, k5, k6, k7, k8, k9, k10, k11, k12]
def interned : List (Array UInt16 × Addr) := []
def slotsUsed : Nat := 109
def theMethod : MethodId := ⟨1, 2⟩
def args0 : Array Value := #[.int 5]
def aboutOver (below : List Frame) : State where
  vm := { classes := classes, interned := interned.toArray }
  heap := heap
  slotsUsed := slotsUsed
  threads := #[{ frames := .invoking theMethod args0 :: below }]
def below0 : List Frame := [.native { method := ⟨0, 0⟩, args := #[] }]
def about1 : State := aboutOver below0
def p0 : Program := .bare "" "" ""
def e0 : Env := launch0.env 0 0 0
theorem w_frames : about1.frames = Frame.invoking theMethod args0 :: below0 := rfl
set_option maxRecDepth 65536 in
theorem w_args : argsFit about1.vm theMethod args0 = true := by decide +kernel
set_option maxRecDepth 65536 in
theorem w_heap : heapFits about1 = true := by decide +kernel
set_option maxRecDepth 65536 in
theorem w_runnable : about1.curStatus? = some .runnable := by decide +kernel
set_option maxRecDepth 65536 in
theorem w_alone : about1.alone = true := by decide +kernel
set_option maxRecDepth 65536 in
theorem w_named : about1.methodNamed? x = some theMethod := by decide +kernel
set_option maxRecDepth 65536 in
theorem w_hears : about1.hears theMethod below0 = true := by decide +kernel
set_option maxRecDepth 65536 in
theorem w_ripe : about1.ripe theMethod args0 below0 = true := by decide +kernel
theorem w_running : about1.status = .running := rfl
set_option maxRecDepth 65536 in
theorem w_room : about1.hasRoom e0.platform room_1 = true :=
  launch0.hasRoom_least _ room_1 (by decide +kernel) (by decide +kernel) (by decide +kernel) (by decide +kernel) (by decide +kernel) (by decide +kernel)
theorem allAtoms_all (ts : List Jvm.Cond) (a : Array Jvm.Value) (st : Jvm.State) : (allAtoms ts).before a st = ts.all (fun c => c.before a st) := by
  induction ts with
  | nil => rfl
  | cons c t ih =>
    show (Jvm.Cond.and c (allAtoms t)).before a st = _
    rw [Jvm.Cond.before_and, ih, List.all_cons]
def words1 : List Jvm.Cond := Jvm.Cond.code x code maxLocals ret :: tables_1
/-- a 'code' word, met by the world's own term for the bytes: nothing is compared byte by byte -/
theorem code_word {y : MethodName} {bytes : ByteArray} {mx : Nat} {rt : Option FieldType} {a : Array Value} {s : State} {m : MethodId} {meth : Method} {c : Code} (h1 : s.methodNamed? y = some m) (h2 : s.vm.method? m = some meth) (h3 : meth.code = some c) (h4 : c.code = bytes)
    (h5 : (c.maxLocals == mx && c.exceptionTable.isEmpty && decide (c.maxStack ≤ mostOperands) && decide (meth.sig.returnType = rt) && !meth.locks && decide (parseMethodDescriptor y.desc = some meth.sig)) = true) : (Jvm.Cond.code y bytes mx rt).before a s = true := by
  simp only [Bool.and_eq_true, beq_iff_eq, Bool.not_eq_true', decide_eq_true_eq] at h5
  obtain ⟨⟨⟨⟨⟨g1, g2⟩, g3⟩, g4⟩, g5⟩, g6⟩ := h5
  simp [Cond.before, Cond.holds, Cond.value, h1, h2, h3, h4, g1, g2, g3, g4, g5, g6]
def isCode : Jvm.Cond → Bool
  | .code _ _ _ _ => true
  | _ => false
theorem all_split {L : List Jvm.Cond} {P : Jvm.Cond → Bool} (h1 : L.all (fun c => isCode c || P c) = true) (h2 : ∀ c ∈ L.filter isCode, P c = true) : L.all P = true := by
  refine List.all_eq_true.mpr fun c hc => ?_
  have h := List.all_eq_true.mp h1 c hc
  rcases Bool.eq_false_or_eq_true (isCode c) with hi | hi
  · exact h2 c (List.mem_filter.mpr ⟨hc, hi⟩)
  · simpa [hi] using h
set_option maxRecDepth 65536 in
theorem w_c0 : (Jvm.Cond.code x code maxLocals ret).before args0 about1 = true := code_word (m := ⟨1, 2⟩) (meth := k1m2) (c := k1c2) (by decide +kernel) rfl rfl rfl (by decide +kernel)
set_option maxRecDepth 65536 in
theorem w_c1 : (Jvm.Cond.code ({ cls := "com/example/ferret/ferret/model/IntegerTypePromotedPinLaw", name := "pick", desc := "(I)Lcom/example/ferret/ferret/model/IntegerType;" } : Jvm.MethodName) method_2_code (1 : Nat) (Option.some (Jvm.ClassFile.FieldType.object "com/example/ferret/ferret/model/IntegerType"))).before args0 about1 = true := code_word (m := ⟨1, 1⟩) (meth := k1m1) (c := k1c1) (by decide +kernel) rfl rfl rfl (by decide +kernel)
set_option maxRecDepth 65536 in
theorem w_c2 : (Jvm.Cond.code ({ cls := "com/example/ferret/ferret/model/IntegerType", name := "promoted", desc := "()Lcom/example/ferret/ferret/model/IntegerType;" } : Jvm.MethodName) prog_148_method_9_code (1 : Nat) (Option.some (Jvm.ClassFile.FieldType.object "com/example/ferret/ferret/model/IntegerType"))).before args0 about1 = true := code_word (m := ⟨7, 0⟩) (meth := k7m0) (c := k7c0) (by decide +kernel) rfl rfl rfl (by decide +kernel)
def codes1 : List Jvm.Cond := [Jvm.Cond.code x code maxLocals ret, Jvm.Cond.code ({ cls := "com/example/ferret/ferret/model/IntegerTypePromotedPinLaw", name := "pick", desc := "(I)Lcom/example/ferret/ferret/model/IntegerType;" } : Jvm.MethodName) method_2_code (1 : Nat) (Option.some (Jvm.ClassFile.FieldType.object "com/example/ferret/ferret/model/IntegerType")), Jvm.Cond.code ({ cls := "com/example/ferret/ferret/model/IntegerType", name := "promoted", desc := "()Lcom/example/ferret/ferret/model/IntegerType;" } : Jvm.MethodName) prog_148_method_9_code (1 : Nat) (Option.some (Jvm.ClassFile.FieldType.object "com/example/ferret/ferret/model/IntegerType"))]
set_option maxRecDepth 65536 in
theorem codes_eq : words1.filter isCode = codes1 := rfl
theorem w_codes : ∀ c ∈ words1.filter isCode, c.before args0 about1 = true := by
  rw [codes_eq]
  intro c hc
  simp only [codes1, List.mem_cons, List.not_mem_nil, or_false] at hc
  rcases hc with rfl | rfl | rfl
  · exact w_c0
  · exact w_c1
  · exact w_c2
set_option maxRecDepth 65536 in
theorem w_t1 : (words1.take 24).all (fun c => isCode c || c.before args0 about1) = true := by decide +kernel
set_option maxRecDepth 65536 in
theorem w_t2 : (words1.drop 24).all (fun c => isCode c || c.before args0 about1) = true := by decide +kernel
theorem w_tables : (allAtoms (Jvm.Cond.code x code maxLocals ret :: tables_1)).before args0 about1 = true := by
  rw [allAtoms_all]
  show words1.all (fun c => c.before args0 about1) = true
  refine all_split ?_ w_codes
  rw [← List.take_append_drop 24 words1, List.all_append, w_t1, w_t2]
  rfl
set_option maxRecDepth 65536 in
theorem w_case : (Jvm.Cond.and given_1 narrow_1).before args0 about1 = true := by decide +kernel
theorem w_applies : (headSpec (Jvm.Cond.code x code maxLocals ret :: tables_1) room_1).applies x e0.platform about1 = true :=
  (Spec.applies_iff w_frames).mpr ⟨w_running, w_runnable, w_alone, w_named, w_hears, w_ripe, w_room, w_tables⟩
theorem atStart : AtStart classFile x code maxLocals ret World_1 tables_1 room_1 Calls_1 rest_1 Pre_1 launch0 p0 e0 about1 theMethod args0 below0 :=
  ⟨lists_1, trivial, launch0.admits_env _ _ _, launch0.least_env, fairChoices_fair.cas, fairChoices_fair.clock, w_frames, w_args, w_heap, w_applies, trivial, trivial, w_case⟩
end start1
theorem witness_1 : WitnessClaimed_1 := ⟨start1.p0, start1.e0, start1.about1, start1.theMethod, start1.args0, start1.below0, start1.atStart⟩
end Jvm.Pilot.@@N@@
