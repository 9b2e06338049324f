import JvmDerived
import JvmDerived.Pilot.@@N@@Statement
import JvmDerived.Pilot.@@N@@Code
set_option linter.unusedVariables false
set_option linter.unusedSimpArgs false
/- laws to paste: Road.backV, Road.eqW (cut by pick.py; bodies as the Statement names them) -/
namespace Jvm.Pilot.@@N@@
namespace StrChars
open Jvm Sem ClassFile Op Lib Jvm.Stand Jvm.Free.XT Jvm.Free.ALB Jvm.Free.JM Jvm.Free
open Jvm.Lib.Cold (StaticIs)
/-- a char array whose places are chars -/
def Ch (a : Addr) (A : Cell) (U : State) : Prop := Arr .char a A U ∧ Typed .char A
theorem Ch.mv {a : Addr} {A : Cell} {U U' : State} (h : Ch a A U) (hal : U.vm.Alike U'.vm) (hh : U'.heap = U.heap) : Ch a A U' := ⟨h.1.mv hal hh, h.2⟩
theorem Ch.keep {a : Addr} {A : Cell} {U U' : State} (h : Ch a A U) (hal : U.vm.Alike U'.vm) (hk : U'.heap[a]? = some A) : Ch a A U' := ⟨h.1.keep hal hk, h.2⟩
/-- what place i of a char[]'s cell holds -/
def cv (A : Cell) (i : Nat) : Int32 := match A.slots[i]? with | some (.int x) => x | _ => 0
theorem Ch.get {a : Addr} {A : Cell} {U : State} (h : Ch a A U) {i : Nat} (hi : i < A.slots.size) : A.slots[i]? = some (.int (cv A i)) := by
  have e := Array.getElem?_eq_getElem hi
  have f := h.2 i _ e
  unfold cv; rw [e]
  generalize A.slots[i] = v at f
  cases v <;> simp [fits] at f ⊢
/-- the byte that i2b leaves of a char -/
def lo8 (x : Int32) : Int32 := x.toInt8.toInt32
theorem fits_lo8 (y : Int32) : fits .byte (.int (lo8 y)) = true := by
  have h1 := y.toInt8.le_toInt
  have h2 := y.toInt8.toInt_lt
  simp only [lo8, fits, Bool.and_eq_true, decide_eq_true_eq, Int32.le_iff_toInt_le, Int8.toInt_toInt32, show (-128 : Int32).toInt = -128 from by decide, show (127 : Int32).toInt = 127 from by decide]
  omega
/-- A' is A but that each place j of lo .. hi - 1 holds f j -/
def Laid (A A' : Cell) (lo hi : Nat) (f : Nat → Value) : Prop := A'.cls = A.cls ∧ A'.vm = A.vm ∧ A'.slots.size = A.slots.size ∧ ∀ i, A'.slots[i]? = if lo ≤ i ∧ i < hi then some (f i) else A.slots[i]?
theorem Laid.zero (A : Cell) (lo : Nat) (f : Nat → Value) : Laid A A lo (lo + 0) f := ⟨rfl, rfl, rfl, fun i => by rw [if_neg (by omega)]⟩
theorem Laid.step {A Ak : Cell} {lo k : Nat} {f : Nat → Value} {v : Value} (h : Laid A Ak lo k f) (hlo : lo ≤ k) (hk : k < Ak.slots.size) (hv : v = f k) : Laid A (Ak.setSlot k v) lo (k + 1) f := by
  refine ⟨h.1, h.2.1, by simpa [Cell.setSlot] using h.2.2.1, fun i => ?_⟩
  by_cases e : k = i
  · subst e; rw [Cell.slots_setSlot_self v hk, if_pos (by omega), hv]
  · rw [Cell.slots_setSlot_ne v e, h.2.2.2 i]
    by_cases q : lo ≤ i ∧ i < k
    · rw [if_pos q, if_pos (by omega)]
    · rw [if_neg q, if_neg (by omega)]
def U16 : String := "java/lang/StringUTF16"
namespace Cmp5
def yN : MethodName := ⟨"java/lang/StringUTF16", "compress", "([CI[BII)I"⟩
abbrev yB : ByteArray := jdk_52_method_21_code
theorem d0 : decode yB 0 = .ok (.iconst 0, 1) := by decide +kernel
theorem d1 : decode yB 1 = .ok (.istore 5, 2) := by decide +kernel
theorem d3 : decode yB 3 = .ok (.iload 5, 2) := by decide +kernel
theorem d5 : decode yB 5 = .ok (.iload 4, 2) := by decide +kernel
theorem d7 : decode yB 7 = .ok (.if_icmp (.ge) 37, 3) := by decide +kernel
theorem d10 : decode yB 10 = .ok (.aload_n 0, 1) := by decide +kernel
theorem d11 : decode yB 11 = .ok (.iload_n 1, 1) := by decide +kernel
theorem d12 : decode yB 12 = .ok (.caload, 1) := by decide +kernel
theorem d13 : decode yB 13 = .ok (.istore 6, 2) := by decide +kernel
theorem d15 : decode yB 15 = .ok (.iload 6, 2) := by decide +kernel
theorem d17 : decode yB 17 = .ok (.sipush 255, 3) := by decide +kernel
theorem d20 : decode yB 20 = .ok (.if_icmp (.le) 6, 3) := by decide +kernel
theorem d26 : decode yB 26 = .ok (.aload_n 2, 1) := by decide +kernel
theorem d27 : decode yB 27 = .ok (.iload_n 3, 1) := by decide +kernel
theorem d28 : decode yB 28 = .ok (.iload 6, 2) := by decide +kernel
theorem d30 : decode yB 30 = .ok (.i2b, 1) := by decide +kernel
theorem d31 : decode yB 31 = .ok (.bastore, 1) := by decide +kernel
theorem d32 : decode yB 32 = .ok (.iinc 1 1, 3) := by decide +kernel
theorem d35 : decode yB 35 = .ok (.iinc 3 1, 3) := by decide +kernel
theorem d38 : decode yB 38 = .ok (.iinc 5 1, 3) := by decide +kernel
theorem d41 : decode yB 41 = .ok (.goto (-38), 3) := by decide +kernel
theorem d44 : decode yB 44 = .ok (.iload 4, 2) := by decide +kernel
theorem d46 : decode yB 46 = .ok (.ireturn, 1) := by decide +kernel
def site : List Cond := []
def tab : Cond := tabOf yN yB 7 (some .int) site
def P (b : Addr) (A : Cell) (d : Addr) (B : Cell) (o q len : Nat) (args : Array Value) (s : State) : Prop := args = #[.ref b, .int (Int32.ofNat o), .ref d, .int (Int32.ofNat q), .int (Int32.ofNat len)] ∧ Ch b A s ∧ Arr .byte d B s ∧ b ≠ d ∧ o + len ≤ A.slots.size ∧ q + len ≤ B.slots.size ∧ ∀ i, i < len → ¬ 255 < cv A (o + i)
def E (b : Addr) (A : Cell) (d : Addr) (B : Cell) (o q len : Nat) (r : Option Value) (s u : State) : Prop := r = some (.int (Int32.ofNat len)) ∧ ∃ B', Put d B' s u ∧ Laid B B' q (q + len) (fun j => Value.int (lo8 (cv A (o + (j - q)))))
/-- no char of the range above 255: len; the places written hold each char's low byte -/
theorem law (l : Launch) (b : Addr) (A : Cell) (d : Addr) (B : Cell) (o q len : Nat) : Law l yN 5 5 0 0 yB 7 (some .int) site (P b A d B o q len) (E b A d B o q len) (copyLocs d q len) 0 0 := by
  refine Law.of_walk (plainFor_of_name (by decide +kernel)) (by decide +kernel) (by decide +kernel) (by decide) (fun _ _ h => by rw [h.1]; rfl) (fun _ U U' hal hh h => ⟨h.1, h.2.1.mv hal hh, h.2.2.1.mv hal hh, h.2.2.2⟩) (fun r U U' V V' h1 hal h2 h => ⟨h.1, h.2.elim fun B' q => ⟨B', q.1.mv h1 h2, q.2⟩⟩) ?_
  intro p e s m args below meth c s₁ X0 hexec hbytes hml hret hlk hnm hown hh0 W hP
  obtain ⟨rfl, hA, hB, hne, l1, l2, hp⟩ := hP
  have c1 : Steps p.tables e below (s₁.setTop (entryFrame m #[.ref b, .int (Int32.ofNat o), .ref d, .int (Int32.ofNat q), .int (Int32.ofNat len)] 7)) (s₁.setTop (mkF m 0 #[.val (.ref b), .val (.int (Int32.ofNat o)), .val (.ref d), .val (.int (Int32.ofNat q)), .val (.int (Int32.ofNat len)), .unset, .unset] [])) := entry rfl
  have hA0 := hA.1.mv X0.warmed.alike hh0
  have hB0 := hB.mv X0.warmed.alike hh0
  have a31 := hA.1.2.2.2
  have c2 : Steps p.tables e below (s₁.setTop (entryFrame m #[.ref b, .int (Int32.ofNat o), .ref d, .int (Int32.ofNat q), .int (Int32.ofNat len)] 7)) (s₁.setTop (mkF m 3 #[.val (.ref b), .val (.int (Int32.ofNat o)), .val (.ref d), .val (.int (Int32.ofNat q)), .val (.int (Int32.ofNat len)), .val (.int 0), .unset] [])) := c1.trans (by
    refine iconstV X0.here hexec rfl 0 (hb hbytes d0) (by decide) ?_
    refine XS.istore X0.here hexec rfl (hb hbytes d1) rfl rfl ?_
    exact Steps.refl _)
  have loop : ∀ (r i : Nat), i + r = len → ∀ (z : Slot), (z = .unset ∨ ∃ w, z = .val w ∧ w.category = 1) → ∀ (Tl : State) (Bk : Cell), Stand p l e { frames := 0, locals := 0, cells := 0, slots := 0 } s m #[.ref b, .int (Int32.ofNat o), .ref d, .int (Int32.ofNat q), .int (Int32.ofNat len)] below meth c Tl ([] ++ copyLocs d q i) 0 0 → Put d Bk s₁ Tl → Laid B Bk q (q + i) (fun j => Value.int (lo8 (cv A (o + (j - q))))) →
      Steps p.tables e below (s₁.setTop (entryFrame m #[.ref b, .int (Int32.ofNat o), .ref d, .int (Int32.ofNat q), .int (Int32.ofNat len)] 7)) (Tl.setTop (mkF m 3 #[.val (.ref b), .val (.int (Int32.ofNat (o + i))), .val (.ref d), .val (.int (Int32.ofNat (q + i))), .val (.int (Int32.ofNat len)), .val (.int (Int32.ofNat i)), z] [])) → ∃ (T' : State) (B' : Cell) (z' : Slot), Stand p l e { frames := 0, locals := 0, cells := 0, slots := 0 } s m #[.ref b, .int (Int32.ofNat o), .ref d, .int (Int32.ofNat q), .int (Int32.ofNat len)] below meth c T' ([] ++ copyLocs d q len) 0 0 ∧ Put d B' s₁ T' ∧ Laid B B' q (q + len) (fun j => Value.int (lo8 (cv A (o + (j - q))))) ∧
      Steps p.tables e below (s₁.setTop (entryFrame m #[.ref b, .int (Int32.ofNat o), .ref d, .int (Int32.ofNat q), .int (Int32.ofNat len)] 7)) (T'.setTop (mkF m 3 #[.val (.ref b), .val (.int (Int32.ofNat (o + len))), .val (.ref d), .val (.int (Int32.ofNat (q + len))), .val (.int (Int32.ofNat len)), .val (.int (Int32.ofNat len)), z'] [])) := by
    intro r
    induction r with
    | zero =>
      intro i hi z hz Tl Bk Xl pl fl cl
      have hil : i = len := by omega
      rw [hil] at Xl fl cl
      exact ⟨Tl, Bk, z, Xl, pl, fl, cl⟩
    | succ r ih =>
      intro i hi z hz Tl Bk Xl pl fl cl
      have all := X0.warmed.alike.symm.trans Xl.warmed.alike
      have hAl := hA0.keep all (pl.other hne hA0.1)
      have hBk := hB0.like all pl.1 fl.1 fl.2.1 fl.2.2.1
      have hlt : q + i < Bk.slots.size := by rw [fl.2.2.1]; omega
      have c3 : Steps p.tables e below (s₁.setTop (entryFrame m #[.ref b, .int (Int32.ofNat o), .ref d, .int (Int32.ofNat q), .int (Int32.ofNat len)] 7)) (Tl.setTop (mkF m 12 #[.val (.ref b), .val (.int (Int32.ofNat (o + i))), .val (.ref d), .val (.int (Int32.ofNat (q + i))), .val (.int (Int32.ofNat len)), .val (.int (Int32.ofNat i)), z] [.int (Int32.ofNat (o + i)), .ref b])) := cl.trans (by
        refine XS.iload Xl.here hexec rfl (hb hbytes d3) rfl ?_
        refine XS.iload Xl.here hexec rfl (hb hbytes d5) rfl ?_
        refine XS.icmpNo Xl.here hexec rfl (hb hbytes d7) rfl (ii_ge_f (lt32 (by omega) (by omega))) ?_
        refine XS.aloadN Xl.here hexec rfl (hb hbytes d10) rfl rfl ?_
        refine XS.iloadN Xl.here hexec rfl (hb hbytes d11) rfl ?_
        exact Steps.refl _)
      have c4 : Steps p.tables e below (s₁.setTop (entryFrame m #[.ref b, .int (Int32.ofNat o), .ref d, .int (Int32.ofNat q), .int (Int32.ofNat len)] 7)) (Tl.setTop (mkF m 13 #[.val (.ref b), .val (.int (Int32.ofNat (o + i))), .val (.ref d), .val (.int (Int32.ofNat (q + i))), .val (.int (Int32.ofNat len)), .val (.int (Int32.ofNat i)), z] [.int (cv A (o + i))])) := c3.trans (by
        refine Xl.aget hexec hAl rfl (hA.get (i := o + i) (by omega)) rfl rfl (hb hbytes d12) ?_
        exact Steps.refl _)
      have c5 : Steps p.tables e below (s₁.setTop (entryFrame m #[.ref b, .int (Int32.ofNat o), .ref d, .int (Int32.ofNat q), .int (Int32.ofNat len)] 7)) (Tl.setTop (mkF m 15 #[.val (.ref b), .val (.int (Int32.ofNat (o + i))), .val (.ref d), .val (.int (Int32.ofNat (q + i))), .val (.int (Int32.ofNat len)), .val (.int (Int32.ofNat i)), .val (.int (cv A (o + i)))] [])) := c4.trans (by
        refine XS.istoreS Xl.here hexec rfl (hb hbytes d13) rfl rfl hz ?_
        exact Steps.refl _)
      have c6 : Steps p.tables e below (s₁.setTop (entryFrame m #[.ref b, .int (Int32.ofNat o), .ref d, .int (Int32.ofNat q), .int (Int32.ofNat len)] 7)) (Tl.setTop (mkF m 31 #[.val (.ref b), .val (.int (Int32.ofNat (o + i))), .val (.ref d), .val (.int (Int32.ofNat (q + i))), .val (.int (Int32.ofNat len)), .val (.int (Int32.ofNat i)), .val (.int (cv A (o + i)))] [.int (lo8 (cv A (o + i))), .int (Int32.ofNat (q + i)), .ref d])) := c5.trans (by
        refine XS.iload Xl.here hexec rfl (hb hbytes d15) rfl ?_
        refine sipushV Xl.here hexec rfl 255 (hb hbytes d17) (by decide) ?_
        refine XS.icmpYes Xl.here hexec rfl (pc0 := 20) rfl (hb hbytes d20) rfl (ii_le_t (hp i (by omega))) (by decide) rfl ?_
        refine XS.aloadN Xl.here hexec rfl (hb hbytes d26) rfl rfl ?_
        refine XS.iloadN Xl.here hexec rfl (hb hbytes d27) rfl ?_
        refine XS.iload Xl.here hexec rfl (hb hbytes d28) rfl ?_
        refine i2b Xl.here hexec rfl (hb hbytes d30) rfl ?_
        exact Steps.refl _)
      obtain ⟨T7, X7, p7, st7⟩ := Xl.aput hexec hBk rfl hlt rfl (fits_lo8 (cv A (o + i))) (g := (mkF m 31 #[.val (.ref b), .val (.int (Int32.ofNat (o + i))), .val (.ref d), .val (.int (Int32.ofNat (q + i))), .val (.int (Int32.ofNat len)), .val (.int (Int32.ofNat i)), .val (.int (cv A (o + i)))] [.int (lo8 (cv A (o + i))), .int (Int32.ofNat (q + i)), .ref d])) rfl (rest := []) rfl (hb hbytes d31)
      have c8 : Steps p.tables e below (s₁.setTop (entryFrame m #[.ref b, .int (Int32.ofNat o), .ref d, .int (Int32.ofNat q), .int (Int32.ofNat len)] 7)) (T7.setTop (mkF m 32 #[.val (.ref b), .val (.int (Int32.ofNat (o + i))), .val (.ref d), .val (.int (Int32.ofNat (q + i))), .val (.int (Int32.ofNat len)), .val (.int (Int32.ofNat i)), .val (.int (cv A (o + i)))] [])) := c6.trans (st7 _ (Steps.refl _))
      have c9 : Steps p.tables e below (s₁.setTop (entryFrame m #[.ref b, .int (Int32.ofNat o), .ref d, .int (Int32.ofNat q), .int (Int32.ofNat len)] 7)) (T7.setTop (mkF m 3 #[.val (.ref b), .val (.int (Int32.ofNat (o + i) + 1)), .val (.ref d), .val (.int (Int32.ofNat (q + i) + 1)), .val (.int (Int32.ofNat len)), .val (.int (Int32.ofNat i + 1)), .val (.int (cv A (o + i)))] [])) := c8.trans (by
        refine iincV X7.here hexec rfl 1 (hb hbytes d32) (by decide) rfl rfl ?_
        refine iincV X7.here hexec rfl 1 (hb hbytes d35) (by decide) rfl rfl ?_
        refine iincV X7.here hexec rfl 1 (hb hbytes d38) (by decide) rfl rfl ?_
        refine XS.goto X7.here hexec rfl (pc0 := 41) rfl (hb hbytes d41) (by decide) rfl ?_
        exact Steps.refl _)
      have c10 : Steps p.tables e below (s₁.setTop (entryFrame m #[.ref b, .int (Int32.ofNat o), .ref d, .int (Int32.ofNat q), .int (Int32.ofNat len)] 7)) (T7.setTop (mkF m 3 #[.val (.ref b), .val (.int (Int32.ofNat (o + (i + 1)))), .val (.ref d), .val (.int (Int32.ofNat (q + (i + 1)))), .val (.int (Int32.ofNat len)), .val (.int (Int32.ofNat (i + 1))), .val (.int (cv A (o + i)))] [])) := by
        have := c9
        rw [succ32, succ32, succ32] at this
        exact this
      exact ih (i + 1) (by omega) _ (Or.inr ⟨_, rfl, rfl⟩) T7 _ (by rw [copyLocs_step, ← List.append_assoc]; exact X7) (pl.trans p7) (fl.step (by omega) hlt (by simp)) c10
  obtain ⟨T9, B9, z9, X9, p9, f9, g9⟩ := loop len 0 (by omega) .unset (Or.inl rfl) s₁ B (by simpa [copyLocs] using X0) ⟨hB0.1, fun _ _ => rfl, rfl⟩ (Laid.zero _ _ _) c2
  have c11 : Steps p.tables e below (s₁.setTop (entryFrame m #[.ref b, .int (Int32.ofNat o), .ref d, .int (Int32.ofNat q), .int (Int32.ofNat len)] 7)) (T9.setTop (mkF m 46 #[.val (.ref b), .val (.int (Int32.ofNat (o + len))), .val (.ref d), .val (.int (Int32.ofNat (q + len))), .val (.int (Int32.ofNat len)), .val (.int (Int32.ofNat len)), z9] [.int (Int32.ofNat len)])) := g9.trans (by
    refine XS.iload X9.here hexec rfl (hb hbytes d3) rfl ?_
    refine XS.iload X9.here hexec rfl (hb hbytes d5) rfl ?_
    refine XS.icmpYes X9.here hexec rfl (pc0 := 7) rfl (hb hbytes d7) rfl (ii_ge_t (nlt32 (by omega) (Nat.le_refl _))) (by decide) rfl ?_
    refine XS.iload X9.here hexec rfl (hb hbytes d44) rfl ?_
    exact Steps.refl _)
  exact ⟨T9, some (.int (Int32.ofNat len)), _, _, _, X9, by simp, rfl, rfl, (fun h => by cases h), ⟨rfl, B9, p9.from hh0, f9⟩, fun fs hl => c11.trans (X9.ireturnOut hexec hret rfl (Or.inl rfl) (hb hbytes d46) hl)⟩
end Cmp5
namespace Cmp3
def yN : MethodName := ⟨"java/lang/StringUTF16", "compress", "([CII)[B"⟩
abbrev yB : ByteArray := jdk_52_method_16_code
theorem d0 : decode yB 0 = .ok (.iload_n 2, 1) := by decide +kernel
theorem d1 : decode yB 1 = .ok (.newarray .byte, 2) := by decide +kernel
theorem d3 : decode yB 3 = .ok (.astore_n 3, 1) := by decide +kernel
theorem d4 : decode yB 4 = .ok (.aload_n 0, 1) := by decide +kernel
theorem d5 : decode yB 5 = .ok (.iload_n 1, 1) := by decide +kernel
theorem d6 : decode yB 6 = .ok (.aload_n 3, 1) := by decide +kernel
theorem d7 : decode yB 7 = .ok (.iconst 0, 1) := by decide +kernel
theorem d8 : decode yB 8 = .ok (.iload_n 2, 1) := by decide +kernel
theorem d9 : decode yB 9 = .ok (.invokestatic 115, 3) := by decide +kernel
theorem d12 : decode yB 12 = .ok (.istore 4, 2) := by decide +kernel
theorem d14 : decode yB 14 = .ok (.iload 4, 2) := by decide +kernel
theorem d16 : decode yB 16 = .ok (.iload_n 2, 1) := by decide +kernel
theorem d17 : decode yB 17 = .ok (.if_icmp (.eq) 40, 3) := by decide +kernel
theorem d57 : decode yB 57 = .ok (.aload_n 3, 1) := by decide +kernel
theorem d58 : decode yB 58 = .ok (.areturn, 1) := by decide +kernel
def site : List Cond := [.arrayClass .byte, Cmp5.tab] ++ staticW U16 115 Cmp5.yN
def tab : Cond := tabOf yN yB 6 (some (.array .byte)) site
def P (b : Addr) (A : Cell) (o len : Nat) (args : Array Value) (s : State) : Prop := args = #[.ref b, .int (Int32.ofNat o), .int (Int32.ofNat len)] ∧ Ch b A s ∧ o + len ≤ A.slots.size ∧ len ≤ 536870912 ∧ ∀ i, i < len → ¬ 255 < cv A (o + i)
def E (b : Addr) (A : Cell) (o len : Nat) (r : Option Value) (s u : State) : Prop := NewArr .byte "[B" len (fun j => .int (lo8 (cv A (o + j)))) r s u ∧ u.heap.size = s.heap.size + 1
/-- no char of the range above 255: a new byte[] of their low bytes -/
theorem law (l : Launch) (b : Addr) (A : Cell) (o len : Nat) : Law l yN 3 3 1 18 yB 6 (some (.array .byte)) site (P b A o len) (E b A o len) [] 1 len := by
  refine Law.of_walk (plainFor_of_name (by decide +kernel)) (by decide +kernel) (by decide +kernel) (by decide) (fun _ _ h => by rw [h.1]; rfl) (fun _ U U' hal hh h => ⟨h.1, h.2.1.mv hal hh, h.2.2⟩) (fun r U U' V V' h1 hal h2 h => ⟨NewArr.mv r U U' V V' h1 hal h2 h.1, by rw [h1, h2]; exact h.2⟩) ?_
  intro p e s m args below meth c s₁ X0 hexec hbytes hml hret hlk hnm hown hh0 W hP
  obtain ⟨rfl, hA, l1, l2, hp⟩ := hP
  have a31 := hA.1.2.2.2
  have c1 : Steps p.tables e below (s₁.setTop (entryFrame m #[.ref b, .int (Int32.ofNat o), .int (Int32.ofNat len)] 6)) (s₁.setTop (mkF m 0 #[.val (.ref b), .val (.int (Int32.ofNat o)), .val (.int (Int32.ofNat len)), .unset, .unset, .unset] [])) := entry rfl
  have c2 : Steps p.tables e below (s₁.setTop (entryFrame m #[.ref b, .int (Int32.ofNat o), .int (Int32.ofNat len)] 6)) (s₁.setTop (mkF m 1 #[.val (.ref b), .val (.int (Int32.ofNat o)), .val (.int (Int32.ofNat len)), .unset, .unset, .unset] [.int (Int32.ofNat len)])) := c1.trans (by
    refine XS.iloadN X0.here hexec rfl (hb hbytes d0) rfl ?_
    exact Steps.refl _)
  obtain ⟨T3, B3, X3, ba3, bs3, bv3, bh3, bf3, st3⟩ := X0.anew hexec (atype := .byte) (wk W (.arrayClass .byte)) rfl (by show len * 1 ≤ _; omega) (by omega) (g := (mkF m 1 #[.val (.ref b), .val (.int (Int32.ofNat o)), .val (.int (Int32.ofNat len)), .unset, .unset, .unset] [.int (Int32.ofNat len)])) rfl (hb hbytes d1) (rest := []) rfl (Nat.le_refl _) (by show 0 + len ≤ len; omega)
  rw [hh0] at ba3 st3
  have kp3 : XT.Kept s T3 := (XT.Kept.of_eq hh0).push bh3
  have hA3 := hA.keep X3.warmed.alike (kp3 _ _ hA.1.1)
  have hne : b ≠ s.heap.size := hA.1.ne
  have c4 : Steps p.tables e below (s₁.setTop (entryFrame m #[.ref b, .int (Int32.ofNat o), .int (Int32.ofNat len)] 6)) (T3.setTop (mkF m 3 #[.val (.ref b), .val (.int (Int32.ofNat o)), .val (.int (Int32.ofNat len)), .unset, .unset, .unset] [.ref s.heap.size])) := c2.trans (st3 _ (Steps.refl _))
  have c5 : Steps p.tables e below (s₁.setTop (entryFrame m #[.ref b, .int (Int32.ofNat o), .int (Int32.ofNat len)] 6)) (T3.setTop (mkF m 9 #[.val (.ref b), .val (.int (Int32.ofNat o)), .val (.int (Int32.ofNat len)), .val (.ref s.heap.size), .unset, .unset] [.int (Int32.ofNat len), .int 0, .ref s.heap.size, .int (Int32.ofNat o), .ref b])) := c4.trans (by
    refine XS.astoreN X3.here hexec rfl (hb hbytes d3) rfl rfl rfl ?_
    refine XS.aloadN X3.here hexec rfl (hb hbytes d4) rfl rfl ?_
    refine XS.iloadN X3.here hexec rfl (hb hbytes d5) rfl ?_
    refine XS.aloadN X3.here hexec rfl (hb hbytes d6) rfl rfl ?_
    refine iconstV X3.here hexec rfl 0 (hb hbytes d7) (by decide) ?_
    refine XS.iloadN X3.here hexec rfl (hb hbytes d8) rfl ?_
    exact Steps.refl _)
  obtain ⟨v6, T6, X6, E6, g6⟩ := X3.callS hexec (Cmp5.law l b A s.heap.size B3 o 0 len) hown (wks W (staticW U16 115 Cmp5.yN)) (wk W Cmp5.tab) (W := 0) (Nat.le_of_ble_eq_true rfl) (Nat.le_of_ble_eq_true rfl) (Nat.le_refl _) (by show 0 + len + 0 ≤ len; omega) (g := (mkF m 9 #[.val (.ref b), .val (.int (Int32.ofNat o)), .val (.int (Int32.ofNat len)), .val (.ref s.heap.size), .unset, .unset] [.int (Int32.ofNat len), .int (Int32.ofNat 0), .ref s.heap.size, .int (Int32.ofNat o), .ref b])) rfl (by rw [hml]; rfl) c5 (argsL := [.ref b, .int (Int32.ofNat o), .ref s.heap.size, .int (Int32.ofNat 0), .int (Int32.ofNat len)]) (rest := []) rfl rfl (by show 2 * 0 + 0 ≤ _; decide) (hb hbytes d9) (⟨rfl, hA3, ba3, hne, l1, by rw [bs3]; simp, hp⟩)
  obtain ⟨rfl, B6, p6, f6⟩ := E6
  have c7 : Steps p.tables e below (s₁.setTop (entryFrame m #[.ref b, .int (Int32.ofNat o), .int (Int32.ofNat len)] 6)) (T6.setTop (mkF m 12 #[.val (.ref b), .val (.int (Int32.ofNat o)), .val (.int (Int32.ofNat len)), .val (.ref s.heap.size), .unset, .unset] [.int (Int32.ofNat len)])) := g6
  have c8 : Steps p.tables e below (s₁.setTop (entryFrame m #[.ref b, .int (Int32.ofNat o), .int (Int32.ofNat len)] 6)) (T6.setTop (mkF m 58 #[.val (.ref b), .val (.int (Int32.ofNat o)), .val (.int (Int32.ofNat len)), .val (.ref s.heap.size), .val (.int (Int32.ofNat len)), .unset] [.ref s.heap.size])) := c7.trans (by
    refine XS.istore X6.here hexec rfl (hb hbytes d12) rfl rfl ?_
    refine XS.iload X6.here hexec rfl (hb hbytes d14) rfl ?_
    refine XS.iloadN X6.here hexec rfl (hb hbytes d16) rfl ?_
    refine XS.icmpYes X6.here hexec rfl (pc0 := 17) rfl (hb hbytes d17) rfl (ii_eq_t rfl) (by decide) rfl ?_
    refine XS.aloadN X6.here hexec rfl (hb hbytes d57) rfl rfl ?_
    exact Steps.refl _)
  have X8 := X6.wide (L' := []) (cells' := 1) (slots' := len) (fun x hx hlt => by
    simp only [List.nil_append, copyLocs, List.mem_map, List.mem_range] at hx
    obtain ⟨i, -, rfl⟩ := hx
    exact absurd hlt (Nat.lt_irrefl _)) (Nat.le_refl _) (by omega)
  exact ⟨T6, some (.ref s.heap.size), _, _, _, X8, rfl, rfl, rfl, (fun h => by cases h), ⟨⟨rfl, B6, ba3.like (X3.warmed.alike.symm.trans X6.warmed.alike) p6.1 f6.1 f6.2.1 f6.2.2.1, f6.2.1.trans bv3, by rw [X6.warmed.alike.findClass, f6.1]; exact bf3, by rw [f6.2.2.1, bs3]; simp, fun j hj => by rw [f6.2.2.2 j, if_pos (by omega)]; rfl, kp3.put p6 (Nat.le_refl _)⟩, by rw [p6.2.2, bh3, hh0]; simp⟩, fun fs hl => c8.trans (X8.areturnOut hexec rfl hret rfl (hb hbytes d58) hl)⟩
end Cmp3
namespace CodL
def yN : MethodName := ⟨"java/lang/StringUTF16", "coderFromArrayLen", "([BI)B"⟩
abbrev yB : ByteArray := jdk_52_method_15_code
theorem d0 : decode yB 0 = .ok (.iload_n 1, 1) := by decide +kernel
theorem d1 : decode yB 1 = .ok (.aload_n 0, 1) := by decide +kernel
theorem d2 : decode yB 2 = .ok (.arraylength, 1) := by decide +kernel
theorem d3 : decode yB 3 = .ok (.isub, 1) := by decide +kernel
theorem d4 : decode yB 4 = .ok (.bipush 31, 2) := by decide +kernel
theorem d6 : decode yB 6 = .ok (.iushr, 1) := by decide +kernel
theorem d7 : decode yB 7 = .ok (.i2b, 1) := by decide +kernel
theorem d8 : decode yB 8 = .ok (.ireturn, 1) := by decide +kernel
def site : List Cond := []
def tab : Cond := tabOf yN yB 2 (some .byte) site
def P (d : Addr) (B : Cell) (args : Array Value) (s : State) : Prop := args = #[.ref d, .int (Int32.ofNat B.slots.size)] ∧ Arr .byte d B s
def E (r : Option Value) (s u : State) : Prop := XT.PureE (some (.int 0)) r s u
/-- an array as long as the number of chars: LATIN1 -/
theorem law (l : Launch) (d : Addr) (B : Cell) : Law l yN 2 2 0 0 yB 2 (some .byte) site (P d B) E [] 0 0 := by
  refine Law.of_walk (plainFor_of_name (by decide +kernel)) (by decide +kernel) (by decide +kernel) (by decide) (fun _ _ h => by rw [h.1]; rfl) (fun _ U U' hal hh h => ⟨h.1, h.2.mv hal hh⟩) (fun r U U' V V' h1 hal h2 h => XT.PureE.mv r U U' V V' h1 hal h2 h) ?_
  intro p e s m args below meth c s₁ X0 hexec hbytes hml hret hlk hnm hown hh0 W hP
  obtain ⟨rfl, hB⟩ := hP
  have hB0 := hB.mv X0.warmed.alike hh0
  have c1 : Steps p.tables e below (s₁.setTop (entryFrame m #[.ref d, .int (Int32.ofNat B.slots.size)] 2)) (s₁.setTop (mkF m 0 #[.val (.ref d), .val (.int (Int32.ofNat B.slots.size))] [])) := entry rfl
  have c2 : Steps p.tables e below (s₁.setTop (entryFrame m #[.ref d, .int (Int32.ofNat B.slots.size)] 2)) (s₁.setTop (mkF m 2 #[.val (.ref d), .val (.int (Int32.ofNat B.slots.size))] [.ref d, .int (Int32.ofNat B.slots.size)])) := c1.trans (by
    refine XS.iloadN X0.here hexec rfl (hb hbytes d0) rfl ?_
    refine XS.aloadN X0.here hexec rfl (hb hbytes d1) rfl rfl ?_
    exact Steps.refl _)
  have c3 : Steps p.tables e below (s₁.setTop (entryFrame m #[.ref d, .int (Int32.ofNat B.slots.size)] 2)) (s₁.setTop (mkF m 8 #[.val (.ref d), .val (.int (Int32.ofNat B.slots.size))] [.int (lo8 (ushr (Int32.ofNat B.slots.size - Int32.ofNat B.slots.size) 31))])) := c2.trans (by
    refine X0.alen hexec hB0 rfl rfl (hb hbytes d2) ?_
    refine XS.isub X0.here hexec rfl (hb hbytes d3) rfl ?_
    refine bipushV X0.here hexec rfl 31 (hb hbytes d4) (by decide) ?_
    refine iushr X0.here hexec rfl (hb hbytes d6) rfl ?_
    refine i2b X0.here hexec rfl (hb hbytes d7) rfl ?_
    exact Steps.refl _)
  have e0 : lo8 (ushr (Int32.ofNat B.slots.size - Int32.ofNat B.slots.size) 31) = 0 := by rw [Int32.sub_self]; decide
  rw [e0] at c3
  exact ⟨s₁, some (.int 0), _, _, _, X0, rfl, rfl, rfl, (fun h => by cases h), ⟨rfl, hh0⟩, fun fs hl => c3.trans (X0.ireturnOut hexec hret rfl (Or.inr (Or.inr (Or.inl rfl))) (hb hbytes d8) hl)⟩
end CodL
/-- the String at a is Latin-1 over a new byte[] (the heap's one new cell): the low bytes of the len chars of A from o on; every cell but a is kept -/
def Got (a : Addr) (D : Cell) (fV fC : Field) (A : Cell) (o len : Nat) (r : Option Value) (s u : State) : Prop := r = none ∧ ∃ D' V : Cell, Blank "java/lang/String" a D' u ∧ Same D D' [fV.slot, fC.slot] ∧ D'.slots[fV.slot]? = some (.ref s.heap.size) ∧ D'.slots[fC.slot]? = some (.int 0) ∧ Arr .byte s.heap.size V u ∧ V.vm = .none ∧ u.vm.findClass "[B" = some V.cls ∧ V.slots.size = len ∧ (∀ j, j < len → V.slots[j]? = some (.int (lo8 (cv A (o + j))))) ∧ (∀ (y : Addr) (c : Cell), y ≠ a → s.heap[y]? = some c → u.heap[y]? = some c) ∧ u.heap.size = s.heap.size + 1
theorem Got.mv {a : Addr} {D A : Cell} {fV fC : Field} {o len : Nat} : ∀ r (U U' V V' : State), U'.heap = U.heap → V.vm.Alike V'.vm → V'.heap = V.heap → Got a D fV fC A o len r U V → Got a D fV fC A o len r U' V' :=
  fun r U U' V V' h1 hal h2 ⟨e0, D', X, a1, a2, a3, a4, a5, a6, a7, a8, a9, a10, a11⟩ => ⟨e0, D', X, a1.mv hal h2, a2, by rw [h1]; exact a3, a4, by rw [h1]; exact a5.mv hal h2, a6, by rw [hal.findClass]; exact a7, a8, a9, by rw [h1, h2]; exact a10, by rw [h1, h2]; exact a11⟩
namespace New4
def yN : MethodName := ⟨"java/lang/String", "<init>", "([CIILjava/lang/Void;)V"⟩
abbrev yB : ByteArray := jdk_42_method_149_code
theorem d0 : decode yB 0 = .ok (.aload_n 0, 1) := by decide +kernel
theorem d1 : decode yB 1 = .ok (.invokespecial 1, 3) := by decide +kernel
theorem d4 : decode yB 4 = .ok (.iload_n 3, 1) := by decide +kernel
theorem d5 : decode yB 5 = .ok (.ifCond (.ne) 22, 3) := by decide +kernel
theorem d27 : decode yB 27 = .ok (.getstatic 38, 3) := by decide +kernel
theorem d30 : decode yB 30 = .ok (.ifCond (.eq) 28, 3) := by decide +kernel
theorem d33 : decode yB 33 = .ok (.aload_n 1, 1) := by decide +kernel
theorem d34 : decode yB 34 = .ok (.iload_n 2, 1) := by decide +kernel
theorem d35 : decode yB 35 = .ok (.iload_n 3, 1) := by decide +kernel
theorem d36 : decode yB 36 = .ok (.invokestatic 177, 3) := by decide +kernel
theorem d39 : decode yB 39 = .ok (.astore 5, 2) := by decide +kernel
theorem d41 : decode yB 41 = .ok (.aload_n 0, 1) := by decide +kernel
theorem d42 : decode yB 42 = .ok (.aload 5, 2) := by decide +kernel
theorem d44 : decode yB 44 = .ok (.iload_n 3, 1) := by decide +kernel
theorem d45 : decode yB 45 = .ok (.invokestatic 47, 3) := by decide +kernel
theorem d48 : decode yB 48 = .ok (.putfield 15, 3) := by decide +kernel
theorem d51 : decode yB 51 = .ok (.aload_n 0, 1) := by decide +kernel
theorem d52 : decode yB 52 = .ok (.aload 5, 2) := by decide +kernel
theorem d54 : decode yB 54 = .ok (.putfield 9, 3) := by decide +kernel
theorem d57 : decode yB 57 = .ok (.return_, 1) := by decide +kernel
def site : List Cond := [.fieldLink "java/lang/String" 38 "java/lang/String" "COMPACT_STRINGS" "Z", Cmp3.tab, CodL.tab, .laysFinal "java/lang/String" "java/lang/String" "value" "[B", .fieldLink "java/lang/String" 9 "java/lang/String" "value" "[B", .laysFinal "java/lang/String" "java/lang/String" "coder" "B", .fieldLink "java/lang/String" 15 "java/lang/String" "coder" "B"] ++ objW "java/lang/String" 1 ++ staticW "java/lang/String" 177 Cmp3.yN ++ staticW "java/lang/String" 47 CodL.yN
def tab : Cond := tabOf yN yB 6 none site
def P (a : Addr) (D : Cell) (fV fC : Field) (b : Addr) (A : Cell) (z : Int32) (o len : Nat) (args : Array Value) (s : State) : Prop := args = #[.ref a, .ref b, .int (Int32.ofNat o), .int (Int32.ofNat len), .null] ∧ Blank "java/lang/String" a D s ∧ Found "java/lang/String" "value" "[B" fV s ∧ Found "java/lang/String" "coder" "B" fC s ∧ Ch b A s ∧ StaticIs s "java/lang/String" "COMPACT_STRINGS" "Z" (.int z) ∧ ¬ z = 0 ∧ 0 < len ∧ o + len ≤ A.slots.size ∧ len ≤ 536870912 ∧ ∀ i, i < len → ¬ 255 < cv A (o + i)
def E (a : Addr) (D : Cell) (fV fC : Field) (A : Cell) (o len : Nat) (r : Option Value) (s u : State) : Prop := Got a D fV fC A o len r s u
/-- len > 0, no char of the range above 255: a Latin-1 String of their low bytes -/
theorem law (l : Launch) (a : Addr) (D : Cell) (fV fC : Field) (b : Addr) (A : Cell) (z : Int32) (o len : Nat) : Law l yN 5 4 2 35 yB 6 none site (P a D fV fC b A z o len) (E a D fV fC A o len) [⟨a, fC.slot⟩, ⟨a, fV.slot⟩] 1 len := by
  refine Law.of_walk (plainFor_of_name (by decide +kernel)) (by decide +kernel) (by decide +kernel) (by decide) (fun _ _ h => by rw [h.1]; rfl) (fun _ U U' hal hh h => ⟨h.1, h.2.1.mv hal hh, h.2.2.1.al hal, h.2.2.2.1.al hal, h.2.2.2.2.1.mv hal hh, h.2.2.2.2.2.1.there hal hh, h.2.2.2.2.2.2⟩) (fun r U U' V V' h1 hal h2 h => Got.mv r U U' V V' h1 hal h2 h) ?_
  intro p e s m args below meth c s₁ X0 hexec hbytes hml hret hlk hnm hown hh0 W hP
  obtain ⟨rfl, hB, f1, f2, hA, s1, hz, l0, l1, l2, hp⟩ := hP
  have a31 := hA.1.2.2.2
  have c1 : Steps p.tables e below (s₁.setTop (entryFrame m #[.ref a, .ref b, .int (Int32.ofNat o), .int (Int32.ofNat len), .null] 6)) (s₁.setTop (mkF m 0 #[.val (.ref a), .val (.ref b), .val (.int (Int32.ofNat o)), .val (.int (Int32.ofNat len)), .val .null, .unset] [])) := entry rfl
  have c2 : Steps p.tables e below (s₁.setTop (entryFrame m #[.ref a, .ref b, .int (Int32.ofNat o), .int (Int32.ofNat len), .null] 6)) (s₁.setTop (mkF m 1 #[.val (.ref a), .val (.ref b), .val (.int (Int32.ofNat o)), .val (.int (Int32.ofNat len)), .val .null, .unset] [.ref a])) := c1.trans (by
    refine XS.aloadN X0.here hexec rfl (hb hbytes d0) rfl rfl ?_
    exact Steps.refl _)
  obtain ⟨T3, X3, q3, st3⟩ := X0.oinit hexec hown (wks W (objW "java/lang/String" 1)) (g := (mkF m 1 #[.val (.ref a), .val (.ref b), .val (.int (Int32.ofNat o)), .val (.int (Int32.ofNat len)), .val .null, .unset] [.ref a])) rfl (by rw [hml]; rfl) (rest := []) rfl (hb hbytes d1) (W := 0) (by show 2 * 0 + 0 ≤ _; decide) (Nat.le_of_ble_eq_true rfl) (Nat.le_of_ble_eq_true rfl)
  have hh3 := q3.trans hh0
  have c4 : Steps p.tables e below (s₁.setTop (entryFrame m #[.ref a, .ref b, .int (Int32.ofNat o), .int (Int32.ofNat len), .null] 6)) (T3.setTop (mkF m 27 #[.val (.ref a), .val (.ref b), .val (.int (Int32.ofNat o)), .val (.int (Int32.ofNat len)), .val .null, .unset] [])) := (c2.trans (st3 _ (Steps.refl _))).trans (by
    refine XS.iloadN X3.here hexec rfl (hb hbytes d4) rfl ?_
    refine XS.ifYes X3.here hexec rfl (pc0 := 5) rfl (hb hbytes d5) rfl (i0_ne_t (nz32 (by omega) l0)) (by decide) rfl ?_
    exact Steps.refl _)
  obtain ⟨T5, X5, q5, st5⟩ := X3.sget hexec hown (wk W (.fieldLink "java/lang/String" 38 "java/lang/String" "COMPACT_STRINGS" "Z")) s1 (fun _ _ h => by rw [hh3]; exact h) (g := (mkF m 27 #[.val (.ref a), .val (.ref b), .val (.int (Int32.ofNat o)), .val (.int (Int32.ofNat len)), .val .null, .unset] [])) rfl (hb hbytes d27)
  have hh5 := q5.trans hh3
  have c6 : Steps p.tables e below (s₁.setTop (entryFrame m #[.ref a, .ref b, .int (Int32.ofNat o), .int (Int32.ofNat len), .null] 6)) (T5.setTop (mkF m 30 #[.val (.ref a), .val (.ref b), .val (.int (Int32.ofNat o)), .val (.int (Int32.ofNat len)), .val .null, .unset] [.int z])) := c4.trans (st5 _ (Steps.refl _))
  have c7 : Steps p.tables e below (s₁.setTop (entryFrame m #[.ref a, .ref b, .int (Int32.ofNat o), .int (Int32.ofNat len), .null] 6)) (T5.setTop (mkF m 36 #[.val (.ref a), .val (.ref b), .val (.int (Int32.ofNat o)), .val (.int (Int32.ofNat len)), .val .null, .unset] [.int (Int32.ofNat len), .int (Int32.ofNat o), .ref b])) := c6.trans (by
    refine XS.ifNo X5.here hexec rfl (hb hbytes d30) rfl (i0_eq_f hz) ?_
    refine XS.aloadN X5.here hexec rfl (hb hbytes d33) rfl rfl ?_
    refine XS.iloadN X5.here hexec rfl (hb hbytes d34) rfl ?_
    refine XS.iloadN X5.here hexec rfl (hb hbytes d35) rfl ?_
    exact Steps.refl _)
  obtain ⟨v8, T8, X8, E8, g8⟩ := X5.callS hexec (Cmp3.law l b A o len) hown (wks W (staticW "java/lang/String" 177 Cmp3.yN)) (wk W Cmp3.tab) (W := 0) (Nat.le_of_ble_eq_true rfl) (Nat.le_of_ble_eq_true rfl) (Nat.le_refl _) (by show 0 + len ≤ len; omega) (g := (mkF m 36 #[.val (.ref a), .val (.ref b), .val (.int (Int32.ofNat o)), .val (.int (Int32.ofNat len)), .val .null, .unset] [.int (Int32.ofNat len), .int (Int32.ofNat o), .ref b])) rfl (by rw [hml]; rfl) c7 (argsL := [.ref b, .int (Int32.ofNat o), .int (Int32.ofNat len)]) (rest := []) rfl rfl (by show 2 * 0 + 0 ≤ _; decide) (hb hbytes d36) (⟨rfl, hA.mv X5.warmed.alike hh5, l1, l2, hp⟩)
  obtain ⟨e8, z8⟩ := E8
  obtain ⟨rfl, N, n1, n2, n3, n4, n5, n6⟩ := NewArr.mv _ T5 s _ _ hh5.symm (Vm.Alike.refl _) rfl e8
  rw [hh5] at z8
  have hB1 := hB.keep X8.warmed.alike (n6 _ _ hB.1)
  have hne : s.heap.size ≠ a := (Nat.ne_of_lt (Array.getElem?_eq_some_iff.mp hB.1).1).symm
  have c9 : Steps p.tables e below (s₁.setTop (entryFrame m #[.ref a, .ref b, .int (Int32.ofNat o), .int (Int32.ofNat len), .null] 6)) (T8.setTop (mkF m 39 #[.val (.ref a), .val (.ref b), .val (.int (Int32.ofNat o)), .val (.int (Int32.ofNat len)), .val .null, .unset] [.ref s.heap.size])) := g8
  have c10 : Steps p.tables e below (s₁.setTop (entryFrame m #[.ref a, .ref b, .int (Int32.ofNat o), .int (Int32.ofNat len), .null] 6)) (T8.setTop (mkF m 45 #[.val (.ref a), .val (.ref b), .val (.int (Int32.ofNat o)), .val (.int (Int32.ofNat len)), .val .null, .val (.ref s.heap.size)] [.int (Int32.ofNat N.slots.size), .ref s.heap.size, .ref a])) := by
    have hc : Steps p.tables e below (s₁.setTop (entryFrame m #[.ref a, .ref b, .int (Int32.ofNat o), .int (Int32.ofNat len), .null] 6)) (T8.setTop (mkF m 45 #[.val (.ref a), .val (.ref b), .val (.int (Int32.ofNat o)), .val (.int (Int32.ofNat len)), .val .null, .val (.ref s.heap.size)] [.int (Int32.ofNat len), .ref s.heap.size, .ref a])) := c9.trans (by
      refine XS.astore X8.here hexec rfl (hb hbytes d39) rfl rfl rfl ?_
      refine XS.aloadN X8.here hexec rfl (hb hbytes d41) rfl rfl ?_
      refine XS.aload X8.here hexec rfl (hb hbytes d42) rfl rfl ?_
      refine XS.iloadN X8.here hexec rfl (hb hbytes d44) rfl ?_
      exact Steps.refl _)
    rw [n4]; exact hc
  obtain ⟨v11, T11, X11, E11, g11⟩ := X8.callS hexec (CodL.law l s.heap.size N) hown (wks W (staticW "java/lang/String" 47 CodL.yN)) (wk W CodL.tab) (W := 1) (Nat.le_of_ble_eq_true rfl) (Nat.le_of_ble_eq_true rfl) (Nat.le_refl _) (by show 0 + len + 0 ≤ len; omega) (g := (mkF m 45 #[.val (.ref a), .val (.ref b), .val (.int (Int32.ofNat o)), .val (.int (Int32.ofNat len)), .val .null, .val (.ref s.heap.size)] [.int (Int32.ofNat N.slots.size), .ref s.heap.size, .ref a])) rfl (by rw [hml]; rfl) c10 (argsL := [.ref s.heap.size, .int (Int32.ofNat N.slots.size)]) (rest := [.ref a]) rfl rfl (by show 2 * 0 + (1 + 0) ≤ _; decide) (hb hbytes d45) (⟨rfl, n1⟩)
  obtain ⟨rfl, q11⟩ := E11
  have hB11 := hB1.mv (X8.warmed.alike.symm.trans X11.warmed.alike) q11
  have c12 : Steps p.tables e below (s₁.setTop (entryFrame m #[.ref a, .ref b, .int (Int32.ofNat o), .int (Int32.ofNat len), .null] 6)) (T11.setTop (mkF m 48 #[.val (.ref a), .val (.ref b), .val (.int (Int32.ofNat o)), .val (.int (Int32.ofNat len)), .val .null, .val (.ref s.heap.size)] [.int 0, .ref a])) := g11
  obtain ⟨T13, X13, p13, bl13, sl13, st13⟩ := X11.finit hexec hown (wk W (.fieldLink "java/lang/String" 15 "java/lang/String" "coder" "B")) (Or.inr ⟨_, (wk W (.laysFinal "java/lang/String" "java/lang/String" "coder" "B"))⟩) (Or.inl ⟨rfl, hnm⟩) f2 (Or.inl rfl) hB11 (t := .byte) (by decide +kernel) rfl (g := (mkF m 48 #[.val (.ref a), .val (.ref b), .val (.int (Int32.ofNat o)), .val (.int (Int32.ofNat len)), .val .null, .val (.ref s.heap.size)] [.int 0, .ref a])) rfl (rest := []) rfl (hb hbytes d48)
  have c14 : Steps p.tables e below (s₁.setTop (entryFrame m #[.ref a, .ref b, .int (Int32.ofNat o), .int (Int32.ofNat len), .null] 6)) (T13.setTop (mkF m 54 #[.val (.ref a), .val (.ref b), .val (.int (Int32.ofNat o)), .val (.int (Int32.ofNat len)), .val .null, .val (.ref s.heap.size)] [.ref s.heap.size, .ref a])) := (c12.trans (st13 _ (Steps.refl _))).trans (by
    refine XS.aloadN X13.here hexec rfl (hb hbytes d51) rfl rfl ?_
    refine XS.aload X13.here hexec rfl (hb hbytes d52) rfl rfl ?_
    exact Steps.refl _)
  obtain ⟨T15, X15, p15, bl15, sl15, st15⟩ := X13.finit hexec hown (wk W (.fieldLink "java/lang/String" 9 "java/lang/String" "value" "[B")) (Or.inr ⟨_, (wk W (.laysFinal "java/lang/String" "java/lang/String" "value" "[B"))⟩) (Or.inl ⟨rfl, hnm⟩) f1 (Or.inl rfl) bl13 (t := (.array .byte)) (by decide +kernel) rfl (g := (mkF m 54 #[.val (.ref a), .val (.ref b), .val (.int (Int32.ofNat o)), .val (.int (Int32.ofNat len)), .val .null, .val (.ref s.heap.size)] [.ref s.heap.size, .ref a])) rfl (rest := []) rfl (hb hbytes d54)
  have c16 : Steps p.tables e below (s₁.setTop (entryFrame m #[.ref a, .ref b, .int (Int32.ofNat o), .int (Int32.ofNat len), .null] 6)) (T15.setTop (mkF m 57 #[.val (.ref a), .val (.ref b), .val (.int (Int32.ofNat o)), .val (.int (Int32.ofNat len)), .val .null, .val (.ref s.heap.size)] [])) := c14.trans (st15 _ (Steps.refl _))
  have ap := apart (Or.inr ⟨_, (wk W (.laysFinal "java/lang/String" "java/lang/String" "value" "[B"))⟩) (Or.inr ⟨_, (wk W (.laysFinal "java/lang/String" "java/lang/String" "coder" "B"))⟩) f1 f2 (t₁ := .array .byte) (t₂ := .byte) (by decide +kernel) (by decide +kernel) (by decide)
  have al := X8.warmed.alike.symm.trans X15.warmed.alike
  have n7 : T11.heap[s.heap.size]? = some N := by rw [q11]; exact n1.1
  exact ⟨T15, none, _, _, _, X15, by simp, rfl, by omega, (fun _ => rfl), ⟨rfl, _, N, bl15, ((Same.refl D _).set _ (by simp)).set _ (by simp), sl15, (Cell.slots_setSlot_ne _ ap).trans sl13, n1.keep al (p15.other hne (p13.other hne n7)), n2, by rw [al.findClass]; exact n3, n4, n5, fun y c h1 h2 => p15.other h1 (p13.other h1 (by rw [q11]; exact n6 y c h2)), by rw [p15.2.2, p13.2.2, q11]; exact z8⟩, fun fs hl => c16.trans (X15.returnOut hexec hret (hb hbytes d57) hl)⟩
end New4
namespace New1
def yN : MethodName := ⟨"java/lang/String", "<init>", "([C)V"⟩
abbrev yB : ByteArray := jdk_42_method_3_code
theorem d0 : decode yB 0 = .ok (.aload_n 0, 1) := by decide +kernel
theorem d1 : decode yB 1 = .ok (.aload_n 1, 1) := by decide +kernel
theorem d2 : decode yB 2 = .ok (.iconst 0, 1) := by decide +kernel
theorem d3 : decode yB 3 = .ok (.aload_n 1, 1) := by decide +kernel
theorem d4 : decode yB 4 = .ok (.arraylength, 1) := by decide +kernel
theorem d5 : decode yB 5 = .ok (.aconst_null, 1) := by decide +kernel
theorem d6 : decode yB 6 = .ok (.invokespecial 27, 3) := by decide +kernel
theorem d9 : decode yB 9 = .ok (.return_, 1) := by decide +kernel
def site : List Cond := [New4.tab] ++ initW "java/lang/String" 27 New4.yN
def tab : Cond := tabOf yN yB 2 none site
def P (a : Addr) (D : Cell) (fV fC : Field) (b : Addr) (A : Cell) (z : Int32) (args : Array Value) (s : State) : Prop := args = #[.ref a, .ref b] ∧ Blank "java/lang/String" a D s ∧ Found "java/lang/String" "value" "[B" fV s ∧ Found "java/lang/String" "coder" "B" fC s ∧ Ch b A s ∧ StaticIs s "java/lang/String" "COMPACT_STRINGS" "Z" (.int z) ∧ ¬ z = 0 ∧ 0 < A.slots.size ∧ A.slots.size ≤ 536870912 ∧ ∀ i, i < A.slots.size → ¬ 255 < cv A i
def E (a : Addr) (D : Cell) (fV fC : Field) (A : Cell) (r : Option Value) (s u : State) : Prop := Got a D fV fC A 0 A.slots.size r s u
/-- new String(chars), not empty, no char above 255: a Latin-1 String of their low bytes -/
theorem law (l : Launch) (a : Addr) (D : Cell) (fV fC : Field) (b : Addr) (A : Cell) (z : Int32) : Law l yN 2 1 3 52 yB 2 none site (P a D fV fC b A z) (E a D fV fC A) [⟨a, fC.slot⟩, ⟨a, fV.slot⟩] 1 A.slots.size := by
  refine Law.of_walk (plainFor_of_name (by decide +kernel)) (by decide +kernel) (by decide +kernel) (by decide) (fun _ _ h => by rw [h.1]; rfl) (fun _ U U' hal hh h => ⟨h.1, h.2.1.mv hal hh, h.2.2.1.al hal, h.2.2.2.1.al hal, h.2.2.2.2.1.mv hal hh, h.2.2.2.2.2.1.there hal hh, h.2.2.2.2.2.2⟩) (fun r U U' V V' h1 hal h2 h => Got.mv r U U' V V' h1 hal h2 h) ?_
  intro p e s m args below meth c s₁ X0 hexec hbytes hml hret hlk hnm hown hh0 W hP
  obtain ⟨rfl, hB, f1, f2, hA, s1, hz, l0, l2, hp⟩ := hP
  have c1 : Steps p.tables e below (s₁.setTop (entryFrame m #[.ref a, .ref b] 2)) (s₁.setTop (mkF m 0 #[.val (.ref a), .val (.ref b)] [])) := entry rfl
  have c2 : Steps p.tables e below (s₁.setTop (entryFrame m #[.ref a, .ref b] 2)) (s₁.setTop (mkF m 6 #[.val (.ref a), .val (.ref b)] [.null, .int (Int32.ofNat A.slots.size), .int 0, .ref b, .ref a])) := c1.trans (by
    refine XS.aloadN X0.here hexec rfl (hb hbytes d0) rfl rfl ?_
    refine XS.aloadN X0.here hexec rfl (hb hbytes d1) rfl rfl ?_
    refine iconstV X0.here hexec rfl 0 (hb hbytes d2) (by decide) ?_
    refine XS.aloadN X0.here hexec rfl (hb hbytes d3) rfl rfl ?_
    refine X0.alen hexec (hA.1.mv X0.warmed.alike hh0) rfl rfl (hb hbytes d4) ?_
    refine XS.aconstNull X0.here hexec rfl (hb hbytes d5) ?_
    exact Steps.refl _)
  obtain ⟨v3, T3, X3, E3, g3⟩ := X0.callN hexec (New4.law l a D fV fC b A z 0 A.slots.size) rfl hown (wks W (initW "java/lang/String" 27 New4.yN)) (W New4.tab (by simp only [site, List.mem_cons, List.mem_append, true_or, or_true])) (W := 0) (Nat.le_of_ble_eq_true rfl) (Nat.le_of_ble_eq_true rfl) (Nat.le_refl _) (by show 0 + A.slots.size ≤ A.slots.size; omega) (g := (mkF m 6 #[.val (.ref a), .val (.ref b)] [.null, .int (Int32.ofNat A.slots.size), .int (Int32.ofNat 0), .ref b, .ref a])) rfl (by rw [hml]; rfl) c2 (argsL := [.ref b, .int (Int32.ofNat 0), .int (Int32.ofNat A.slots.size), .null]) (rest := []) rfl rfl (by show 2 * 0 + 0 ≤ _; decide) (hb hbytes d6) (⟨rfl, hB.mv X0.warmed.alike hh0, f1.al X0.warmed.alike, f2.al X0.warmed.alike, hA.mv X0.warmed.alike hh0, s1.there X0.warmed.alike hh0, hz, l0, by omega, l2, fun i hi => by rw [Nat.zero_add]; exact hp i hi⟩)
  have e0 := Got.mv _ s₁ s _ _ hh0.symm (Vm.Alike.refl _) rfl E3
  obtain rfl := e0.1
  have c4 : Steps p.tables e below (s₁.setTop (entryFrame m #[.ref a, .ref b] 2)) (T3.setTop (mkF m 9 #[.val (.ref a), .val (.ref b)] [])) := g3
  exact ⟨T3, none, _, _, _, X3, by simp, rfl, by omega, (fun _ => rfl), e0, fun fs hl => c4.trans (X3.returnOut hexec hret (hb hbytes d9) hl)⟩
theorem pays {l : Launch} {R : Room} {p : Program} {e : Env} {below : List Frame} {s : State} {sargs : Array Value} {len W : Nat} (a : Addr) (D : Cell) (fV fC : Field) (b : Addr) (A : Cell) (z : Int32) (htab : tab.before sargs s = true) (hfr : 4 ≤ R.frames) (hlo : W + 65 ≤ R.locals) :
    Back l R p e below s sargs yN len W (fun A₁ a₁ => A₁.cells + 1 ≤ R.cells ∧ A₁.slots + A.slots.size ≤ R.slots ∧ P a D fV fC b A z a₁ A₁.U) (fun A₁ _ v₁ B₁ => E a D fV fC A v₁ A₁.U B₁.U ∧ B₁.locs = A₁.locs ++ [⟨a, fC.slot⟩, ⟨a, fV.slot⟩] ∧ B₁.cells = A₁.cells + 1 ∧ B₁.slots = A₁.slots + A.slots.size) :=
  (law l a D fV fC b A z).pays htab hfr (by omega)
end New1
/-- the byte, read back as charAt reads it, is the char -/
theorem lo8_mask {x : Int32} (h0 : ¬ x < 0) (h1 : ¬ 255 < x) : lo8 x &&& 255 = x := by
  have t : ∀ k : Fin 256, lo8 (Int32.ofNat k.val) &&& 255 = Int32.ofNat k.val := by decide +kernel
  rw [Int32.lt_iff_toInt_lt] at h0 h1
  have e0 : (0 : Int32).toInt = 0 := rfl
  have e1 : (255 : Int32).toInt = 255 := rfl
  obtain ⟨k, hk⟩ : ∃ k : Nat, x.toInt = k := ⟨x.toInt.toNat, by omega⟩
  have hx : x = Int32.ofNat k := Int32.toInt_inj.mp (by rw [hk, Int32.toInt_ofNat_small (by omega)])
  rw [hx]
  exact t ⟨k, by omega⟩
end StrChars
namespace StrChars.Road
open Jvm Sem ClassFile Op Lib Jvm.Stand Jvm.Free Jvm.Free.XT
open Jvm.Lib.Cold (StaticIs)
abbrev ST : String := "java/lang/String"
/-- every table word that New1's law asks, flat -/
abbrev words : List Jvm.Cond := [.code New1.yN New1.yB 2 none, .initialized ST, .methodLink ST 27 New4.yN, .instanceMethod New4.yN,
  .code New4.yN New4.yB 6 none, .fieldLink ST 38 ST "COMPACT_STRINGS" "Z", .laysFinal ST ST "value" "[B", .fieldLink ST 9 ST "value" "[B", .laysFinal ST ST "coder" "B", .fieldLink ST 15 ST "coder" "B",
  .methodLink ST 1 Lib.objectInit, .instanceMethod Lib.objectInit, .code Lib.objectInit ⟨#[0xb1]⟩ 1 none, .methodLink ST 177 Cmp3.yN, .static Cmp3.yN, .methodLink ST 47 CodL.yN, .static CodL.yN,
  .code Cmp3.yN Cmp3.yB 6 (some (.array .byte)), .initialized U16, .arrayClass .byte, .methodLink U16 115 Cmp5.yN, .static Cmp5.yN, .code Cmp5.yN Cmp5.yB 7 (some .int), .code CodL.yN CodL.yB 2 (some .byte)]
theorem tab_of {a : Array Value} {s : State} (h : ∀ w ∈ words, w.before a s = true) : New1.tab.before a s = true := by
  have h5 : Cmp5.tab.before a s = true := unparts (wk h (.code Cmp5.yN Cmp5.yB 7 (some .int))) (wks h (.initialized Cmp5.yN.cls :: Cmp5.site))
  have hc : CodL.tab.before a s = true := unparts (wk h (.code CodL.yN CodL.yB 2 (some .byte))) (wks h (.initialized CodL.yN.cls :: CodL.site))
  have q5 : ∀ w ∈ Cmp5.tab :: words, w.before a s = true := fun w hw => (List.mem_cons.mp hw).elim (fun e => e ▸ h5) (h w)
  have h3 : Cmp3.tab.before a s = true := unparts (wk q5 (.code Cmp3.yN Cmp3.yB 6 (some (.array .byte)))) (wks q5 (.initialized Cmp3.yN.cls :: Cmp3.site))
  have q3 : ∀ w ∈ Cmp3.tab :: CodL.tab :: words, w.before a s = true := fun w hw => (List.mem_cons.mp hw).elim (fun e => e ▸ h3) fun hw => (List.mem_cons.mp hw).elim (fun e => e ▸ hc) (h w)
  have h4 : New4.tab.before a s = true := unparts (wk q3 (.code New4.yN New4.yB 6 none)) (wks q3 (.initialized New4.yN.cls :: New4.site))
  have q4 : ∀ w ∈ New4.tab :: words, w.before a s = true := fun w hw => (List.mem_cons.mp hw).elim (fun e => e ▸ h4) (h w)
  exact unparts (wk q4 (.code New1.yN New1.yB 2 none)) (wks q4 (.initialized New1.yN.cls :: New1.site))
/-- the words ride from the start Z to the walk's own state -/
theorem moved {Z s : State} {a0 args : Array Value} (hZ : Z.Warmed39 s.vm) (hw : ∀ d ∈ words, d.before a0 Z = true) : ∀ d ∈ words, d.before args s = true := fun d hd => by
  have q := hw d hd
  have t : ∀ d ∈ words, d = .arrayClass .byte ∨ (d.onTables && d.keepsFace) = true := by decide +kernel
  rcases t d hd with rfl | t
  · exact RoadKit.mvA hZ q
  · exact RoadKit.mv hZ q t
/-- WHAT COMES BACK, over the tables of the start Z: h the heap at the call, h' behind it -/
def Q (Z : State) (x : Addr) (A : Cell) (h : Heap) (v : Option Value) (h' : Heap) (L : List Loc) : Prop := v = none ∧ (∀ y ∈ L, y.base = x) ∧ RoadKit.Keep h h' [x] ∧ h'.size = h.size + 1 ∧ RoadKit.Exa Z h' x ST ∧ RoadKit.Fld Z h' x ST "value" "[B" (.ref h.size) ∧ RoadKit.Fld Z h' x ST "coder" "B" (.int 0) ∧
  (∃ V : Cell, RoadKit.Arr Z h' h.size V .byte ∧ V.vm = .none ∧ Z.vm.findClass "[B" = some V.cls ∧ V.slots.size = A.slots.size ∧ ∀ j, j < A.slots.size → V.slots[j]? = some (.int (lo8 (cv A j)))) ∧
  ∀ (O n d : String) (w : Value), RoadKit.Fld Z h x O n d w → RoadKit.slotOf Z O n d ≠ RoadKit.slotOf Z ST "value" "[B" → RoadKit.slotOf Z O n d ≠ RoadKit.slotOf Z ST "coder" "B" → RoadKit.Fld Z h' x O n d w
/-- **new String(chars) AT A CALL, IN THE ROAD'S FORM**: for specialBack behind newO: x the fresh String, b the char[] with the cell A -/
theorem back {p : Program} {l : Launch} {e : Env} {R : Room} {s : State} {args : Array Value} {below : List Frame} {len W : Nat} {Z : State} {a0 : Array Value} {h : Heap} (hZ : Z.Warmed39 s.vm) (hw : ∀ d ∈ words, d.before a0 Z = true) {kI : Nat} (wi : (Jvm.Cond.instantiable ST kI).before a0 Z = true)
    {x b : Addr} {A : Cell} {z : Int32} {v0 c0 : Value} (E : RoadKit.Exa Z h x ST) (V : RoadKit.Fld Z h x ST "value" "[B" v0) (C : RoadKit.Fld Z h x ST "coder" "B" c0) (K : RoadKit.Arr Z h b A .char) (hty : Typed .char A) (S : RoadKit.Sta Z h ST "COMPACT_STRINGS" "Z" (.int z)) (hz : ¬ z = 0)
    (l0 : 0 < A.slots.size) (l2 : A.slots.size ≤ 536870912) (hp : ∀ i, i < A.slots.size → ¬ 255 < cv A i) (hfr : 4 ≤ R.frames) (hlo : W + 65 ≤ R.locals) :
    Back l R p e below s args New1.yN len W (fun P a => a = #[.ref x, .ref b] ∧ P.U.heap = h ∧ P.cells + 1 ≤ R.cells ∧ P.slots + A.slots.size ≤ R.slots)
      (fun P _ v B => ∃ L, Q Z x A h v B.U.heap L ∧ B.locs = P.locs ++ L ∧ B.cells = P.cells + 1 ∧ B.slots = P.slots + A.slots.size) := by
  intro m meth c P g ig mk a X hg hsize hdg hW hn hp'
  obtain ⟨rfl, rfl, r1, r2⟩ := hp'
  have al : Z.vm.Alike P.U.vm := hZ.alike.trans X.warmed.alike
  obtain ⟨D, cfV, kV, iV, fV, hD, gV, stV, knV, obV, asV, slV⟩ := id V
  obtain ⟨D', cfC, kC, iC, fC, hD', gC, stC, -, -, asC, slC⟩ := id C
  cases hD.symm.trans hD'
  obtain ⟨D2, kD, e1, e2, e3, e4, e5⟩ := id E
  cases hD.symm.trans e1
  obtain ⟨c2, k2, i1, i2, i3, -⟩ := Cond.instantiable_spec wi
  cases e2.symm.trans i1
  cases e3.symm.trans i2
  obtain ⟨kU, u1, u2⟩ := al.2.2 _ _ e3
  have hB : Blank ST x D P.U := ⟨hD, ⟨knV, fun q hq => by rw [hq] at obV; cases obV⟩, by rw [al.findClass]; exact e2, kU, u1, by rw [u2]; exact i3, by rw [u2]; exact e5 i3⟩
  have F1 : Found ST "value" "[B" fV P.U := ⟨SBG.found_only al ⟨cfV, kV, iV, gV⟩, stV⟩
  have F2 : Found ST "coder" "B" fC P.U := ⟨SBG.found_only al ⟨cfC, kC, iC, gC⟩, stC⟩
  have hA : Ch b A P.U := ⟨⟨K.1, State.isArrayOf_alike al K.2.1, K.2.2, by omega⟩, hty⟩
  have hS : StaticIs P.U ST "COMPACT_STRINGS" "Z" (.int z) := by
    obtain ⟨cfS, iS, kS, fS, st, cS, t1, t2, t3, t4, t5, t6, t7⟩ := S
    exact StaticIs.there (s := { Z with heap := P.U.heap }) ⟨cfS, iS, kS, fS, st, cS, t1, t2, t3, t4, t5, (fun q => by rw [q] at t6; cases t6), t7⟩ al rfl
  obtain ⟨v, B, X', ⟨⟨hv, E', V', q1, q2, q3, q4, q5, q6, q7, q8, q9, q10, q11⟩, hl, hc, hs⟩, st⟩ := New1.pays x D fV fC b A z (tab_of (moved hZ hw)) hfr hlo m meth c P g ig mk _ X hg hsize hdg hW hn ⟨r1, r2, rfl, hB, F1, F2, hA, hS, hz, l0, l2, hp⟩
  have al' : Z.vm.Alike B.U.vm := hZ.alike.trans X'.warmed.alike
  have hsz : E'.slots.size = D.slots.size := by
    obtain ⟨-, -, -, kB, w1, w2, w3⟩ := q1
    obtain ⟨kB', y1, y2⟩ := al'.2.2 _ _ e3
    rw [q2.2.1] at w1
    cases w1.symm.trans y1
    rw [w3, e5 i3, y2]
  refine ⟨v, B, X', ⟨_, ⟨hv, ?_, ⟨by omega, fun y cy hy hn' => q10 y cy (by simpa using hn') hy, fun y cy hy => ?_⟩, q11, ⟨E', _, q1.1, by rw [q2.2.1]; exact e2, by rw [q2.2.1]; exact e3, by rw [q2.1]; exact obV, fun _ => by rw [hsz]; exact e5 i3⟩,
    ⟨E', cfV, kV, iV, fV, q1.1, gV, stV, by rw [q2.1]; exact knV, by rw [q2.1]; exact obV, by rw [q2.2.1]; exact asV, q3⟩, ⟨E', cfC, kC, iC, fC, q1.1, gC, stC, by rw [q2.1]; exact knV, by rw [q2.1]; exact obV, by rw [q2.2.1]; exact asC, q4⟩,
    ⟨V', ⟨q5.1, State.isArrayOf_alike al'.symm q5.2.1, q5.2.2.1⟩, q6, by rw [← al'.findClass]; exact q7, q8, fun j hj => by have := q9 j hj; rwa [Nat.zero_add] at this⟩, fun O n d w F n1 n2 => ?_⟩, hl, hc, hs⟩, st⟩
  · intro y hy
    simp only [List.mem_cons, List.not_mem_nil, or_false] at hy
    rcases hy with rfl | rfl <;> rfl
  · by_cases q : y = x
    · subst q
      cases hD.symm.trans hy
      exact ⟨E', q1.1, q2.2.1, q2.1, hsz⟩
    · exact ⟨cy, q10 y cy q hy, rfl, rfl, rfl⟩
  · obtain ⟨D3, cf, k, i, f, g1, g2, g3, g4, g5, g6, g7⟩ := F
    cases hD.symm.trans g1
    simp only [RoadKit.slotOf, g2, gV, gC, Option.map_some, Option.getD_some] at n1 n2
    exact ⟨E', cf, k, i, f, q1.1, g2, g3, by rw [q2.1]; exact g4, by rw [q2.1]; exact g5, by rw [q2.2.1]; exact g6, by rw [q2.2.2 f.slot (by simp [n1, n2])]; exact g7⟩
end StrChars.Road
namespace StrChars.Road
open Jvm Sem ClassFile Op Lib Jvm.Stand Jvm.Free Jvm.Free.XT
/-- WHAT COMES BACK, the byte[] as a list of values -/
def QA (Z : State) (x : Addr) (zn : Int32) (cs : List Int32) (h : Heap) (v : Option Value) (h' : Heap) (L : List Loc) : Prop := v = none ∧ (∀ y ∈ L, y.base = x) ∧ RoadKit.Keep h h' [x] ∧ h'.size = h.size + 1 ∧ RoadKit.Exa Z h' x ST ∧ RoadKit.Fld Z h' x ST "value" "[B" (.ref h.size) ∧ RoadKit.Fld Z h' x ST "coder" "B" (.int 0) ∧
  (∃ kb, Z.vm.findClass "[B" = some kb ∧ RoadKit.Arv Z h' h.size kb .byte zn (cs.map fun c => .int (lo8 c)) (.int 0)) ∧
  ∀ (O n d : String) (w : Value), RoadKit.Fld Z h x O n d w → RoadKit.slotOf Z O n d ≠ RoadKit.slotOf Z ST "value" "[B" → RoadKit.slotOf Z O n d ≠ RoadKit.slotOf Z ST "coder" "B" → RoadKit.Fld Z h' x O n d w
/-- **new String(chars) AT A CALL, THE ARRAYS AS LISTS**: the char[] at b holds cs, not empty, no char above 255 -/
theorem backArv {p : Program} {l : Launch} {e : Env} {R : Room} {s : State} {args : Array Value} {below : List Frame} {len W : Nat} {Z : State} {a0 : Array Value} {h : Heap} (hZ : Z.Warmed39 s.vm) (hw : ∀ d ∈ words, d.before a0 Z = true) {kI : Nat} (wi : (Jvm.Cond.instantiable ST kI).before a0 Z = true)
    {x b : Addr} {k : ClassId} {zn z : Int32} {cs : List Int32} {dv v0 c0 : Value} (E : RoadKit.Exa Z h x ST) (V : RoadKit.Fld Z h x ST "value" "[B" v0) (C : RoadKit.Fld Z h x ST "coder" "B" c0) (K : RoadKit.Arv Z h b k .char zn (cs.map Value.int) dv) (S : RoadKit.Sta Z h ST "COMPACT_STRINGS" "Z" (.int z)) (hz : ¬ z = 0)
    (hlen : zn.toNatClampNeg = cs.length) (h0 : 0 < cs.length) (hbig : cs.length ≤ 536870912) (hall : ∀ c ∈ cs, ¬ 255 < c) (hfr : 4 ≤ R.frames) (hlo : W + 65 ≤ R.locals) :
    Back l R p e below s args New1.yN len W (fun P a => a = #[.ref x, .ref b] ∧ P.U.heap = h ∧ P.cells + 1 ≤ R.cells ∧ P.slots + cs.length ≤ R.slots)
      (fun P _ v B => ∃ L, QA Z x zn cs h v B.U.heap L ∧ B.locs = P.locs ++ L ∧ B.cells = P.cells + 1 ∧ B.slots = P.slots + cs.length) := by
  obtain ⟨A, K1, K2, K3, K4, K5, K6⟩ := K
  have e : A.slots.size = cs.length := K3.trans hlen
  have hat : ∀ (i : Nat) (hi : i < cs.length), A.slots[i]? = some (.int cs[i]) := fun i hi => by rw [K5 i (by omega)]; simp [List.getD_eq_getElem?_getD, hi]
  have hcv : ∀ (i : Nat) (hi : i < cs.length), cv A i = cs[i] := fun i hi => by unfold cv; rw [hat i hi]
  have hty : Typed .char A := fun i v hv => by
    have hi : i < A.slots.size := (Array.getElem?_eq_some_iff.mp hv).1
    have q := K5 i hi
    rw [hv] at q
    rw [Option.some.inj q]
    exact K6 i hi
  refine Back.mono (back hZ hw wi E V C K1 hty S hz (by omega) (by omega) (fun i hi => by rw [hcv i (by omega)]; exact hall _ (List.getElem_mem _)) hfr hlo) (fun P a hp => ⟨hp.1, hp.2.1, hp.2.2.1, by rw [e]; exact hp.2.2.2⟩) (fun P a v B hp hq => ?_)
  obtain ⟨L, ⟨q1, q2, q3, q4, q5, q6, q7, ⟨V', v1, v2, v3, v4, v5⟩, q9⟩, hl, hc, hs⟩ := hq
  refine ⟨L, ⟨q1, q2, q3, q4, q5, q6, q7, ⟨V'.cls, v3, V', v1, rfl, by rw [v4, e, hlen], K4, fun i hi => ?_, fun i hi => ?_⟩, q9⟩, hl, hc, by rw [hs, e]⟩
  · have hi' : i < cs.length := by omega
    rw [v5 i (by omega), hcv i hi']; simp [List.getD_eq_getElem?_getD, hi']
  · have hi' : i < cs.length := by omega
    simp only [List.getD_eq_getElem?_getD, List.getElem?_map, List.getElem?_eq_getElem hi', Option.map_some, Option.getD_some]
    exact fits_lo8 _
end StrChars.Road
namespace StrChars.Road
open Jvm Sem ClassFile Op Lib Jvm.Stand Jvm.Free Jvm.Free.XT
/-- WHAT COMES BACK, in the writer's own shape -/
def QV (Z : State) (x : Addr) (N : Int32) (bs : List Int32) (h : Heap) (n0 : Nat) (v : Option Value) (h' : Heap) (L : List Loc) : Prop := v = none ∧ RoadKit.Fr n0 L ∧ RoadKit.Keep h h' [x] ∧ RoadKit.Exa Z h' x ST ∧ RoadKit.Fld Z h' x ST "coder" "B" (.int 0) ∧
  ∃ (t : Addr) (kb : ClassId), n0 ≤ t ∧ h.size ≤ t ∧ ¬ t = x ∧ RoadKit.Fld Z h' x ST "value" "[B" (.ref t) ∧ RoadKit.Arv Z h' t kb .byte N (bs.map Value.int) (.int 0)
/-- **new String(chars) AT A CALL, FOR THE WRITER**: a char[] of n known ints, each 0 to 255 -/
theorem backV {p : Program} {l : Launch} {e : Env} {R : Room} {s : State} {args : Array Value} {below : List Frame} {len W : Nat} {Z : State} {a0 : Array Value} {h : Heap} (hZ : Z.Warmed39 s.vm) (hw : ∀ d ∈ words, d.before a0 Z = true) {kI : Nat} (wi : (Jvm.Cond.instantiable ST kI).before a0 Z = true)
    {x b : Addr} {kC : ClassId} {cs bs : List Int32} {d v0 c0 : Value} {z N : Int32} {n n0 : Nat} (hx0 : n0 ≤ x) (hh0 : n0 ≤ h.size) (E : RoadKit.Exa Z h x ST) (V : RoadKit.Fld Z h x ST "value" "[B" v0) (C : RoadKit.Fld Z h x ST "coder" "B" c0) (K : RoadKit.Arv Z h b kC .char N (cs.map Value.int) d) (S : RoadKit.Sta Z h ST "COMPACT_STRINGS" "Z" (.int z)) (hz : ¬ z = 0)
    (hn : cs.length = n) (hN : N = Int32.ofNat n) (l0 : 0 < n) (l2 : n ≤ 4000) (hp : ∀ c ∈ cs, ¬ c < 0 ∧ ¬ (255 : Int32) < c) (hb : bs = cs.map (fun c => c.toInt8.toInt32)) (hfr : 4 ≤ R.frames) (hlo : W + 65 ≤ R.locals) :
    Back l R p e below s args (⟨"java/lang/String", "<init>", "([C)V"⟩ : MethodName) len W (fun P a => a = #[.ref x, .ref b] ∧ P.U.heap = h ∧ P.cells + 1 ≤ R.cells ∧ P.slots + n ≤ R.slots)
      (fun P _ v B => ∃ L, QV Z x N bs h n0 v B.U.heap L ∧ B.locs = P.locs ++ L ∧ B.cells = P.cells + 1 ∧ B.slots = P.slots + n) := by
  subst hn hN hb
  refine Back.mono (backArv hZ hw wi E V C K S hz (n32 (by omega)) l0 (by omega) (fun c hc => (hp c hc).2) hfr hlo) (fun P a hp => hp) (fun P a v B hp hq => ?_)
  obtain ⟨L, ⟨q1, q2, q3, q4, q5, q6, q7, ⟨kb, v1, v2⟩, q9⟩, hl, hc, hs⟩ := hq
  exact ⟨L, ⟨q1, fun y hy => by rw [q2 y hy]; exact hx0, q3, q5, q7, h.size, kb, hh0, Nat.le_refl _, Nat.ne_of_gt E.lt, q6, by rw [List.map_map]; exact v2⟩, hl, hc, hs⟩
end StrChars.Road
namespace StrChars
open Jvm Sem ClassFile Op Lib Jvm.Stand Jvm.Free.XT Jvm.Free.ALB Jvm.Free.JM Jvm.Free
open Jvm.Lib.Cold (StaticIs)
def hi8 (x : Int32) : Int32 := lo8 (x >>> ((8 : Int32) &&& 31))
/-- what StringUTF16.getChar makes of two bytes -/
def pairCh (u v : Int32) : Int32 := (((u &&& 255) <<< ((0 : Int32) &&& 31)) ||| ((v &&& 255) <<< ((8 : Int32) &&& 31))).toUInt32.toUInt16.toUInt32.toInt32
theorem lo8_and (x : Int32) : (lo8 x &&& 255).toBitVec.toNat = x.toBitVec.toNat % 256 := by
  have h : (lo8 x).toBitVec = (x.toBitVec.signExtend 8).signExtend 32 := by rw [lo8, Int8.toBitVec_toInt32, Int32.toBitVec_toInt8]
  rw [Int32.toBitVec_and, BitVec.toNat_and, h]
  have e : ((x.toBitVec.signExtend 8).signExtend 32).toNat % 256 = x.toBitVec.toNat % 256 := by
    rw [BitVec.toNat_signExtend]
    have hlt := x.toBitVec.isLt
    simp only [BitVec.toNat_setWidth, BitVec.toNat_signExtend]
    split <;> split <;> omega
  rw [← e]
  exact Nat.and_two_pow_sub_one_eq_mod _ 8
theorem pair_says {c : Int32} (h0 : ¬ c < 0) (h1 : ¬ 65535 < c) : pairCh (lo8 c) (hi8 c) = c := by
  rw [Int32.lt_iff_toInt_lt] at h0 h1
  have e0 : (0 : Int32).toInt = 0 := rfl
  have e1 : (65535 : Int32).toInt = 65535 := rfl
  have hc : c.toInt = c.toBitVec.toNat := by
    have := c.toBitVec.isLt
    have e : c.toInt = c.toBitVec.toInt := rfl
    rw [e] at h0 h1
    rw [e]
    rw [BitVec.toInt_eq_toNat_cond] at h0 h1 ⊢
    split at h0 <;> split <;> omega
  have hn : c.toBitVec.toNat < 65536 := by omega
  have a1 := lo8_and c
  have a2 : (hi8 c &&& 255).toBitVec.toNat = c.toBitVec.toNat / 256 := by
    rw [hi8, lo8_and]
    have e : ((8 : Int32) &&& 31) = 8 := by decide
    rw [e, Int32.toBitVec_shiftRight]
    have e2 : ((8 : Int32).toBitVec.smod 32) = 8#32 := by decide
    rw [e2, BitVec.sshiftRight_eq', BitVec.toNat_sshiftRight_of_msb_false (by rw [BitVec.msb_eq_false_iff_two_mul_lt]; omega)]
    show c.toBitVec.toNat >>> 8 % 256 = _
    rw [Nat.shiftRight_eq_div_pow]
    omega
  unfold pairCh
  apply Int32.toBitVec_inj.mp
  apply BitVec.eq_of_toNat_eq
  have f0 : ((0 : Int32) &&& 31) = 0 := by decide
  have f8 : ((8 : Int32) &&& 31) = 8 := by decide
  rw [f0, f8]
  have g : (((lo8 c &&& 255) <<< (0 : Int32)) ||| ((hi8 c &&& 255) <<< (8 : Int32))).toBitVec.toNat = c.toBitVec.toNat := by
    rw [Int32.toBitVec_or, Int32.toBitVec_shiftLeft, Int32.toBitVec_shiftLeft]
    have s0 : ((0 : Int32).toBitVec.smod 32) = 0#32 := by decide
    have s8 : ((8 : Int32).toBitVec.smod 32) = 8#32 := by decide
    rw [s0, s8, BitVec.toNat_or]
    simp only [BitVec.shiftLeft_eq', BitVec.toNat_shiftLeft, a1, a2]
    show (c.toBitVec.toNat % 256) <<< 0 % 2 ^ 32 ||| (c.toBitVec.toNat / 256) <<< 8 % 2 ^ 32 = _
    rw [Nat.shiftLeft_zero, Nat.mod_eq_of_lt (show c.toBitVec.toNat % 256 < 2 ^ 32 by omega), Nat.mod_eq_of_lt (show (c.toBitVec.toNat / 256) <<< 8 < 2 ^ 32 by rw [Nat.shiftLeft_eq]; omega), Nat.or_comm, ← Nat.shiftLeft_add_eq_or_of_lt (by omega), Nat.shiftLeft_eq]
    omega
  show BitVec.toNat (((((lo8 c &&& 255) <<< (0 : Int32)) ||| ((hi8 c &&& 255) <<< (8 : Int32))).toBitVec.setWidth 16).setWidth 32) = _
  rw [BitVec.toNat_setWidth, BitVec.toNat_setWidth, g]
  omega
end StrChars
namespace StrChars
open Jvm Sem ClassFile Op Lib Jvm.Stand Jvm.Free.XT Jvm.Free.ALB Jvm.Free.JM Jvm.Free
open Jvm.Lib.Cold (StaticIs)
/-- the array's cell V codes the n chars f 0 .. f (n - 1) by the coder cd, as the JDK does: coder 1 just where some char is above 255 -/
def Cod (cd : Int32) (n : Nat) (f : Nat → Int32) (V : Cell) : Prop := (cd = 0 ∧ V.slots.size = n ∧ ∀ j, j < n → V.slots[j]? = some (.int (lo8 (f j))) ∧ ¬ 255 < f j) ∨ (cd = 1 ∧ V.slots.size = 2 * n ∧ (∀ j, j < n → V.slots[2 * j]? = some (.int (lo8 (f j))) ∧ V.slots[2 * j + 1]? = some (.int (hi8 (f j)))) ∧ ∃ j, j < n ∧ 255 < f j)
/-- **x is a String of the n chars f 0 .. f (n - 1)**, Latin-1 or UTF-16; its array at t has the cell V -/
def Txt (x t : Addr) (V : Cell) (cd : Int32) (n : Nat) (f : Nat → Int32) (U : State) : Prop := Exact "java/lang/String" x U ∧ Has x "java/lang/String" "value" "[B" (.ref t) U ∧ Has x "java/lang/String" "coder" "B" (.int cd) U ∧ XT.Arr .byte t V U ∧ Cod cd n f V ∧ ∀ j, j < n → ¬ f j < 0 ∧ ¬ 65535 < f j
theorem Txt.mv {x t : Addr} {V : Cell} {cd : Int32} {n : Nat} {f : Nat → Int32} {U U' : State} (h : Txt x t V cd n f U) (hal : U.vm.Alike U'.vm) (hh : U'.heap = U.heap) : Txt x t V cd n f U' := ⟨h.1.mv hal hh, h.2.1.mv hal hh, h.2.2.1.mv hal hh, h.2.2.2.1.mv hal hh, h.2.2.2.2⟩
end StrChars
namespace StrChars.Road
open Jvm Sem ClassFile Op Lib Jvm.Stand Jvm.Free Jvm.Free.XT
open Jvm.Lib.Cold (StaticIs)
theorem consq {a : Array Value} {s : State} {c : Jvm.Cond} {L : List Jvm.Cond} (h0 : c.before a s = true) (h : ∀ w ∈ L, w.before a s = true) : ∀ w ∈ c :: L, w.before a s = true := fun w hw => (List.mem_cons.mp hw).elim (fun e => e ▸ h0) (h w)
/-- the bytes of the chars cs, low before high -/
def wideBytes : List Int32 → List Value
  | [] => []
  | c :: cs => .int (lo8 c) :: .int (hi8 c) :: wideBytes cs
theorem wide_lo (d : Value) : ∀ (cs : List Int32) (j : Nat), j < cs.length → (wideBytes cs).getD (2 * j) d = .int (lo8 (cs.getD j 0))
  | [], j, h => absurd h (Nat.not_lt_zero j)
  | c :: cs, 0, _ => rfl
  | c :: cs, j + 1, h => by
    have q := wide_lo d cs j (by simpa using h)
    rw [show 2 * (j + 1) = 2 * j + 1 + 1 from by omega]
    simpa [wideBytes] using q
theorem wide_hi (d : Value) : ∀ (cs : List Int32) (j : Nat), j < cs.length → (wideBytes cs).getD (2 * j + 1) d = .int (hi8 (cs.getD j 0))
  | [], j, h => absurd h (Nat.not_lt_zero j)
  | c :: cs, 0, _ => rfl
  | c :: cs, j + 1, h => by
    have q := wide_hi d cs j (by simpa using h)
    rw [show 2 * (j + 1) + 1 = 2 * j + 1 + 1 + 1 from by omega]
    simpa [wideBytes] using q
theorem low_at (d : Value) (cs : List Int32) (j : Nat) (h : j < cs.length) : (cs.map fun c => Value.int (lo8 c)).getD j d = .int (lo8 (cs.getD j 0)) := by
  simp [List.getD_eq_getElem?_getD, h]
/-- an array of N2 bytes vs codes the chars cs by the coder cd -/
def CodA (cs : List Int32) (cd N2 : Int32) (vs : List Value) : Prop := (cd = 0 ∧ N2 = Int32.ofNat cs.length ∧ vs = (cs.map fun c => Value.int (lo8 c)) ∧ ∀ c ∈ cs, ¬ 255 < c) ∨ (cd = 1 ∧ N2 = Int32.ofNat (2 * cs.length) ∧ vs = wideBytes cs ∧ ∃ c ∈ cs, 255 < c)
theorem CodA.cod {cs : List Int32} {cd N2 : Int32} {vs : List Value} {V : Cell} (h : CodA cs cd N2 vs) (hn : 2 * cs.length < 2 ^ 31) (hs : V.slots.size = N2.toNatClampNeg) (hv : RoadKit.Has V vs (.int 0)) : Cod cd cs.length (fun j => cs.getD j 0) V := by
  rcases h with ⟨rfl, rfl, rfl, h⟩ | ⟨rfl, rfl, rfl, c, hc, hw⟩
  · rw [n32 (by omega)] at hs
    exact Or.inl ⟨rfl, hs, fun j hj => ⟨by rw [hv j (by omega), low_at _ _ _ hj], by
      have e : cs.getD j 0 = cs[j] := by simp [List.getD_eq_getElem?_getD, hj]
      show ¬ 255 < cs.getD j 0
      rw [e]; exact h _ (List.getElem_mem _)⟩⟩
  · rw [n32 (by omega)] at hs
    obtain ⟨j, hj, rfl⟩ := List.getElem_of_mem hc
    exact Or.inr ⟨rfl, hs, fun j hj => ⟨by rw [hv _ (by omega), wide_lo _ _ _ hj], by rw [hv _ (by omega), wide_hi _ _ _ hj]⟩, j, hj, by
      have e : cs.getD j 0 = cs[j] := by simp [List.getD_eq_getElem?_getD, hj]
      show 255 < cs.getD j 0
      rw [e]; exact hw⟩
/-- an object of exactly java/lang/String, its two fields found: as the laws ask it -/
theorem strObj {Z U : State} {a0 : Array Value} {kI : Nat} (wi : (Jvm.Cond.instantiable ST kI).before a0 Z = true) (al : Z.vm.Alike U.vm) {x : Addr} {v0 c0 : Value} (E : RoadKit.Exa Z U.heap x ST) (V : RoadKit.Fld Z U.heap x ST "value" "[B" v0) (C : RoadKit.Fld Z U.heap x ST "coder" "B" c0) :
    ∃ (D : Cell) (fV fC : Field), Blank ST x D U ∧ Found ST "value" "[B" fV U ∧ Found ST "coder" "B" fC U ∧ D.slots[fV.slot]? = some v0 ∧ D.slots[fC.slot]? = some c0 ∧ RoadKit.slotOf Z ST "value" "[B" = fV.slot ∧ RoadKit.slotOf Z ST "coder" "B" = fC.slot := by
  obtain ⟨D, cfV, kV, iV, fV, hD, gV, stV, knV, obV, asV, slV⟩ := V
  obtain ⟨D', cfC, kC, iC, fC, hD', gC, stC, -, -, asC, slC⟩ := C
  cases hD.symm.trans hD'
  obtain ⟨D2, kD, e1, e2, e3, e4, e5⟩ := E
  cases hD.symm.trans e1
  obtain ⟨c2, k2, i1, i2, i3, -⟩ := Cond.instantiable_spec wi
  cases e2.symm.trans i1
  cases e3.symm.trans i2
  obtain ⟨kU, u1, u2⟩ := al.2.2 _ _ e3
  exact ⟨D, fV, fC, ⟨hD, ⟨knV, fun q hq => by rw [hq] at obV; cases obV⟩, by rw [al.findClass]; exact e2, kU, u1, by rw [u2]; exact i3, by rw [u2]; exact e5 i3⟩, ⟨SBG.found_only al ⟨cfV, kV, iV, gV⟩, stV⟩, ⟨SBG.found_only al ⟨cfC, kC, iC, gC⟩, stC⟩, slV, slC, by simp [RoadKit.slotOf, gV], by simp [RoadKit.slotOf, gC]⟩
theorem sta_is {Z U : State} (al : Z.vm.Alike U.vm) {C n d : String} {v : Value} (S : RoadKit.Sta Z U.heap C n d v) : StaticIs U C n d v := by
  obtain ⟨cfS, iS, kS, fS, st, cS, t1, t2, t3, t4, t5, t6, t7⟩ := S
  exact StaticIs.there (s := { Z with heap := U.heap }) ⟨cfS, iS, kS, fS, st, cS, t1, t2, t3, t4, t5, (fun q => by rw [q] at t6; cases t6), t7⟩ al rfl
end StrChars.Road
namespace StrChars
open Jvm Sem ClassFile Op Lib Jvm.Stand Jvm.Free.XT Jvm.Free.ALB Jvm.Free.JM Jvm.Free
open Jvm.Lib.Cold (StaticIs)
/-- what place i of a byte[]'s cell holds -/
def yv (A : Cell) (i : Nat) : Int32 := match A.slots[i]? with | some (.int x) => x | _ => 0
theorem yv_get {a : Addr} {A : Cell} {U : State} (h : XT.Arr .byte a A U) (ht : Typed .byte A) {i : Nat} (hi : i < A.slots.size) : A.slots[i]? = some (.int (yv A i)) := by
  have e := Array.getElem?_eq_getElem hi
  have f := ht i _ e
  unfold yv; rw [e]
  generalize A.slots[i] = v at f
  cases v <;> simp [fits] at f ⊢
/-- the two arrays are equal, place for place -/
def EqC (A B : Cell) : Prop := A.slots.size = B.slots.size ∧ ∀ i, i < A.slots.size → yv A i = yv B i
/-- a boolean that says whether p -/
def Says01 (q : Prop) (r : Option Value) (s u : State) : Prop := ∃ v : Int32, r = some (.int v) ∧ u.heap = s.heap ∧ ((v = 1 ∧ q) ∨ (v = 0 ∧ ¬ q))
theorem Says01.mv {q : Prop} : ∀ r (U U' V V' : State), U'.heap = U.heap → V.vm.Alike V'.vm → V'.heap = V.heap → Says01 q r U V → Says01 q r U' V' :=
  fun r U U' V V' h1 _ h2 ⟨v, a, b, c⟩ => ⟨v, a, by rw [h1, h2]; exact b, c⟩
namespace LEq
def yN : MethodName := ⟨"java/lang/StringLatin1", "equals", "([B[B)Z"⟩
abbrev yB : ByteArray := jdk_43_method_13_code
theorem d0 : decode yB 0 = .ok (.aload_n 0, 1) := by decide +kernel
theorem d1 : decode yB 1 = .ok (.arraylength, 1) := by decide +kernel
theorem d2 : decode yB 2 = .ok (.aload_n 1, 1) := by decide +kernel
theorem d3 : decode yB 3 = .ok (.arraylength, 1) := by decide +kernel
theorem d4 : decode yB 4 = .ok (.if_icmp (.ne) 30, 3) := by decide +kernel
theorem d7 : decode yB 7 = .ok (.iconst 0, 1) := by decide +kernel
theorem d8 : decode yB 8 = .ok (.istore_n 2, 1) := by decide +kernel
theorem d9 : decode yB 9 = .ok (.iload_n 2, 1) := by decide +kernel
theorem d10 : decode yB 10 = .ok (.aload_n 0, 1) := by decide +kernel
theorem d11 : decode yB 11 = .ok (.arraylength, 1) := by decide +kernel
theorem d12 : decode yB 12 = .ok (.if_icmp (.ge) 20, 3) := by decide +kernel
theorem d15 : decode yB 15 = .ok (.aload_n 0, 1) := by decide +kernel
theorem d16 : decode yB 16 = .ok (.iload_n 2, 1) := by decide +kernel
theorem d17 : decode yB 17 = .ok (.baload, 1) := by decide +kernel
theorem d18 : decode yB 18 = .ok (.aload_n 1, 1) := by decide +kernel
theorem d19 : decode yB 19 = .ok (.iload_n 2, 1) := by decide +kernel
theorem d20 : decode yB 20 = .ok (.baload, 1) := by decide +kernel
theorem d21 : decode yB 21 = .ok (.if_icmp (.eq) 5, 3) := by decide +kernel
theorem d24 : decode yB 24 = .ok (.iconst 0, 1) := by decide +kernel
theorem d25 : decode yB 25 = .ok (.ireturn, 1) := by decide +kernel
theorem d26 : decode yB 26 = .ok (.iinc 2 1, 3) := by decide +kernel
theorem d29 : decode yB 29 = .ok (.goto (-20), 3) := by decide +kernel
theorem d32 : decode yB 32 = .ok (.iconst 1, 1) := by decide +kernel
theorem d33 : decode yB 33 = .ok (.ireturn, 1) := by decide +kernel
theorem d34 : decode yB 34 = .ok (.iconst 0, 1) := by decide +kernel
theorem d35 : decode yB 35 = .ok (.ireturn, 1) := by decide +kernel
def site : List Cond := []
def tab : Cond := tabOf yN yB 3 (some .boolean) site
def P (a : Addr) (A : Cell) (b : Addr) (B : Cell) (args : Array Value) (s : State) : Prop := args = #[.ref a, .ref b] ∧ XT.Arr .byte a A s ∧ Typed .byte A ∧ XT.Arr .byte b B s ∧ Typed .byte B
/-- whether two byte[] are equal, place for place -/
theorem law (l : Launch) (a : Addr) (A : Cell) (b : Addr) (B : Cell) : Law l yN 2 2 0 0 yB 3 (some .boolean) site (P a A b B) (Says01 (EqC A B)) [] 0 0 := by
  refine Law.of_walk (plainFor_of_name (by decide +kernel)) (by decide +kernel) (by decide +kernel) (by decide) (fun _ _ h => by rw [h.1]; rfl) (fun _ U U' hal hh h => ⟨h.1, h.2.1.mv hal hh, h.2.2.1, h.2.2.2.1.mv hal hh, h.2.2.2.2⟩) (fun r U U' V V' h1 hal h2 h => Says01.mv r U U' V V' h1 hal h2 h) ?_
  intro p e s m args below meth c s₁ X0 hexec hbytes hml hret hlk hnm hown hh0 W hP
  obtain ⟨rfl, hA, tA, hB, tB⟩ := hP
  have a31 := hA.2.2.2
  have b31 := hB.2.2.2
  have hA0 := hA.mv X0.warmed.alike hh0
  have hB0 := hB.mv X0.warmed.alike hh0
  have c1 : Steps p.tables e below (s₁.setTop (entryFrame m #[.ref a, .ref b] 3)) (s₁.setTop (mkF m 0 #[.val (.ref a), .val (.ref b), .unset] [])) := entry rfl
  have c2 : Steps p.tables e below (s₁.setTop (entryFrame m #[.ref a, .ref b] 3)) (s₁.setTop (mkF m 4 #[.val (.ref a), .val (.ref b), .unset] [.int (Int32.ofNat B.slots.size), .int (Int32.ofNat A.slots.size)])) := c1.trans (by
    refine XS.aloadN X0.here hexec rfl (hb hbytes d0) rfl rfl ?_
    refine X0.alen hexec hA0 rfl rfl (hb hbytes d1) ?_
    refine XS.aloadN X0.here hexec rfl (hb hbytes d2) rfl rfl ?_
    refine X0.alen hexec hB0 rfl rfl (hb hbytes d3) ?_
    exact Steps.refl _)
  by_cases hs : A.slots.size = B.slots.size
  · have c3 : Steps p.tables e below (s₁.setTop (entryFrame m #[.ref a, .ref b] 3)) (s₁.setTop (mkF m 9 #[.val (.ref a), .val (.ref b), .val (.int 0)] [])) := c2.trans (by
      refine XS.icmpNo X0.here hexec rfl (hb hbytes d4) rfl (ii_ne_f (by rw [hs])) ?_
      refine iconstV X0.here hexec rfl 0 (hb hbytes d7) (by decide) ?_
      refine XS.istoreN X0.here hexec rfl (hb hbytes d8) rfl rfl ?_
      exact Steps.refl _)
    have loop : ∀ (r i : Nat), i + r = A.slots.size → (∀ j, j < i → yv A j = yv B j) → Steps p.tables e below (s₁.setTop (entryFrame m #[.ref a, .ref b] 3)) (s₁.setTop (mkF m 9 #[.val (.ref a), .val (.ref b), .val (.int (Int32.ofNat i))] [])) → ∃ (pc : Nat) (Ls : Array Slot) (v : Int32), (pc = 25 ∨ pc = 33) ∧ ((v = 1 ∧ EqC A B) ∨ (v = 0 ∧ ¬ EqC A B)) ∧ Steps p.tables e below (s₁.setTop (entryFrame m #[.ref a, .ref b] 3)) (s₁.setTop (mkF m pc Ls [.int v])) := by
      intro r
      induction r with
      | zero =>
        intro i hi he cl
        exact ⟨33, _, 1, Or.inr rfl, Or.inl ⟨rfl, hs, fun j hj => he j (by omega)⟩, cl.trans (by
          refine XS.iloadN X0.here hexec rfl (hb hbytes d9) rfl ?_
          refine XS.aloadN X0.here hexec rfl (hb hbytes d10) rfl rfl ?_
          refine X0.alen hexec hA0 rfl rfl (hb hbytes d11) ?_
          refine XS.icmpYes X0.here hexec rfl (pc0 := 12) rfl (hb hbytes d12) rfl (ii_ge_t (nlt32 (by omega) (by omega))) (by decide) rfl ?_
          refine iconstV X0.here hexec rfl 1 (hb hbytes d32) (by decide) ?_
          exact Steps.refl _)⟩
      | succ r ih =>
        intro i hi he cl
        have c4 : Steps p.tables e below (s₁.setTop (entryFrame m #[.ref a, .ref b] 3)) (s₁.setTop (mkF m 21 #[.val (.ref a), .val (.ref b), .val (.int (Int32.ofNat i))] [.int (yv B i), .int (yv A i)])) := cl.trans (by
          refine XS.iloadN X0.here hexec rfl (hb hbytes d9) rfl ?_
          refine XS.aloadN X0.here hexec rfl (hb hbytes d10) rfl rfl ?_
          refine X0.alen hexec hA0 rfl rfl (hb hbytes d11) ?_
          refine XS.icmpNo X0.here hexec rfl (hb hbytes d12) rfl (ii_ge_f (lt32 (by omega) (by omega))) ?_
          refine XS.aloadN X0.here hexec rfl (hb hbytes d15) rfl rfl ?_
          refine XS.iloadN X0.here hexec rfl (hb hbytes d16) rfl ?_
          refine X0.aget hexec hA0 rfl (yv_get hA tA (i := i) (by omega)) rfl rfl (hb hbytes d17) ?_
          refine XS.aloadN X0.here hexec rfl (hb hbytes d18) rfl rfl ?_
          refine XS.iloadN X0.here hexec rfl (hb hbytes d19) rfl ?_
          refine X0.aget hexec hB0 rfl (yv_get hB tB (i := i) (by omega)) rfl rfl (hb hbytes d20) ?_
          exact Steps.refl _)
        by_cases hv : yv A i = yv B i
        · have c5 : Steps p.tables e below (s₁.setTop (entryFrame m #[.ref a, .ref b] 3)) (s₁.setTop (mkF m 9 #[.val (.ref a), .val (.ref b), .val (.int (Int32.ofNat i + 1))] [])) := c4.trans (by
            refine XS.icmpYes X0.here hexec rfl (pc0 := 21) rfl (hb hbytes d21) rfl (ii_eq_t hv) (by decide) rfl ?_
            refine iincV X0.here hexec rfl 1 (hb hbytes d26) (by decide) rfl rfl ?_
            refine XS.goto X0.here hexec rfl (pc0 := 29) rfl (hb hbytes d29) (by decide) rfl ?_
            exact Steps.refl _)
          rw [succ32] at c5
          exact ih (i + 1) (by omega) (fun j hj => by
            by_cases e : j = i
            · rw [e]; exact hv
            · exact he j (by omega)) c5
        · exact ⟨25, _, 0, Or.inl rfl, Or.inr ⟨rfl, fun q => hv (q.2 i (by omega))⟩, c4.trans (by
            refine XS.icmpNo X0.here hexec rfl (hb hbytes d21) rfl (ii_eq_f hv) ?_
            refine iconstV X0.here hexec rfl 0 (hb hbytes d24) (by decide) ?_
            exact Steps.refl _)⟩
    obtain ⟨pc, Ls, v, hpc, hv, cz⟩ := loop A.slots.size 0 (by omega) (fun j hj => absurd hj (Nat.not_lt_zero j)) c3
    have nv : narrow .boolean (.int v) = .int v := by rcases hv with ⟨rfl, -⟩ | ⟨rfl, -⟩ <;> rfl
    rcases hpc with rfl | rfl
    · exact ⟨s₁, some (.int v), _, _, _, X0, rfl, rfl, rfl, (fun h => by cases h), ⟨v, rfl, hh0, hv⟩, fun fs hl => cz.trans (X0.ireturnOut hexec hret nv (Or.inr (Or.inl rfl)) (hb hbytes d25) hl)⟩
    · exact ⟨s₁, some (.int v), _, _, _, X0, rfl, rfl, rfl, (fun h => by cases h), ⟨v, rfl, hh0, hv⟩, fun fs hl => cz.trans (X0.ireturnOut hexec hret nv (Or.inr (Or.inl rfl)) (hb hbytes d33) hl)⟩
  · have c3 : Steps p.tables e below (s₁.setTop (entryFrame m #[.ref a, .ref b] 3)) (s₁.setTop (mkF m 35 #[.val (.ref a), .val (.ref b), .unset] [.int 0])) := c2.trans (by
      refine XS.icmpYes X0.here hexec rfl (pc0 := 4) rfl (hb hbytes d4) rfl (ii_ne_t (ne32 a31 b31 hs)) (by decide) rfl ?_
      refine iconstV X0.here hexec rfl 0 (hb hbytes d34) (by decide) ?_
      exact Steps.refl _)
    exact ⟨s₁, some (.int 0), _, _, _, X0, rfl, rfl, rfl, (fun h => by cases h), ⟨0, rfl, hh0, Or.inr ⟨rfl, fun q => hs q.1⟩⟩, fun fs hl => c3.trans (X0.ireturnOut hexec hret rfl (Or.inr (Or.inl rfl)) (hb hbytes d35) hl)⟩
end LEq
theorem Cod.ty {cd : Int32} {n : Nat} {f : Nat → Int32} {V : Cell} (h : Cod cd n f V) : Typed .byte V := fun i v hv => by
  have hi : i < V.slots.size := (Array.getElem?_eq_some_iff.mp hv).1
  rcases h with ⟨-, k1, k2⟩ | ⟨-, k1, k2, -⟩
  · rw [(k2 i (by omega)).1] at hv; cases hv; exact fits_lo8 _
  · rcases Nat.mod_two_eq_zero_or_one i with e | e
    · obtain ⟨j, rfl⟩ : ∃ j, i = 2 * j := ⟨i / 2, by omega⟩
      rw [(k2 j (by omega)).1] at hv; cases hv; exact fits_lo8 _
    · obtain ⟨j, rfl⟩ : ∃ j, i = 2 * j + 1 := ⟨i / 2, by omega⟩
      rw [(k2 j (by omega)).2] at hv; cases hv; exact fits_lo8 _
/-- the same text -/
def SameT (n : Nat) (f : Nat → Int32) (k : Nat) (g : Nat → Int32) : Prop := n = k ∧ ∀ j, j < n → f j = g j
theorem lo8_inj {x y : Int32} (h0 : ¬ x < 0) (h1 : ¬ 255 < x) (k0 : ¬ y < 0) (k1 : ¬ 255 < y) (h : lo8 x = lo8 y) : x = y := by
  rw [← lo8_mask h0 h1, ← lo8_mask k0 k1, h]
/-- arrays coded by one coder are equal just where the texts are -/
theorem Cod.eqv {cd : Int32} {n k : Nat} {f g : Nat → Int32} {V V' : Cell} (h : Cod cd n f V) (h' : Cod cd k g V') (hf : ∀ j, j < n → ¬ f j < 0 ∧ ¬ 65535 < f j) (hg : ∀ j, j < k → ¬ g j < 0 ∧ ¬ 65535 < g j) : EqC V V' ↔ SameT n f k g := by
  have yvv : ∀ {W : Cell} {i : Nat} {x : Int32}, W.slots[i]? = some (.int x) → yv W i = x := fun q => by unfold yv; rw [q]
  rcases h with ⟨rfl, k1, k2⟩ | ⟨rfl, k1, k2, -⟩
  · rcases h' with ⟨-, m1, m2⟩ | ⟨e, -⟩
    · constructor
      · rintro ⟨e1, e2⟩
        refine ⟨by omega, fun j hj => ?_⟩
        have q := e2 j (by omega)
        rw [yvv (k2 j hj).1, yvv (m2 j (by omega)).1] at q
        exact lo8_inj (hf j hj).1 (k2 j hj).2 (hg j (by omega)).1 (m2 j (by omega)).2 q
      · rintro ⟨rfl, e2⟩
        refine ⟨by omega, fun j hj => ?_⟩
        rw [yvv (k2 j (by omega)).1, yvv (m2 j (by omega)).1, e2 j (by omega)]
    · exact absurd e (by decide)
  · rcases h' with ⟨e, -⟩ | ⟨-, m1, m2, -⟩
    · exact absurd e (by decide)
    · constructor
      · rintro ⟨e1, e2⟩
        refine ⟨by omega, fun j hj => ?_⟩
        have q1 := e2 (2 * j) (by omega)
        have q2 := e2 (2 * j + 1) (by omega)
        rw [yvv (k2 j hj).1, yvv (m2 j (by omega)).1] at q1
        rw [yvv (k2 j hj).2, yvv (m2 j (by omega)).2] at q2
        rw [← pair_says (hf j hj).1 (hf j hj).2, ← pair_says (hg j (by omega)).1 (hg j (by omega)).2, q1, q2]
      · rintro ⟨rfl, e2⟩
        refine ⟨by omega, fun i hi => ?_⟩
        rcases Nat.mod_two_eq_zero_or_one i with e | e
        · obtain ⟨j, rfl⟩ : ∃ j, i = 2 * j := ⟨i / 2, by omega⟩
          rw [yvv (k2 j (by omega)).1, yvv (m2 j (by omega)).1, e2 j (by omega)]
        · obtain ⟨j, rfl⟩ : ∃ j, i = 2 * j + 1 := ⟨i / 2, by omega⟩
          rw [yvv (k2 j (by omega)).2, yvv (m2 j (by omega)).2, e2 j (by omega)]
/-- two codings differ: so do the texts -/
theorem Cod.dif {cd cd' : Int32} {n k : Nat} {f g : Nat → Int32} {V V' : Cell} (h : Cod cd n f V) (h' : Cod cd' k g V') (hne : ¬ cd = cd') : ¬ SameT n f k g := by
  rintro ⟨rfl, e⟩
  rcases h with ⟨rfl, -, k2⟩ | ⟨rfl, -, -, j, hj, hw⟩
  · rcases h' with ⟨rfl, -⟩ | ⟨-, -, -, j, hj, hw⟩
    · exact hne rfl
    · exact (k2 j hj).2 (by rw [e j hj]; exact hw)
  · rcases h' with ⟨-, -, m2⟩ | ⟨rfl, -⟩
    · exact (m2 j hj).2 (by rw [← e j hj]; exact hw)
    · exact hne rfl
/-- an object of exactly C is an instance of C -/
theorem cinst {p : Program} {l : Launch} {e : Env} {R : Room} {s : State} {m : MethodId} {args : Array Value} {below : List Frame} {meth : Method} {c : Code} {T : State} {locs : List Loc} {cells slots : Nat} (X : Stand p l e R s m args below meth c T locs cells slots) (hexec : p.tables.exec = Jvm.exec) {own C : String} {index : Nat} (hown : s.vm.findClass own = some m.cls) (hlink : (Cond.classLink own index C).before args s = true) {a : Addr} (hE : Exact C a T)
    {g : JFrame} (hg : g.method = m) {rest : List Value} (hstack : g.stack = .ref a :: rest) (hdg : decode c.code g.pc = .ok (.instanceof index, 3)) :
    ∃ T', Stand p l e R s m args below meth c T' locs cells slots ∧ T'.heap = T.heap ∧ ∀ target, Steps p.tables e below (T'.setTop { g with pc := g.pc + 3, stack := .int 1 :: rest }) target → Steps p.tables e below (T.setTop g) target := by
  obtain ⟨cB, h1, D, h2, h3, h4⟩ := hE
  have h1' : s.vm.findClass C = some cB := by rw [← X.warmed.alike.findClass]; exact h1
  obtain ⟨vm', X', st⟩ := X.instanceofYes hexec hown hlink h2 h4 h1' (by rw [h3]; exact Jvm.Free.SB.assignable_self _ _) hg hstack hdg
  exact ⟨_, X', rfl, st⟩
theorem cself {p : Program} {l : Launch} {e : Env} {R : Room} {s : State} {m : MethodId} {args : Array Value} {below : List Frame} {meth : Method} {c : Code} {T : State} {locs : List Loc} {cells slots : Nat} (X : Stand p l e R s m args below meth c T locs cells slots) (hexec : p.tables.exec = Jvm.exec) {own C : String} {index : Nat} (hown : s.vm.findClass own = some m.cls) (hlink : (Cond.classLink own index C).before args s = true) {a : Addr} (hE : Exact C a T)
    {g : JFrame} (hg : g.method = m) {rest : List Value} (hstack : g.stack = .ref a :: rest) (hdg : decode c.code g.pc = .ok (.checkcast index, 3)) :
    ∃ T', Stand p l e R s m args below meth c T' locs cells slots ∧ T'.heap = T.heap ∧ ∀ target, Steps p.tables e below (T'.setTop { g with pc := g.pc + 3, stack := .ref a :: rest }) target → Steps p.tables e below (T.setTop g) target := by
  obtain ⟨cB, h1, D, h2, h3, h4⟩ := hE
  have h1' : s.vm.findClass C = some cB := by rw [← X.warmed.alike.findClass]; exact h1
  obtain ⟨vm', X', st⟩ := X.checkcastYes hexec hown hlink h2 h4 h1' (by rw [h3]; exact Jvm.Free.SB.assignable_self _ _) hg hstack hdg
  exact ⟨_, X', rfl, fun t h => st t (by rw [← hstack] at h; exact h)⟩
namespace SEq
def yN : MethodName := ⟨"java/lang/String", "equals", "(Ljava/lang/Object;)Z"⟩
abbrev yB : ByteArray := jdk_42_method_66_code
theorem d0 : decode yB 0 = .ok (.aload_n 0, 1) := by decide +kernel
theorem d1 : decode yB 1 = .ok (.aload_n 1, 1) := by decide +kernel
theorem d2 : decode yB 2 = .ok (.if_acmp (.ne) 5, 3) := by decide +kernel
theorem d5 : decode yB 5 = .ok (.iconst 1, 1) := by decide +kernel
theorem d6 : decode yB 6 = .ok (.ireturn, 1) := by decide +kernel
theorem d7 : decode yB 7 = .ok (.aload_n 1, 1) := by decide +kernel
theorem d8 : decode yB 8 = .ok (.instanceof 10, 3) := by decide +kernel
theorem d11 : decode yB 11 = .ok (.ifCond (.eq) 43, 3) := by decide +kernel
theorem d14 : decode yB 14 = .ok (.aload_n 1, 1) := by decide +kernel
theorem d15 : decode yB 15 = .ok (.checkcast 10, 3) := by decide +kernel
theorem d18 : decode yB 18 = .ok (.astore_n 2, 1) := by decide +kernel
theorem d19 : decode yB 19 = .ok (.getstatic 38, 3) := by decide +kernel
theorem d22 : decode yB 22 = .ok (.ifCond (.eq) 14, 3) := by decide +kernel
theorem d25 : decode yB 25 = .ok (.aload_n 0, 1) := by decide +kernel
theorem d26 : decode yB 26 = .ok (.getfield 15, 3) := by decide +kernel
theorem d29 : decode yB 29 = .ok (.aload_n 2, 1) := by decide +kernel
theorem d30 : decode yB 30 = .ok (.getfield 15, 3) := by decide +kernel
theorem d33 : decode yB 33 = .ok (.if_icmp (.ne) 21, 3) := by decide +kernel
theorem d36 : decode yB 36 = .ok (.aload_n 0, 1) := by decide +kernel
theorem d37 : decode yB 37 = .ok (.getfield 9, 3) := by decide +kernel
theorem d40 : decode yB 40 = .ok (.aload_n 2, 1) := by decide +kernel
theorem d41 : decode yB 41 = .ok (.getfield 9, 3) := by decide +kernel
theorem d44 : decode yB 44 = .ok (.invokestatic 541, 3) := by decide +kernel
theorem d47 : decode yB 47 = .ok (.ifCond (.eq) 7, 3) := by decide +kernel
theorem d50 : decode yB 50 = .ok (.iconst 1, 1) := by decide +kernel
theorem d51 : decode yB 51 = .ok (.goto 4, 3) := by decide +kernel
theorem d54 : decode yB 54 = .ok (.iconst 0, 1) := by decide +kernel
theorem d55 : decode yB 55 = .ok (.ireturn, 1) := by decide +kernel
def site : List Cond := [.classLink "java/lang/String" 10 "java/lang/String", .fieldLink "java/lang/String" 38 "java/lang/String" "COMPACT_STRINGS" "Z", .fieldLink "java/lang/String" 15 "java/lang/String" "coder" "B", .fieldLink "java/lang/String" 9 "java/lang/String" "value" "[B", LEq.tab] ++ staticW "java/lang/String" 541 LEq.yN
def tab : Cond := tabOf yN yB 3 (some .boolean) site
def P (x t : Addr) (V : Cell) (cd : Int32) (n : Nat) (f : Nat → Int32) (y t' : Addr) (V' : Cell) (cd' : Int32) (k : Nat) (g : Nat → Int32) (z : Int32) (args : Array Value) (s : State) : Prop := args = #[.ref x, .ref y] ∧ Txt x t V cd n f s ∧ Txt y t' V' cd' k g s ∧ StaticIs s "java/lang/String" "COMPACT_STRINGS" "Z" (.int z) ∧ ¬ z = 0
/-- equals(Object) of two Strings: whether the texts are the same -/
theorem law (l : Launch) (x t : Addr) (V : Cell) (cd : Int32) (n : Nat) (f : Nat → Int32) (y t' : Addr) (V' : Cell) (cd' : Int32) (k : Nat) (g : Nat → Int32) (z : Int32) : Law l yN 2 1 1 14 yB 3 (some .boolean) site (P x t V cd n f y t' V' cd' k g z) (Says01 (SameT n f k g)) [] 0 0 := by
  refine Law.of_walk (plainFor_of_name (by decide +kernel)) (by decide +kernel) (by decide +kernel) (by decide) (fun _ _ h => by rw [h.1]; rfl) (fun _ U U' hal hh h => ⟨h.1, h.2.1.mv hal hh, h.2.2.1.mv hal hh, h.2.2.2.1.there hal hh, h.2.2.2.2⟩) (fun r U U' V V' h1 hal h2 h => Says01.mv r U U' V V' h1 hal h2 h) ?_
  intro p e s m args below meth c s₁ X0 hexec hbytes hml hret hlk hnm hown hh0 W hP
  obtain ⟨rfl, hx, hy, s1, hz⟩ := hP
  have c1 : Steps p.tables e below (s₁.setTop (entryFrame m #[.ref x, .ref y] 3)) (s₁.setTop (mkF m 2 #[.val (.ref x), .val (.ref y), .unset] [.ref y, .ref x])) := Steps.trans (entry rfl) (by
    show Steps p.tables e below (s₁.setTop (mkF m 0 #[.val (.ref x), .val (.ref y), .unset] [])) _
    refine XS.aloadN X0.here hexec rfl (hb hbytes d0) rfl rfl ?_
    refine XS.aloadN X0.here hexec rfl (hb hbytes d1) rfl rfl ?_
    exact Steps.refl _)
  by_cases hxy : x = y
  · have c2 : Steps p.tables e below (s₁.setTop (entryFrame m #[.ref x, .ref y] 3)) (s₁.setTop (mkF m 6 #[.val (.ref x), .val (.ref y), .unset] [.int 1])) := c1.trans (by
      refine acmpNo X0.here hexec rfl (hb hbytes d2) rfl rfl rfl (by simp [acmp, hxy]) ?_
      refine iconstV X0.here hexec rfl 1 (hb hbytes d5) (by decide) ?_
      exact Steps.refl _)
    subst hxy
    have ec : cd = cd' := by
      obtain ⟨D, fd, a1, a2, a3⟩ := hx.2.2.1
      obtain ⟨D', fd', b1, b2, b3⟩ := hy.2.2.1
      cases a1.symm.trans b1
      obtain ⟨q1, q2, q3, q4⟩ := a2.1
      obtain ⟨r1, r2, r3, r4⟩ := b2.1
      cases q4.symm.trans r4
      cases a3.symm.trans b3; rfl
    have et : t = t' := by
      obtain ⟨D, fd, a1, a2, a3⟩ := hx.2.1
      obtain ⟨D', fd', b1, b2, b3⟩ := hy.2.1
      cases a1.symm.trans b1
      obtain ⟨q1, q2, q3, q4⟩ := a2.1
      obtain ⟨r1, r2, r3, r4⟩ := b2.1
      cases q4.symm.trans r4
      cases a3.symm.trans b3; rfl
    subst ec et
    have ev : V = V' := by cases hx.2.2.2.1.1.symm.trans hy.2.2.2.1.1; rfl
    subst ev
    have hs : SameT n f k g := (Cod.eqv hx.2.2.2.2.1 hy.2.2.2.2.1 hx.2.2.2.2.2 hy.2.2.2.2.2).mp ⟨rfl, fun _ _ => rfl⟩
    exact ⟨s₁, some (.int 1), _, _, _, X0, rfl, rfl, rfl, (fun h => by cases h), ⟨1, rfl, hh0, Or.inl ⟨rfl, hs⟩⟩, fun fs hl => c2.trans (X0.ireturnOut hexec hret rfl (Or.inr (Or.inl rfl)) (hb hbytes d6) hl)⟩
  · have c2 : Steps p.tables e below (s₁.setTop (entryFrame m #[.ref x, .ref y] 3)) (s₁.setTop (mkF m 8 #[.val (.ref x), .val (.ref y), .unset] [.ref y])) := c1.trans (by
      refine acmpYes X0.here hexec rfl (pc0 := 2) rfl (hb hbytes d2) rfl rfl rfl (by simp [acmp, hxy]) (by decide) rfl ?_
      refine XS.aloadN X0.here hexec rfl (hb hbytes d7) rfl rfl ?_
      exact Steps.refl _)
    obtain ⟨T3, X3, q3, st3⟩ := cinst X0 hexec hown (wk W (.classLink "java/lang/String" 10 "java/lang/String")) (hy.mv X0.warmed.alike hh0).1 (g := (mkF m 8 #[.val (.ref x), .val (.ref y), .unset] [.ref y])) rfl (rest := []) rfl (hb hbytes d8)
    have hh3 := q3.trans hh0
    have c4 : Steps p.tables e below (s₁.setTop (entryFrame m #[.ref x, .ref y] 3)) (T3.setTop (mkF m 15 #[.val (.ref x), .val (.ref y), .unset] [.ref y])) := (c2.trans (st3 _ (Steps.refl _))).trans (by
      refine XS.ifNo X3.here hexec rfl (hb hbytes d11) rfl (i0_eq_f (by decide)) ?_
      refine XS.aloadN X3.here hexec rfl (hb hbytes d14) rfl rfl ?_
      exact Steps.refl _)
    obtain ⟨T5, X5, q5, st5⟩ := cself X3 hexec hown (wk W (.classLink "java/lang/String" 10 "java/lang/String")) (hy.mv X3.warmed.alike hh3).1 (g := (mkF m 15 #[.val (.ref x), .val (.ref y), .unset] [.ref y])) rfl (rest := []) rfl (hb hbytes d15)
    have hh5 := q5.trans hh3
    have c6 : Steps p.tables e below (s₁.setTop (entryFrame m #[.ref x, .ref y] 3)) (T5.setTop (mkF m 19 #[.val (.ref x), .val (.ref y), .val (.ref y)] [])) := (c4.trans (st5 _ (Steps.refl _))).trans (by
      refine XS.astoreN X5.here hexec rfl (hb hbytes d18) rfl rfl rfl ?_
      exact Steps.refl _)
    obtain ⟨T7, X7, q7, st7⟩ := X5.sget hexec hown (wk W (.fieldLink "java/lang/String" 38 "java/lang/String" "COMPACT_STRINGS" "Z")) s1 (fun _ _ h => by rw [hh5]; exact h) (g := (mkF m 19 #[.val (.ref x), .val (.ref y), .val (.ref y)] [])) rfl (hb hbytes d19)
    have hh7 := q7.trans hh5
    have c8 : Steps p.tables e below (s₁.setTop (entryFrame m #[.ref x, .ref y] 3)) (T7.setTop (mkF m 26 #[.val (.ref x), .val (.ref y), .val (.ref y)] [.ref x])) := (c6.trans (st7 _ (Steps.refl _))).trans (by
      refine XS.ifNo X7.here hexec rfl (hb hbytes d22) rfl (i0_eq_f hz) ?_
      refine XS.aloadN X7.here hexec rfl (hb hbytes d25) rfl rfl ?_
      exact Steps.refl _)
    obtain ⟨T9, X9, q9, st9⟩ := X7.hget hexec hown (wk W (.fieldLink "java/lang/String" 15 "java/lang/String" "coder" "B")) (hx.mv X7.warmed.alike hh7).2.2.1 (g := (mkF m 26 #[.val (.ref x), .val (.ref y), .val (.ref y)] [.ref x])) rfl (rest := []) rfl (hb hbytes d26)
    have hh9 := q9.trans hh7
    have c10 : Steps p.tables e below (s₁.setTop (entryFrame m #[.ref x, .ref y] 3)) (T9.setTop (mkF m 30 #[.val (.ref x), .val (.ref y), .val (.ref y)] [.ref y, .int cd])) := (c8.trans (st9 _ (Steps.refl _))).trans (by
      refine XS.aloadN X9.here hexec rfl (hb hbytes d29) rfl rfl ?_
      exact Steps.refl _)
    obtain ⟨T11, X11, q11, st11⟩ := X9.hget hexec hown (wk W (.fieldLink "java/lang/String" 15 "java/lang/String" "coder" "B")) (hy.mv X9.warmed.alike hh9).2.2.1 (g := (mkF m 30 #[.val (.ref x), .val (.ref y), .val (.ref y)] [.ref y, .int cd])) rfl (rest := [.int cd]) rfl (hb hbytes d30)
    have hh11 := q11.trans hh9
    have c12 : Steps p.tables e below (s₁.setTop (entryFrame m #[.ref x, .ref y] 3)) (T11.setTop (mkF m 33 #[.val (.ref x), .val (.ref y), .val (.ref y)] [.int cd', .int cd])) := c10.trans (st11 _ (Steps.refl _))
    by_cases hcd : cd = cd'
    · subst hcd
      have c13 : Steps p.tables e below (s₁.setTop (entryFrame m #[.ref x, .ref y] 3)) (T11.setTop (mkF m 37 #[.val (.ref x), .val (.ref y), .val (.ref y)] [.ref x])) := c12.trans (by
        refine XS.icmpNo X11.here hexec rfl (hb hbytes d33) rfl (ii_ne_f rfl) ?_
        refine XS.aloadN X11.here hexec rfl (hb hbytes d36) rfl rfl ?_
        exact Steps.refl _)
      obtain ⟨T14, X14, q14, st14⟩ := X11.hget hexec hown (wk W (.fieldLink "java/lang/String" 9 "java/lang/String" "value" "[B")) (hx.mv X11.warmed.alike hh11).2.1 (g := (mkF m 37 #[.val (.ref x), .val (.ref y), .val (.ref y)] [.ref x])) rfl (rest := []) rfl (hb hbytes d37)
      have hh14 := q14.trans hh11
      have c15 : Steps p.tables e below (s₁.setTop (entryFrame m #[.ref x, .ref y] 3)) (T14.setTop (mkF m 41 #[.val (.ref x), .val (.ref y), .val (.ref y)] [.ref y, .ref t])) := (c13.trans (st14 _ (Steps.refl _))).trans (by
        refine XS.aloadN X14.here hexec rfl (hb hbytes d40) rfl rfl ?_
        exact Steps.refl _)
      obtain ⟨T16, X16, q16, st16⟩ := X14.hget hexec hown (wk W (.fieldLink "java/lang/String" 9 "java/lang/String" "value" "[B")) (hy.mv X14.warmed.alike hh14).2.1 (g := (mkF m 41 #[.val (.ref x), .val (.ref y), .val (.ref y)] [.ref y, .ref t])) rfl (rest := [.ref t]) rfl (hb hbytes d41)
      have hh16 := q16.trans hh14
      have c17 : Steps p.tables e below (s₁.setTop (entryFrame m #[.ref x, .ref y] 3)) (T16.setTop (mkF m 44 #[.val (.ref x), .val (.ref y), .val (.ref y)] [.ref t', .ref t])) := c15.trans (st16 _ (Steps.refl _))
      obtain ⟨v18, T18, X18, E18, g18⟩ := X16.callS hexec (LEq.law l t V t' V') hown (wks W (staticW "java/lang/String" 541 LEq.yN)) (wk W LEq.tab) (W := 0) (Nat.le_of_ble_eq_true rfl) (Nat.le_of_ble_eq_true rfl) (Nat.le_refl _) (Nat.le_refl _) (g := (mkF m 44 #[.val (.ref x), .val (.ref y), .val (.ref y)] [.ref t', .ref t])) rfl (by rw [hml]; rfl) c17 (argsL := [.ref t, .ref t']) (rest := []) rfl rfl (by show 2 * 0 + 0 ≤ _; decide) (hb hbytes d44) (⟨rfl, hx.2.2.2.1.mv X16.warmed.alike hh16, hx.2.2.2.2.1.ty, hy.2.2.2.1.mv X16.warmed.alike hh16, hy.2.2.2.2.1.ty⟩)
      obtain ⟨v, rfl, q18, hv⟩ := E18
      have iff := Cod.eqv hx.2.2.2.2.1 hy.2.2.2.2.1 hx.2.2.2.2.2 hy.2.2.2.2.2
      rcases hv with ⟨rfl, he⟩ | ⟨rfl, he⟩
      · have c19 : Steps p.tables e below (s₁.setTop (entryFrame m #[.ref x, .ref y] 3)) (T18.setTop (mkF m 55 #[.val (.ref x), .val (.ref y), .val (.ref y)] [.int 1])) := Steps.trans g18 (by
          refine XS.ifNo X18.here hexec rfl (hb hbytes d47) rfl (i0_eq_f (by decide)) ?_
          refine iconstV X18.here hexec rfl 1 (hb hbytes d50) (by decide) ?_
          refine XS.goto X18.here hexec rfl (pc0 := 51) rfl (hb hbytes d51) (by decide) rfl ?_
          exact Steps.refl _)
        exact ⟨T18, some (.int 1), _, _, _, X18, rfl, rfl, rfl, (fun h => by cases h), ⟨1, rfl, q18.trans hh16, Or.inl ⟨rfl, iff.mp he⟩⟩, fun fs hl => c19.trans (X18.ireturnOut hexec hret rfl (Or.inr (Or.inl rfl)) (hb hbytes d55) hl)⟩
      · have c19 : Steps p.tables e below (s₁.setTop (entryFrame m #[.ref x, .ref y] 3)) (T18.setTop (mkF m 55 #[.val (.ref x), .val (.ref y), .val (.ref y)] [.int 0])) := Steps.trans g18 (by
          refine XS.ifYes X18.here hexec rfl (pc0 := 47) rfl (hb hbytes d47) rfl (i0_eq_t rfl) (by decide) rfl ?_
          refine iconstV X18.here hexec rfl 0 (hb hbytes d54) (by decide) ?_
          exact Steps.refl _)
        exact ⟨T18, some (.int 0), _, _, _, X18, rfl, rfl, rfl, (fun h => by cases h), ⟨0, rfl, q18.trans hh16, Or.inr ⟨rfl, fun q => he (iff.mpr q)⟩⟩, fun fs hl => c19.trans (X18.ireturnOut hexec hret rfl (Or.inr (Or.inl rfl)) (hb hbytes d55) hl)⟩
    · have c13 : Steps p.tables e below (s₁.setTop (entryFrame m #[.ref x, .ref y] 3)) (T11.setTop (mkF m 55 #[.val (.ref x), .val (.ref y), .val (.ref y)] [.int 0])) := c12.trans (by
        refine XS.icmpYes X11.here hexec rfl (pc0 := 33) rfl (hb hbytes d33) rfl (ii_ne_t hcd) (by decide) rfl ?_
        refine iconstV X11.here hexec rfl 0 (hb hbytes d54) (by decide) ?_
        exact Steps.refl _)
      exact ⟨T11, some (.int 0), _, _, _, X11, rfl, rfl, rfl, (fun h => by cases h), ⟨0, rfl, hh11, Or.inr ⟨rfl, Cod.dif hx.2.2.2.2.1 hy.2.2.2.2.1 hcd⟩⟩, fun fs hl => c13.trans (X11.ireturnOut hexec hret rfl (Or.inr (Or.inl rfl)) (hb hbytes d55) hl)⟩
theorem pays {l : Launch} {R : Room} {p : Program} {e : Env} {below : List Frame} {s : State} {sargs : Array Value} {len W : Nat} (x t : Addr) (V : Cell) (cd : Int32) (n : Nat) (f : Nat → Int32) (y t' : Addr) (V' : Cell) (cd' : Int32) (k : Nat) (g : Nat → Int32) (z : Int32) (htab : tab.before sargs s = true) (hfr : 2 ≤ R.frames) (hlo : W + 28 ≤ R.locals) :
    Back l R p e below s sargs yN len W (fun A₁ a₁ => A₁.cells + 0 ≤ R.cells ∧ A₁.slots + 0 ≤ R.slots ∧ P x t V cd n f y t' V' cd' k g z a₁ A₁.U) (fun A₁ _ v₁ B₁ => Says01 (SameT n f k g) v₁ A₁.U B₁.U ∧ B₁.locs = A₁.locs ++ [] ∧ B₁.cells = A₁.cells + 0 ∧ B₁.slots = A₁.slots + 0) :=
  (law l x t V cd n f y t' V' cd' k g z).pays htab hfr (by omega)
end SEq
end StrChars
namespace StrChars.Road
open Jvm Sem ClassFile Op Lib Jvm.Stand Jvm.Free Jvm.Free.XT
open Jvm.Lib.Cold (StaticIs)
/-- the words of String.equals(Object) -/
abbrev wordsEq : List Jvm.Cond := [.code SEq.yN SEq.yB 3 (some .boolean), .initialized ST, .classLink ST 10 ST, .fieldLink ST 38 ST "COMPACT_STRINGS" "Z", .fieldLink ST 15 ST "coder" "B", .fieldLink ST 9 ST "value" "[B", .methodLink ST 541 LEq.yN, .static LEq.yN, .code LEq.yN LEq.yB 3 (some .boolean), .initialized "java/lang/StringLatin1"]
theorem tabEq_of {a : Array Value} {s : State} (h : ∀ w ∈ wordsEq, w.before a s = true) : SEq.tab.before a s = true := by
  have hl : LEq.tab.before a s = true := unparts (wk h (.code LEq.yN LEq.yB 3 (some .boolean))) (wks h (.initialized LEq.yN.cls :: LEq.site))
  have q := consq hl h
  exact unparts (wk q (.code SEq.yN SEq.yB 3 (some .boolean))) (wks q (.initialized SEq.yN.cls :: SEq.site))
theorem movedEq {Z s : State} {a0 args : Array Value} (hZ : Z.Warmed39 s.vm) (hw : ∀ d ∈ wordsEq, d.before a0 Z = true) : ∀ d ∈ wordsEq, d.before args s = true := fun d hd => by
  have t : ∀ d ∈ wordsEq, (d.onTables && d.keepsFace) = true := by decide +kernel
  exact RoadKit.mv hZ (hw d hd) (t d hd)
/-- the road's facts of a String, as the laws ask it -/
theorem txt_of {Z U : State} {a0 : Array Value} {kI : Nat} (wi : (Jvm.Cond.instantiable ST kI).before a0 Z = true) (al : Z.vm.Alike U.vm) {x t : Addr} {kb : ClassId} {cs : List Int32} {cd N2 : Int32} {vs : List Value} (E : RoadKit.Exa Z U.heap x ST) (V : RoadKit.Fld Z U.heap x ST "value" "[B" (.ref t)) (C : RoadKit.Fld Z U.heap x ST "coder" "B" (.int cd)) (K : RoadKit.Arv Z U.heap t kb .byte N2 vs (.int 0)) (hc : CodA cs cd N2 vs) (hb : ∀ c ∈ cs, ¬ c < 0 ∧ ¬ (65535 : Int32) < c) (l2 : cs.length ≤ 4000) :
    ∃ A, Txt x t A cd cs.length (fun j => cs.getD j 0) U := by
  obtain ⟨A, K1, K2, K3, K4, K5, K6⟩ := K
  have hcod := hc.cod (by omega) K3 K5
  obtain ⟨D, fV, fC, hB, F1, F2, g1, g2, -, -⟩ := strObj wi al E V C
  exact ⟨A, ⟨_, hB.2.2.1, D, hB.1, rfl, by cases q : D.vm <;> first | rfl | exact absurd q (hB.2.1.2 _)⟩, Has.of hB F1 g1, Has.of hB F2 g2, ⟨K1.1, State.isArrayOf_alike al K1.2.1, K1.2.2, by rcases hcod with ⟨-, q, -⟩ | ⟨-, q, -⟩ <;> omega⟩, hcod, fun j hj => by
    have e : cs.getD j 0 = cs[j] := by simp [List.getD_eq_getElem?_getD, hj]
    show ¬ cs.getD j 0 < 0 ∧ ¬ 65535 < cs.getD j 0
    rw [e]; exact hb _ (List.getElem_mem _)⟩
theorem same_list (cs ds : List Int32) : SameT cs.length (fun j => cs.getD j 0) ds.length (fun j => ds.getD j 0) ↔ cs = ds := by
  constructor
  · rintro ⟨e, q⟩
    refine List.ext_getElem e fun j h1 h2 => ?_
    have := q j h1
    simpa [List.getD_eq_getElem?_getD, h1, h2] using this
  · rintro rfl
    exact ⟨rfl, fun _ _ => rfl⟩
/-- **equals(Object) OF TWO SUCH STRINGS**: 1 just where the chars are the same -/
theorem eqW {p : Program} {l : Launch} {e : Env} {R : Room} {s : State} {args : Array Value} {below : List Frame} {len W : Nat} {Z : State} {a0 : Array Value} {h : Heap} (hZ : Z.Warmed39 s.vm) (hw : ∀ d ∈ wordsEq, d.before a0 Z = true) {kI : Nat} (wi : (Jvm.Cond.instantiable ST kI).before a0 Z = true)
    {x t : Addr} {kb : ClassId} {cs : List Int32} {cd N2 : Int32} {vs : List Value} (E : RoadKit.Exa Z h x ST) (V : RoadKit.Fld Z h x ST "value" "[B" (.ref t)) (C : RoadKit.Fld Z h x ST "coder" "B" (.int cd)) (K : RoadKit.Arv Z h t kb .byte N2 vs (.int 0)) (hc : CodA cs cd N2 vs) (hb : ∀ c ∈ cs, ¬ c < 0 ∧ ¬ (65535 : Int32) < c) (l2 : cs.length ≤ 4000)
    {y t' : Addr} {kb' : ClassId} {ds : List Int32} {cd' N2' : Int32} {vs' : List Value} (E' : RoadKit.Exa Z h y ST) (V' : RoadKit.Fld Z h y ST "value" "[B" (.ref t')) (C' : RoadKit.Fld Z h y ST "coder" "B" (.int cd')) (K' : RoadKit.Arv Z h t' kb' .byte N2' vs' (.int 0)) (hc' : CodA ds cd' N2' vs') (hb' : ∀ c ∈ ds, ¬ c < 0 ∧ ¬ (65535 : Int32) < c) (l2' : ds.length ≤ 4000)
    {z : Int32} (S : RoadKit.Sta Z h ST "COMPACT_STRINGS" "Z" (.int z)) (hz : ¬ z = 0) (hfr : 2 ≤ R.frames) (hlo : W + 28 ≤ R.locals) :
    Back l R p e below s args (⟨"java/lang/String", "equals", "(Ljava/lang/Object;)Z"⟩ : MethodName) len W (fun P a => a = #[.ref x, .ref y] ∧ P.U.heap = h ∧ P.cells + 0 ≤ R.cells ∧ P.slots + 0 ≤ R.slots)
      (fun P _ v B => ∃ L, (((v = some (.int 1) ∧ cs = ds) ∨ (v = some (.int 0) ∧ ¬ cs = ds)) ∧ L = [] ∧ B.U.heap = h) ∧ B.locs = P.locs ++ L ∧ B.cells = P.cells + 0 ∧ B.slots = P.slots + 0) := by
  intro m meth c P g ig mk a X hg hsize hdg hW hn hp'
  obtain ⟨rfl, rfl, r1, r2⟩ := hp'
  have al : Z.vm.Alike P.U.vm := hZ.alike.trans X.warmed.alike
  obtain ⟨A, hx⟩ := txt_of wi al E V C K hc hb l2
  obtain ⟨A', hy⟩ := txt_of wi al E' V' C' K' hc' hb' l2'
  obtain ⟨v, B, X', ⟨⟨w, hv, hh, hq⟩, hl, hk, hs⟩, st⟩ := SEq.pays x t A cd cs.length (fun j => cs.getD j 0) y t' A' cd' ds.length (fun j => ds.getD j 0) z (tabEq_of (movedEq hZ hw)) hfr hlo m meth c P g ig mk _ X hg hsize hdg hW hn ⟨r1, r2, rfl, hx, hy, sta_is al S, hz⟩
  refine ⟨v, B, X', ⟨[], ⟨?_, rfl, hh⟩, hl, hk, hs⟩, st⟩
  rcases hq with ⟨rfl, q⟩ | ⟨rfl, q⟩
  · exact Or.inl ⟨hv, (same_list cs ds).mp q⟩
  · exact Or.inr ⟨hv, fun e => q ((same_list cs ds).mpr e)⟩
end StrChars.Road
end Jvm.Pilot.@@N@@

namespace Jvm.Pilot.@@N@@
open Jvm Jvm.ClassFile Sem Op Lib Jvm.Free Jvm.Stand Jvm.LawKit Jvm.RoadKit Bundle Jvm.Pilot.@@N@@.Jvm.D
section OwnKit
variable {p : Program} {l : Launch} {e : Env} {R : Room} {s : State} {m : MethodId} {args : Array Value} {below : List Frame} {meth : Method} {c : Code} {T T' : State} {locs : List Loc} {cells slots : Nat} {Z : State} {a0 : Array Value} {h h0 : Heap} {Q : Option Value → Heap → List Loc → Prop} {kc ks : Nat} {f f' : JFrame}
/-- from T with the frame f on top the run ends as Q says -/
def own_Ends (p : Program) (e : Env) (below : List Frame) (s : State) (Q : Option Value → Heap → List Loc → Prop) (kc ks : Nat) (T : State) (f : JFrame) : Prop :=
  ∃ s₂ o, Steps p.tables e below (T.setTop f) s₂ ∧ s₂.status = .running ∧ Ended s₂ below o ∧ ∃ v L, o = .returned v ∧ Q v s₂.heap L ∧ FrameEnd s o s₂ L kc ks
theorem own_go (st : ∀ target, Steps p.tables e below (T'.setTop f') target → Steps p.tables e below (T.setTop f) target) (k : own_Ends p e below s Q kc ks T' f') : own_Ends p e below s Q kc ks T f := by
  obtain ⟨s₂, o, h1, r⟩ := k
  exact ⟨s₂, o, st _ h1, r⟩
theorem own_fin (X : Stand p l e R s m args below meth c T locs cells slots) (v : Option Value) (hlk : meth.locks = false) (hv : meth.sig.returnType = none → v = none)
    (st : ∀ fs, (∀ (f : JFrame) (acts : List Action), f.method = m → f.locked = none → f.entered = [] → (doReturn e (T.setTop f) acts v).1 = T.setFrames fs) → Steps p.tables e below (T.setTop f) (T.setFrames fs))
    (eT : T.heap = h) (hQ : Q v h locs) (hc : cells ≤ kc) (hs : slots ≤ ks) : own_Ends p e below s Q kc ks T f := by
  subst eT
  obtain ⟨fs, hr, hrun, hended, hW, hsame⟩ := X.leave (v := v) hv hlk
  exact ⟨_, _, st fs hr, hrun, hended, v, locs, rfl, hQ, ⟨_, rfl⟩, hW, hsame.mono hc hs⟩
theorem own_retN (X : Stand p l e R s m args below meth c T locs cells slots) (hx : p.tables.exec = Jvm.exec) (hlk : meth.locks = false) {pc : Nat} {Ls : Array Slot} {z : Int32} {t : FieldType} {rest : List Value} (hret : meth.sig.returnType = some t) (ht : t = .boolean ∨ t = .byte ∨ t = .char ∨ t = .short)
    (hd : decode c.code pc = .ok (.ireturn, 1)) (eT : T.heap = h) (hc : cells ≤ kc) (hs : slots ≤ ks) (hQ : Q (some (.int (nar t z))) h locs) : own_Ends p e below s Q kc ks T (mkF m pc Ls (.int z :: rest)) :=
  own_fin X _ hlk (fun q => by rw [hret] at q; cases q) (fun fs hr => Jvm.RoadKit.retN X hx hret ht hd hr) eT hQ hc hs
theorem own_retI (X : Stand p l e R s m args below meth c T locs cells slots) (hx : p.tables.exec = Jvm.exec) (hlk : meth.locks = false) {pc : Nat} {Ls : Array Slot} {z : Int32} {rest : List Value} (hret : meth.sig.returnType = some .int)
    (hd : decode c.code pc = .ok (.ireturn, 1)) (eT : T.heap = h) (hc : cells ≤ kc) (hs : slots ≤ ks) (hQ : Q (some (.int z)) h locs) : own_Ends p e below s Q kc ks T (mkF m pc Ls (.int z :: rest)) :=
  own_fin X _ hlk (fun q => by rw [hret] at q; cases q) (fun fs hr => Jvm.RoadKit.retOut X hx hret rfl (Or.inl ⟨rfl, Or.inl rfl, _, rfl⟩) hd hr) eT hQ hc hs
theorem own_retJ (X : Stand p l e R s m args below meth c T locs cells slots) (hx : p.tables.exec = Jvm.exec) (hlk : meth.locks = false) {pc : Nat} {Ls : Array Slot} {z : Int64} {rest : List Value} (hret : meth.sig.returnType = some .long)
    (hd : decode c.code pc = .ok (.lreturn, 1)) (eT : T.heap = h) (hc : cells ≤ kc) (hs : slots ≤ ks) (hQ : Q (some (.long z)) h locs) : own_Ends p e below s Q kc ks T (mkF m pc Ls (.long z :: rest)) :=
  own_fin X _ hlk (fun q => by rw [hret] at q; cases q) (fun fs hr => Jvm.RoadKit.retOut X hx hret rfl (Or.inr (Or.inl ⟨rfl, rfl, _, rfl⟩)) hd hr) eT hQ hc hs
theorem own_retD (X : Stand p l e R s m args below meth c T locs cells slots) (hx : p.tables.exec = Jvm.exec) (hlk : meth.locks = false) {pc : Nat} {Ls : Array Slot} {z : UInt64} {rest : List Value} (hret : meth.sig.returnType = some .double)
    (hd : decode c.code pc = .ok (.dreturn, 1)) (eT : T.heap = h) (hc : cells ≤ kc) (hs : slots ≤ ks) (hQ : Q (some (.double z)) h locs) : own_Ends p e below s Q kc ks T (mkF m pc Ls (.double z :: rest)) :=
  own_fin X _ hlk (fun q => by rw [hret] at q; cases q) (fun fs hr => Jvm.RoadKit.retOut X hx hret rfl (Or.inr (Or.inr (Or.inl ⟨rfl, rfl, _, rfl⟩))) hd hr) eT hQ hc hs
theorem own_narR {t : FieldType} {v : Value} (ht : t.isReference = true) : narrow t v = v := by cases t <;> first | (cases ht; done) | (cases v <;> rfl)
theorem own_retR (X : Stand p l e R s m args below meth c T locs cells slots) (hx : p.tables.exec = Jvm.exec) (hlk : meth.locks = false) {pc : Nat} {Ls : Array Slot} {v : Value} {t : FieldType} {rest : List Value} (hret : meth.sig.returnType = some t) (ht : t.isReference = true) (hv : v.isRef = true)
    (hd : decode c.code pc = .ok (.areturn, 1)) (eT : T.heap = h) (hc : cells ≤ kc) (hs : slots ≤ ks) (hQ : Q (some v) h locs) : own_Ends p e below s Q kc ks T (mkF m pc Ls (v :: rest)) :=
  own_fin X _ hlk (fun q => by rw [hret] at q; cases q) (fun fs hr => Jvm.RoadKit.retOut X hx hret (own_narR ht) (Or.inr (Or.inr (Or.inr (Or.inr ⟨rfl, ht, hv⟩)))) hd hr) eT hQ hc hs
theorem own_retV (X : Stand p l e R s m args below meth c T locs cells slots) (hx : p.tables.exec = Jvm.exec) (hlk : meth.locks = false) {pc : Nat} {Ls : Array Slot} (hret : meth.sig.returnType = none)
    (hd : decode c.code pc = .ok (.return_, 1)) (eT : T.heap = h) (hc : cells ≤ kc) (hs : slots ≤ ks) (hQ : Q none h locs) : own_Ends p e below s Q kc ks T (mkF m pc Ls []) :=
  own_fin X none hlk (fun _ => rfl) (fun fs hr => X.returnOut hx hret hd hr) eT hQ hc hs
/-- a body's contract: called with the arguments as' on the heap h0, over tables warmer than Z's, it returns as Q says -/
abbrev own_Met (l : Launch) (y : MethodName) (bytes : ByteArray) (maxL : Nat) (ret : Option FieldType) (rm : Room) (ws : List Jvm.Cond) (as' : Array Value) (Z : State) (h0 : Heap) (Q : Option Value → Heap → List Loc → Prop) : Prop :=
  MetFree l y (head1 (Jvm.Cond.code y bytes maxL ret :: ws) rm) (fun a U => a = as' ∧ Z.Warmed39 U.vm ∧ U.heap = h0) (fun _ _ _ _ _ => True) (fun _ U o U' => ∃ v L, o = .returned v ∧ Q v U'.heap L ∧ FrameEnd U o U' L rm.cells rm.slots)
theorem own_met {y : MethodName} {bytes : ByteArray} {maxL : Nat} {ret : Option FieldType} {rm : Room} {ws : List Jvm.Cond} {as' : Array Value} (hy : plainFor y = true)
    (body : ∀ (p : Program) (e : Env) (s : State) (m : MethodId) (below : List Frame) (meth : Method) (c : Code) (s₁ : State), p.tables.exec = Jvm.exec → Stand p l e rm s m as' below meth c s₁ [] 0 0 → Z.Warmed39 s.vm → s₁.heap = h0 → c.code = bytes → c.maxLocals = maxL →
      s.vm.findClass y.cls = some m.cls → meth.name = y.name → meth.sig.returnType = ret → meth.locks = false → own_Ends p e below s Q rm.cells rm.slots s₁ (entryFrame m as' maxL)) :
    own_Met l y bytes maxL ret rm ws as' Z h0 Q := by
  refine MetFree.of_bodySF hy hisR ?_
  intro p e s m args below meth c s₁ Bd hml0 hP hK
  obtain ⟨rfl, hZ, hh⟩ := hP
  exact body p e s m below meth c s₁ Bd.exec (Stand.of_body Bd) hZ (by rw [← hh, Bd.state]; rfl) Bd.bytes hml0 (findClass_of_methodNamed Bd.named) (name_of_methodNamed Bd.named Bd.method).1 Bd.returns Bd.notSynchronized
theorem own_at {f f' : JFrame} (q : f = f') (k : own_Ends p e below s Q kc ks T f') : own_Ends p e below s Q kc ks T f := q ▸ k
/-- a static call -/
theorem own_callS (X : Stand p l e R s m args below meth c T locs cells slots) (hx : p.tables.exec = Jvm.exec) (hZ : Z.Warmed39 s.vm) {own : String} {index : Nat} {y : MethodName} {bytes : ByteArray} {maxL : Nat} {ret : Option FieldType} {rm : Room} {as' : Array Value} {Q' : Option Value → Heap → List Loc → Prop}
    (hown : s.vm.findClass own = some m.cls) (w1 : (Jvm.Cond.methodLink own index y).before a0 Z = true) (w2 : (Jvm.Cond.static y).before a0 Z = true) (w3 : (Jvm.Cond.initialized y.cls).before a0 Z = true) (w4 : (Jvm.Cond.code y bytes maxL ret).before a0 Z = true)
    (hy : y.cls ≠ "java/lang/invoke/MethodHandle" ∧ y.cls ≠ "java/lang/invoke/VarHandle") (hM : own_Met l y bytes maxL ret rm [] as' Z h Q') (eT : T.heap = h) {g : JFrame} (hg : g.method = m) (hsize : g.locals.size = c.maxLocals) (argsL rest : List Value) (has : argsL.toArray = as')
    (hlen : ∀ sig, parseMethodDescriptor y.desc = some sig → argsL.length = sig.parameters.length) (hstack : g.stack = argsL.reverse ++ rest) (W : Nat) (hW : 2 * g.monitorRoom + (rest.map fun v => v.category).sum ≤ W) (hdg : decode c.code g.pc = .ok (.invokestatic index, 3))
    (hf : rm.frames + 1 ≤ R.frames) (hl : W + (maxL + 11) + rm.locals ≤ R.locals) (hc : cells + rm.cells ≤ R.cells) (hs : slots + rm.slots ≤ R.slots) :
    ∃ (T' : State) (v : Option Value) (L : List Loc), Stand p l e R s m args below meth c T' (locs ++ L) (cells + rm.cells) (slots + rm.slots) ∧ Q' v T'.heap L ∧ ∀ target, Steps p.tables e below (T'.setTop { g with pc := g.pc + 3, stack := v.toList ++ rest }) target → Steps p.tables e below (T.setTop g) target := by
  obtain ⟨v, vm1, ⟨T1, L1, k1, n1⟩, -, X1, ⟨Lc, hQ, l1, y1, z1⟩, st⟩ := Jvm.LawKit.callS X hx hown (mvT hZ w1) (mvT hZ w2) (mvT hZ w3) (mvT hZ w4) hy (backOf (W := W) hM hZ w4 w3 hf hl) hg hsize hlen hstack hW hdg (fun _ _ => ⟨has, eT, hc, hs⟩)
  dsimp only [Pt.U, Pt.locs, Pt.cells, Pt.slots] at X1 l1 y1 z1 st hQ
  subst l1 y1 z1
  exact ⟨T1, v, Lc, X1, hQ, st⟩
/-- a constructor -/
theorem own_callN (X : Stand p l e R s m args below meth c T locs cells slots) (hx : p.tables.exec = Jvm.exec) (hZ : Z.Warmed39 s.vm) {own : String} {index : Nat} {y : MethodName} {bytes : ByteArray} {maxL : Nat} {rm : Room} {as' : Array Value} {Q' : Option Value → Heap → List Loc → Prop}
    (hy1 : y.name = "<init>") (hown : s.vm.findClass own = some m.cls) (w1 : (Jvm.Cond.methodLink own index y).before a0 Z = true) (w2 : (Jvm.Cond.instanceMethod y).before a0 Z = true) (w3 : (Jvm.Cond.initialized y.cls).before a0 Z = true) (w4 : (Jvm.Cond.code y bytes maxL none).before a0 Z = true)
    (hy : y.cls ≠ "java/lang/invoke/MethodHandle" ∧ y.cls ≠ "java/lang/invoke/VarHandle") (hM : own_Met l y bytes maxL none rm [] as' Z h Q') (eT : T.heap = h) {g : JFrame} (hg : g.method = m) (hsize : g.locals.size = c.maxLocals) (b : Addr) (argsL rest : List Value) (has : (.ref b :: argsL).toArray = as')
    (hlen : ∀ sig, parseMethodDescriptor y.desc = some sig → argsL.length = sig.parameters.length) (hstack : g.stack = argsL.reverse ++ .ref b :: rest) (W : Nat) (hW : 2 * g.monitorRoom + (rest.map fun v => v.category).sum ≤ W) (hdg : decode c.code g.pc = .ok (.invokespecial index, 3))
    (hf : rm.frames + 1 ≤ R.frames) (hl : W + (maxL + 11) + rm.locals ≤ R.locals) (hc : cells + rm.cells ≤ R.cells) (hs : slots + rm.slots ≤ R.slots) :
    ∃ (T' : State) (v : Option Value) (L : List Loc), Stand p l e R s m args below meth c T' (locs ++ L) (cells + rm.cells) (slots + rm.slots) ∧ Q' v T'.heap L ∧ ∀ target, Steps p.tables e below (T'.setTop { g with pc := g.pc + 3, stack := v.toList ++ rest }) target → Steps p.tables e below (T.setTop g) target := by
  obtain ⟨v, vm1, ⟨T1, L1, k1, n1⟩, -, X1, ⟨Lc, hQ, l1, y1, z1⟩, st⟩ := X.specialBack hx hy1 hown (mvT hZ w1) (mvT hZ w2) (mvT hZ w4) hy (backOf (W := W) hM hZ w4 w3 hf hl) hg hsize (Steps.refl _) (a := b) hlen hstack hW hdg (fun _ _ => ⟨has, eT, hc, hs⟩)
  dsimp only [Pt.U, Pt.locs, Pt.cells, Pt.slots] at X1 l1 y1 z1 st hQ
  subst l1 y1 z1
  exact ⟨T1, v, Lc, X1, hQ, fun t k => st.trans k⟩
/-- a virtual call: y resolved, z selected by the class C -/
theorem own_callV (X : Stand p l e R s m args below meth c T locs cells slots) (hx : p.tables.exec = Jvm.exec) (hZ : Z.Warmed39 s.vm) {own C : String} {index : Nat} {y z : MethodName} {bytes : ByteArray} {maxL : Nat} {ret : Option FieldType} {rm : Room} {as' : Array Value} {Q' : Option Value → Heap → List Loc → Prop}
    (hown : s.vm.findClass own = some m.cls) (w1 : (Jvm.Cond.methodLink own index y).before a0 Z = true) (w2 : (Jvm.Cond.declares y).before a0 Z = true) (hnf : NotFace s y) (w5 : (Jvm.Cond.selects C y z).before a0 Z = true) (w6 : (Jvm.Cond.instanceMethod z).before a0 Z = true)
    (w3 : (Jvm.Cond.initialized z.cls).before a0 Z = true) (w4 : (Jvm.Cond.code z bytes maxL ret).before a0 Z = true)
    (hy : y.cls ≠ "java/lang/invoke/MethodHandle" ∧ y.cls ≠ "java/lang/invoke/VarHandle") (hM : own_Met l z bytes maxL ret rm [] as' Z h Q') (eT : T.heap = h) {g : JFrame} (hg : g.method = m) (hsize : g.locals.size = c.maxLocals) (b : Addr) (hE : Exa Z h b C) (argsL rest : List Value) (has : (.ref b :: argsL).toArray = as')
    (hlen : ∀ sig, parseMethodDescriptor y.desc = some sig → argsL.length = sig.parameters.length) (hstack : g.stack = argsL.reverse ++ .ref b :: rest) (W : Nat) (hW : 2 * g.monitorRoom + (rest.map fun v => v.category).sum ≤ W) (hdg : decode c.code g.pc = .ok (.invokevirtual index, 3))
    (hf : rm.frames + 1 ≤ R.frames) (hl : W + (maxL + 11) + rm.locals ≤ R.locals) (hc : cells + rm.cells ≤ R.cells) (hs : slots + rm.slots ≤ R.slots) :
    ∃ (T' : State) (v : Option Value) (L : List Loc), Stand p l e R s m args below meth c T' (locs ++ L) (cells + rm.cells) (slots + rm.slots) ∧ Q' v T'.heap L ∧ ∀ target, Steps p.tables e below (T'.setTop { g with pc := g.pc + 3, stack := v.toList ++ rest }) target → Steps p.tables e below (T.setTop g) target := by
  obtain ⟨cq, kq, qa, qb, qc⟩ := isOf hZ eT hE
  obtain ⟨v, vm1, ⟨T1, L1, k1, n1⟩, -, X1, ⟨Lc, hQ, l1, y1, z1⟩, st⟩ := X.virtualBack hx hown (mvT hZ w1) (mvT hZ w2) hnf (mvT hZ w5) (mvT hZ w6) hy (backOf (W := W) hM hZ w4 w3 hf hl) qa qc hg hsize (Steps.refl _) hlen hstack hW hdg (fun _ _ => ⟨has, eT, hc, hs⟩)
  dsimp only [Pt.U, Pt.locs, Pt.cells, Pt.slots] at X1 l1 y1 z1 st hQ
  subst l1 y1 z1
  exact ⟨T1, v, Lc, X1, hQ, fun t k => st.trans k⟩
/-- a virtual call whose method is declared further up, by the class 'owner' -/
theorem own_callVU (X : Stand p l e R s m args below meth c T locs cells slots) (hx : p.tables.exec = Jvm.exec) (hZ : Z.Warmed39 s.vm) {own C owner : String} {index : Nat} {y z : MethodName} {bytes : ByteArray} {maxL : Nat} {ret : Option FieldType} {rm : Room} {as' : Array Value} {Q' : Option Value → Heap → List Loc → Prop}
    (hown : s.vm.findClass own = some m.cls) (w1 : (Jvm.Cond.methodLink own index y).before a0 Z = true) (w2 : (Jvm.Cond.sameMethod y.cls owner y.name y.desc).before a0 Z = true) (w7 : (Jvm.Cond.declares ⟨owner, y.name, y.desc⟩).before a0 Z = true) (w5 : (Jvm.Cond.selects C y z).before a0 Z = true) (w6 : (Jvm.Cond.instanceMethod z).before a0 Z = true)
    (w3 : (Jvm.Cond.initialized z.cls).before a0 Z = true) (w4 : (Jvm.Cond.code z bytes maxL ret).before a0 Z = true)
    (hy : owner ≠ "java/lang/invoke/MethodHandle" ∧ owner ≠ "java/lang/invoke/VarHandle") (hM : own_Met l z bytes maxL ret rm [] as' Z h Q') (eT : T.heap = h) {g : JFrame} (hg : g.method = m) (hsize : g.locals.size = c.maxLocals) (b : Addr) (hE : Exa Z h b C) (argsL rest : List Value) (has : (.ref b :: argsL).toArray = as')
    (hlen : ∀ sig, parseMethodDescriptor y.desc = some sig → argsL.length = sig.parameters.length) (hstack : g.stack = argsL.reverse ++ .ref b :: rest) (W : Nat) (hW : 2 * g.monitorRoom + (rest.map fun v => v.category).sum ≤ W) (hdg : decode c.code g.pc = .ok (.invokevirtual index, 3))
    (hf : rm.frames + 1 ≤ R.frames) (hl : W + (maxL + 11) + rm.locals ≤ R.locals) (hc : cells + rm.cells ≤ R.cells) (hs : slots + rm.slots ≤ R.slots) :
    ∃ (T' : State) (v : Option Value) (L : List Loc), Stand p l e R s m args below meth c T' (locs ++ L) (cells + rm.cells) (slots + rm.slots) ∧ Q' v T'.heap L ∧ ∀ target, Steps p.tables e below (T'.setTop { g with pc := g.pc + 3, stack := v.toList ++ rest }) target → Steps p.tables e below (T.setTop g) target := by
  obtain ⟨cq, kq, qa, qb, qc⟩ := isOf hZ eT hE
  obtain ⟨v, vm1, ⟨T1, L1, k1, n1⟩, -, X1, ⟨Lc, hQ, l1, y1, z1⟩, st⟩ := X.virtualBackUp hx hown (mvT hZ w1) (mvT hZ w2) (mvT hZ w7) hy (mvT hZ w5) (mvT hZ w6) (backOf (W := W) hM hZ w4 w3 hf hl) qa qc hg hsize (Steps.refl _) hlen hstack hW hdg (fun _ _ => ⟨has, eT, hc, hs⟩)
  dsimp only [Pt.U, Pt.locs, Pt.cells, Pt.slots] at X1 l1 y1 z1 st hQ
  subst l1 y1 z1
  exact ⟨T1, v, Lc, X1, hQ, fun t k => st.trans k⟩
/-- calls by a 'Back' -/
theorem own_callNB (X : Stand p l e R s m args below meth c T locs cells slots) (hx : p.tables.exec = Jvm.exec) (hZ : Z.Warmed39 s.vm) {own : String} {index : Nat} {y : MethodName} {bytes : ByteArray} {maxL : Nat} {as' : Array Value} {Q' : Option Value → Heap → List Loc → Prop} {W rc rs : Nat}
    (hy1 : y.name = "<init>") (hown : s.vm.findClass own = some m.cls) (w1 : (Jvm.Cond.methodLink own index y).before a0 Z = true) (w2 : (Jvm.Cond.instanceMethod y).before a0 Z = true) (w4 : (Jvm.Cond.code y bytes maxL none).before a0 Z = true)
    (hy : y.cls ≠ "java/lang/invoke/MethodHandle" ∧ y.cls ≠ "java/lang/invoke/VarHandle")
    (hK : Back l R p e below s args y 3 W (fun A a => a = as' ∧ A.U.heap = h ∧ A.cells + rc ≤ R.cells ∧ A.slots + rs ≤ R.slots) (fun A _ v B => ∃ L, Q' v B.U.heap L ∧ B.locs = A.locs ++ L ∧ B.cells = A.cells + rc ∧ B.slots = A.slots + rs))
    (eT : T.heap = h) {g : JFrame} (hg : g.method = m) (hsize : g.locals.size = c.maxLocals) (b : Addr) (argsL rest : List Value) (has : (.ref b :: argsL).toArray = as')
    (hlen : ∀ sig, parseMethodDescriptor y.desc = some sig → argsL.length = sig.parameters.length) (hstack : g.stack = argsL.reverse ++ .ref b :: rest) (hW : 2 * g.monitorRoom + (rest.map fun v => v.category).sum ≤ W) (hdg : decode c.code g.pc = .ok (.invokespecial index, 3))
    (hc : cells + rc ≤ R.cells) (hs : slots + rs ≤ R.slots) :
    ∃ (T' : State) (v : Option Value) (L : List Loc), Stand p l e R s m args below meth c T' (locs ++ L) (cells + rc) (slots + rs) ∧ Q' v T'.heap L ∧ ∀ target, Steps p.tables e below (T'.setTop { g with pc := g.pc + 3, stack := v.toList ++ rest }) target → Steps p.tables e below (T.setTop g) target := by
  obtain ⟨v, vm1, ⟨T1, L1, k1, n1⟩, -, X1, ⟨Lc, hQ, l1, y1, z1⟩, st⟩ := X.specialBack hx hy1 hown (mvT hZ w1) (mvT hZ w2) (mvT hZ w4) hy hK hg hsize (Steps.refl _) (a := b) hlen hstack hW hdg (fun _ _ => ⟨has, eT, hc, hs⟩)
  dsimp only [Pt.U, Pt.locs, Pt.cells, Pt.slots] at X1 l1 y1 z1 st hQ
  subst l1 y1 z1
  exact ⟨T1, v, Lc, X1, hQ, fun t k => st.trans k⟩
theorem own_callVB (X : Stand p l e R s m args below meth c T locs cells slots) (hx : p.tables.exec = Jvm.exec) (hZ : Z.Warmed39 s.vm) {own C : String} {index : Nat} {y z : MethodName} {as' : Array Value} {Q' : Option Value → Heap → List Loc → Prop} {W rc rs : Nat}
    (hown : s.vm.findClass own = some m.cls) (w1 : (Jvm.Cond.methodLink own index y).before a0 Z = true) (w2 : (Jvm.Cond.declares y).before a0 Z = true) (hnf : NotFace s y) (w5 : (Jvm.Cond.selects C y z).before a0 Z = true) (w6 : (Jvm.Cond.instanceMethod z).before a0 Z = true)
    (hy : y.cls ≠ "java/lang/invoke/MethodHandle" ∧ y.cls ≠ "java/lang/invoke/VarHandle")
    (hK : Back l R p e below s args z 3 W (fun A a => a = as' ∧ A.U.heap = h ∧ A.cells + rc ≤ R.cells ∧ A.slots + rs ≤ R.slots) (fun A _ v B => ∃ L, Q' v B.U.heap L ∧ B.locs = A.locs ++ L ∧ B.cells = A.cells + rc ∧ B.slots = A.slots + rs))
    (eT : T.heap = h) {g : JFrame} (hg : g.method = m) (hsize : g.locals.size = c.maxLocals) (b : Addr) (hE : Exa Z h b C) (argsL rest : List Value) (has : (.ref b :: argsL).toArray = as')
    (hlen : ∀ sig, parseMethodDescriptor y.desc = some sig → argsL.length = sig.parameters.length) (hstack : g.stack = argsL.reverse ++ .ref b :: rest) (hW : 2 * g.monitorRoom + (rest.map fun v => v.category).sum ≤ W) (hdg : decode c.code g.pc = .ok (.invokevirtual index, 3))
    (hc : cells + rc ≤ R.cells) (hs : slots + rs ≤ R.slots) :
    ∃ (T' : State) (v : Option Value) (L : List Loc), Stand p l e R s m args below meth c T' (locs ++ L) (cells + rc) (slots + rs) ∧ Q' v T'.heap L ∧ ∀ target, Steps p.tables e below (T'.setTop { g with pc := g.pc + 3, stack := v.toList ++ rest }) target → Steps p.tables e below (T.setTop g) target := by
  obtain ⟨cq, kq, qa, qb, qc⟩ := isOf hZ eT hE
  obtain ⟨v, vm1, ⟨T1, L1, k1, n1⟩, -, X1, ⟨Lc, hQ, l1, y1, z1⟩, st⟩ := X.virtualBack hx hown (mvT hZ w1) (mvT hZ w2) hnf (mvT hZ w5) (mvT hZ w6) hy hK qa qc hg hsize (Steps.refl _) hlen hstack hW hdg (fun _ _ => ⟨has, eT, hc, hs⟩)
  dsimp only [Pt.U, Pt.locs, Pt.cells, Pt.slots] at X1 l1 y1 z1 st hQ
  subst l1 y1 z1
  exact ⟨T1, v, Lc, X1, hQ, fun t k => st.trans k⟩
theorem own_fldI {t : Jvm.Term} {a : Addr} {C n d : String} {k : Int32} (ev : t.eval args s none [] s = some (.ref a)) (hq : (Jvm.Cond.eq (Jvm.Term.field t C n d) (Jvm.Term.int k)).value args s none s [] = some true) : Fld s s.heap a C n d (.int k) := by
  obtain ⟨x, y, e1, e2, k1, -⟩ := cmp_v (Or.inl hq)
  have e2' : y = .int k := by have := e2; simp only [Jvm.Term.eval] at this; exact (Option.some.inj this).symm
  subst e2'
  have hx : x = .int k := by
    simp only [Jvm.Cond.value, e1, e2] at hq
    cases x <;> simp_all [Kin, Value.isRef]
  subst hx
  exact Fld.start ((fld_at ev).symm.trans e1)
theorem own_irem {g : JFrame} {target : State} (X : Stand p l e R s m args below meth c T locs cells slots) (hx : p.tables.exec = Jvm.exec) (hg : g.method = m) {x y : Int32} {rest : List Value} (hd : decode c.code g.pc = .ok (.irem, 1)) (hs : g.stack = .int y :: .int x :: rest) (hy : y ≠ 0)
    (hr : Steps p.tables e below (T.setTop { g with pc := g.pc + 1, stack := .int (x % y) :: rest }) target) : Steps p.tables e below (T.setTop g) target := iremM X hx hg hd hs hy hr
theorem own_fitR {t : FieldType} {v : Value} (hv : v.isRef = true) (ht : t.isReference = true) : fits t v = true := by cases t <;> first | (cases ht; done) | (cases v <;> first | rfl | (cases hv; done))
theorem own_staK {C n d : String} {v : Value} {h' : Heap} {ws : List Addr} (F : Sta Z h C n d v) (K : Keep h h' ws) (q : ∀ x ∈ ws, ∀ cell : Cell, h[x]? = some cell → cell.vm.isStatics = false) : Sta Z h' C n d v := by
  obtain ⟨cf, i, k, f, st, cell, h1, h2, h3, h4, h5, h6, h7⟩ := F
  exact ⟨cf, i, k, f, st, cell, h1, h2, h3, h4, K.2.1 _ _ h5 (fun hm => by rw [q st hm cell h5] at h6; cases h6), h6, h7⟩
theorem own_narC {c : Int32} (h0 : 0 ≤ c.toInt) (h1 : c.toInt ≤ 65535) : nar .char c = c := by
  rw [← Int32.toInt_inj]
  have a := c_i2c c
  show (c.toUInt32.toUInt16.toUInt32.toInt32).toInt = c.toInt
  omega
theorem own_narB (c : Int32) : nar .byte c.toInt8.toInt32 = c.toInt8.toInt32 := by
  show (c.toInt8.toInt32).toInt8.toInt32 = c.toInt8.toInt32
  simp
end OwnKit
section OwnWide
variable {p : Program} {l : Launch} {e : Env} {R : Room} {s : State} {m : MethodId} {args : Array Value} {below : List Frame} {meth : Method} {c : Code} {T T' : State} {locs : List Loc} {cells slots : Nat} {Z : State} {a0 : Array Value} {h h' h0 : Heap} {Q : Option Value → Heap → List Loc → Prop} {kc ks : Nat} {f f' : JFrame} {EL : List (String × Nat)} {vm : Vm} {own : String}
/-- what a walk bears that may load String constants: since its start s, at the tables vm and the heap h -/
def own_Inv (s Z : State) (EL : List (String × Nat)) (vm : Vm) (h : Heap) : Prop := (∃ k0, s.Since vm k0 ∧ k0 ≤ h.size) ∧ CHr Z EL s.vm s.heap vm h
theorem own_inv0 (H : CHv Z EL s.vm s.heap) : own_Inv s Z EL s.vm s.heap := ⟨⟨_, (State.WarmedH.refl s).since s.heap.size, Nat.le_refl _⟩, CHr.refl H⟩
theorem own_Inv.ext (I : own_Inv s Z EL vm h) (E : Ext h h') : own_Inv s Z EL vm h' := by
  obtain ⟨⟨k0, h1, h2⟩, C⟩ := I
  exact ⟨⟨k0, h1, Nat.le_trans h2 E.1⟩, C.trans (CHr.ext E C.1)⟩
theorem own_Inv.wr {a : Addr} {sl : Nat} {v : Value} (I : own_Inv s Z EL vm h) (W : Wr h h' a sl v) (S : Safe Z EL vm h a) : own_Inv s Z EL vm h' := by
  obtain ⟨⟨k0, h1, h2⟩, C⟩ := I
  exact ⟨⟨k0, h1, Nat.le_trans h2 (Nat.le_of_eq W.size.symm)⟩, C.trans (CHr.wr W S C.1)⟩
theorem own_Inv.keep {ws : List Addr} (I : own_Inv s Z EL vm h) (K : Keep h h' ws) (S : ∀ x ∈ ws, Safe Z EL vm h x) : own_Inv s Z EL vm h' := by
  obtain ⟨⟨k0, h1, h2⟩, C⟩ := I
  exact ⟨⟨k0, h1, Nat.le_trans h2 K.1⟩, C.trans (CHr.keep K S C.1)⟩
theorem own_Inv.ch (I : own_Inv s Z EL vm h) : CHv Z EL vm h := I.2.1
def own_EndsW (p : Program) (e : Env) (below : List Frame) (s Z : State) (EL : List (String × Nat)) (Q : Option Value → Heap → List Loc → Prop) (kc ks : Nat) (T : State) (f : JFrame) : Prop :=
  ∃ s₂ o, Steps p.tables e below (T.setTop f) s₂ ∧ s₂.status = .running ∧ Ended s₂ below o ∧ ∃ v L, o = .returned v ∧ Q v s₂.heap L ∧ CHr Z EL s.vm s.heap s₂.vm s₂.heap ∧ ReturnedEndW s o s₂ L kc ks
theorem own_goW (st : ∀ target, Steps p.tables e below (T'.setTop f') target → Steps p.tables e below (T.setTop f) target) (k : own_EndsW p e below s Z EL Q kc ks T' f') : own_EndsW p e below s Z EL Q kc ks T f := by
  obtain ⟨s₂, o, h1, r⟩ := k
  exact ⟨s₂, o, st _ h1, r⟩
theorem own_atW (q : f = f') (k : own_EndsW p e below s Z EL Q kc ks T f') : own_EndsW p e below s Z EL Q kc ks T f := q ▸ k
theorem own_finW (X : Stand p l e R (s.setVm vm) m args below meth c T locs cells slots) (hZ : Z.Warmed39 vm) (hEL : EW Z a0 EL) (eT : T.heap = h) (I : own_Inv s Z EL vm h) (v : Option Value) (hlk : meth.locks = false) (hv : meth.sig.returnType = none → v = none)
    (st : ∀ fs, (∀ (f : JFrame) (acts : List Action), f.method = m → f.locked = none → f.entered = [] → (doReturn e (T.setTop f) acts v).1 = T.setFrames fs) → Steps p.tables e below (T.setTop f) (T.setFrames fs))
    (hQ : Q v h locs) (hc : cells ≤ kc) (hs : slots ≤ ks) : own_EndsW p e below s Z EL Q kc ks T f := by
  subst eT
  obtain ⟨⟨k0, i1, i2⟩, C⟩ := I
  obtain ⟨fs, hr, hrun, hended, r1, r2, r3, r4⟩ := X.leaveW i1 i2 (v := v) hv hlk
  have C2 := C.trans (CHv.at X hZ hEL C.1)
  exact ⟨_, _, st fs hr, hrun, hended, v, locs, rfl, hQ, C2, r1, r2, r3, r4.mono hc hs⟩
theorem own_retNW (X : Stand p l e R (s.setVm vm) m args below meth c T locs cells slots) (hZ : Z.Warmed39 vm) (hEL : EW Z a0 EL) (I : own_Inv s Z EL vm h) (hx : p.tables.exec = Jvm.exec) (hlk : meth.locks = false) {pc : Nat} {Ls : Array Slot} {z : Int32} {t : FieldType} {rest : List Value} (hret : meth.sig.returnType = some t) (ht : t = .boolean ∨ t = .byte ∨ t = .char ∨ t = .short)
    (hd : decode c.code pc = .ok (.ireturn, 1)) (eT : T.heap = h) (hc : cells ≤ kc) (hs : slots ≤ ks) (hQ : Q (some (.int (nar t z))) h locs) : own_EndsW p e below s Z EL Q kc ks T (mkF m pc Ls (.int z :: rest)) :=
  own_finW X hZ hEL eT I _ hlk (fun q => by rw [hret] at q; cases q) (fun fs hr => Jvm.RoadKit.retN X hx hret ht hd hr) hQ hc hs
theorem own_retIW (X : Stand p l e R (s.setVm vm) m args below meth c T locs cells slots) (hZ : Z.Warmed39 vm) (hEL : EW Z a0 EL) (I : own_Inv s Z EL vm h) (hx : p.tables.exec = Jvm.exec) (hlk : meth.locks = false) {pc : Nat} {Ls : Array Slot} {z : Int32} {rest : List Value} (hret : meth.sig.returnType = some .int)
    (hd : decode c.code pc = .ok (.ireturn, 1)) (eT : T.heap = h) (hc : cells ≤ kc) (hs : slots ≤ ks) (hQ : Q (some (.int z)) h locs) : own_EndsW p e below s Z EL Q kc ks T (mkF m pc Ls (.int z :: rest)) :=
  own_finW X hZ hEL eT I _ hlk (fun q => by rw [hret] at q; cases q) (fun fs hr => Jvm.RoadKit.retOut X hx hret rfl (Or.inl ⟨rfl, Or.inl rfl, _, rfl⟩) hd hr) hQ hc hs
theorem own_retRW (X : Stand p l e R (s.setVm vm) m args below meth c T locs cells slots) (hZ : Z.Warmed39 vm) (hEL : EW Z a0 EL) (I : own_Inv s Z EL vm h) (hx : p.tables.exec = Jvm.exec) (hlk : meth.locks = false) {pc : Nat} {Ls : Array Slot} {v : Value} {t : FieldType} {rest : List Value} (hret : meth.sig.returnType = some t) (ht : t.isReference = true) (hv : v.isRef = true)
    (hd : decode c.code pc = .ok (.areturn, 1)) (eT : T.heap = h) (hc : cells ≤ kc) (hs : slots ≤ ks) (hQ : Q (some v) h locs) : own_EndsW p e below s Z EL Q kc ks T (mkF m pc Ls (v :: rest)) :=
  own_finW X hZ hEL eT I _ hlk (fun q => by rw [hret] at q; cases q) (fun fs hr => Jvm.RoadKit.retOut X hx hret (own_narR ht) (Or.inr (Or.inr (Or.inr (Or.inr ⟨rfl, ht, hv⟩)))) hd hr) hQ hc hs
theorem own_retVW (X : Stand p l e R (s.setVm vm) m args below meth c T locs cells slots) (hZ : Z.Warmed39 vm) (hEL : EW Z a0 EL) (I : own_Inv s Z EL vm h) (hx : p.tables.exec = Jvm.exec) (hlk : meth.locks = false) {pc : Nat} {Ls : Array Slot} (hret : meth.sig.returnType = none)
    (hd : decode c.code pc = .ok (.return_, 1)) (eT : T.heap = h) (hc : cells ≤ kc) (hs : slots ≤ ks) (hQ : Q none h locs) : own_EndsW p e below s Z EL Q kc ks T (mkF m pc Ls []) :=
  own_finW X hZ hEL eT I none hlk (fun _ => rfl) (fun fs hr => X.returnOut hx hret hd hr) hQ hc hs
/-- the contract of a body that may load String constants; EL: those that are read -/
abbrev own_MetW (l : Launch) (y : MethodName) (bytes : ByteArray) (maxL : Nat) (ret : Option FieldType) (rm : Room) (ws : List Jvm.Cond) (as' : Array Value) (Z : State) (EL : List (String × Nat)) (h0 : Heap) (Q : Option Value → Heap → List Loc → Prop) : Prop :=
  MetFree l y (head1 (Jvm.Cond.code y bytes maxL ret :: ws) rm) (fun a U => a = as' ∧ Z.Warmed39 U.vm ∧ U.heap = h0 ∧ CHv Z EL U.vm h0) (fun _ _ _ _ _ => True) (fun _ U o U' => ∃ v L, o = .returned v ∧ Q v U'.heap L ∧ CHr Z EL U.vm U.heap U'.vm U'.heap ∧ ReturnedEndW U o U' L rm.cells rm.slots)
theorem own_metW {y : MethodName} {bytes : ByteArray} {maxL : Nat} {ret : Option FieldType} {rm : Room} {ws : List Jvm.Cond} {as' : Array Value} (hy : plainFor y = true)
    (body : ∀ (p : Program) (e : Env) (s : State) (m : MethodId) (below : List Frame) (meth : Method) (c : Code) (s₁ : State), p.tables.exec = Jvm.exec → Stand p l e rm (s.setVm s.vm) m as' below meth c s₁ [] 0 0 → Z.Warmed39 (s.setVm s.vm).vm → s₁.heap = h0 → c.code = bytes → c.maxLocals = maxL →
      (s.setVm s.vm).vm.findClass y.cls = some m.cls → meth.name = y.name → meth.sig.returnType = ret → meth.locks = false → own_Inv s Z EL s.vm h0 → own_EndsW p e below s Z EL Q rm.cells rm.slots s₁ (entryFrame m as' maxL)) :
    own_MetW l y bytes maxL ret rm ws as' Z EL h0 Q := by
  refine MetFree.of_bodySF hy hisR ?_
  intro p e s m args below meth c s₁ Bd hml0 hP hK
  obtain ⟨rfl, hZ, hh, hC⟩ := hP
  subst hh
  exact body p e s m below meth c s₁ Bd.exec (Stand.of_body Bd) hZ (by rw [Bd.state]; rfl) Bd.bytes hml0 (findClass_of_methodNamed Bd.named) (name_of_methodNamed Bd.named Bd.method).1 Bd.returns Bd.notSynchronized (own_inv0 hC)
/-- ldc of a String constant, opaque -/
theorem own_ldcO (X : Stand p l e R (s.setVm vm) m args below meth c T locs cells slots) (hx : p.tables.exec = Jvm.exec) (hZ : Z.Warmed39 (s.setVm vm).vm) (hown : (s.setVm vm).vm.findClass own = some m.cls) (hEL : EW Z a0 EL) (wS : ∀ a ∈ Bundle.stringAtoms, a.before a0 Z = true) {index : Nat} {text : String} (w : (Jvm.Cond.stringLink own index text).before a0 Z = true)
    (eT : T.heap = h) (I : own_Inv s Z EL vm h) {g : JFrame} (hg : g.method = m) (hd : decode c.code g.pc = .ok (.ldc index, 2)) (n : Nat) (hn : 4 * text.toList.length ≤ n) (hbig : n ≤ 536870912) (hc : cells + 2 ≤ R.cells) (hl' : slots + (n + 4) ≤ R.slots) :
    ∃ (a : Addr) (T' : State) (h' : Heap), Stand p l e R (s.setVm T'.vm) m args below meth c T' locs (cells + 2) (slots + (n + 4)) ∧ T'.heap = h' ∧ Ext h h' ∧ own_Inv s Z EL T'.vm h' ∧ Z.Warmed39 (s.setVm T'.vm).vm ∧ (s.setVm T'.vm).vm.findClass own = some m.cls ∧ CHr Z EL vm h T'.vm h' ∧
      ∀ target, Steps p.tables e below (T'.setTop { g with pc := g.pc + 2, stack := .ref a :: g.stack }) target → Steps p.tables e below (T.setTop g) target := by
  obtain ⟨⟨k0, i1, i2⟩, C⟩ := I
  obtain ⟨a, T', h', k1, X', e1, E, S1, S2, W1, o1, C1, -, st⟩ := ldcOH X hx hZ hown w wS eT i1 i2 hEL C.1 hg hd hn hbig hc hl'
  exact ⟨a, T', h', X', e1, E, ⟨⟨k1, S1, S2⟩, C.trans C1⟩, W1, o1, C1, st⟩
/-- ldc of a String constant of EL, read -/
theorem own_ldcC (X : Stand p l e R (s.setVm vm) m args below meth c T locs cells slots) (hx : p.tables.exec = Jvm.exec) (hZ : Z.Warmed39 (s.setVm vm).vm) (hown : (s.setVm vm).vm.findClass own = some m.cls) (hEL : EW Z a0 EL) (wS : ∀ a ∈ Bundle.stringAtoms, a.before a0 Z = true) {index : Nat} {text : String} (w : (Jvm.Cond.stringLink own index text).before a0 Z = true) (hmem : (own, index) ∈ EL)
    {vs : List Value} {z : Int32} (ht : (∀ c ∈ text.toList, c.toNat < 256) ∧ text.toList.map (fun c => Value.int (Jvm.Lit.byteI c.toNat.toUInt16)) = vs) (hz : ¬ z < 0) (hl : z.toNatClampNeg = vs.length)
    (eT : T.heap = h) (I : own_Inv s Z EL vm h) {g : JFrame} (hg : g.method = m) (hd : decode c.code g.pc = .ok (.ldc index, 2)) (n : Nat) (hn : 4 * text.toList.length ≤ n) (hbig : n ≤ 536870912) (hc : cells + 2 ≤ R.cells) (hl' : slots + (n + 4) ≤ R.slots) :
    ∃ (a : Addr) (T' : State) (h' : Heap) (b : Addr) (k : ClassId), Stand p l e R (s.setVm T'.vm) m args below meth c T' locs (cells + 2) (slots + (n + 4)) ∧ T'.heap = h' ∧ Ext h h' ∧ own_Inv s Z EL T'.vm h' ∧ Z.Warmed39 (s.setVm T'.vm).vm ∧ (s.setVm T'.vm).vm.findClass own = some m.cls ∧ CHr Z EL vm h T'.vm h' ∧
      Exa Z h' a "java/lang/String" ∧ Fld Z h' a "java/lang/String" "coder" "B" (.int 0) ∧ Fld Z h' a "java/lang/String" "value" "[B" (.ref b) ∧ Arv Z h' b k .byte z vs (.int 0) ∧ (∀ x, Safe Z EL T'.vm h' x → x ≠ a ∧ x ≠ b) ∧
      ∀ target, Steps p.tables e below (T'.setTop { g with pc := g.pc + 2, stack := .ref a :: g.stack }) target → Steps p.tables e below (T.setTop g) target := by
  obtain ⟨⟨k0, i1, i2⟩, C⟩ := I
  obtain ⟨a, T', h', k1, b, k, X', e1, E, S1, S2, W1, o1, x1, x2, x3, x4, -, -, C1, -, x5, st⟩ := ldcCH X hx hZ hown w wS eT i1 i2 hEL hmem C.1 ht hz hl hg hd hn hbig hc hl'
  exact ⟨a, T', h', b, k, X', e1, E, ⟨⟨k1, S1, S2⟩, C.trans C1⟩, W1, o1, C1, x1, x2, x3, x4, x5, st⟩
theorem own_backW {y : MethodName} {bytes : ByteArray} {maxL : Nat} {ret : Option FieldType} {rm : Room} {len W : Nat} {as' : Array Value} {Q' : Option Value → Heap → List Loc → Prop} (hM : own_MetW l y bytes maxL ret rm [] as' Z EL h Q') (hZ : Z.Warmed39 vm) (wc : (Jvm.Cond.code y bytes maxL ret).before a0 Z = true) (wz : (Jvm.Cond.initialized y.cls).before a0 Z = true)
    (hf : rm.frames + 1 ≤ R.frames) (hl : W + (maxL + 11) + rm.locals ≤ R.locals) (hEL : EW Z a0 EL) (H : CHv Z EL vm h) :
    BackS l R p e below (s.setVm vm) args y len W (fun A a => a = as' ∧ A.U.heap = h ∧ A.cells + rm.cells ≤ R.cells ∧ A.slots + rm.slots ≤ R.slots)
      (fun A _ v B => ∃ L, Q' v B.U.heap L ∧ B.locs = A.locs ++ L ∧ B.cells = A.cells + rm.cells ∧ B.slots = A.slots + rm.slots ∧ CHr Z EL vm h B.U.vm B.U.heap) := backOfSH hM hZ wc wz hf hl hEL H
/-- what is known behind a call that may have loaded String constants -/
def own_BehW (p : Program) (l : Launch) (e : Env) (R : Room) (s : State) (m : MethodId) (args : Array Value) (below : List Frame) (meth : Method) (c : Code) (T : State) (locs : List Loc) (cells slots : Nat) (Z : State) (EL : List (String × Nat)) (vm : Vm) (h : Heap) (own : String) (Q' : Option Value → Heap → List Loc → Prop) (g : JFrame) (len : Nat) (rest : List Value) : Prop :=
  ∃ (T' : State) (v : Option Value) (L : List Loc) (h' : Heap), Stand p l e R (s.setVm T'.vm) m args below meth c T' (locs ++ L) cells slots ∧ T'.heap = h' ∧ Q' v h' L ∧ own_Inv s Z EL T'.vm h' ∧ Z.Warmed39 (s.setVm T'.vm).vm ∧ (s.setVm T'.vm).vm.findClass own = some m.cls ∧ CHr Z EL vm h T'.vm h' ∧ h.size ≤ h'.size ∧
    ∀ target, Steps p.tables e below (T'.setTop { g with pc := g.pc + len, stack := v.toList ++ rest }) target → Steps p.tables e below (T.setTop g) target
theorem own_callSW (X : Stand p l e R (s.setVm vm) m args below meth c T locs cells slots) (hx : p.tables.exec = Jvm.exec) (hZ : Z.Warmed39 (s.setVm vm).vm) {index : Nat} {y : MethodName} {bytes : ByteArray} {maxL : Nat} {ret : Option FieldType} {rm : Room} {as' : Array Value} {Q' : Option Value → Heap → List Loc → Prop}
    (hown : (s.setVm vm).vm.findClass own = some m.cls) (hEL : EW Z a0 EL) (I : own_Inv s Z EL vm h) (w1 : (Jvm.Cond.methodLink own index y).before a0 Z = true) (w2 : (Jvm.Cond.static y).before a0 Z = true) (w3 : (Jvm.Cond.initialized y.cls).before a0 Z = true) (w4 : (Jvm.Cond.code y bytes maxL ret).before a0 Z = true)
    (hy : y.cls ≠ "java/lang/invoke/MethodHandle" ∧ y.cls ≠ "java/lang/invoke/VarHandle") (hM : own_MetW l y bytes maxL ret rm [] as' Z EL h Q') (eT : T.heap = h) {g : JFrame} (hg : g.method = m) (hsize : g.locals.size = c.maxLocals) (argsL rest : List Value) (has : argsL.toArray = as')
    (hlen : ∀ sig, parseMethodDescriptor y.desc = some sig → argsL.length = sig.parameters.length) (hstack : g.stack = argsL.reverse ++ rest) (W : Nat) (hW : 2 * g.monitorRoom + (rest.map fun v => v.category).sum ≤ W) (hdg : decode c.code g.pc = .ok (.invokestatic index, 3))
    (hf : rm.frames + 1 ≤ R.frames) (hl : W + (maxL + 11) + rm.locals ≤ R.locals) (hc : cells + rm.cells ≤ R.cells) (hs : slots + rm.slots ≤ R.slots) :
    own_BehW p l e R s m args below meth c T locs (cells + rm.cells) (slots + rm.slots) Z EL vm h own Q' g 3 rest := by
  obtain ⟨⟨k0, i1, i2⟩, C⟩ := I
  obtain ⟨v, vm1, ⟨T1, L1, k1, n1⟩, -, X1, S1, G1, ⟨Lc, hQ, l1, y1, z1, C1⟩, st⟩ := callSS X hx hown (mvT hZ w1) (mvT hZ w2) (mvT hZ w3) (mvT hZ w4) hy (own_backW (W := W) hM hZ w4 w3 hf hl hEL C.1) hg hsize hlen hstack hW hdg (fun _ _ => ⟨has, eT, hc, hs⟩)
  dsimp only [Pt.U, Pt.locs, Pt.cells, Pt.slots] at X1 S1 G1 l1 y1 z1 st hQ C1
  subst l1 y1 z1
  subst eT
  exact ⟨T1, v, Lc, _, X1, rfl, hQ, ⟨⟨_, i1.trans S1 (Nat.le_trans i2 G1), Nat.le_refl _⟩, C.trans C1⟩, State.Warmed39.trans hZ S1.1, (S1.1.alike.findClass _ _).trans hown, C1, G1, fun t k => st.trans k⟩
theorem own_callNW (X : Stand p l e R (s.setVm vm) m args below meth c T locs cells slots) (hx : p.tables.exec = Jvm.exec) (hZ : Z.Warmed39 (s.setVm vm).vm) {index : Nat} {y : MethodName} {bytes : ByteArray} {maxL : Nat} {rm : Room} {as' : Array Value} {Q' : Option Value → Heap → List Loc → Prop}
    (hy1 : y.name = "<init>") (hown : (s.setVm vm).vm.findClass own = some m.cls) (hEL : EW Z a0 EL) (I : own_Inv s Z EL vm h) (w1 : (Jvm.Cond.methodLink own index y).before a0 Z = true) (w2 : (Jvm.Cond.instanceMethod y).before a0 Z = true) (w3 : (Jvm.Cond.initialized y.cls).before a0 Z = true) (w4 : (Jvm.Cond.code y bytes maxL none).before a0 Z = true)
    (hy : y.cls ≠ "java/lang/invoke/MethodHandle" ∧ y.cls ≠ "java/lang/invoke/VarHandle") (hM : own_MetW l y bytes maxL none rm [] as' Z EL h Q') (eT : T.heap = h) {g : JFrame} (hg : g.method = m) (hsize : g.locals.size = c.maxLocals) (b : Addr) (argsL rest : List Value) (has : (.ref b :: argsL).toArray = as')
    (hlen : ∀ sig, parseMethodDescriptor y.desc = some sig → argsL.length = sig.parameters.length) (hstack : g.stack = argsL.reverse ++ .ref b :: rest) (W : Nat) (hW : 2 * g.monitorRoom + (rest.map fun v => v.category).sum ≤ W) (hdg : decode c.code g.pc = .ok (.invokespecial index, 3))
    (hf : rm.frames + 1 ≤ R.frames) (hl : W + (maxL + 11) + rm.locals ≤ R.locals) (hc : cells + rm.cells ≤ R.cells) (hs : slots + rm.slots ≤ R.slots) :
    own_BehW p l e R s m args below meth c T locs (cells + rm.cells) (slots + rm.slots) Z EL vm h own Q' g 3 rest := by
  obtain ⟨⟨k0, i1, i2⟩, C⟩ := I
  obtain ⟨v, vm1, ⟨T1, L1, k1, n1⟩, -, X1, S1, G1, ⟨Lc, hQ, l1, y1, z1, C1⟩, st⟩ := X.specialBackS hx hy1 hown (mvT hZ w1) (mvT hZ w2) (mvT hZ w4) hy (own_backW (W := W) hM hZ w4 w3 hf hl hEL C.1) hg hsize (Steps.refl _) (a := b) hlen hstack hW hdg (fun _ _ => ⟨has, eT, hc, hs⟩)
  dsimp only [Pt.U, Pt.locs, Pt.cells, Pt.slots] at X1 S1 G1 l1 y1 z1 st hQ C1
  subst l1 y1 z1
  subst eT
  exact ⟨T1, v, Lc, _, X1, rfl, hQ, ⟨⟨_, i1.trans S1 (Nat.le_trans i2 G1), Nat.le_refl _⟩, C.trans C1⟩, State.Warmed39.trans hZ S1.1, (S1.1.alike.findClass _ _).trans hown, C1, G1, fun t k => st.trans k⟩
theorem own_callVW (X : Stand p l e R (s.setVm vm) m args below meth c T locs cells slots) (hx : p.tables.exec = Jvm.exec) (hZ : Z.Warmed39 (s.setVm vm).vm) {C : String} {index : Nat} {y z : MethodName} {bytes : ByteArray} {maxL : Nat} {ret : Option FieldType} {rm : Room} {as' : Array Value} {Q' : Option Value → Heap → List Loc → Prop}
    (hown : (s.setVm vm).vm.findClass own = some m.cls) (hEL : EW Z a0 EL) (I : own_Inv s Z EL vm h) (w1 : (Jvm.Cond.methodLink own index y).before a0 Z = true) (w2 : (Jvm.Cond.declares y).before a0 Z = true) (hnf : NotFace (s.setVm vm) y) (w5 : (Jvm.Cond.selects C y z).before a0 Z = true) (w6 : (Jvm.Cond.instanceMethod z).before a0 Z = true)
    (w3 : (Jvm.Cond.initialized z.cls).before a0 Z = true) (w4 : (Jvm.Cond.code z bytes maxL ret).before a0 Z = true)
    (hy : y.cls ≠ "java/lang/invoke/MethodHandle" ∧ y.cls ≠ "java/lang/invoke/VarHandle") (hM : own_MetW l z bytes maxL ret rm [] as' Z EL h Q') (eT : T.heap = h) {g : JFrame} (hg : g.method = m) (hsize : g.locals.size = c.maxLocals) (b : Addr) (hE : Exa Z h b C) (argsL rest : List Value) (has : (.ref b :: argsL).toArray = as')
    (hlen : ∀ sig, parseMethodDescriptor y.desc = some sig → argsL.length = sig.parameters.length) (hstack : g.stack = argsL.reverse ++ .ref b :: rest) (W : Nat) (hW : 2 * g.monitorRoom + (rest.map fun v => v.category).sum ≤ W) (hdg : decode c.code g.pc = .ok (.invokevirtual index, 3))
    (hf : rm.frames + 1 ≤ R.frames) (hl : W + (maxL + 11) + rm.locals ≤ R.locals) (hc : cells + rm.cells ≤ R.cells) (hs : slots + rm.slots ≤ R.slots) :
    own_BehW p l e R s m args below meth c T locs (cells + rm.cells) (slots + rm.slots) Z EL vm h own Q' g 3 rest := by
  obtain ⟨⟨k0, i1, i2⟩, C0⟩ := I
  obtain ⟨cq, kq, qa, qb, qc⟩ := isOf hZ eT hE
  obtain ⟨v, vm1, ⟨T1, L1, k1, n1⟩, -, X1, S1, G1, ⟨Lc, hQ, l1, y1, z1, C1⟩, st⟩ := X.virtualBackS hx hown (mvT hZ w1) (mvT hZ w2) hnf (mvT hZ w5) (mvT hZ w6) hy (own_backW (W := W) hM hZ w4 w3 hf hl hEL C0.1) qa qc hg hsize (Steps.refl _) hlen hstack hW hdg (fun _ _ => ⟨has, eT, hc, hs⟩)
  dsimp only [Pt.U, Pt.locs, Pt.cells, Pt.slots] at X1 S1 G1 l1 y1 z1 st hQ C1
  subst l1 y1 z1
  subst eT
  exact ⟨T1, v, Lc, _, X1, rfl, hQ, ⟨⟨_, i1.trans S1 (Nat.le_trans i2 G1), Nat.le_refl _⟩, C0.trans C1⟩, State.Warmed39.trans hZ S1.1, (S1.1.alike.findClass _ _).trans hown, C1, G1, fun t k => st.trans k⟩
theorem own_safe0 {x : Addr} : Safe Z [] vm h x := fun B => by obtain ⟨q, hq, -⟩ := B; cases hq
theorem own_ch0 : CHv Z [] vm h := fun q hq => by cases hq
/-- a String whose value is still null is no booked constant's cell -/
theorem own_safeN {x : Addr} (hal : Z.vm.Alike vm) (E : Exa Z h x "java/lang/String") (V : Fld Z h x "java/lang/String" "value" "[B" .null) : Safe Z EL vm h x := fun B => by
  obtain ⟨cell, k, e1, e2, e3, -, -⟩ := E
  obtain ⟨p, -, u, a, -, q, -, F, rfl | rfl⟩ := B
  · obtain ⟨cell', cf, kk, i, f, v1, v2, v3, v4, v5, v6, v7⟩ := V
    cases (show h[q.sa]? = some q.sC from F.ha).symm.trans v1
    obtain ⟨cS, ⟨⟨-, -, -, ⟨c1, k1, i1, f1, -⟩, -, -, -, s8, -⟩, -⟩, -⟩ := F
    obtain ⟨k3, e4, -⟩ := State.fieldFound?_setVm (s := ({ Z with heap := h } : State)) hal v2
    have e5 := (show (Wst Z vm h).fieldFound? "java/lang/String" "value" "[B" = _ from e4).symm.trans f1
    simp only [Option.some.injEq, Prod.mk.injEq] at e5
    rw [e5.2.2.2, s8] at v7
    cases v7
  · cases (show h[q.sd]? = some q.SA from F.hd).symm.trans e1
    obtain ⟨cS, -, -, f, -⟩ := F
    have f' : Z.vm.findClass "[B" = some q.SA.cls := by rw [← hal.findClass]; exact f
    obtain ⟨k1, q1, q2⟩ := Vm.findClass_spec f'
    obtain ⟨k2, q3, q4⟩ := Vm.findClass_spec e2
    cases q1.symm.trans q3
    exact absurd (q2.symm.trans q4) (by decide)
end OwnWide
def own_EL : List (String × Nat) := [("java/lang/String", 7)]
theorem own_EW {Z : State} {a0 : Array Value} (hw : ∀ d ∈ tables_1, d.before a0 Z = true) : EW Z a0 own_EL := (EW.cons (hw _ (List.mem_of_getElem? (i := 19) rfl)) (by decide) EW.nil)
theorem own_wS {Z : State} {a0 : Array Value} (hw : ∀ d ∈ tables_1, d.before a0 Z = true) : ∀ a ∈ Bundle.stringAtoms, a.before a0 Z = true := fun d hd => hw d ((by decide +kernel : ∀ d ∈ Bundle.stringAtoms, d ∈ tables_1) d hd)
theorem own_hws {Z : State} {a0 : Array Value} (hw : ∀ d ∈ tables_1, d.before a0 Z = true) : ∀ d ∈ StrChars.Road.words, d.before a0 Z = true := fun d hd => hw d ((by decide +kernel : ∀ d ∈ StrChars.Road.words, d ∈ tables_1) d hd)
theorem own_nz {args : Array Value} {s : State} {t : Jvm.Term} {z : Int32} (ev : t.eval args s none [] s = some (.int z)) (h : (Jvm.Cond.not (Jvm.Cond.eq t (Jvm.Term.int 0))).value args s none s [] = some true) : ¬ z = 0 := by
  have h1 := not_v h
  intro e
  subst e
  simp [Jvm.Cond.value, ev, Jvm.Term.eval] at h1
theorem own_latc {y : Int32} (h0 : 0 ≤ y.toInt) (h1 : y.toInt ≤ 255) : ¬ nar .char y.toUInt32.toUInt16.toUInt32.toInt32 < 0 ∧ ¬ (255 : Int32) < nar .char y.toUInt32.toUInt16.toUInt32.toInt32 := by
  show ¬ (y.toUInt32.toUInt16.toUInt32.toInt32).toUInt32.toUInt16.toUInt32.toInt32 < 0 ∧ ¬ (255 : Int32) < (y.toUInt32.toUInt16.toUInt32.toInt32).toUInt32.toUInt16.toUInt32.toInt32
  have a2 := c_i2c y
  have a3 := c_i2c (y.toUInt32.toUInt16.toUInt32.toInt32)
  have a4 : (255 : Int32).toInt = 255 := rfl
  have a5 : (0 : Int32).toInt = 0 := rfl
  rw [Int32.lt_iff_toInt_lt, Int32.lt_iff_toInt_lt]
  omega
theorem own_and255 (x : Int32) : 0 ≤ (x &&& (255 : Int32)).toInt ∧ (x &&& (255 : Int32)).toInt ≤ 255 := c_and x 255 (by decide)
theorem own_hwe {Z : State} {a0 : Array Value} (hw : ∀ d ∈ tables_1, d.before a0 Z = true) : ∀ d ∈ StrChars.Road.wordsEq, d.before a0 Z = true := fun d hd => hw d ((by decide +kernel : ∀ d ∈ StrChars.Road.wordsEq, d ∈ tables_1) d hd)
theorem own_eq01 {v : Option Value} {P : Prop} (h : (v = some (.int 1) ∧ P) ∨ (v = some (.int 0) ∧ ¬ P)) : ∃ z : Int32, v = some (.int z) ∧ ((z = 1 ∧ P) ∨ (z = 0 ∧ ¬ P)) := by
  rcases h with ⟨h, q⟩ | ⟨h, q⟩
  · exact ⟨1, h, Or.inl ⟨rfl, q⟩⟩
  · exact ⟨0, h, Or.inr ⟨rfl, q⟩⟩
def own_str (n c0 c1 : Int32) : List Int32 := if n = 0 then [] else if n = 1 then [c0] else [c0, c1]
theorem own_strR {n c0 c1 : Int32} (h0 : 0 ≤ c0.toInt ∧ c0.toInt ≤ 255) (h1 : 0 ≤ c1.toInt ∧ c1.toInt ≤ 255) : ∀ c ∈ own_str n c0 c1, ¬ c < 0 ∧ ¬ (255 : Int32) < c := by
  have q : ∀ c : Int32, (0 ≤ c.toInt ∧ c.toInt ≤ 255) → ¬ c < 0 ∧ ¬ (255 : Int32) < c := fun c hc => by
    have a4 : (255 : Int32).toInt = 255 := rfl
    have a5 : (0 : Int32).toInt = 0 := rfl
    rw [Int32.lt_iff_toInt_lt, Int32.lt_iff_toInt_lt]
    omega
  intro c hc
  unfold own_str at hc
  split at hc
  · cases hc
  · split at hc
    · obtain rfl := List.mem_singleton.mp hc
      exact q _ h0
    · simp only [List.mem_cons, List.not_mem_nil, or_false] at hc
      rcases hc with rfl | rfl
      · exact q _ h0
      · exact q _ h1
theorem own_strL (n c0 c1 : Int32) : (own_str n c0 c1).length ≤ 4000 := by
  unfold own_str
  split
  · simp
  · split <;> simp
theorem own_65 {L : List Int32} (h : ∀ c ∈ L, ¬ c < 0 ∧ ¬ (255 : Int32) < c) : ∀ c ∈ L, ¬ c < 0 ∧ ¬ (65535 : Int32) < c := fun c hc => by
  obtain ⟨a, b⟩ := h c hc
  refine ⟨a, fun q => b ?_⟩
  have a4 : (255 : Int32).toInt = 255 := rfl
  have a5 : (65535 : Int32).toInt = 65535 := rfl
  rw [Int32.lt_iff_toInt_lt] at q ⊢
  omega
theorem own_bvn {x : Int32} (h : 0 ≤ x.toInt) : (x.toBitVec.toNat : Int) = x.toInt := by
  have h2 : x.toInt = x.toBitVec.toInt := rfl
  rw [h2] at h ⊢
  rw [BitVec.toInt_eq_toNat_cond] at h ⊢
  split at h <;> split <;> omega
theorem own_xor {x y : Int32} (hx : 0 ≤ x.toInt ∧ x.toInt ≤ 255) (hy : 0 ≤ y.toInt ∧ y.toInt ≤ 255) : 0 ≤ (x ^^^ y).toInt ∧ (x ^^^ y).toInt ≤ 255 := by
  have h1 := own_bvn hx.1
  have h2 := own_bvn hy.1
  have h3 := (c_xorS x y).2.2.2 hx.1 hy.1
  have h4 := own_bvn h3
  have h5 : (x ^^^ y).toBitVec.toNat = x.toBitVec.toNat ^^^ y.toBitVec.toNat := by rw [Int32.toBitVec_xor, BitVec.toNat_xor]
  have h6 : x.toBitVec.toNat ^^^ y.toBitVec.toNat < 2 ^ 8 := Nat.xor_lt_two_pow (by omega) (by omega)
  omega
theorem own_i2cR {y : Int32} (h : 0 ≤ y.toInt ∧ y.toInt ≤ 255) : 0 ≤ (y.toUInt32.toUInt16.toUInt32.toInt32).toInt ∧ (y.toUInt32.toUInt16.toUInt32.toInt32).toInt ≤ 255 := by
  have a := c_i2c y
  omega
theorem own_m3 (x : Int32) : 0 ≤ ((x &&& (3 : Int32)) % (3 : Int32)).toInt ∧ ((x &&& (3 : Int32)) % (3 : Int32)).toInt < 3 := by
  have h1 := c_and x 3 (by decide)
  have h2 := (c_iremV (x &&& 3) 3).1 h1.1 (by decide)
  have h3 : (3 : Int32).toInt = 3 := rfl
  omega
theorem own_three {i : Int32} (h : 0 ≤ i.toInt ∧ i.toInt < 3) : i = 0 ∨ i = 1 ∨ i = 2 := by
  simp only [← Int32.toInt_inj]
  simp only [show (0 : Int32).toInt = 0 from rfl, show (1 : Int32).toInt = 1 from rfl, show (2 : Int32).toInt = 2 from rfl]
  omega
/-- the two strings are equal just where the law's own comparison says so -/
theorem own_strF {n k c0 c1 d0 d1 : Int32} (hn : n = 0 ∨ n = 1 ∨ n = 2) (hk : k = 0 ∨ k = 1 ∨ k = 2) : own_str n c0 c1 = own_str k d0 d1 ↔ (n = k ∧ (n < 1 ∨ d0 = c0) ∧ (n < 2 ∨ d1 = c1)) := by
  rcases hn with rfl | rfl | rfl <;> rcases hk with rfl | rfl | rfl <;> simp [own_str, @eq_comm _ d0 c0, @eq_comm _ d1 c1]
theorem d7_0 : decode jdk_30_method_1_code 0 = .ok (.aload_n 0, 1) := by decide +kernel
theorem d7_1 : decode jdk_30_method_1_code 1 = .ok (.invokespecial 1, 3) := by decide +kernel
theorem d7_4 : decode jdk_30_method_1_code 4 = .ok (.return_, 1) := by decide +kernel
theorem pn7 : plainFor (⟨"java/lang/Record", "<init>", "()V"⟩ : MethodName) = true := plainFor_of_name (by first | (simp [plainName, overriddenIn]; done) | decide +kernel)
set_option maxRecDepth 65536 in
set_option maxHeartbeats 40000000 in
theorem rm7 (l : Launch) (Z : State) (a0 : Array Value) (hw : ∀ d ∈ tables_1, d.before a0 Z = true) (ws : List Jvm.Cond)  (t : Addr) (h0 : Heap) (n0 : Nat) (Z0 : n0 ≤ h0.size)  :
    own_Met l (⟨"java/lang/Record", "<init>", "()V"⟩ : MethodName) jdk_30_method_1_code 1 none ({ frames := 1, cells := 0, slots := 0, locals := 12 } : Room) ws #[(.ref t)] Z h0 (fun v h L => v = none ∧ Fr n0 L ∧ h = h0) := by
  refine own_met pn7 ?_
  intro p e s m below meth c s₁ hx X0 hZ e0 hby hml hown hnm hret hlk
  have N0 := Fr.nil n0
  refine own_at (f' := mkF m 0 #[.val (.ref t)] []) (by first | (simp [entryFrame, mkF, argsToLocals, Value.category]; done) | rfl) ?_
  show own_Ends _ _ _ _ _ _ _ s₁ (mkF m 0 #[.val (.ref t)] [])
  refine own_go (fun t_ k_ => XS.aloadN X0.here hx rfl (hb hby d7_0) rfl rfl  k_) ?_
  show own_Ends _ _ _ _ _ _ _ s₁ (mkF m 1 #[.val (.ref t)] [(.ref t)])
  obtain ⟨T1, X1, e1, st1⟩ := initO X0 hx hZ hown (hw _ (List.mem_of_getElem? (i := 44) rfl)) (hw _ (List.mem_of_getElem? (i := 17) rfl)) (hw _ (List.mem_of_getElem? (i := 18) rfl)) e0 (g := (mkF m 1 #[.val (.ref t)] [(.ref t)])) rfl (by rw [hml]; rfl) rfl (hb hby d7_1) (by decide) (W := 0) (by show 2 * 0 + _ ≤ _; exact Nat.le_of_eq rfl) (by decide)
  refine own_go st1 ?_
  show own_Ends _ _ _ _ _ _ _ T1 (mkF m 4 #[.val (.ref t)] [])
  refine own_retV X1 hx hlk hret (hb hby d7_4) e1 (by decide) (by decide) ?_
  exact ⟨rfl, N0, rfl⟩
theorem d6_0 : decode prog_118_method_1_code 0 = .ok (.aload_n 0, 1) := by decide +kernel
theorem d6_1 : decode prog_118_method_1_code 1 = .ok (.invokespecial 1, 3) := by decide +kernel
theorem pd___V : parseMethodDescriptor "()V" = some ⟨[], none⟩ := by decide +kernel
theorem d6_4 : decode prog_118_method_1_code 4 = .ok (.aload_n 0, 1) := by decide +kernel
theorem d6_5 : decode prog_118_method_1_code 5 = .ok (.aload_n 1, 1) := by decide +kernel
theorem d6_6 : decode prog_118_method_1_code 6 = .ok (.putfield 7, 3) := by decide +kernel
theorem d6_9 : decode prog_118_method_1_code 9 = .ok (.aload_n 0, 1) := by decide +kernel
theorem d6_10 : decode prog_118_method_1_code 10 = .ok (.aload_n 2, 1) := by decide +kernel
theorem d6_11 : decode prog_118_method_1_code 11 = .ok (.putfield 13, 3) := by decide +kernel
theorem d6_14 : decode prog_118_method_1_code 14 = .ok (.aload_n 0, 1) := by decide +kernel
theorem d6_15 : decode prog_118_method_1_code 15 = .ok (.iload_n 3, 1) := by decide +kernel
theorem d6_16 : decode prog_118_method_1_code 16 = .ok (.putfield 17, 3) := by decide +kernel
theorem d6_19 : decode prog_118_method_1_code 19 = .ok (.aload_n 0, 1) := by decide +kernel
theorem d6_20 : decode prog_118_method_1_code 20 = .ok (.iload 4, 2) := by decide +kernel
theorem d6_22 : decode prog_118_method_1_code 22 = .ok (.putfield 21, 3) := by decide +kernel
theorem d6_25 : decode prog_118_method_1_code 25 = .ok (.aload_n 0, 1) := by decide +kernel
theorem d6_26 : decode prog_118_method_1_code 26 = .ok (.aload 5, 2) := by decide +kernel
theorem d6_28 : decode prog_118_method_1_code 28 = .ok (.putfield 24, 3) := by decide +kernel
theorem d6_31 : decode prog_118_method_1_code 31 = .ok (.aload_n 0, 1) := by decide +kernel
theorem d6_32 : decode prog_118_method_1_code 32 = .ok (.iload 6, 2) := by decide +kernel
theorem d6_34 : decode prog_118_method_1_code 34 = .ok (.putfield 27, 3) := by decide +kernel
theorem d6_37 : decode prog_118_method_1_code 37 = .ok (.return_, 1) := by decide +kernel
theorem pn6 : plainFor (⟨"com/example/ferret/ferret/frontend/Token", "<init>", "(Lcom/example/ferret/ferret/frontend/Token$Kind;Ljava/lang/String;IILjava/lang/String;Z)V"⟩ : MethodName) = true := plainFor_of_name (by first | (simp [plainName, overriddenIn]; done) | decide +kernel)
set_option maxRecDepth 65536 in
set_option maxHeartbeats 40000000 in
theorem rm6 (l : Launch) (Z : State) (a0 : Array Value) (hw : ∀ d ∈ tables_1, d.before a0 Z = true) (ws : List Jvm.Cond)  (t : Addr) (kd : Addr) (tx : Addr) (ln : Int32) (co : Int32) (sp : Addr) (sd : Int32) (h0 : Heap) (n0 : Nat) (Z0 : n0 ≤ h0.size)  (Et : Exa Z h0 t "com/example/ferret/ferret/frontend/Token") (F_kind : Fld Z h0 t "com/example/ferret/ferret/frontend/Token" "kind" "Lcom/example/ferret/ferret/frontend/Token$Kind;" .null) (F_text : Fld Z h0 t "com/example/ferret/ferret/frontend/Token" "text" "Ljava/lang/String;" .null) (F_line : Fld Z h0 t "com/example/ferret/ferret/frontend/Token" "line" "I" (.int (0 : Int32))) (F_column : Fld Z h0 t "com/example/ferret/ferret/frontend/Token" "column" "I" (.int (0 : Int32))) (F_spelling : Fld Z h0 t "com/example/ferret/ferret/frontend/Token" "spelling" "Ljava/lang/String;" .null) (F_spaced : Fld Z h0 t "com/example/ferret/ferret/frontend/Token" "spaced" "Z" (.int (0 : Int32))) (g_t : n0 ≤ t) :
    own_Met l (⟨"com/example/ferret/ferret/frontend/Token", "<init>", "(Lcom/example/ferret/ferret/frontend/Token$Kind;Ljava/lang/String;IILjava/lang/String;Z)V"⟩ : MethodName) prog_118_method_1_code 7 none ({ frames := 2, cells := 0, slots := 0, locals := 24 } : Room) ws #[(.ref t), (.ref kd), (.ref tx), (.int ln), (.int co), (.ref sp), (.int sd)] Z h0 (fun v h L => v = none ∧ Fr n0 L ∧ Keep h0 h [t] ∧ Exa Z h t "com/example/ferret/ferret/frontend/Token" ∧ Fld Z h t "com/example/ferret/ferret/frontend/Token" "kind" "Lcom/example/ferret/ferret/frontend/Token$Kind;" (.ref kd) ∧ Fld Z h t "com/example/ferret/ferret/frontend/Token" "text" "Ljava/lang/String;" (.ref tx)) := by
  refine own_met pn6 ?_
  intro p e s m below meth c s₁ hx X0 hZ e0 hby hml hown hnm hret hlk
  have N0 := Fr.nil n0
  refine own_at (f' := mkF m 0 #[.val (.ref t), .val (.ref kd), .val (.ref tx), .val (.int ln), .val (.int co), .val (.ref sp), .val (.int sd)] []) (by first | (simp [entryFrame, mkF, argsToLocals, Value.category]; done) | rfl) ?_
  show own_Ends _ _ _ _ _ _ _ s₁ (mkF m 0 #[.val (.ref t), .val (.ref kd), .val (.ref tx), .val (.int ln), .val (.int co), .val (.ref sp), .val (.int sd)] [])
  refine own_go (fun t_ k_ => XS.aloadN X0.here hx rfl (hb hby d6_0) rfl rfl  k_) ?_
  show own_Ends _ _ _ _ _ _ _ s₁ (mkF m 1 #[.val (.ref t), .val (.ref kd), .val (.ref tx), .val (.int ln), .val (.int co), .val (.ref sp), .val (.int sd)] [(.ref t)])
  obtain ⟨T1, v1, L1, X1, hQ1, st1⟩ := own_callN X0 hx hZ (y := (⟨"java/lang/Record", "<init>", "()V"⟩ : MethodName)) rfl hown (hw _ (List.mem_of_getElem? (i := 39) rfl)) (hw _ (List.mem_of_getElem? (i := 40) rfl)) (hw _ (List.mem_of_getElem? (i := 42) rfl)) (hw _ (List.mem_of_getElem? (i := 43) rfl)) (by decide) (rm7 l Z a0 hw [] t h0 n0 Z0) e0 (g := (mkF m 1 #[.val (.ref t), .val (.ref kd), .val (.ref tx), .val (.int ln), .val (.int co), .val (.ref sp), .val (.int sd)] [(.ref t)])) rfl (by rw [hml]; rfl) t [] [] rfl (lenOf pd___V rfl) rfl 0 (by show 2 * 0 + _ ≤ _; exact Nat.le_of_eq rfl) (hb hby d6_1) (by decide) (by decide) (by decide) (by decide)
  obtain ⟨rfl, N1q, e1⟩ := hQ1
  refine own_go st1 ?_
  have N1 := Fr.app N0 N1q
  show own_Ends _ _ _ _ _ _ _ T1 (mkF m 4 #[.val (.ref t), .val (.ref kd), .val (.ref tx), .val (.int ln), .val (.int co), .val (.ref sp), .val (.int sd)] [])
  refine own_go (fun t_ k_ => XS.aloadN X1.here hx rfl (hb hby d6_4) rfl rfl  k_) ?_
  show own_Ends _ _ _ _ _ _ _ T1 (mkF m 5 #[.val (.ref t), .val (.ref kd), .val (.ref tx), .val (.int ln), .val (.int co), .val (.ref sp), .val (.int sd)] [(.ref t)])
  refine own_go (fun t_ k_ => XS.aloadN X1.here hx rfl (hb hby d6_5) rfl rfl  k_) ?_
  show own_Ends _ _ _ _ _ _ _ T1 (mkF m 6 #[.val (.ref t), .val (.ref kd), .val (.ref tx), .val (.int ln), .val (.int co), .val (.ref sp), .val (.int sd)] [(.ref kd), (.ref t)])
  obtain ⟨T3, h3, X3, e3, W3, st3⟩ := putF X1 hx hZ hown (host := "") (Or.inl (hw _ (List.mem_of_getElem? (i := 45) rfl))) Via.refl e1 F_kind Et (Or.inr ⟨(hw _ (List.mem_of_getElem? (i := 46) rfl)), rfl, hnm⟩) (hw _ (List.mem_of_getElem? (i := 28) rfl)) (ty := (.object "com/example/ferret/ferret/frontend/Token$Kind")) (by decide) rfl rfl (g := (mkF m 6 #[.val (.ref t), .val (.ref kd), .val (.ref tx), .val (.int ln), .val (.int co), .val (.ref sp), .val (.int sd)] [(.ref kd), (.ref t)])) rfl rfl (hb hby d6_6)
  refine own_go st3 ?_
  have Fw3 := Fld.same W3 F_kind
  have N3 := Fr.snoc X3 N1 g_t
  have K3 := Keep.wr (Keep.refl h0 [t]) W3 (Or.inl (List.mem_of_getElem? (i := 0) rfl))
  show own_Ends _ _ _ _ _ _ _ T3 (mkF m 9 #[.val (.ref t), .val (.ref kd), .val (.ref tx), .val (.int ln), .val (.int co), .val (.ref sp), .val (.int sd)] [])
  refine own_go (fun t_ k_ => XS.aloadN X3.here hx rfl (hb hby d6_9) rfl rfl  k_) ?_
  show own_Ends _ _ _ _ _ _ _ T3 (mkF m 10 #[.val (.ref t), .val (.ref kd), .val (.ref tx), .val (.int ln), .val (.int co), .val (.ref sp), .val (.int sd)] [(.ref t)])
  refine own_go (fun t_ k_ => XS.aloadN X3.here hx rfl (hb hby d6_10) rfl rfl  k_) ?_
  show own_Ends _ _ _ _ _ _ _ T3 (mkF m 11 #[.val (.ref t), .val (.ref kd), .val (.ref tx), .val (.int ln), .val (.int co), .val (.ref sp), .val (.int sd)] [(.ref tx), (.ref t)])
  obtain ⟨T5, h5, X5, e5, W5, st5⟩ := putF X3 hx hZ hown (host := "") (Or.inl (hw _ (List.mem_of_getElem? (i := 47) rfl))) Via.refl e3 (F_text.other W3 (Or.inr (slot_ne (Or.inr (hw _ (List.mem_of_getElem? (i := 48) rfl))) (Or.inr (hw _ (List.mem_of_getElem? (i := 46) rfl))) (by decide) (t := (.object "java/lang/String")) (t' := (.object "com/example/ferret/ferret/frontend/Token$Kind")) (by decide) (by decide)))) (Et.wr W3) (Or.inr ⟨(hw _ (List.mem_of_getElem? (i := 48) rfl)), rfl, hnm⟩) (hw _ (List.mem_of_getElem? (i := 28) rfl)) (ty := (.object "java/lang/String")) (by decide) rfl rfl (g := (mkF m 11 #[.val (.ref t), .val (.ref kd), .val (.ref tx), .val (.int ln), .val (.int co), .val (.ref sp), .val (.int sd)] [(.ref tx), (.ref t)])) rfl rfl (hb hby d6_11)
  refine own_go st5 ?_
  have Fw5 := Fld.same W5 (F_text.other W3 (Or.inr (slot_ne (Or.inr (hw _ (List.mem_of_getElem? (i := 48) rfl))) (Or.inr (hw _ (List.mem_of_getElem? (i := 46) rfl))) (by decide) (t := (.object "java/lang/String")) (t' := (.object "com/example/ferret/ferret/frontend/Token$Kind")) (by decide) (by decide))))
  have N5 := Fr.snoc X5 N3 g_t
  have K5 := Keep.wr K3 W5 (Or.inl (List.mem_of_getElem? (i := 0) rfl))
  show own_Ends _ _ _ _ _ _ _ T5 (mkF m 14 #[.val (.ref t), .val (.ref kd), .val (.ref tx), .val (.int ln), .val (.int co), .val (.ref sp), .val (.int sd)] [])
  refine own_go (fun t_ k_ => XS.aloadN X5.here hx rfl (hb hby d6_14) rfl rfl  k_) ?_
  show own_Ends _ _ _ _ _ _ _ T5 (mkF m 15 #[.val (.ref t), .val (.ref kd), .val (.ref tx), .val (.int ln), .val (.int co), .val (.ref sp), .val (.int sd)] [(.ref t)])
  refine own_go (fun t_ k_ => XS.iloadN X5.here hx rfl (hb hby d6_15) rfl  k_) ?_
  show own_Ends _ _ _ _ _ _ _ T5 (mkF m 16 #[.val (.ref t), .val (.ref kd), .val (.ref tx), .val (.int ln), .val (.int co), .val (.ref sp), .val (.int sd)] [(.int ln), (.ref t)])
  obtain ⟨T7, h7, X7, e7, W7, st7⟩ := putF X5 hx hZ hown (host := "") (Or.inl (hw _ (List.mem_of_getElem? (i := 49) rfl))) Via.refl e5 ((F_line.other W3 (Or.inr (slot_ne (Or.inr (hw _ (List.mem_of_getElem? (i := 50) rfl))) (Or.inr (hw _ (List.mem_of_getElem? (i := 46) rfl))) (by decide) (t := .int) (t' := (.object "com/example/ferret/ferret/frontend/Token$Kind")) (by decide) (by decide)))).other W5 (Or.inr (slot_ne (Or.inr (hw _ (List.mem_of_getElem? (i := 50) rfl))) (Or.inr (hw _ (List.mem_of_getElem? (i := 48) rfl))) (by decide) (t := .int) (t' := (.object "java/lang/String")) (by decide) (by decide)))) ((Et.wr W3).wr W5) (Or.inr ⟨(hw _ (List.mem_of_getElem? (i := 50) rfl)), rfl, hnm⟩) (hw _ (List.mem_of_getElem? (i := 28) rfl)) (ty := .int) (by decide) rfl rfl (g := (mkF m 16 #[.val (.ref t), .val (.ref kd), .val (.ref tx), .val (.int ln), .val (.int co), .val (.ref sp), .val (.int sd)] [(.int ln), (.ref t)])) rfl rfl (hb hby d6_16)
  refine own_go st7 ?_
  have Fw7 := Fld.same W7 ((F_line.other W3 (Or.inr (slot_ne (Or.inr (hw _ (List.mem_of_getElem? (i := 50) rfl))) (Or.inr (hw _ (List.mem_of_getElem? (i := 46) rfl))) (by decide) (t := .int) (t' := (.object "com/example/ferret/ferret/frontend/Token$Kind")) (by decide) (by decide)))).other W5 (Or.inr (slot_ne (Or.inr (hw _ (List.mem_of_getElem? (i := 50) rfl))) (Or.inr (hw _ (List.mem_of_getElem? (i := 48) rfl))) (by decide) (t := .int) (t' := (.object "java/lang/String")) (by decide) (by decide))))
  have N7 := Fr.snoc X7 N5 g_t
  have K7 := Keep.wr K5 W7 (Or.inl (List.mem_of_getElem? (i := 0) rfl))
  show own_Ends _ _ _ _ _ _ _ T7 (mkF m 19 #[.val (.ref t), .val (.ref kd), .val (.ref tx), .val (.int ln), .val (.int co), .val (.ref sp), .val (.int sd)] [])
  refine own_go (fun t_ k_ => XS.aloadN X7.here hx rfl (hb hby d6_19) rfl rfl  k_) ?_
  show own_Ends _ _ _ _ _ _ _ T7 (mkF m 20 #[.val (.ref t), .val (.ref kd), .val (.ref tx), .val (.int ln), .val (.int co), .val (.ref sp), .val (.int sd)] [(.ref t)])
  refine own_go (fun t_ k_ => XS.iload X7.here hx rfl (hb hby d6_20) rfl  k_) ?_
  show own_Ends _ _ _ _ _ _ _ T7 (mkF m 22 #[.val (.ref t), .val (.ref kd), .val (.ref tx), .val (.int ln), .val (.int co), .val (.ref sp), .val (.int sd)] [(.int co), (.ref t)])
  obtain ⟨T9, h9, X9, e9, W9, st9⟩ := putF X7 hx hZ hown (host := "") (Or.inl (hw _ (List.mem_of_getElem? (i := 51) rfl))) Via.refl e7 (((F_column.other W3 (Or.inr (slot_ne (Or.inr (hw _ (List.mem_of_getElem? (i := 52) rfl))) (Or.inr (hw _ (List.mem_of_getElem? (i := 46) rfl))) (by decide) (t := .int) (t' := (.object "com/example/ferret/ferret/frontend/Token$Kind")) (by decide) (by decide)))).other W5 (Or.inr (slot_ne (Or.inr (hw _ (List.mem_of_getElem? (i := 52) rfl))) (Or.inr (hw _ (List.mem_of_getElem? (i := 48) rfl))) (by decide) (t := .int) (t' := (.object "java/lang/String")) (by decide) (by decide)))).other W7 (Or.inr (slot_ne (Or.inr (hw _ (List.mem_of_getElem? (i := 52) rfl))) (Or.inr (hw _ (List.mem_of_getElem? (i := 50) rfl))) (by decide) (t := .int) (t' := .int) (by decide) (by decide)))) (((Et.wr W3).wr W5).wr W7) (Or.inr ⟨(hw _ (List.mem_of_getElem? (i := 52) rfl)), rfl, hnm⟩) (hw _ (List.mem_of_getElem? (i := 28) rfl)) (ty := .int) (by decide) rfl rfl (g := (mkF m 22 #[.val (.ref t), .val (.ref kd), .val (.ref tx), .val (.int ln), .val (.int co), .val (.ref sp), .val (.int sd)] [(.int co), (.ref t)])) rfl rfl (hb hby d6_22)
  refine own_go st9 ?_
  have Fw9 := Fld.same W9 (((F_column.other W3 (Or.inr (slot_ne (Or.inr (hw _ (List.mem_of_getElem? (i := 52) rfl))) (Or.inr (hw _ (List.mem_of_getElem? (i := 46) rfl))) (by decide) (t := .int) (t' := (.object "com/example/ferret/ferret/frontend/Token$Kind")) (by decide) (by decide)))).other W5 (Or.inr (slot_ne (Or.inr (hw _ (List.mem_of_getElem? (i := 52) rfl))) (Or.inr (hw _ (List.mem_of_getElem? (i := 48) rfl))) (by decide) (t := .int) (t' := (.object "java/lang/String")) (by decide) (by decide)))).other W7 (Or.inr (slot_ne (Or.inr (hw _ (List.mem_of_getElem? (i := 52) rfl))) (Or.inr (hw _ (List.mem_of_getElem? (i := 50) rfl))) (by decide) (t := .int) (t' := .int) (by decide) (by decide))))
  have N9 := Fr.snoc X9 N7 g_t
  have K9 := Keep.wr K7 W9 (Or.inl (List.mem_of_getElem? (i := 0) rfl))
  show own_Ends _ _ _ _ _ _ _ T9 (mkF m 25 #[.val (.ref t), .val (.ref kd), .val (.ref tx), .val (.int ln), .val (.int co), .val (.ref sp), .val (.int sd)] [])
  refine own_go (fun t_ k_ => XS.aloadN X9.here hx rfl (hb hby d6_25) rfl rfl  k_) ?_
  show own_Ends _ _ _ _ _ _ _ T9 (mkF m 26 #[.val (.ref t), .val (.ref kd), .val (.ref tx), .val (.int ln), .val (.int co), .val (.ref sp), .val (.int sd)] [(.ref t)])
  refine own_go (fun t_ k_ => XS.aload X9.here hx rfl (hb hby d6_26) rfl rfl  k_) ?_
  show own_Ends _ _ _ _ _ _ _ T9 (mkF m 28 #[.val (.ref t), .val (.ref kd), .val (.ref tx), .val (.int ln), .val (.int co), .val (.ref sp), .val (.int sd)] [(.ref sp), (.ref t)])
  obtain ⟨T11, h11, X11, e11, W11, st11⟩ := putF X9 hx hZ hown (host := "") (Or.inl (hw _ (List.mem_of_getElem? (i := 53) rfl))) Via.refl e9 ((((F_spelling.other W3 (Or.inr (slot_ne (Or.inr (hw _ (List.mem_of_getElem? (i := 54) rfl))) (Or.inr (hw _ (List.mem_of_getElem? (i := 46) rfl))) (by decide) (t := (.object "java/lang/String")) (t' := (.object "com/example/ferret/ferret/frontend/Token$Kind")) (by decide) (by decide)))).other W5 (Or.inr (slot_ne (Or.inr (hw _ (List.mem_of_getElem? (i := 54) rfl))) (Or.inr (hw _ (List.mem_of_getElem? (i := 48) rfl))) (by decide) (t := (.object "java/lang/String")) (t' := (.object "java/lang/String")) (by decide) (by decide)))).other W7 (Or.inr (slot_ne (Or.inr (hw _ (List.mem_of_getElem? (i := 54) rfl))) (Or.inr (hw _ (List.mem_of_getElem? (i := 50) rfl))) (by decide) (t := (.object "java/lang/String")) (t' := .int) (by decide) (by decide)))).other W9 (Or.inr (slot_ne (Or.inr (hw _ (List.mem_of_getElem? (i := 54) rfl))) (Or.inr (hw _ (List.mem_of_getElem? (i := 52) rfl))) (by decide) (t := (.object "java/lang/String")) (t' := .int) (by decide) (by decide)))) ((((Et.wr W3).wr W5).wr W7).wr W9) (Or.inr ⟨(hw _ (List.mem_of_getElem? (i := 54) rfl)), rfl, hnm⟩) (hw _ (List.mem_of_getElem? (i := 28) rfl)) (ty := (.object "java/lang/String")) (by decide) rfl rfl (g := (mkF m 28 #[.val (.ref t), .val (.ref kd), .val (.ref tx), .val (.int ln), .val (.int co), .val (.ref sp), .val (.int sd)] [(.ref sp), (.ref t)])) rfl rfl (hb hby d6_28)
  refine own_go st11 ?_
  have Fw11 := Fld.same W11 ((((F_spelling.other W3 (Or.inr (slot_ne (Or.inr (hw _ (List.mem_of_getElem? (i := 54) rfl))) (Or.inr (hw _ (List.mem_of_getElem? (i := 46) rfl))) (by decide) (t := (.object "java/lang/String")) (t' := (.object "com/example/ferret/ferret/frontend/Token$Kind")) (by decide) (by decide)))).other W5 (Or.inr (slot_ne (Or.inr (hw _ (List.mem_of_getElem? (i := 54) rfl))) (Or.inr (hw _ (List.mem_of_getElem? (i := 48) rfl))) (by decide) (t := (.object "java/lang/String")) (t' := (.object "java/lang/String")) (by decide) (by decide)))).other W7 (Or.inr (slot_ne (Or.inr (hw _ (List.mem_of_getElem? (i := 54) rfl))) (Or.inr (hw _ (List.mem_of_getElem? (i := 50) rfl))) (by decide) (t := (.object "java/lang/String")) (t' := .int) (by decide) (by decide)))).other W9 (Or.inr (slot_ne (Or.inr (hw _ (List.mem_of_getElem? (i := 54) rfl))) (Or.inr (hw _ (List.mem_of_getElem? (i := 52) rfl))) (by decide) (t := (.object "java/lang/String")) (t' := .int) (by decide) (by decide))))
  have N11 := Fr.snoc X11 N9 g_t
  have K11 := Keep.wr K9 W11 (Or.inl (List.mem_of_getElem? (i := 0) rfl))
  show own_Ends _ _ _ _ _ _ _ T11 (mkF m 31 #[.val (.ref t), .val (.ref kd), .val (.ref tx), .val (.int ln), .val (.int co), .val (.ref sp), .val (.int sd)] [])
  refine own_go (fun t_ k_ => XS.aloadN X11.here hx rfl (hb hby d6_31) rfl rfl  k_) ?_
  show own_Ends _ _ _ _ _ _ _ T11 (mkF m 32 #[.val (.ref t), .val (.ref kd), .val (.ref tx), .val (.int ln), .val (.int co), .val (.ref sp), .val (.int sd)] [(.ref t)])
  refine own_go (fun t_ k_ => XS.iload X11.here hx rfl (hb hby d6_32) rfl  k_) ?_
  show own_Ends _ _ _ _ _ _ _ T11 (mkF m 34 #[.val (.ref t), .val (.ref kd), .val (.ref tx), .val (.int ln), .val (.int co), .val (.ref sp), .val (.int sd)] [(.int sd), (.ref t)])
  obtain ⟨T13, h13, X13, e13, W13, st13⟩ := putFN X11 hx hZ hown (hw _ (List.mem_of_getElem? (i := 55) rfl)) Via.refl e11 (((((F_spaced.other W3 (Or.inr (slot_ne (Or.inr (hw _ (List.mem_of_getElem? (i := 56) rfl))) (Or.inr (hw _ (List.mem_of_getElem? (i := 46) rfl))) (by decide) (t := .boolean) (t' := (.object "com/example/ferret/ferret/frontend/Token$Kind")) (by decide) (by decide)))).other W5 (Or.inr (slot_ne (Or.inr (hw _ (List.mem_of_getElem? (i := 56) rfl))) (Or.inr (hw _ (List.mem_of_getElem? (i := 48) rfl))) (by decide) (t := .boolean) (t' := (.object "java/lang/String")) (by decide) (by decide)))).other W7 (Or.inr (slot_ne (Or.inr (hw _ (List.mem_of_getElem? (i := 56) rfl))) (Or.inr (hw _ (List.mem_of_getElem? (i := 50) rfl))) (by decide) (t := .boolean) (t' := .int) (by decide) (by decide)))).other W9 (Or.inr (slot_ne (Or.inr (hw _ (List.mem_of_getElem? (i := 56) rfl))) (Or.inr (hw _ (List.mem_of_getElem? (i := 52) rfl))) (by decide) (t := .boolean) (t' := .int) (by decide) (by decide)))).other W11 (Or.inr (slot_ne (Or.inr (hw _ (List.mem_of_getElem? (i := 56) rfl))) (Or.inr (hw _ (List.mem_of_getElem? (i := 54) rfl))) (by decide) (t := .boolean) (t' := (.object "java/lang/String")) (by decide) (by decide)))) (((((Et.wr W3).wr W5).wr W7).wr W9).wr W11) (Or.inr ⟨(hw _ (List.mem_of_getElem? (i := 56) rfl)), rfl, hnm⟩) (hw _ (List.mem_of_getElem? (i := 28) rfl)) (ty := .boolean) (v' := (.int (nar .boolean sd))) (by decide) rfl (fits_nar_bool _) (g := (mkF m 34 #[.val (.ref t), .val (.ref kd), .val (.ref tx), .val (.int ln), .val (.int co), .val (.ref sp), .val (.int sd)] [(.int sd), (.ref t)])) rfl rfl (hb hby d6_34)
  refine own_go st13 ?_
  have Fw13 := Fld.same W13 (((((F_spaced.other W3 (Or.inr (slot_ne (Or.inr (hw _ (List.mem_of_getElem? (i := 56) rfl))) (Or.inr (hw _ (List.mem_of_getElem? (i := 46) rfl))) (by decide) (t := .boolean) (t' := (.object "com/example/ferret/ferret/frontend/Token$Kind")) (by decide) (by decide)))).other W5 (Or.inr (slot_ne (Or.inr (hw _ (List.mem_of_getElem? (i := 56) rfl))) (Or.inr (hw _ (List.mem_of_getElem? (i := 48) rfl))) (by decide) (t := .boolean) (t' := (.object "java/lang/String")) (by decide) (by decide)))).other W7 (Or.inr (slot_ne (Or.inr (hw _ (List.mem_of_getElem? (i := 56) rfl))) (Or.inr (hw _ (List.mem_of_getElem? (i := 50) rfl))) (by decide) (t := .boolean) (t' := .int) (by decide) (by decide)))).other W9 (Or.inr (slot_ne (Or.inr (hw _ (List.mem_of_getElem? (i := 56) rfl))) (Or.inr (hw _ (List.mem_of_getElem? (i := 52) rfl))) (by decide) (t := .boolean) (t' := .int) (by decide) (by decide)))).other W11 (Or.inr (slot_ne (Or.inr (hw _ (List.mem_of_getElem? (i := 56) rfl))) (Or.inr (hw _ (List.mem_of_getElem? (i := 54) rfl))) (by decide) (t := .boolean) (t' := (.object "java/lang/String")) (by decide) (by decide))))
  have N13 := Fr.snoc X13 N11 g_t
  have K13 := Keep.wr K11 W13 (Or.inl (List.mem_of_getElem? (i := 0) rfl))
  show own_Ends _ _ _ _ _ _ _ T13 (mkF m 37 #[.val (.ref t), .val (.ref kd), .val (.ref tx), .val (.int ln), .val (.int co), .val (.ref sp), .val (.int sd)] [])
  refine own_retV X13 hx hlk hret (hb hby d6_37) e13 (by decide) (by decide) ?_
  exact ⟨rfl, N13, K13, ((((((Et.wr W3).wr W5).wr W7).wr W9).wr W11).wr W13), (((((Fw3.other W5 (Or.inr (slot_ne (Or.inr (hw _ (List.mem_of_getElem? (i := 46) rfl))) (Or.inr (hw _ (List.mem_of_getElem? (i := 48) rfl))) (by decide) (t := (.object "com/example/ferret/ferret/frontend/Token$Kind")) (t' := (.object "java/lang/String")) (by decide) (by decide)))).other W7 (Or.inr (slot_ne (Or.inr (hw _ (List.mem_of_getElem? (i := 46) rfl))) (Or.inr (hw _ (List.mem_of_getElem? (i := 50) rfl))) (by decide) (t := (.object "com/example/ferret/ferret/frontend/Token$Kind")) (t' := .int) (by decide) (by decide)))).other W9 (Or.inr (slot_ne (Or.inr (hw _ (List.mem_of_getElem? (i := 46) rfl))) (Or.inr (hw _ (List.mem_of_getElem? (i := 52) rfl))) (by decide) (t := (.object "com/example/ferret/ferret/frontend/Token$Kind")) (t' := .int) (by decide) (by decide)))).other W11 (Or.inr (slot_ne (Or.inr (hw _ (List.mem_of_getElem? (i := 46) rfl))) (Or.inr (hw _ (List.mem_of_getElem? (i := 54) rfl))) (by decide) (t := (.object "com/example/ferret/ferret/frontend/Token$Kind")) (t' := (.object "java/lang/String")) (by decide) (by decide)))).other W13 (Or.inr (slot_ne (Or.inr (hw _ (List.mem_of_getElem? (i := 46) rfl))) (Or.inr (hw _ (List.mem_of_getElem? (i := 56) rfl))) (by decide) (t := (.object "com/example/ferret/ferret/frontend/Token$Kind")) (t' := .boolean) (by decide) (by decide)))), ((((Fw5.other W7 (Or.inr (slot_ne (Or.inr (hw _ (List.mem_of_getElem? (i := 48) rfl))) (Or.inr (hw _ (List.mem_of_getElem? (i := 50) rfl))) (by decide) (t := (.object "java/lang/String")) (t' := .int) (by decide) (by decide)))).other W9 (Or.inr (slot_ne (Or.inr (hw _ (List.mem_of_getElem? (i := 48) rfl))) (Or.inr (hw _ (List.mem_of_getElem? (i := 52) rfl))) (by decide) (t := (.object "java/lang/String")) (t' := .int) (by decide) (by decide)))).other W11 (Or.inr (slot_ne (Or.inr (hw _ (List.mem_of_getElem? (i := 48) rfl))) (Or.inr (hw _ (List.mem_of_getElem? (i := 54) rfl))) (by decide) (t := (.object "java/lang/String")) (t' := (.object "java/lang/String")) (by decide) (by decide)))).other W13 (Or.inr (slot_ne (Or.inr (hw _ (List.mem_of_getElem? (i := 48) rfl))) (Or.inr (hw _ (List.mem_of_getElem? (i := 56) rfl))) (by decide) (t := (.object "java/lang/String")) (t' := .boolean) (by decide) (by decide))))⟩
theorem d3_0 : decode jdk_42_method_149_code 0 = .ok (.aload_n 0, 1) := by decide +kernel
theorem d3_1 : decode jdk_42_method_149_code 1 = .ok (.invokespecial 1, 3) := by decide +kernel
theorem d3_4 : decode jdk_42_method_149_code 4 = .ok (.iload_n 3, 1) := by decide +kernel
theorem d3_5 : decode jdk_42_method_149_code 5 = .ok (.ifCond .ne 22, 3) := by decide +kernel
theorem d3_8 : decode jdk_42_method_149_code 8 = .ok (.aload_n 0, 1) := by decide +kernel
theorem d3_9 : decode jdk_42_method_149_code 9 = .ok (.ldc 7, 2) := by decide +kernel
theorem d3_11 : decode jdk_42_method_149_code 11 = .ok (.getfield 9, 3) := by decide +kernel
theorem d3_14 : decode jdk_42_method_149_code 14 = .ok (.putfield 9, 3) := by decide +kernel
theorem d3_17 : decode jdk_42_method_149_code 17 = .ok (.aload_n 0, 1) := by decide +kernel
theorem d3_18 : decode jdk_42_method_149_code 18 = .ok (.ldc 7, 2) := by decide +kernel
theorem d3_20 : decode jdk_42_method_149_code 20 = .ok (.getfield 15, 3) := by decide +kernel
theorem d3_23 : decode jdk_42_method_149_code 23 = .ok (.putfield 15, 3) := by decide +kernel
theorem d3_26 : decode jdk_42_method_149_code 26 = .ok (.return_, 1) := by decide +kernel
theorem pn3 : plainFor (⟨"java/lang/String", "<init>", "([CIILjava/lang/Void;)V"⟩ : MethodName) = true := plainFor_of_name (by first | (simp [plainName, overriddenIn]; done) | decide +kernel)
set_option maxRecDepth 65536 in
set_option maxHeartbeats 40000000 in
theorem rmE3 (l : Launch) (Z : State) (a0 : Array Value) (hw : ∀ d ∈ tables_1, d.before a0 Z = true) (ws : List Jvm.Cond)  (t bc : Addr) (h0 : Heap) (n0 : Nat) (Z0 : n0 ≤ h0.size) (Et : Exa Z h0 t "java/lang/String") (F_value : Fld Z h0 t "java/lang/String" "value" "[B" .null) (F_coder : Fld Z h0 t "java/lang/String" "coder" "B" (.int 0)) (g_t : n0 ≤ t) :
    own_MetW l (⟨"java/lang/String", "<init>", "([CIILjava/lang/Void;)V"⟩ : MethodName) jdk_42_method_149_code 6 none ({ frames := 1, cells := 4, slots := 8, locals := 12 } : Room) ws #[(.ref t), (.ref bc), (.int (0 : Int32)), (.int (0 : Int32)), .null] Z own_EL h0 (fun v h L => v = none ∧ Fr n0 L ∧ Keep h0 h [t] ∧ Exa Z h t "java/lang/String" ∧ Fld Z h t "java/lang/String" "coder" "B" (.int 0) ∧ ∃ (b : Addr) (k : ClassId), Fld Z h t "java/lang/String" "value" "[B" (.ref b) ∧ Arv Z h b k .byte 0 [] (.int 0)) := by
  refine own_metW pn3 ?_
  intro p e s m below meth c s₁ hx X0 hZ e0 hby hml hown hnm hret hlk Iv0
  have N0 := Fr.nil n0
  refine own_atW (f' := mkF m 0 #[.val (.ref t), .val (.ref bc), .val (.int (0 : Int32)), .val (.int (0 : Int32)), .val .null, .unset] []) (by first | (simp [entryFrame, mkF, argsToLocals, Value.category]; done) | rfl) ?_
  have Sft : Safe Z own_EL s.vm h0 t := own_safeN hZ.alike Et F_value
  show own_EndsW _ _ _ _ _ _ _ _ _ s₁ (mkF m 0 #[.val (.ref t), .val (.ref bc), .val (.int (0 : Int32)), .val (.int (0 : Int32)), .val .null, .unset] [])
  refine own_goW (fun t_ k_ => XS.aloadN X0.here hx rfl (hb hby d3_0) rfl rfl  k_) ?_
  show own_EndsW _ _ _ _ _ _ _ _ _ s₁ (mkF m 1 #[.val (.ref t), .val (.ref bc), .val (.int (0 : Int32)), .val (.int (0 : Int32)), .val .null, .unset] [(.ref t)])
  obtain ⟨T1, X1, e1, st1⟩ := initO X0 hx hZ hown (hw _ (List.mem_of_getElem? (i := 16) rfl)) (hw _ (List.mem_of_getElem? (i := 17) rfl)) (hw _ (List.mem_of_getElem? (i := 18) rfl)) e0 (g := (mkF m 1 #[.val (.ref t), .val (.ref bc), .val (.int (0 : Int32)), .val (.int (0 : Int32)), .val .null, .unset] [(.ref t)])) rfl (by rw [hml]; rfl) rfl (hb hby d3_1) (by decide) (W := 0) (by show 2 * 0 + _ ≤ _; exact Nat.le_of_eq rfl) (by decide)
  refine own_goW st1 ?_
  show own_EndsW _ _ _ _ _ _ _ _ _ T1 (mkF m 4 #[.val (.ref t), .val (.ref bc), .val (.int (0 : Int32)), .val (.int (0 : Int32)), .val .null, .unset] [])
  refine own_goW (fun t_ k_ => XS.iloadN X1.here hx rfl (hb hby d3_4) rfl  k_) ?_
  show own_EndsW _ _ _ _ _ _ _ _ _ T1 (mkF m 5 #[.val (.ref t), .val (.ref bc), .val (.int (0 : Int32)), .val (.int (0 : Int32)), .val .null, .unset] [(.int (0 : Int32))])
  refine own_goW (fun t_ k_ => XS.ifNo X1.here hx rfl (hb hby d3_5) rfl ((if0 _ _).trans (teq (by decide : (0 : Int32) = (0 : Int32))).2) k_) ?_
  show own_EndsW _ _ _ _ _ _ _ _ _ T1 (mkF m 8 #[.val (.ref t), .val (.ref bc), .val (.int (0 : Int32)), .val (.int (0 : Int32)), .val .null, .unset] [])
  refine own_goW (fun t_ k_ => XS.aloadN X1.here hx rfl (hb hby d3_8) rfl rfl  k_) ?_
  show own_EndsW _ _ _ _ _ _ _ _ _ T1 (mkF m 9 #[.val (.ref t), .val (.ref bc), .val (.int (0 : Int32)), .val (.int (0 : Int32)), .val .null, .unset] [(.ref t)])
  obtain ⟨la2, T2, h2, lb2, lk2, X2, e2, E2, Iv2, hZ, hown, CH2, LE2, LC2, LV2, LA2, xs2, st2⟩ := own_ldcC X1 hx hZ (hown) (own_EW hw) (own_wS hw) (hw _ (List.mem_of_getElem? (i := 19) rfl)) (by decide) (vs := []) (z := (0 : Int32)) (by decide) (by decide) (by decide) e1 Iv0 (g := (mkF m 9 #[.val (.ref t), .val (.ref bc), .val (.int (0 : Int32)), .val (.int (0 : Int32)), .val .null, .unset] [(.ref t)])) rfl (hb hby d3_9) 0 (by decide) (by decide) (by decide) (by decide)
  refine own_goW st2 ?_
  have K2 := Keep.ext (Keep.refl h0 [t]) E2
  show own_EndsW _ _ _ _ _ _ _ _ _ T2 (mkF m 11 #[.val (.ref t), .val (.ref bc), .val (.int (0 : Int32)), .val (.int (0 : Int32)), .val .null, .unset] [(.ref la2), (.ref t)])
  obtain ⟨T3, X3, e3, st3⟩ := getF X2 hx hZ hown (host := "") (Or.inl (hw _ (List.mem_of_getElem? (i := 25) rfl))) Via.refl e2 LV2 (g := (mkF m 11 #[.val (.ref t), .val (.ref bc), .val (.int (0 : Int32)), .val (.int (0 : Int32)), .val .null, .unset] [(.ref la2), (.ref t)])) rfl rfl (hb hby d3_11)
  refine own_goW st3 ?_
  show own_EndsW _ _ _ _ _ _ _ _ _ T3 (mkF m 14 #[.val (.ref t), .val (.ref bc), .val (.int (0 : Int32)), .val (.int (0 : Int32)), .val .null, .unset] [(.ref lb2), (.ref t)])
  have Swp4 : Safe Z own_EL T2.vm h2 t := (CHr.safe CH2 Et.lt Sft)
  obtain ⟨T5, h5, X5, e5, W5, st5⟩ := putF X3 hx hZ hown (host := "") (Or.inl (hw _ (List.mem_of_getElem? (i := 25) rfl))) Via.refl e3 (F_value.ext E2) (Et.ext E2) (Or.inr ⟨(hw _ (List.mem_of_getElem? (i := 21) rfl)), rfl, hnm⟩) (hw _ (List.mem_of_getElem? (i := 6) rfl)) (ty := (.array .byte)) (by decide) rfl rfl (g := (mkF m 14 #[.val (.ref t), .val (.ref bc), .val (.int (0 : Int32)), .val (.int (0 : Int32)), .val .null, .unset] [(.ref lb2), (.ref t)])) rfl rfl (hb hby d3_14)
  refine own_goW st5 ?_
  have Iv5 := Iv2.wr W5 Swp4
  have Fw5 := Fld.same W5 (F_value.ext E2)
  have N5 := Fr.snoc X5 N0 g_t
  have K5 := Keep.wr K2 W5 (Or.inl (List.mem_of_getElem? (i := 0) rfl))
  show own_EndsW _ _ _ _ _ _ _ _ _ T5 (mkF m 17 #[.val (.ref t), .val (.ref bc), .val (.int (0 : Int32)), .val (.int (0 : Int32)), .val .null, .unset] [])
  refine own_goW (fun t_ k_ => XS.aloadN X5.here hx rfl (hb hby d3_17) rfl rfl  k_) ?_
  show own_EndsW _ _ _ _ _ _ _ _ _ T5 (mkF m 18 #[.val (.ref t), .val (.ref bc), .val (.int (0 : Int32)), .val (.int (0 : Int32)), .val .null, .unset] [(.ref t)])
  obtain ⟨la6, T6, h6, lb6, lk6, X6, e6, E6, Iv6, hZ, hown, CH6, LE6, LC6, LV6, LA6, xs6, st6⟩ := own_ldcC X5 hx hZ (hown) (own_EW hw) (own_wS hw) (hw _ (List.mem_of_getElem? (i := 19) rfl)) (by decide) (vs := []) (z := (0 : Int32)) (by decide) (by decide) (by decide) e5 Iv5 (g := (mkF m 18 #[.val (.ref t), .val (.ref bc), .val (.int (0 : Int32)), .val (.int (0 : Int32)), .val .null, .unset] [(.ref t)])) rfl (hb hby d3_18) 0 (by decide) (by decide) (by decide) (by decide)
  refine own_goW st6 ?_
  have K6 := Keep.ext K5 E6
  show own_EndsW _ _ _ _ _ _ _ _ _ T6 (mkF m 20 #[.val (.ref t), .val (.ref bc), .val (.int (0 : Int32)), .val (.int (0 : Int32)), .val .null, .unset] [(.ref la6), (.ref t)])
  obtain ⟨T7, X7, e7, st7⟩ := getF X6 hx hZ hown (host := "") (Or.inl (hw _ (List.mem_of_getElem? (i := 26) rfl))) Via.refl e6 LC6 (g := (mkF m 20 #[.val (.ref t), .val (.ref bc), .val (.int (0 : Int32)), .val (.int (0 : Int32)), .val .null, .unset] [(.ref la6), (.ref t)])) rfl rfl (hb hby d3_20)
  refine own_goW st7 ?_
  show own_EndsW _ _ _ _ _ _ _ _ _ T7 (mkF m 23 #[.val (.ref t), .val (.ref bc), .val (.int (0 : Int32)), .val (.int (0 : Int32)), .val .null, .unset] [(.int (0 : Int32)), (.ref t)])
  have Swp8 : Safe Z own_EL T6.vm h6 t := (CHr.safe CH6 ((Et.ext E2).wr W5).lt (Safe.wr W5 Swp4 Iv2.ch (CHr.safe CH2 Et.lt Sft)))
  obtain ⟨T9, h9, X9, e9, W9, st9⟩ := putFN X7 hx hZ hown (hw _ (List.mem_of_getElem? (i := 26) rfl)) Via.refl e7 (((F_coder.ext E2).other W5 (Or.inr (slot_ne (Or.inr (hw _ (List.mem_of_getElem? (i := 22) rfl))) (Or.inr (hw _ (List.mem_of_getElem? (i := 21) rfl))) (by decide) (t := .byte) (t' := (.array .byte)) (by decide) (by decide)))).ext E6) (((Et.ext E2).wr W5).ext E6) (Or.inr ⟨(hw _ (List.mem_of_getElem? (i := 22) rfl)), rfl, hnm⟩) (hw _ (List.mem_of_getElem? (i := 6) rfl)) (ty := .byte) (v' := (.int (nar .byte (0 : Int32)))) (by decide) rfl (fits_nar_byte _) (g := (mkF m 23 #[.val (.ref t), .val (.ref bc), .val (.int (0 : Int32)), .val (.int (0 : Int32)), .val .null, .unset] [(.int (0 : Int32)), (.ref t)])) rfl rfl (hb hby d3_23)
  refine own_goW st9 ?_
  have Iv9 := Iv6.wr W9 Swp8
  have Fw9 := Fld.same W9 (((F_coder.ext E2).other W5 (Or.inr (slot_ne (Or.inr (hw _ (List.mem_of_getElem? (i := 22) rfl))) (Or.inr (hw _ (List.mem_of_getElem? (i := 21) rfl))) (by decide) (t := .byte) (t' := (.array .byte)) (by decide) (by decide)))).ext E6)
  have N9 := Fr.snoc X9 N5 g_t
  have K9 := Keep.wr K6 W9 (Or.inl (List.mem_of_getElem? (i := 0) rfl))
  show own_EndsW _ _ _ _ _ _ _ _ _ T9 (mkF m 26 #[.val (.ref t), .val (.ref bc), .val (.int (0 : Int32)), .val (.int (0 : Int32)), .val .null, .unset] [])
  refine own_retVW X9 hZ (own_EW hw) Iv9 hx hlk hret (hb hby d3_26) e9 (by decide) (by decide) ?_
  exact ⟨rfl, N9, K9, ((((Et.ext E2).wr W5).ext E6).wr W9), Fw9, lb2, lk2, ((Fw5.ext E6).other W9 (Or.inr (slot_ne (Or.inr (hw _ (List.mem_of_getElem? (i := 21) rfl))) (Or.inr (hw _ (List.mem_of_getElem? (i := 22) rfl))) (by decide) (t := (.array .byte)) (t' := .byte) (by decide) (by decide)))), (((LA2.other W5 (Ne.symm (xs2 t (CHr.safe CH2 Et.lt Sft)).2)).ext E6).other W9 (Ne.symm (xs2 t (CHr.safe CH2 Et.lt Sft)).2))⟩
theorem d2_0 : decode jdk_42_method_3_code 0 = .ok (.aload_n 0, 1) := by decide +kernel
theorem d2_1 : decode jdk_42_method_3_code 1 = .ok (.aload_n 1, 1) := by decide +kernel
theorem d2_2 : decode jdk_42_method_3_code 2 = .ok (.iconst 0, 1) := by decide +kernel
theorem d2_3 : decode jdk_42_method_3_code 3 = .ok (.aload_n 1, 1) := by decide +kernel
theorem d2_4 : decode jdk_42_method_3_code 4 = .ok (.arraylength, 1) := by decide +kernel
theorem d2_5 : decode jdk_42_method_3_code 5 = .ok (.aconst_null, 1) := by decide +kernel
theorem d2_6 : decode jdk_42_method_3_code 6 = .ok (.invokespecial 27, 3) := by decide +kernel
theorem pd___CIILjava_lang_Void__V : parseMethodDescriptor "([CIILjava/lang/Void;)V" = some ⟨[(.array .char), .int, .int, (.object "java/lang/Void")], none⟩ := by decide +kernel
theorem d2_9 : decode jdk_42_method_3_code 9 = .ok (.return_, 1) := by decide +kernel
theorem pn2 : plainFor (⟨"java/lang/String", "<init>", "([C)V"⟩ : MethodName) = true := plainFor_of_name (by first | (simp [plainName, overriddenIn]; done) | decide +kernel)
set_option maxRecDepth 65536 in
set_option maxHeartbeats 40000000 in
theorem rmE2 (l : Launch) (Z : State) (a0 : Array Value) (hw : ∀ d ∈ tables_1, d.before a0 Z = true) (ws : List Jvm.Cond)  (t bc : Addr) (kc : ClassId) (h0 : Heap) (n0 : Nat) (Z0 : n0 ≤ h0.size) (Et : Exa Z h0 t "java/lang/String") (F_value : Fld Z h0 t "java/lang/String" "value" "[B" .null) (F_coder : Fld Z h0 t "java/lang/String" "coder" "B" (.int 0)) (g_t : n0 ≤ t) (Vb : Arv Z h0 bc kc .char 0 [] (.int 0)) :
    own_MetW l (⟨"java/lang/String", "<init>", "([C)V"⟩ : MethodName) jdk_42_method_3_code 2 none ({ frames := 2, cells := 4, slots := 8, locals := 29 } : Room) ws #[(.ref t), (.ref bc)] Z own_EL h0 (fun v h L => v = none ∧ Fr n0 L ∧ Keep h0 h [t] ∧ Exa Z h t "java/lang/String" ∧ Fld Z h t "java/lang/String" "coder" "B" (.int 0) ∧ ∃ (b : Addr) (k : ClassId), Fld Z h t "java/lang/String" "value" "[B" (.ref b) ∧ Arv Z h b k .byte 0 [] (.int 0)) := by
  refine own_metW pn2 ?_
  intro p e s m below meth c s₁ hx X0 hZ e0 hby hml hown hnm hret hlk Iv0
  have N0 := Fr.nil n0
  refine own_atW (f' := mkF m 0 #[.val (.ref t), .val (.ref bc)] []) (by first | (simp [entryFrame, mkF, argsToLocals, Value.category]; done) | rfl) ?_
  have Sft : Safe Z own_EL s.vm h0 t := own_safeN hZ.alike Et F_value
  show own_EndsW _ _ _ _ _ _ _ _ _ s₁ (mkF m 0 #[.val (.ref t), .val (.ref bc)] [])
  refine own_goW (fun t_ k_ => XS.aloadN X0.here hx rfl (hb hby d2_0) rfl rfl  k_) ?_
  show own_EndsW _ _ _ _ _ _ _ _ _ s₁ (mkF m 1 #[.val (.ref t), .val (.ref bc)] [(.ref t)])
  refine own_goW (fun t_ k_ => XS.aloadN X0.here hx rfl (hb hby d2_1) rfl rfl  k_) ?_
  show own_EndsW _ _ _ _ _ _ _ _ _ s₁ (mkF m 2 #[.val (.ref t), .val (.ref bc)] [(.ref bc), (.ref t)])
  refine own_goW (fun t_ k_ => XS.iconst X0.here hx rfl (hb hby d2_2) k_) ?_
  show own_EndsW _ _ _ _ _ _ _ _ _ s₁ (mkF m 3 #[.val (.ref t), .val (.ref bc)] [(.int (0 : Int32)), (.ref bc), (.ref t)])
  refine own_goW (fun t_ k_ => XS.aloadN X0.here hx rfl (hb hby d2_3) rfl rfl  k_) ?_
  show own_EndsW _ _ _ _ _ _ _ _ _ s₁ (mkF m 4 #[.val (.ref t), .val (.ref bc)] [(.ref bc), (.int (0 : Int32)), (.ref bc), (.ref t)])
  obtain ⟨cl1, Ar1, -, S1, Ng1, -, -⟩ := (id Vb)
  refine own_goW (fun t_ k_ => X0.arraylength hx (by rw [e0]; exact Ar1.1) (State.isArrayOf_alike hZ.alike Ar1.2.1) (g := (mkF m 4 #[.val (.ref t), .val (.ref bc)] [(.ref bc), (.int (0 : Int32)), (.ref bc), (.ref t)])) rfl rfl (hb hby d2_4) t_ (by rw [len_of S1 Ng1]; exact k_)) ?_
  show own_EndsW _ _ _ _ _ _ _ _ _ s₁ (mkF m 5 #[.val (.ref t), .val (.ref bc)] [(.int (0 : Int32)), (.int (0 : Int32)), (.ref bc), (.ref t)])
  refine own_goW (fun t_ k_ => XS.aconstNull X0.here hx rfl (hb hby d2_5) k_) ?_
  show own_EndsW _ _ _ _ _ _ _ _ _ s₁ (mkF m 6 #[.val (.ref t), .val (.ref bc)] [.null, (.int (0 : Int32)), (.int (0 : Int32)), (.ref bc), (.ref t)])
  have Nsk2 : ∀ x ∈ ([t] : List Addr), ∀ cell : Cell, h0[x]? = some cell → cell.vm.isStatics = false := (nsS (Exa.nostat Et) ns0)
  have Skk2 : ∀ x ∈ ([t] : List Addr), Safe Z own_EL s.vm h0 x := (sfS Sft sf0)
  obtain ⟨T3, v3, L3, h3, X3, e3, hQ3, Iv3, hZ, hown, CH3, Gr3, st3⟩ := own_callNW X0 hx hZ (y := (⟨"java/lang/String", "<init>", "([CIILjava/lang/Void;)V"⟩ : MethodName)) rfl hown (own_EW hw) Iv0 (hw _ (List.mem_of_getElem? (i := 12) rfl)) (hw _ (List.mem_of_getElem? (i := 13) rfl)) (hw _ (List.mem_of_getElem? (i := 7) rfl)) (hw _ (List.mem_of_getElem? (i := 15) rfl)) (by decide) (rmE3 l Z a0 hw [] t bc h0 n0 Z0 Et F_value F_coder g_t) e0 (g := (mkF m 6 #[.val (.ref t), .val (.ref bc)] [.null, (.int (0 : Int32)), (.int (0 : Int32)), (.ref bc), (.ref t)])) rfl (by rw [hml]; rfl) t [(.ref bc), (.int (0 : Int32)), (.int (0 : Int32)), .null] [] rfl (lenOf pd___CIILjava_lang_Void__V rfl) rfl 0 (by show 2 * 0 + _ ≤ _; exact Nat.le_of_eq rfl) (hb hby d2_6) (by decide) (by decide) (by decide) (by decide)
  obtain ⟨rfl, N3q, Kq3, Eq3, Cq3, tb3, kb3, Vq3, Aq3⟩ := hQ3
  refine own_goW st3 ?_
  have N3 := Fr.app N0 N3q
  have K3 := Keep.trans (Keep.refl h0 [t]) Kq3 (allS (Or.inl (List.mem_of_getElem? (i := 0) rfl)) all0)
  show own_EndsW _ _ _ _ _ _ _ _ _ T3 (mkF m 9 #[.val (.ref t), .val (.ref bc)] [])
  refine own_retVW X3 hZ (own_EW hw) Iv3 hx hlk hret (hb hby d2_9) e3 (by decide) (by decide) ?_
  exact ⟨rfl, N3, K3, (Et.keep Kq3), Cq3, tb3, kb3, Vq3, Aq3⟩
theorem d15_0 : decode jdk_43_method_3_code 0 = .ok (.iload_n 0, 1) := by decide +kernel
theorem d15_1 : decode jdk_43_method_3_code 1 = .ok (.sipush 255, 3) := by decide +kernel
theorem d15_4 : decode jdk_43_method_3_code 4 = .ok (.if_icmp .gt 7, 3) := by decide +kernel
theorem d15_7 : decode jdk_43_method_3_code 7 = .ok (.iconst 1, 1) := by decide +kernel
theorem d15_8 : decode jdk_43_method_3_code 8 = .ok (.goto 4, 3) := by decide +kernel
theorem d15_12 : decode jdk_43_method_3_code 12 = .ok (.ireturn, 1) := by decide +kernel
theorem pn15 : plainFor (⟨"java/lang/StringLatin1", "canEncode", "(C)Z"⟩ : MethodName) = true := plainFor_of_name (by first | (simp [plainName, overriddenIn]; done) | decide +kernel)
set_option maxRecDepth 65536 in
set_option maxHeartbeats 40000000 in
theorem rm15 (l : Launch) (Z : State) (a0 : Array Value) (hw : ∀ d ∈ tables_1, d.before a0 Z = true) (ws : List Jvm.Cond) (p0 : Int32)  (h0 : Heap) (n0 : Nat) (Z0 : n0 ≤ h0.size) (hc : ¬ (255 : Int32) < p0) :
    own_Met l (⟨"java/lang/StringLatin1", "canEncode", "(C)Z"⟩ : MethodName) jdk_43_method_3_code 1 (some .boolean) ({ frames := 0, cells := 0, slots := 0, locals := 0 } : Room) ws #[(.int p0)] Z h0 (fun v h L => v = some (.int 1) ∧ Fr n0 L ∧ h = h0) := by
  refine own_met pn15 ?_
  intro p e s m below meth c s₁ hx X0 hZ e0 hby hml hown hnm hret hlk
  have N0 := Fr.nil n0
  refine own_at (f' := mkF m 0 #[.val (.int p0)] []) (by first | (simp [entryFrame, mkF, argsToLocals, Value.category]; done) | rfl) ?_
  show own_Ends _ _ _ _ _ _ _ s₁ (mkF m 0 #[.val (.int p0)] [])
  refine own_go (fun t_ k_ => XS.iloadN X0.here hx rfl (hb hby d15_0) rfl  k_) ?_
  show own_Ends _ _ _ _ _ _ _ s₁ (mkF m 1 #[.val (.int p0)] [(.int p0)])
  refine own_go (fun t_ k_ => XS.sipush X0.here hx rfl (hb hby d15_1) k_) ?_
  show own_Ends _ _ _ _ _ _ _ s₁ (mkF m 4 #[.val (.int p0)] [(.int (255 : Int32)), (.int p0)])
  refine own_go (fun t_ k_ => XS.icmpNo X0.here hx rfl (hb hby d15_4) rfl (flt hc).2.2.1 k_) ?_
  show own_Ends _ _ _ _ _ _ _ s₁ (mkF m 7 #[.val (.int p0)] [])
  refine own_go (fun t_ k_ => XS.iconst X0.here hx rfl (hb hby d15_7) k_) ?_
  show own_Ends _ _ _ _ _ _ _ s₁ (mkF m 8 #[.val (.int p0)] [(.int (1 : Int32))])
  refine own_go (fun t_ k_ => XS.goto X0.here hx rfl (pc0 := 8) (pc' := 12) rfl (hb hby d15_8) (by decide) (by decide) k_) ?_
  show own_Ends _ _ _ _ _ _ _ s₁ (mkF m 12 #[.val (.int p0)] [(.int (1 : Int32))])
  refine own_retN X0 hx hlk (t := .boolean) hret (by simp) (hb hby d15_12) e0 (by decide) (by decide) ?_
  exact ⟨rfl, N0, rfl⟩
theorem d16_0 : decode jdk_43_method_46_code 0 = .ok (.iconst 1, 1) := by decide +kernel
theorem d16_1 : decode jdk_43_method_46_code 1 = .ok (.newarray .byte, 2) := by decide +kernel
theorem d16_3 : decode jdk_43_method_46_code 3 = .ok (.dup, 1) := by decide +kernel
theorem d16_4 : decode jdk_43_method_46_code 4 = .ok (.iconst 0, 1) := by decide +kernel
theorem d16_5 : decode jdk_43_method_46_code 5 = .ok (.iload_n 0, 1) := by decide +kernel
theorem d16_6 : decode jdk_43_method_46_code 6 = .ok (.i2b, 1) := by decide +kernel
theorem d16_7 : decode jdk_43_method_46_code 7 = .ok (.bastore, 1) := by decide +kernel
theorem d16_8 : decode jdk_43_method_46_code 8 = .ok (.areturn, 1) := by decide +kernel
theorem pn16 : plainFor (⟨"java/lang/StringLatin1", "toBytes", "(C)[B"⟩ : MethodName) = true := plainFor_of_name (by first | (simp [plainName, overriddenIn]; done) | decide +kernel)
set_option maxRecDepth 65536 in
set_option maxHeartbeats 40000000 in
theorem rm16 (l : Launch) (Z : State) (a0 : Array Value) (hw : ∀ d ∈ tables_1, d.before a0 Z = true) (ws : List Jvm.Cond) (p0 : Int32)  (h0 : Heap) (n0 : Nat) (Z0 : n0 ≤ h0.size)  :
    own_Met l (⟨"java/lang/StringLatin1", "toBytes", "(C)[B"⟩ : MethodName) jdk_43_method_46_code 1 (some (.array .byte)) ({ frames := 0, cells := 1, slots := 1, locals := 0 } : Room) ws #[(.int p0)] Z h0 (fun v h L => ∃ (b : Addr) (k : ClassId), v = some (.ref b) ∧ Fr n0 L ∧ Keep h0 h [] ∧ h0.size ≤ b ∧ Arv Z h b k .byte 1 [.int p0.toInt8.toInt32] (.int 0)) := by
  refine own_met pn16 ?_
  intro p e s m below meth c s₁ hx X0 hZ e0 hby hml hown hnm hret hlk
  have N0 := Fr.nil n0
  refine own_at (f' := mkF m 0 #[.val (.int p0)] []) (by first | (simp [entryFrame, mkF, argsToLocals, Value.category]; done) | rfl) ?_
  show own_Ends _ _ _ _ _ _ _ s₁ (mkF m 0 #[.val (.int p0)] [])
  refine own_go (fun t_ k_ => XS.iconst X0.here hx rfl (hb hby d16_0) k_) ?_
  show own_Ends _ _ _ _ _ _ _ s₁ (mkF m 1 #[.val (.int p0)] [(.int (1 : Int32))])
  obtain ⟨T1, h1, k1, X1, e1, E1, A1, st1⟩ := newP X0 hx hZ (hw _ (List.mem_of_getElem? (i := 20) rfl)) e0 (g := (mkF m 1 #[.val (.int p0)] [(.int (1 : Int32))])) rfl (hb hby d16_1) rfl (by decide) (cap := 1) (by decide) (by decide) (by decide) (by decide)
  obtain ⟨b1, g1⟩ : ∃ z, z = h0.size := ⟨_, rfl⟩
  rw [← g1] at A1 st1
  refine own_go st1 ?_
  have V1 : Arv Z h1 b1 k1 .byte (1 : Int32) [(.int (0 : Int32))] (.int (0 : Int32)) := (Arv.new A1 (by decide)).pad (pad_rep [] (.int (0 : Int32)) 1)
  have g_b1 : n0 ≤ b1 := Nat.le_trans Z0 (Nat.le_of_eq g1.symm)
  have sz_b1 : h0.size ≤ b1 := Nat.le_trans (Keep.refl h0 []).1 (Nat.le_of_eq g1.symm)
  have K1 := Keep.ext (Keep.refl h0 []) E1
  show own_Ends _ _ _ _ _ _ _ T1 (mkF m 3 #[.val (.int p0)] [(.ref b1)])
  refine own_go (fun t_ k_ => XS.dup X1.here hx rfl (hb hby d16_3) rfl rfl k_) ?_
  show own_Ends _ _ _ _ _ _ _ T1 (mkF m 4 #[.val (.int p0)] [(.ref b1), (.ref b1)])
  refine own_go (fun t_ k_ => XS.iconst X1.here hx rfl (hb hby d16_4) k_) ?_
  show own_Ends _ _ _ _ _ _ _ T1 (mkF m 5 #[.val (.int p0)] [(.int (0 : Int32)), (.ref b1), (.ref b1)])
  refine own_go (fun t_ k_ => XS.iloadN X1.here hx rfl (hb hby d16_5) rfl  k_) ?_
  show own_Ends _ _ _ _ _ _ _ T1 (mkF m 6 #[.val (.int p0)] [(.int p0), (.int (0 : Int32)), (.ref b1), (.ref b1)])
  refine own_go (fun t_ k_ => XT.i2b X1.here hx rfl (hb hby d16_6) rfl k_) ?_
  show own_Ends _ _ _ _ _ _ _ T1 (mkF m 7 #[.val (.int p0)] [(.int (p0.toInt8.toInt32)), (.int (0 : Int32)), (.ref b1), (.ref b1)])
  obtain ⟨cl3, Ar3, q3, S3, Ng3, Hs3, G3⟩ := (id V1)
  obtain ⟨T4, h4, X4, e4, W4, st4⟩ := stB X1 hx hZ e1 Ar3 (j := (0 : Int32)) (inb_of S3 ⟨by decide, by decide⟩) (g := (mkF m 7 #[.val (.int p0)] [(.int (p0.toInt8.toInt32)), (.int (0 : Int32)), (.ref b1), (.ref b1)])) rfl rfl (hb hby d16_7)
  refine own_go st4 ?_
  have V4 : Arv Z h4 b1 k1 .byte (1 : Int32) [(.int (nar .byte (p0.toInt8.toInt32)))] (.int (0 : Int32)) := Arv.set Ar3 q3 S3 Ng3 Hs3 G3 (fits_nar_byte _) W4 0 rfl (Nat.le_of_ble_eq_true rfl)
  have N4 := Fr.snoc X4 N0 g_b1
  have K4 := Keep.wr K1 W4 (Or.inr sz_b1)
  show own_Ends _ _ _ _ _ _ _ T4 (mkF m 8 #[.val (.int p0)] [(.ref b1)])
  refine own_retR X4 hx hlk hret rfl rfl (hb hby d16_8) e4 (by decide) (by decide) ?_
  have Vx := V4
  rw [own_narB] at Vx
  exact ⟨b1, k1, rfl, N4, K4, sz_b1, Vx⟩
theorem d17_0 : decode jdk_42_method_151_code 0 = .ok (.aload_n 0, 1) := by decide +kernel
theorem d17_1 : decode jdk_42_method_151_code 1 = .ok (.invokespecial 1, 3) := by decide +kernel
theorem d17_4 : decode jdk_42_method_151_code 4 = .ok (.aload_n 0, 1) := by decide +kernel
theorem d17_5 : decode jdk_42_method_151_code 5 = .ok (.aload_n 1, 1) := by decide +kernel
theorem d17_6 : decode jdk_42_method_151_code 6 = .ok (.putfield 9, 3) := by decide +kernel
theorem d17_9 : decode jdk_42_method_151_code 9 = .ok (.aload_n 0, 1) := by decide +kernel
theorem d17_10 : decode jdk_42_method_151_code 10 = .ok (.iload_n 2, 1) := by decide +kernel
theorem d17_11 : decode jdk_42_method_151_code 11 = .ok (.putfield 15, 3) := by decide +kernel
theorem d17_14 : decode jdk_42_method_151_code 14 = .ok (.return_, 1) := by decide +kernel
theorem pn17 : plainFor (⟨"java/lang/String", "<init>", "([BB)V"⟩ : MethodName) = true := plainFor_of_name (by first | (simp [plainName, overriddenIn]; done) | decide +kernel)
set_option maxRecDepth 65536 in
set_option maxHeartbeats 40000000 in
theorem rm17 (l : Launch) (Z : State) (a0 : Array Value) (hw : ∀ d ∈ tables_1, d.before a0 Z = true) (ws : List Jvm.Cond)  (t : Addr) (vb : Addr) (cd : Int32) (h0 : Heap) (n0 : Nat) (Z0 : n0 ≤ h0.size)  (Et : Exa Z h0 t "java/lang/String") (F_value : Fld Z h0 t "java/lang/String" "value" "[B" .null) (F_coder : Fld Z h0 t "java/lang/String" "coder" "B" (.int (0 : Int32))) (g_t : n0 ≤ t) :
    own_Met l (⟨"java/lang/String", "<init>", "([BB)V"⟩ : MethodName) jdk_42_method_151_code 3 none ({ frames := 1, cells := 0, slots := 0, locals := 12 } : Room) ws #[(.ref t), (.ref vb), (.int cd)] Z h0 (fun v h L => v = none ∧ Fr n0 L ∧ Keep h0 h [t] ∧ Exa Z h t "java/lang/String" ∧ Fld Z h t "java/lang/String" "value" "[B" (.ref vb) ∧ Fld Z h t "java/lang/String" "coder" "B" (.int (nar .byte cd))) := by
  refine own_met pn17 ?_
  intro p e s m below meth c s₁ hx X0 hZ e0 hby hml hown hnm hret hlk
  have N0 := Fr.nil n0
  refine own_at (f' := mkF m 0 #[.val (.ref t), .val (.ref vb), .val (.int cd)] []) (by first | (simp [entryFrame, mkF, argsToLocals, Value.category]; done) | rfl) ?_
  show own_Ends _ _ _ _ _ _ _ s₁ (mkF m 0 #[.val (.ref t), .val (.ref vb), .val (.int cd)] [])
  refine own_go (fun t_ k_ => XS.aloadN X0.here hx rfl (hb hby d17_0) rfl rfl  k_) ?_
  show own_Ends _ _ _ _ _ _ _ s₁ (mkF m 1 #[.val (.ref t), .val (.ref vb), .val (.int cd)] [(.ref t)])
  obtain ⟨T1, X1, e1, st1⟩ := initO X0 hx hZ hown (hw _ (List.mem_of_getElem? (i := 16) rfl)) (hw _ (List.mem_of_getElem? (i := 17) rfl)) (hw _ (List.mem_of_getElem? (i := 18) rfl)) e0 (g := (mkF m 1 #[.val (.ref t), .val (.ref vb), .val (.int cd)] [(.ref t)])) rfl (by rw [hml]; rfl) rfl (hb hby d17_1) (by decide) (W := 0) (by show 2 * 0 + _ ≤ _; exact Nat.le_of_eq rfl) (by decide)
  refine own_go st1 ?_
  show own_Ends _ _ _ _ _ _ _ T1 (mkF m 4 #[.val (.ref t), .val (.ref vb), .val (.int cd)] [])
  refine own_go (fun t_ k_ => XS.aloadN X1.here hx rfl (hb hby d17_4) rfl rfl  k_) ?_
  show own_Ends _ _ _ _ _ _ _ T1 (mkF m 5 #[.val (.ref t), .val (.ref vb), .val (.int cd)] [(.ref t)])
  refine own_go (fun t_ k_ => XS.aloadN X1.here hx rfl (hb hby d17_5) rfl rfl  k_) ?_
  show own_Ends _ _ _ _ _ _ _ T1 (mkF m 6 #[.val (.ref t), .val (.ref vb), .val (.int cd)] [(.ref vb), (.ref t)])
  obtain ⟨T3, h3, X3, e3, W3, st3⟩ := putF X1 hx hZ hown (host := "") (Or.inl (hw _ (List.mem_of_getElem? (i := 25) rfl))) Via.refl e1 F_value Et (Or.inr ⟨(hw _ (List.mem_of_getElem? (i := 21) rfl)), rfl, hnm⟩) (hw _ (List.mem_of_getElem? (i := 6) rfl)) (ty := (.array .byte)) (by decide) rfl rfl (g := (mkF m 6 #[.val (.ref t), .val (.ref vb), .val (.int cd)] [(.ref vb), (.ref t)])) rfl rfl (hb hby d17_6)
  refine own_go st3 ?_
  have Fw3 := Fld.same W3 F_value
  have N3 := Fr.snoc X3 N0 g_t
  have K3 := Keep.wr (Keep.refl h0 [t]) W3 (Or.inl (List.mem_of_getElem? (i := 0) rfl))
  show own_Ends _ _ _ _ _ _ _ T3 (mkF m 9 #[.val (.ref t), .val (.ref vb), .val (.int cd)] [])
  refine own_go (fun t_ k_ => XS.aloadN X3.here hx rfl (hb hby d17_9) rfl rfl  k_) ?_
  show own_Ends _ _ _ _ _ _ _ T3 (mkF m 10 #[.val (.ref t), .val (.ref vb), .val (.int cd)] [(.ref t)])
  refine own_go (fun t_ k_ => XS.iloadN X3.here hx rfl (hb hby d17_10) rfl  k_) ?_
  show own_Ends _ _ _ _ _ _ _ T3 (mkF m 11 #[.val (.ref t), .val (.ref vb), .val (.int cd)] [(.int cd), (.ref t)])
  obtain ⟨T5, h5, X5, e5, W5, st5⟩ := putFN X3 hx hZ hown (hw _ (List.mem_of_getElem? (i := 26) rfl)) Via.refl e3 (F_coder.other W3 (Or.inr (slot_ne (Or.inr (hw _ (List.mem_of_getElem? (i := 22) rfl))) (Or.inr (hw _ (List.mem_of_getElem? (i := 21) rfl))) (by decide) (t := .byte) (t' := (.array .byte)) (by decide) (by decide)))) (Et.wr W3) (Or.inr ⟨(hw _ (List.mem_of_getElem? (i := 22) rfl)), rfl, hnm⟩) (hw _ (List.mem_of_getElem? (i := 6) rfl)) (ty := .byte) (v' := (.int (nar .byte cd))) (by decide) rfl (fits_nar_byte _) (g := (mkF m 11 #[.val (.ref t), .val (.ref vb), .val (.int cd)] [(.int cd), (.ref t)])) rfl rfl (hb hby d17_11)
  refine own_go st5 ?_
  have Fw5 := Fld.same W5 (F_coder.other W3 (Or.inr (slot_ne (Or.inr (hw _ (List.mem_of_getElem? (i := 22) rfl))) (Or.inr (hw _ (List.mem_of_getElem? (i := 21) rfl))) (by decide) (t := .byte) (t' := (.array .byte)) (by decide) (by decide))))
  have N5 := Fr.snoc X5 N3 g_t
  have K5 := Keep.wr K3 W5 (Or.inl (List.mem_of_getElem? (i := 0) rfl))
  show own_Ends _ _ _ _ _ _ _ T5 (mkF m 14 #[.val (.ref t), .val (.ref vb), .val (.int cd)] [])
  refine own_retV X5 hx hlk hret (hb hby d17_14) e5 (by decide) (by decide) ?_
  exact ⟨rfl, N5, K5, ((Et.wr W3).wr W5), (Fw3.other W5 (Or.inr (slot_ne (Or.inr (hw _ (List.mem_of_getElem? (i := 21) rfl))) (Or.inr (hw _ (List.mem_of_getElem? (i := 22) rfl))) (by decide) (t := (.array .byte)) (t' := .byte) (by decide) (by decide)))), Fw5⟩
theorem d14_0 : decode jdk_42_method_139_code 0 = .ok (.getstatic 38, 3) := by decide +kernel
theorem d14_3 : decode jdk_42_method_139_code 3 = .ok (.ifCond .eq 23, 3) := by decide +kernel
theorem d14_6 : decode jdk_42_method_139_code 6 = .ok (.iload_n 0, 1) := by decide +kernel
theorem d14_7 : decode jdk_42_method_139_code 7 = .ok (.invokestatic 1015, 3) := by decide +kernel
theorem pd__C_Z : parseMethodDescriptor "(C)Z" = some ⟨[.char], some .boolean⟩ := by decide +kernel
theorem d14_10 : decode jdk_42_method_139_code 10 = .ok (.ifCond .eq 16, 3) := by decide +kernel
theorem d14_13 : decode jdk_42_method_139_code 13 = .ok (.new 10, 3) := by decide +kernel
theorem d14_16 : decode jdk_42_method_139_code 16 = .ok (.dup, 1) := by decide +kernel
theorem d14_17 : decode jdk_42_method_139_code 17 = .ok (.iload_n 0, 1) := by decide +kernel
theorem d14_18 : decode jdk_42_method_139_code 18 = .ok (.invokestatic 1018, 3) := by decide +kernel
theorem pd__C__B : parseMethodDescriptor "(C)[B" = some ⟨[.char], some (.array .byte)⟩ := by decide +kernel
theorem d14_21 : decode jdk_42_method_139_code 21 = .ok (.iconst 0, 1) := by decide +kernel
theorem d14_22 : decode jdk_42_method_139_code 22 = .ok (.invokespecial 209, 3) := by decide +kernel
theorem pd___BB_V : parseMethodDescriptor "([BB)V" = some ⟨[(.array .byte), .byte], none⟩ := by decide +kernel
theorem d14_25 : decode jdk_42_method_139_code 25 = .ok (.areturn, 1) := by decide +kernel
theorem pn14 : plainFor (⟨"java/lang/String", "valueOf", "(C)Ljava/lang/String;"⟩ : MethodName) = true := plainFor_of_name (by first | (simp [plainName, overriddenIn]; done) | decide +kernel)
set_option maxRecDepth 65536 in
set_option maxHeartbeats 40000000 in
theorem rm14 (l : Launch) (Z : State) (a0 : Array Value) (hw : ∀ d ∈ tables_1, d.before a0 Z = true) (ws : List Jvm.Cond) (p0 : Int32) (zc : Int32) (h0 : Heap) (n0 : Nat) (Z0 : n0 ≤ h0.size) (SC : Sta Z h0 "java/lang/String" "COMPACT_STRINGS" "Z" (.int zc)) (hzc : ¬ zc = 0) (hc : ¬ (255 : Int32) < p0) :
    own_Met l (⟨"java/lang/String", "valueOf", "(C)Ljava/lang/String;"⟩ : MethodName) jdk_42_method_139_code 1 (some (.object "java/lang/String")) ({ frames := 2, cells := 2, slots := 5, locals := 27 } : Room) ws #[(.int p0)] Z h0 (fun v h L => ∃ (a b : Addr) (k : ClassId), v = some (.ref a) ∧ Fr n0 L ∧ Keep h0 h [] ∧ h0.size ≤ a ∧ Exa Z h a "java/lang/String" ∧ Fld Z h a "java/lang/String" "coder" "B" (.int 0) ∧ Fld Z h a "java/lang/String" "value" "[B" (.ref b) ∧ Arv Z h b k .byte 1 [.int p0.toInt8.toInt32] (.int 0)) := by
  refine own_met pn14 ?_
  intro p e s m below meth c s₁ hx X0 hZ e0 hby hml hown hnm hret hlk
  have N0 := Fr.nil n0
  refine own_at (f' := mkF m 0 #[.val (.int p0)] []) (by first | (simp [entryFrame, mkF, argsToLocals, Value.category]; done) | rfl) ?_
  show own_Ends _ _ _ _ _ _ _ s₁ (mkF m 0 #[.val (.int p0)] [])
  obtain ⟨T1, X1, e1, st1⟩ := getS2 X0 hx hZ hown (host := "") (Or.inl (hw _ (List.mem_of_getElem? (i := 77) rfl))) Via.refl e0 SC (g := (mkF m 0 #[.val (.int p0)] [])) rfl (hb hby d14_0)
  refine own_go st1 ?_
  show own_Ends _ _ _ _ _ _ _ T1 (mkF m 3 #[.val (.int p0)] [(.int zc)])
  refine own_go (fun t_ k_ => XS.ifNo X1.here hx rfl (hb hby d14_3) rfl ((if0 _ _).trans (feq hzc).1) k_) ?_
  show own_Ends _ _ _ _ _ _ _ T1 (mkF m 6 #[.val (.int p0)] [])
  refine own_go (fun t_ k_ => XS.iloadN X1.here hx rfl (hb hby d14_6) rfl  k_) ?_
  show own_Ends _ _ _ _ _ _ _ T1 (mkF m 7 #[.val (.int p0)] [(.int p0)])
  obtain ⟨T2, v2, L2, X2, hQ2, st2⟩ := own_callS X1 hx hZ (y := (⟨"java/lang/StringLatin1", "canEncode", "(C)Z"⟩ : MethodName)) hown (hw _ (List.mem_of_getElem? (i := 100) rfl)) (hw _ (List.mem_of_getElem? (i := 101) rfl)) (hw _ (List.mem_of_getElem? (i := 80) rfl)) (hw _ (List.mem_of_getElem? (i := 102) rfl)) (by decide) (rm15 l Z a0 hw [] p0 h0 n0 Z0 hc) e1 (g := (mkF m 7 #[.val (.int p0)] [(.int p0)])) rfl (by rw [hml]; rfl) [(.int p0)] [] rfl (lenOf pd__C_Z rfl) rfl 0 (by show 2 * 0 + _ ≤ _; exact Nat.le_of_eq rfl) (hb hby d14_7) (by decide) (by decide) (by decide) (by decide)
  obtain ⟨rfl, N2q, e2⟩ := hQ2
  refine own_go st2 ?_
  have N2 := Fr.app N0 N2q
  show own_Ends _ _ _ _ _ _ _ T2 (mkF m 10 #[.val (.int p0)] [(.int (1 : Int32))])
  refine own_go (fun t_ k_ => XS.ifNo X2.here hx rfl (hb hby d14_10) rfl ((if0 _ _).trans (feq (by decide : ¬ ((1 : Int32) = (0 : Int32)))).1) k_) ?_
  show own_Ends _ _ _ _ _ _ _ T2 (mkF m 13 #[.val (.int p0)] [])
  obtain ⟨T3, h3, X3, e3, E3, A3, D3, -, st3⟩ := newO X2 hx hZ hown (hw _ (List.mem_of_getElem? (i := 76) rfl)) (hw _ (List.mem_of_getElem? (i := 6) rfl)) (hw _ (List.mem_of_getElem? (i := 7) rfl)) e2 (g := (mkF m 13 #[.val (.int p0)] [])) rfl (hb hby d14_13) (by decide) (by decide)
  obtain ⟨b3, g3⟩ : ∃ z, z = h0.size := ⟨_, rfl⟩
  rw [← g3] at A3 D3 st3
  refine own_go st3 ?_
  have g_b3 : n0 ≤ b3 := Nat.le_trans Z0 (Nat.le_of_eq g3.symm)
  have sz_b3 : h0.size ≤ b3 := Nat.le_trans (Keep.refl h0 []).1 (Nat.le_of_eq g3.symm)
  have K3 := Keep.ext (Keep.refl h0 []) E3
  have F3_value : Fld Z h3 b3 "java/lang/String" "value" "[B" .null := D3 (Or.inr (hw _ (List.mem_of_getElem? (i := 21) rfl))) (ty := (.array .byte)) (by decide)
  have F3_coder : Fld Z h3 b3 "java/lang/String" "coder" "B" (.int (0 : Int32)) := D3 (Or.inr (hw _ (List.mem_of_getElem? (i := 22) rfl))) (ty := .byte) (by decide)
  show own_Ends _ _ _ _ _ _ _ T3 (mkF m 16 #[.val (.int p0)] [(.ref b3)])
  refine own_go (fun t_ k_ => XS.dup X3.here hx rfl (hb hby d14_16) rfl rfl k_) ?_
  show own_Ends _ _ _ _ _ _ _ T3 (mkF m 17 #[.val (.int p0)] [(.ref b3), (.ref b3)])
  refine own_go (fun t_ k_ => XS.iloadN X3.here hx rfl (hb hby d14_17) rfl  k_) ?_
  show own_Ends _ _ _ _ _ _ _ T3 (mkF m 18 #[.val (.int p0)] [(.int p0), (.ref b3), (.ref b3)])
  have Nsk4 : ∀ x ∈ ([] : List Addr), ∀ cell : Cell, h3[x]? = some cell → cell.vm.isStatics = false := ns0
  obtain ⟨T5, v5, L5, X5, hQ5, st5⟩ := own_callS X3 hx hZ (y := (⟨"java/lang/StringLatin1", "toBytes", "(C)[B"⟩ : MethodName)) hown (hw _ (List.mem_of_getElem? (i := 103) rfl)) (hw _ (List.mem_of_getElem? (i := 104) rfl)) (hw _ (List.mem_of_getElem? (i := 80) rfl)) (hw _ (List.mem_of_getElem? (i := 105) rfl)) (by decide) (rm16 l Z a0 hw [] p0 h3 n0 (Nat.le_trans Z0 E3.1)) e3 (g := (mkF m 18 #[.val (.int p0)] [(.int p0), (.ref b3), (.ref b3)])) rfl (by rw [hml]; rfl) [(.int p0)] [(.ref b3), (.ref b3)] rfl (lenOf pd__C__B rfl) rfl 2 (by show 2 * 0 + _ ≤ _; exact Nat.le_of_eq rfl) (hb hby d14_18) (by decide) (by decide) (by decide) (by decide)
  obtain ⟨tb5, kb5, rfl, N5q, Kq5, lb5, Aq5⟩ := hQ5
  refine own_go st5 ?_
  have N5 := Fr.app N2 N5q
  have K5 := Keep.trans K3 Kq5 all0
  show own_Ends _ _ _ _ _ _ _ T5 (mkF m 21 #[.val (.int p0)] [(.ref tb5), (.ref b3), (.ref b3)])
  refine own_go (fun t_ k_ => XS.iconst X5.here hx rfl (hb hby d14_21) k_) ?_
  show own_Ends _ _ _ _ _ _ _ T5 (mkF m 22 #[.val (.int p0)] [(.int (0 : Int32)), (.ref tb5), (.ref b3), (.ref b3)])
  have Nsk6 : ∀ x ∈ ([b3] : List Addr), ∀ cell : Cell, T5.heap[x]? = some cell → cell.vm.isStatics = false := (nsS (Exa.nostat (A3.keep Kq5)) ns0)
  obtain ⟨T7, v7, L7, X7, hQ7, st7⟩ := own_callN X5 hx hZ (y := (⟨"java/lang/String", "<init>", "([BB)V"⟩ : MethodName)) rfl hown (hw _ (List.mem_of_getElem? (i := 106) rfl)) (hw _ (List.mem_of_getElem? (i := 107) rfl)) (hw _ (List.mem_of_getElem? (i := 7) rfl)) (hw _ (List.mem_of_getElem? (i := 108) rfl)) (by decide) (rm17 l Z a0 hw [] b3 tb5 (0 : Int32) T5.heap n0 (Nat.le_trans (Nat.le_trans Z0 E3.1) Kq5.1)  (A3.keep Kq5) (F3_value.keep Kq5 nin0) (F3_coder.keep Kq5 nin0) g_b3) rfl (g := (mkF m 22 #[.val (.int p0)] [(.int (0 : Int32)), (.ref tb5), (.ref b3), (.ref b3)])) rfl (by rw [hml]; rfl) b3 [(.ref tb5), (.int (0 : Int32))] [(.ref b3)] rfl (lenOf pd___BB_V rfl) rfl 1 (by show 2 * 0 + _ ≤ _; exact Nat.le_of_eq rfl) (hb hby d14_22) (by decide) (by decide) (by decide) (by decide)
  obtain ⟨rfl, N7q, Kq7, Eq7, Fq7_0, Fq7_1⟩ := hQ7
  refine own_go st7 ?_
  have N7 := Fr.app N5 N7q
  have K7 := Keep.trans K5 Kq7 (allS (Or.inr sz_b3) all0)
  show own_Ends _ _ _ _ _ _ _ T7 (mkF m 25 #[.val (.int p0)] [(.ref b3)])
  refine own_retR X7 hx hlk hret rfl rfl (hb hby d14_25) rfl (by decide) (by decide) ?_
  exact ⟨b3, tb5, kb5, rfl, N7, K7, sz_b3, ((A3.keep Kq5).keep Kq7), Fq7_1, Fq7_0, (Aq5.keep Kq7 (ninS (Ne.symm (Nat.ne_of_lt (Nat.lt_of_lt_of_le A3.lt lb5))) nin0))⟩
def own_kind (i : Int32) (w0 w1 w2 w3 w4 w5 w6 : Addr) : Addr := if i = 0 then w0 else if i = 1 then w1 else if i = 2 then w2 else if i = 3 then w3 else if i = 4 then w4 else if i = 5 then w5 else w6
theorem d5_0 : decode method_2_code 0 = .ok (.iload_n 0, 1) := by decide +kernel
theorem d5_1 : decode method_2_code 1 = .ok (.ifCond .ne 7, 3) := by decide +kernel
theorem d5_4 : decode method_2_code 4 = .ok (.getstatic 7, 3) := by decide +kernel
theorem d5_7 : decode method_2_code 7 = .ok (.areturn, 1) := by decide +kernel
theorem d5_8 : decode method_2_code 8 = .ok (.iload_n 0, 1) := by decide +kernel
theorem d5_9 : decode method_2_code 9 = .ok (.iconst 1, 1) := by decide +kernel
theorem d5_10 : decode method_2_code 10 = .ok (.if_icmp .ne 7, 3) := by decide +kernel
theorem d5_13 : decode method_2_code 13 = .ok (.getstatic 13, 3) := by decide +kernel
theorem d5_16 : decode method_2_code 16 = .ok (.areturn, 1) := by decide +kernel
theorem d5_17 : decode method_2_code 17 = .ok (.iload_n 0, 1) := by decide +kernel
theorem d5_18 : decode method_2_code 18 = .ok (.iconst 2, 1) := by decide +kernel
theorem d5_19 : decode method_2_code 19 = .ok (.if_icmp .ne 7, 3) := by decide +kernel
theorem d5_22 : decode method_2_code 22 = .ok (.getstatic 16, 3) := by decide +kernel
theorem d5_25 : decode method_2_code 25 = .ok (.areturn, 1) := by decide +kernel
theorem d5_26 : decode method_2_code 26 = .ok (.iload_n 0, 1) := by decide +kernel
theorem d5_27 : decode method_2_code 27 = .ok (.iconst 3, 1) := by decide +kernel
theorem d5_28 : decode method_2_code 28 = .ok (.if_icmp .ne 7, 3) := by decide +kernel
theorem d5_31 : decode method_2_code 31 = .ok (.getstatic 19, 3) := by decide +kernel
theorem d5_34 : decode method_2_code 34 = .ok (.areturn, 1) := by decide +kernel
theorem d5_35 : decode method_2_code 35 = .ok (.iload_n 0, 1) := by decide +kernel
theorem d5_36 : decode method_2_code 36 = .ok (.iconst 4, 1) := by decide +kernel
theorem d5_37 : decode method_2_code 37 = .ok (.if_icmp .ne 7, 3) := by decide +kernel
theorem d5_40 : decode method_2_code 40 = .ok (.getstatic 22, 3) := by decide +kernel
theorem d5_43 : decode method_2_code 43 = .ok (.areturn, 1) := by decide +kernel
theorem d5_44 : decode method_2_code 44 = .ok (.iload_n 0, 1) := by decide +kernel
theorem d5_45 : decode method_2_code 45 = .ok (.iconst 5, 1) := by decide +kernel
theorem d5_46 : decode method_2_code 46 = .ok (.if_icmp .ne 7, 3) := by decide +kernel
theorem d5_49 : decode method_2_code 49 = .ok (.getstatic 25, 3) := by decide +kernel
theorem d5_52 : decode method_2_code 52 = .ok (.areturn, 1) := by decide +kernel
theorem d5_53 : decode method_2_code 53 = .ok (.getstatic 28, 3) := by decide +kernel
theorem d5_56 : decode method_2_code 56 = .ok (.areturn, 1) := by decide +kernel
theorem pn5 : plainFor (⟨"com/example/ferret/ferret/frontend/TokenIsPinLaw", "kindOf", "(I)Lcom/example/ferret/ferret/frontend/Token$Kind;"⟩ : MethodName) = true := plainFor_of_name (by first | (simp [plainName, overriddenIn]; done) | decide +kernel)
set_option maxRecDepth 65536 in
set_option maxHeartbeats 40000000 in
theorem rm5 (l : Launch) (Z : State) (a0 : Array Value) (hw : ∀ d ∈ tables_1, d.before a0 Z = true) (ws : List Jvm.Cond) (p0 : Int32) (w0 w1 w2 w3 w4 w5 w6 : Addr) (h0 : Heap) (n0 : Nat) (Z0 : n0 ≤ h0.size) (S0 : Sta Z h0 "com/example/ferret/ferret/frontend/Token$Kind" "IDENTIFIER" "Lcom/example/ferret/ferret/frontend/Token$Kind;" (.ref w0)) (S1 : Sta Z h0 "com/example/ferret/ferret/frontend/Token$Kind" "KEYWORD" "Lcom/example/ferret/ferret/frontend/Token$Kind;" (.ref w1)) (S2 : Sta Z h0 "com/example/ferret/ferret/frontend/Token$Kind" "NUMBER" "Lcom/example/ferret/ferret/frontend/Token$Kind;" (.ref w2)) (S3 : Sta Z h0 "com/example/ferret/ferret/frontend/Token$Kind" "CHARACTER" "Lcom/example/ferret/ferret/frontend/Token$Kind;" (.ref w3)) (S4 : Sta Z h0 "com/example/ferret/ferret/frontend/Token$Kind" "STRING" "Lcom/example/ferret/ferret/frontend/Token$Kind;" (.ref w4)) (S5 : Sta Z h0 "com/example/ferret/ferret/frontend/Token$Kind" "PUNCTUATOR" "Lcom/example/ferret/ferret/frontend/Token$Kind;" (.ref w5)) (S6 : Sta Z h0 "com/example/ferret/ferret/frontend/Token$Kind" "END" "Lcom/example/ferret/ferret/frontend/Token$Kind;" (.ref w6)) :
    own_Met l (⟨"com/example/ferret/ferret/frontend/TokenIsPinLaw", "kindOf", "(I)Lcom/example/ferret/ferret/frontend/Token$Kind;"⟩ : MethodName) method_2_code 1 (some (.object "com/example/ferret/ferret/frontend/Token$Kind")) ({ frames := 0, cells := 0, slots := 0, locals := 0 } : Room) ws #[(.int p0)] Z h0 (fun v h L => v = some (.ref (own_kind p0 w0 w1 w2 w3 w4 w5 w6)) ∧ Fr n0 L ∧ h = h0) := by
  refine own_met pn5 ?_
  intro p e s m below meth c s₁ hx X0 hZ e0 hby hml hown hnm hret hlk
  have N0 := Fr.nil n0
  refine own_at (f' := mkF m 0 #[.val (.int p0)] []) (by first | (simp [entryFrame, mkF, argsToLocals, Value.category]; done) | rfl) ?_
  show own_Ends _ _ _ _ _ _ _ s₁ (mkF m 0 #[.val (.int p0)] [])
  refine own_go (fun t_ k_ => XS.iloadN X0.here hx rfl (hb hby d5_0) rfl  k_) ?_
  show own_Ends _ _ _ _ _ _ _ s₁ (mkF m 1 #[.val (.int p0)] [(.int p0)])
  by_cases hc1 : p0 = (0 : Int32)
  · refine own_go (fun t_ k_ => XS.ifNo X0.here hx rfl (hb hby d5_1) rfl ((if0 _ _).trans (teq hc1).2) k_) ?_
    show own_Ends _ _ _ _ _ _ _ s₁ (mkF m 4 #[.val (.int p0)] [])
    obtain ⟨T2, X2, e2, st2⟩ := getS2 X0 hx hZ hown (host := "") (Or.inl (hw _ (List.mem_of_getElem? (i := 33) rfl))) Via.refl e0 S0 (g := (mkF m 4 #[.val (.int p0)] [])) rfl (hb hby d5_4)
    refine own_go st2 ?_
    show own_Ends _ _ _ _ _ _ _ T2 (mkF m 7 #[.val (.int p0)] [(.ref w0)])
    refine own_retR X2 hx hlk hret rfl rfl (hb hby d5_7) e2 (by decide) (by decide) ?_
    exact ⟨by simp [own_kind, hc1], N0, rfl⟩
  · refine own_go (fun t_ k_ => XS.ifYes X0.here hx rfl (pc0 := 1) (pc' := 8) rfl (hb hby d5_1) rfl ((if0 _ _).trans (feq hc1).2) (by decide) (by decide) k_) ?_
    show own_Ends _ _ _ _ _ _ _ s₁ (mkF m 8 #[.val (.int p0)] [])
    refine own_go (fun t_ k_ => XS.iloadN X0.here hx rfl (hb hby d5_8) rfl  k_) ?_
    show own_Ends _ _ _ _ _ _ _ s₁ (mkF m 9 #[.val (.int p0)] [(.int p0)])
    refine own_go (fun t_ k_ => XS.iconst X0.here hx rfl (hb hby d5_9) k_) ?_
    show own_Ends _ _ _ _ _ _ _ s₁ (mkF m 10 #[.val (.int p0)] [(.int (1 : Int32)), (.int p0)])
    by_cases hc3 : p0 = (1 : Int32)
    · refine own_go (fun t_ k_ => XS.icmpNo X0.here hx rfl (hb hby d5_10) rfl (teq hc3).2 k_) ?_
      show own_Ends _ _ _ _ _ _ _ s₁ (mkF m 13 #[.val (.int p0)] [])
      obtain ⟨T4, X4, e4, st4⟩ := getS2 X0 hx hZ hown (host := "") (Or.inl (hw _ (List.mem_of_getElem? (i := 70) rfl))) Via.refl e0 S1 (g := (mkF m 13 #[.val (.int p0)] [])) rfl (hb hby d5_13)
      refine own_go st4 ?_
      show own_Ends _ _ _ _ _ _ _ T4 (mkF m 16 #[.val (.int p0)] [(.ref w1)])
      refine own_retR X4 hx hlk hret rfl rfl (hb hby d5_16) e4 (by decide) (by decide) ?_
      exact ⟨by simp [own_kind, hc1, hc3], N0, rfl⟩
    · refine own_go (fun t_ k_ => XS.icmpYes X0.here hx rfl (pc0 := 10) (pc' := 17) rfl (hb hby d5_10) rfl (feq hc3).2 (by decide) (by decide) k_) ?_
      show own_Ends _ _ _ _ _ _ _ s₁ (mkF m 17 #[.val (.int p0)] [])
      refine own_go (fun t_ k_ => XS.iloadN X0.here hx rfl (hb hby d5_17) rfl  k_) ?_
      show own_Ends _ _ _ _ _ _ _ s₁ (mkF m 18 #[.val (.int p0)] [(.int p0)])
      refine own_go (fun t_ k_ => XS.iconst X0.here hx rfl (hb hby d5_18) k_) ?_
      show own_Ends _ _ _ _ _ _ _ s₁ (mkF m 19 #[.val (.int p0)] [(.int (2 : Int32)), (.int p0)])
      by_cases hc5 : p0 = (2 : Int32)
      · refine own_go (fun t_ k_ => XS.icmpNo X0.here hx rfl (hb hby d5_19) rfl (teq hc5).2 k_) ?_
        show own_Ends _ _ _ _ _ _ _ s₁ (mkF m 22 #[.val (.int p0)] [])
        obtain ⟨T6, X6, e6, st6⟩ := getS2 X0 hx hZ hown (host := "") (Or.inl (hw _ (List.mem_of_getElem? (i := 68) rfl))) Via.refl e0 S2 (g := (mkF m 22 #[.val (.int p0)] [])) rfl (hb hby d5_22)
        refine own_go st6 ?_
        show own_Ends _ _ _ _ _ _ _ T6 (mkF m 25 #[.val (.int p0)] [(.ref w2)])
        refine own_retR X6 hx hlk hret rfl rfl (hb hby d5_25) e6 (by decide) (by decide) ?_
        exact ⟨by simp [own_kind, hc1, hc3, hc5], N0, rfl⟩
      · refine own_go (fun t_ k_ => XS.icmpYes X0.here hx rfl (pc0 := 19) (pc' := 26) rfl (hb hby d5_19) rfl (feq hc5).2 (by decide) (by decide) k_) ?_
        show own_Ends _ _ _ _ _ _ _ s₁ (mkF m 26 #[.val (.int p0)] [])
        refine own_go (fun t_ k_ => XS.iloadN X0.here hx rfl (hb hby d5_26) rfl  k_) ?_
        show own_Ends _ _ _ _ _ _ _ s₁ (mkF m 27 #[.val (.int p0)] [(.int p0)])
        refine own_go (fun t_ k_ => XS.iconst X0.here hx rfl (hb hby d5_27) k_) ?_
        show own_Ends _ _ _ _ _ _ _ s₁ (mkF m 28 #[.val (.int p0)] [(.int (3 : Int32)), (.int p0)])
        by_cases hc7 : p0 = (3 : Int32)
        · refine own_go (fun t_ k_ => XS.icmpNo X0.here hx rfl (hb hby d5_28) rfl (teq hc7).2 k_) ?_
          show own_Ends _ _ _ _ _ _ _ s₁ (mkF m 31 #[.val (.int p0)] [])
          obtain ⟨T8, X8, e8, st8⟩ := getS2 X0 hx hZ hown (host := "") (Or.inl (hw _ (List.mem_of_getElem? (i := 82) rfl))) Via.refl e0 S3 (g := (mkF m 31 #[.val (.int p0)] [])) rfl (hb hby d5_31)
          refine own_go st8 ?_
          show own_Ends _ _ _ _ _ _ _ T8 (mkF m 34 #[.val (.int p0)] [(.ref w3)])
          refine own_retR X8 hx hlk hret rfl rfl (hb hby d5_34) e8 (by decide) (by decide) ?_
          exact ⟨by simp [own_kind, hc1, hc3, hc5, hc7], N0, rfl⟩
        · refine own_go (fun t_ k_ => XS.icmpYes X0.here hx rfl (pc0 := 28) (pc' := 35) rfl (hb hby d5_28) rfl (feq hc7).2 (by decide) (by decide) k_) ?_
          show own_Ends _ _ _ _ _ _ _ s₁ (mkF m 35 #[.val (.int p0)] [])
          refine own_go (fun t_ k_ => XS.iloadN X0.here hx rfl (hb hby d5_35) rfl  k_) ?_
          show own_Ends _ _ _ _ _ _ _ s₁ (mkF m 36 #[.val (.int p0)] [(.int p0)])
          refine own_go (fun t_ k_ => XS.iconst X0.here hx rfl (hb hby d5_36) k_) ?_
          show own_Ends _ _ _ _ _ _ _ s₁ (mkF m 37 #[.val (.int p0)] [(.int (4 : Int32)), (.int p0)])
          by_cases hc9 : p0 = (4 : Int32)
          · refine own_go (fun t_ k_ => XS.icmpNo X0.here hx rfl (hb hby d5_37) rfl (teq hc9).2 k_) ?_
            show own_Ends _ _ _ _ _ _ _ s₁ (mkF m 40 #[.val (.int p0)] [])
            obtain ⟨T10, X10, e10, st10⟩ := getS2 X0 hx hZ hown (host := "") (Or.inl (hw _ (List.mem_of_getElem? (i := 66) rfl))) Via.refl e0 S4 (g := (mkF m 40 #[.val (.int p0)] [])) rfl (hb hby d5_40)
            refine own_go st10 ?_
            show own_Ends _ _ _ _ _ _ _ T10 (mkF m 43 #[.val (.int p0)] [(.ref w4)])
            refine own_retR X10 hx hlk hret rfl rfl (hb hby d5_43) e10 (by decide) (by decide) ?_
            exact ⟨by simp [own_kind, hc1, hc3, hc5, hc7, hc9], N0, rfl⟩
          · refine own_go (fun t_ k_ => XS.icmpYes X0.here hx rfl (pc0 := 37) (pc' := 44) rfl (hb hby d5_37) rfl (feq hc9).2 (by decide) (by decide) k_) ?_
            show own_Ends _ _ _ _ _ _ _ s₁ (mkF m 44 #[.val (.int p0)] [])
            refine own_go (fun t_ k_ => XS.iloadN X0.here hx rfl (hb hby d5_44) rfl  k_) ?_
            show own_Ends _ _ _ _ _ _ _ s₁ (mkF m 45 #[.val (.int p0)] [(.int p0)])
            refine own_go (fun t_ k_ => XS.iconst X0.here hx rfl (hb hby d5_45) k_) ?_
            show own_Ends _ _ _ _ _ _ _ s₁ (mkF m 46 #[.val (.int p0)] [(.int (5 : Int32)), (.int p0)])
            by_cases hc11 : p0 = (5 : Int32)
            · refine own_go (fun t_ k_ => XS.icmpNo X0.here hx rfl (hb hby d5_46) rfl (teq hc11).2 k_) ?_
              show own_Ends _ _ _ _ _ _ _ s₁ (mkF m 49 #[.val (.int p0)] [])
              obtain ⟨T12, X12, e12, st12⟩ := getS2 X0 hx hZ hown (host := "") (Or.inl (hw _ (List.mem_of_getElem? (i := 86) rfl))) Via.refl e0 S5 (g := (mkF m 49 #[.val (.int p0)] [])) rfl (hb hby d5_49)
              refine own_go st12 ?_
              show own_Ends _ _ _ _ _ _ _ T12 (mkF m 52 #[.val (.int p0)] [(.ref w5)])
              refine own_retR X12 hx hlk hret rfl rfl (hb hby d5_52) e12 (by decide) (by decide) ?_
              exact ⟨by simp [own_kind, hc1, hc3, hc5, hc7, hc9, hc11], N0, rfl⟩
            · refine own_go (fun t_ k_ => XS.icmpYes X0.here hx rfl (pc0 := 46) (pc' := 53) rfl (hb hby d5_46) rfl (feq hc11).2 (by decide) (by decide) k_) ?_
              show own_Ends _ _ _ _ _ _ _ s₁ (mkF m 53 #[.val (.int p0)] [])
              obtain ⟨T13, X13, e13, st13⟩ := getS2 X0 hx hZ hown (host := "") (Or.inl (hw _ (List.mem_of_getElem? (i := 84) rfl))) Via.refl e0 S6 (g := (mkF m 53 #[.val (.int p0)] [])) rfl (hb hby d5_53)
              refine own_go st13 ?_
              show own_Ends _ _ _ _ _ _ _ T13 (mkF m 56 #[.val (.int p0)] [(.ref w6)])
              refine own_retR X13 hx hlk hret rfl rfl (hb hby d5_56) e13 (by decide) (by decide) ?_
              exact ⟨by simp [own_kind, hc1, hc3, hc5, hc7, hc9, hc11], N0, rfl⟩
theorem own_latn {c : Int32} (h : 0 ≤ c.toInt ∧ c.toInt ≤ 255) : ¬ nar .char c < 0 ∧ ¬ (255 : Int32) < nar .char c := by
  rw [own_narC h.1 (by omega)]
  have a4 : (255 : Int32).toInt = 255 := rfl
  have a5 : (0 : Int32).toInt = 0 := rfl
  rw [Int32.lt_iff_toInt_lt, Int32.lt_iff_toInt_lt]
  omega
theorem own_latp {c : Int32} (h : 0 ≤ c.toInt ∧ c.toInt ≤ 255) : ¬ c < 0 ∧ ¬ (255 : Int32) < c := by
  have a4 : (255 : Int32).toInt = 255 := rfl
  have a5 : (0 : Int32).toInt = 0 := rfl
  rw [Int32.lt_iff_toInt_lt, Int32.lt_iff_toInt_lt]
  omega
theorem d1_0 : decode method_3_code 0 = .ok (.iload_n 0, 1) := by decide +kernel
theorem d1_1 : decode method_3_code 1 = .ok (.ifCond .ne 14, 3) := by decide +kernel
theorem d1_4 : decode method_3_code 4 = .ok (.new 31, 3) := by decide +kernel
theorem d1_7 : decode method_3_code 7 = .ok (.dup, 1) := by decide +kernel
theorem d1_8 : decode method_3_code 8 = .ok (.iconst 0, 1) := by decide +kernel
theorem d1_9 : decode method_3_code 9 = .ok (.newarray .char, 2) := by decide +kernel
theorem d1_11 : decode method_3_code 11 = .ok (.invokespecial 33, 3) := by decide +kernel
theorem pd___C_V : parseMethodDescriptor "([C)V" = some ⟨[(.array .char)], none⟩ := by decide +kernel
theorem d1_14 : decode method_3_code 14 = .ok (.areturn, 1) := by decide +kernel
theorem d1_15 : decode method_3_code 15 = .ok (.iload_n 0, 1) := by decide +kernel
theorem d1_16 : decode method_3_code 16 = .ok (.iconst 1, 1) := by decide +kernel
theorem d1_17 : decode method_3_code 17 = .ok (.if_icmp .ne 8, 3) := by decide +kernel
theorem d1_20 : decode method_3_code 20 = .ok (.iload_n 1, 1) := by decide +kernel
theorem d1_21 : decode method_3_code 21 = .ok (.invokestatic 36, 3) := by decide +kernel
theorem pd__C_Ljava_lang_String_ : parseMethodDescriptor "(C)Ljava/lang/String;" = some ⟨[.char], some (.object "java/lang/String")⟩ := by decide +kernel
theorem d1_24 : decode method_3_code 24 = .ok (.areturn, 1) := by decide +kernel
theorem d1_25 : decode method_3_code 25 = .ok (.new 31, 3) := by decide +kernel
theorem d1_28 : decode method_3_code 28 = .ok (.dup, 1) := by decide +kernel
theorem d1_29 : decode method_3_code 29 = .ok (.iconst 2, 1) := by decide +kernel
theorem d1_30 : decode method_3_code 30 = .ok (.newarray .char, 2) := by decide +kernel
theorem d1_32 : decode method_3_code 32 = .ok (.dup, 1) := by decide +kernel
theorem d1_33 : decode method_3_code 33 = .ok (.iconst 0, 1) := by decide +kernel
theorem d1_34 : decode method_3_code 34 = .ok (.iload_n 1, 1) := by decide +kernel
theorem d1_35 : decode method_3_code 35 = .ok (.castore, 1) := by decide +kernel
theorem d1_36 : decode method_3_code 36 = .ok (.dup, 1) := by decide +kernel
theorem d1_37 : decode method_3_code 37 = .ok (.iconst 1, 1) := by decide +kernel
theorem d1_38 : decode method_3_code 38 = .ok (.iload_n 2, 1) := by decide +kernel
theorem d1_39 : decode method_3_code 39 = .ok (.castore, 1) := by decide +kernel
theorem d1_40 : decode method_3_code 40 = .ok (.invokespecial 33, 3) := by decide +kernel
theorem d1_43 : decode method_3_code 43 = .ok (.areturn, 1) := by decide +kernel
theorem pn1 : plainFor (⟨"com/example/ferret/ferret/frontend/TokenIsPinLaw", "str", "(ICC)Ljava/lang/String;"⟩ : MethodName) = true := plainFor_of_name (by first | (simp [plainName, overriddenIn]; done) | decide +kernel)
set_option maxRecDepth 65536 in
set_option maxHeartbeats 40000000 in
theorem rm1 (l : Launch) (Z : State) (a0 : Array Value) (hw : ∀ d ∈ tables_1, d.before a0 Z = true) (ws : List Jvm.Cond) (p0 : Int32) (p1 : Int32) (p2 : Int32) (zc : Int32) (h0 : Heap) (n0 : Nat) (Z0 : n0 ≤ h0.size) (SC : Sta Z h0 "java/lang/String" "COMPACT_STRINGS" "Z" (.int zc)) (hzc : ¬ zc = 0) (h1 : 0 ≤ p1.toInt ∧ p1.toInt ≤ 255) (h2 : 0 ≤ p2.toInt ∧ p2.toInt ≤ 255) :
    own_MetW l (⟨"com/example/ferret/ferret/frontend/TokenIsPinLaw", "str", "(ICC)Ljava/lang/String;"⟩ : MethodName) method_3_code 3 (some (.object "java/lang/String")) ({ frames := 4, cells := 6, slots := 12, locals := 66 } : Room) ws #[(.int p0), (.int p1), (.int p2)] Z own_EL h0 (fun v h L => ∃ (a b : Addr) (k : ClassId), v = some (.ref a) ∧ Fr n0 L ∧ Keep h0 h [] ∧ Exa Z h a "java/lang/String" ∧ Fld Z h a "java/lang/String" "coder" "B" (.int 0) ∧ Fld Z h a "java/lang/String" "value" "[B" (.ref b) ∧ Arv Z h b k .byte (Int32.ofNat (own_str p0 p1 p2).length) ((own_str p0 p1 p2).map fun c => Value.int c.toInt8.toInt32) (.int 0)) := by
  refine own_metW pn1 ?_
  intro p e s m below meth c s₁ hx X0 hZ e0 hby hml hown hnm hret hlk Iv0
  have N0 := Fr.nil n0
  refine own_atW (f' := mkF m 0 #[.val (.int p0), .val (.int p1), .val (.int p2)] []) (by first | (simp [entryFrame, mkF, argsToLocals, Value.category]; done) | rfl) ?_
  show own_EndsW _ _ _ _ _ _ _ _ _ s₁ (mkF m 0 #[.val (.int p0), .val (.int p1), .val (.int p2)] [])
  refine own_goW (fun t_ k_ => XS.iloadN X0.here hx rfl (hb hby d1_0) rfl  k_) ?_
  show own_EndsW _ _ _ _ _ _ _ _ _ s₁ (mkF m 1 #[.val (.int p0), .val (.int p1), .val (.int p2)] [(.int p0)])
  by_cases hc1 : p0 = (0 : Int32)
  · refine own_goW (fun t_ k_ => XS.ifNo X0.here hx rfl (hb hby d1_1) rfl ((if0 _ _).trans (teq hc1).2) k_) ?_
    show own_EndsW _ _ _ _ _ _ _ _ _ s₁ (mkF m 4 #[.val (.int p0), .val (.int p1), .val (.int p2)] [])
    obtain ⟨T2, h2, X2, e2, E2, A2, D2, -, st2⟩ := newO X0 hx hZ hown (hw _ (List.mem_of_getElem? (i := 5) rfl)) (hw _ (List.mem_of_getElem? (i := 6) rfl)) (hw _ (List.mem_of_getElem? (i := 7) rfl)) e0 (g := (mkF m 4 #[.val (.int p0), .val (.int p1), .val (.int p2)] [])) rfl (hb hby d1_4) (by decide) (by decide)
    obtain ⟨b2, g2⟩ : ∃ z, z = h0.size := ⟨_, rfl⟩
    rw [← g2] at A2 D2 st2
    refine own_goW st2 ?_
    have g_b2 : n0 ≤ b2 := Nat.le_trans Z0 (Nat.le_of_eq g2.symm)
    have Sf2 : Safe Z own_EL s.vm h2 b2 := Safe.ext E2 Iv0.ch (Safe.new (Nat.le_of_eq g2.symm))
    have Iv2 := Iv0.ext E2
    have sz_b2 : h0.size ≤ b2 := Nat.le_trans (Keep.refl h0 []).1 (Nat.le_of_eq g2.symm)
    have K2 := Keep.ext (Keep.refl h0 []) E2
    have F2_value : Fld Z h2 b2 "java/lang/String" "value" "[B" .null := D2 (Or.inr (hw _ (List.mem_of_getElem? (i := 21) rfl))) (ty := (.array .byte)) (by decide)
    have F2_coder : Fld Z h2 b2 "java/lang/String" "coder" "B" (.int (0 : Int32)) := D2 (Or.inr (hw _ (List.mem_of_getElem? (i := 22) rfl))) (ty := .byte) (by decide)
    show own_EndsW _ _ _ _ _ _ _ _ _ T2 (mkF m 7 #[.val (.int p0), .val (.int p1), .val (.int p2)] [(.ref b2)])
    refine own_goW (fun t_ k_ => XS.dup X2.here hx rfl (hb hby d1_7) rfl rfl k_) ?_
    show own_EndsW _ _ _ _ _ _ _ _ _ T2 (mkF m 8 #[.val (.int p0), .val (.int p1), .val (.int p2)] [(.ref b2), (.ref b2)])
    refine own_goW (fun t_ k_ => XS.iconst X2.here hx rfl (hb hby d1_8) k_) ?_
    show own_EndsW _ _ _ _ _ _ _ _ _ T2 (mkF m 9 #[.val (.int p0), .val (.int p1), .val (.int p2)] [(.int (0 : Int32)), (.ref b2), (.ref b2)])
    obtain ⟨T3, h3, k3, X3, e3, E3, A3, st3⟩ := newP X2 hx hZ (hw _ (List.mem_of_getElem? (i := 8) rfl)) e2 (g := (mkF m 9 #[.val (.int p0), .val (.int p1), .val (.int p2)] [(.int (0 : Int32)), (.ref b2), (.ref b2)])) rfl (hb hby d1_9) rfl (by decide) (cap := 0) (by decide) (by decide) (by decide) (by decide)
    obtain ⟨b3, g3⟩ : ∃ z, z = h2.size := ⟨_, rfl⟩
    rw [← g3] at A3 st3
    refine own_goW st3 ?_
    have V3 : Arv Z h3 b3 k3 .char (0 : Int32) [] (.int (0 : Int32)) := (Arv.new A3 (by decide)).pad (pad_rep [] (.int (0 : Int32)) 0)
    have g_b3 : n0 ≤ b3 := Nat.le_trans (Nat.le_trans Z0 E2.1) (Nat.le_of_eq g3.symm)
    have Sf3 : Safe Z own_EL s.vm h3 b3 := Safe.ext E3 Iv2.ch (Safe.new (Nat.le_of_eq g3.symm))
    have Iv3 := Iv2.ext E3
    have sz_b3 : h0.size ≤ b3 := Nat.le_trans K2.1 (Nat.le_of_eq g3.symm)
    have K3 := Keep.ext K2 E3
    show own_EndsW _ _ _ _ _ _ _ _ _ T3 (mkF m 11 #[.val (.int p0), .val (.int p1), .val (.int p2)] [(.ref b3), (.ref b2), (.ref b2)])
    have Nsk4 : ∀ x ∈ ([b2] : List Addr), ∀ cell : Cell, h3[x]? = some cell → cell.vm.isStatics = false := (nsS (Exa.nostat (A2.ext E3)) ns0)
    have Skk4 : ∀ x ∈ ([b2] : List Addr), Safe Z own_EL s.vm h3 x := (sfS (Safe.ext E3 Iv2.ch Sf2) sf0)
    obtain ⟨T5, v5, L5, h5, X5, e5, hQ5, Iv5, hZ, hown, CH5, Gr5, st5⟩ := own_callNW X3 hx hZ (y := (⟨"java/lang/String", "<init>", "([C)V"⟩ : MethodName)) rfl hown (own_EW hw) Iv3 (hw _ (List.mem_of_getElem? (i := 9) rfl)) (hw _ (List.mem_of_getElem? (i := 10) rfl)) (hw _ (List.mem_of_getElem? (i := 7) rfl)) (hw _ (List.mem_of_getElem? (i := 11) rfl)) (by decide) (rmE2 l Z a0 hw [] b2 b3 k3 h3 n0 (Nat.le_trans (Nat.le_trans Z0 E2.1) E3.1) (A2.ext E3) (F2_value.ext E3) (F2_coder.ext E3) g_b2 V3) e3 (g := (mkF m 11 #[.val (.int p0), .val (.int p1), .val (.int p2)] [(.ref b3), (.ref b2), (.ref b2)])) rfl (by rw [hml]; rfl) b2 [(.ref b3)] [(.ref b2)] rfl (lenOf pd___C_V rfl) rfl 1 (by show 2 * 0 + _ ≤ _; exact Nat.le_of_eq rfl) (hb hby d1_11) (by decide) (by decide) (by decide) (by decide)
    obtain ⟨rfl, N5q, Kq5, Eq5, Cq5, tb5, kb5, Vq5, Aq5⟩ := hQ5
    refine own_goW st5 ?_
    have N5 := Fr.app N0 N5q
    have K5 := Keep.trans K3 Kq5 (allS (Or.inr sz_b2) all0)
    show own_EndsW _ _ _ _ _ _ _ _ _ T5 (mkF m 14 #[.val (.int p0), .val (.int p1), .val (.int p2)] [(.ref b2)])
    refine own_retRW X5 hZ (own_EW hw) Iv5 hx hlk hret rfl rfl (hb hby d1_14) e5 (by decide) (by decide) ?_
    have hs : own_str p0 p1 p2 = [] := by simp [own_str, hc1]
    have Vx := Aq5
    rw [hs]
    exact ⟨b2, tb5, kb5, rfl, N5, K5, ((A2.ext E3).keep Kq5), Cq5, Vq5, Vx⟩
  · refine own_goW (fun t_ k_ => XS.ifYes X0.here hx rfl (pc0 := 1) (pc' := 15) rfl (hb hby d1_1) rfl ((if0 _ _).trans (feq hc1).2) (by decide) (by decide) k_) ?_
    show own_EndsW _ _ _ _ _ _ _ _ _ s₁ (mkF m 15 #[.val (.int p0), .val (.int p1), .val (.int p2)] [])
    refine own_goW (fun t_ k_ => XS.iloadN X0.here hx rfl (hb hby d1_15) rfl  k_) ?_
    show own_EndsW _ _ _ _ _ _ _ _ _ s₁ (mkF m 16 #[.val (.int p0), .val (.int p1), .val (.int p2)] [(.int p0)])
    refine own_goW (fun t_ k_ => XS.iconst X0.here hx rfl (hb hby d1_16) k_) ?_
    show own_EndsW _ _ _ _ _ _ _ _ _ s₁ (mkF m 17 #[.val (.int p0), .val (.int p1), .val (.int p2)] [(.int (1 : Int32)), (.int p0)])
    by_cases hc6 : p0 = (1 : Int32)
    · refine own_goW (fun t_ k_ => XS.icmpNo X0.here hx rfl (hb hby d1_17) rfl (teq hc6).2 k_) ?_
      show own_EndsW _ _ _ _ _ _ _ _ _ s₁ (mkF m 20 #[.val (.int p0), .val (.int p1), .val (.int p2)] [])
      refine own_goW (fun t_ k_ => XS.iloadN X0.here hx rfl (hb hby d1_20) rfl  k_) ?_
      show own_EndsW _ _ _ _ _ _ _ _ _ s₁ (mkF m 21 #[.val (.int p0), .val (.int p1), .val (.int p2)] [(.int p1)])
      have Nsk7 : ∀ x ∈ ([] : List Addr), ∀ cell : Cell, h0[x]? = some cell → cell.vm.isStatics = false := ns0
      have Skk7 : ∀ x ∈ ([] : List Addr), Safe Z own_EL s.vm h0 x := sf0
      obtain ⟨T8, v8, L8, X8, hQ8, st8⟩ := own_callS X0 hx hZ (y := (⟨"java/lang/String", "valueOf", "(C)Ljava/lang/String;"⟩ : MethodName)) hown (hw _ (List.mem_of_getElem? (i := 97) rfl)) (hw _ (List.mem_of_getElem? (i := 98) rfl)) (hw _ (List.mem_of_getElem? (i := 7) rfl)) (hw _ (List.mem_of_getElem? (i := 99) rfl)) (by decide) (rm14 l Z a0 hw [] p1 zc h0 n0 Z0 SC hzc (own_latp h1).2) e0 (g := (mkF m 21 #[.val (.int p0), .val (.int p1), .val (.int p2)] [(.int p1)])) rfl (by rw [hml]; rfl) [(.int p1)] [] rfl (lenOf pd__C_Ljava_lang_String_ rfl) rfl 0 (by show 2 * 0 + _ ≤ _; exact Nat.le_of_eq rfl) (hb hby d1_21) (by decide) (by decide) (by decide) (by decide)
      obtain ⟨sa8, tb8, kb8, rfl, N8q, Kq8, la8, Eq8, Cq8, Vq8, Aq8⟩ := hQ8
      refine own_goW st8 ?_
      have N8 := Fr.app N0 N8q
      have Iv8 := Iv0.keep Kq8 Skk7
      have K8 := Keep.trans (Keep.refl h0 []) Kq8 all0
      show own_EndsW _ _ _ _ _ _ _ _ _ T8 (mkF m 24 #[.val (.int p0), .val (.int p1), .val (.int p2)] [(.ref sa8)])
      refine own_retRW X8 hZ (own_EW hw) Iv8 hx hlk hret rfl rfl (hb hby d1_24) rfl (by decide) (by decide) ?_
      have hs : own_str p0 p1 p2 = [p1] := by simp [own_str, hc1, hc6]
      have Vx := Aq8
      rw [hs]
      exact ⟨sa8, tb8, kb8, rfl, N8, K8, Eq8, Cq8, Vq8, Vx⟩
    · refine own_goW (fun t_ k_ => XS.icmpYes X0.here hx rfl (pc0 := 17) (pc' := 25) rfl (hb hby d1_17) rfl (feq hc6).2 (by decide) (by decide) k_) ?_
      show own_EndsW _ _ _ _ _ _ _ _ _ s₁ (mkF m 25 #[.val (.int p0), .val (.int p1), .val (.int p2)] [])
      obtain ⟨T9, h9, X9, e9, E9, A9, D9, -, st9⟩ := newO X0 hx hZ hown (hw _ (List.mem_of_getElem? (i := 5) rfl)) (hw _ (List.mem_of_getElem? (i := 6) rfl)) (hw _ (List.mem_of_getElem? (i := 7) rfl)) e0 (g := (mkF m 25 #[.val (.int p0), .val (.int p1), .val (.int p2)] [])) rfl (hb hby d1_25) (by decide) (by decide)
      obtain ⟨b9, g9⟩ : ∃ z, z = h0.size := ⟨_, rfl⟩
      rw [← g9] at A9 D9 st9
      refine own_goW st9 ?_
      have g_b9 : n0 ≤ b9 := Nat.le_trans Z0 (Nat.le_of_eq g9.symm)
      have Sf9 : Safe Z own_EL s.vm h9 b9 := Safe.ext E9 Iv0.ch (Safe.new (Nat.le_of_eq g9.symm))
      have Iv9 := Iv0.ext E9
      have sz_b9 : h0.size ≤ b9 := Nat.le_trans (Keep.refl h0 []).1 (Nat.le_of_eq g9.symm)
      have K9 := Keep.ext (Keep.refl h0 []) E9
      have F9_value : Fld Z h9 b9 "java/lang/String" "value" "[B" .null := D9 (Or.inr (hw _ (List.mem_of_getElem? (i := 21) rfl))) (ty := (.array .byte)) (by decide)
      have F9_coder : Fld Z h9 b9 "java/lang/String" "coder" "B" (.int (0 : Int32)) := D9 (Or.inr (hw _ (List.mem_of_getElem? (i := 22) rfl))) (ty := .byte) (by decide)
      show own_EndsW _ _ _ _ _ _ _ _ _ T9 (mkF m 28 #[.val (.int p0), .val (.int p1), .val (.int p2)] [(.ref b9)])
      refine own_goW (fun t_ k_ => XS.dup X9.here hx rfl (hb hby d1_28) rfl rfl k_) ?_
      show own_EndsW _ _ _ _ _ _ _ _ _ T9 (mkF m 29 #[.val (.int p0), .val (.int p1), .val (.int p2)] [(.ref b9), (.ref b9)])
      refine own_goW (fun t_ k_ => XS.iconst X9.here hx rfl (hb hby d1_29) k_) ?_
      show own_EndsW _ _ _ _ _ _ _ _ _ T9 (mkF m 30 #[.val (.int p0), .val (.int p1), .val (.int p2)] [(.int (2 : Int32)), (.ref b9), (.ref b9)])
      obtain ⟨T10, h10, k10, X10, e10, E10, A10, st10⟩ := newP X9 hx hZ (hw _ (List.mem_of_getElem? (i := 8) rfl)) e9 (g := (mkF m 30 #[.val (.int p0), .val (.int p1), .val (.int p2)] [(.int (2 : Int32)), (.ref b9), (.ref b9)])) rfl (hb hby d1_30) rfl (by decide) (cap := 2) (by decide) (by decide) (by decide) (by decide)
      obtain ⟨b10, g10⟩ : ∃ z, z = h9.size := ⟨_, rfl⟩
      rw [← g10] at A10 st10
      refine own_goW st10 ?_
      have V10 : Arv Z h10 b10 k10 .char (2 : Int32) [(.int (0 : Int32)), (.int (0 : Int32))] (.int (0 : Int32)) := (Arv.new A10 (by decide)).pad (pad_rep [] (.int (0 : Int32)) 2)
      have g_b10 : n0 ≤ b10 := Nat.le_trans (Nat.le_trans Z0 E9.1) (Nat.le_of_eq g10.symm)
      have Sf10 : Safe Z own_EL s.vm h10 b10 := Safe.ext E10 Iv9.ch (Safe.new (Nat.le_of_eq g10.symm))
      have Iv10 := Iv9.ext E10
      have sz_b10 : h0.size ≤ b10 := Nat.le_trans K9.1 (Nat.le_of_eq g10.symm)
      have K10 := Keep.ext K9 E10
      show own_EndsW _ _ _ _ _ _ _ _ _ T10 (mkF m 32 #[.val (.int p0), .val (.int p1), .val (.int p2)] [(.ref b10), (.ref b9), (.ref b9)])
      refine own_goW (fun t_ k_ => XS.dup X10.here hx rfl (hb hby d1_32) rfl rfl k_) ?_
      show own_EndsW _ _ _ _ _ _ _ _ _ T10 (mkF m 33 #[.val (.int p0), .val (.int p1), .val (.int p2)] [(.ref b10), (.ref b10), (.ref b9), (.ref b9)])
      refine own_goW (fun t_ k_ => XS.iconst X10.here hx rfl (hb hby d1_33) k_) ?_
      show own_EndsW _ _ _ _ _ _ _ _ _ T10 (mkF m 34 #[.val (.int p0), .val (.int p1), .val (.int p2)] [(.int (0 : Int32)), (.ref b10), (.ref b10), (.ref b9), (.ref b9)])
      refine own_goW (fun t_ k_ => XS.iloadN X10.here hx rfl (hb hby d1_34) rfl  k_) ?_
      show own_EndsW _ _ _ _ _ _ _ _ _ T10 (mkF m 35 #[.val (.int p0), .val (.int p1), .val (.int p2)] [(.int p1), (.int (0 : Int32)), (.ref b10), (.ref b10), (.ref b9), (.ref b9)])
      have Swp11 : Safe Z own_EL s.vm h10 b10 := (Safe.arv hZ.alike V10 (by decide))
      obtain ⟨cl12, Ar12, q12, S12, Ng12, Hs12, G12⟩ := (id V10)
      obtain ⟨T13, h13, X13, e13, W13, st13⟩ := stC X10 hx hZ e10 Ar12 (j := (0 : Int32)) (inb_of S12 ⟨by decide, by decide⟩) (g := (mkF m 35 #[.val (.int p0), .val (.int p1), .val (.int p2)] [(.int p1), (.int (0 : Int32)), (.ref b10), (.ref b10), (.ref b9), (.ref b9)])) rfl rfl (hb hby d1_35)
      refine own_goW st13 ?_
      have V13 : Arv Z h13 b10 k10 .char (2 : Int32) [(.int (nar .char p1)), (.int (0 : Int32))] (.int (0 : Int32)) := Arv.set Ar12 q12 S12 Ng12 Hs12 G12 (fits_nar_char _) W13 0 rfl (Nat.le_of_ble_eq_true rfl)
      have Iv13 := Iv10.wr W13 Swp11
      have N13 := Fr.snoc X13 N0 g_b10
      have K13 := Keep.wr K10 W13 (Or.inr sz_b10)
      show own_EndsW _ _ _ _ _ _ _ _ _ T13 (mkF m 36 #[.val (.int p0), .val (.int p1), .val (.int p2)] [(.ref b10), (.ref b9), (.ref b9)])
      refine own_goW (fun t_ k_ => XS.dup X13.here hx rfl (hb hby d1_36) rfl rfl k_) ?_
      show own_EndsW _ _ _ _ _ _ _ _ _ T13 (mkF m 37 #[.val (.int p0), .val (.int p1), .val (.int p2)] [(.ref b10), (.ref b10), (.ref b9), (.ref b9)])
      refine own_goW (fun t_ k_ => XS.iconst X13.here hx rfl (hb hby d1_37) k_) ?_
      show own_EndsW _ _ _ _ _ _ _ _ _ T13 (mkF m 38 #[.val (.int p0), .val (.int p1), .val (.int p2)] [(.int (1 : Int32)), (.ref b10), (.ref b10), (.ref b9), (.ref b9)])
      refine own_goW (fun t_ k_ => XS.iloadN X13.here hx rfl (hb hby d1_38) rfl  k_) ?_
      show own_EndsW _ _ _ _ _ _ _ _ _ T13 (mkF m 39 #[.val (.int p0), .val (.int p1), .val (.int p2)] [(.int p2), (.int (1 : Int32)), (.ref b10), (.ref b10), (.ref b9), (.ref b9)])
      have Swp14 : Safe Z own_EL s.vm h13 b10 := (Safe.arv hZ.alike V13 (by decide))
      obtain ⟨cl15, Ar15, q15, S15, Ng15, Hs15, G15⟩ := (id V13)
      obtain ⟨T16, h16, X16, e16, W16, st16⟩ := stC X13 hx hZ e13 Ar15 (j := (1 : Int32)) (inb_of S15 ⟨by decide, by decide⟩) (g := (mkF m 39 #[.val (.int p0), .val (.int p1), .val (.int p2)] [(.int p2), (.int (1 : Int32)), (.ref b10), (.ref b10), (.ref b9), (.ref b9)])) rfl rfl (hb hby d1_39)
      refine own_goW st16 ?_
      have V16 : Arv Z h16 b10 k10 .char (2 : Int32) [(.int (nar .char p1)), (.int (nar .char p2))] (.int (0 : Int32)) := Arv.set Ar15 q15 S15 Ng15 Hs15 G15 (fits_nar_char _) W16 1 rfl (Nat.le_of_ble_eq_true rfl)
      have Iv16 := Iv13.wr W16 Swp14
      have N16 := Fr.snoc X16 N13 g_b10
      have K16 := Keep.wr K13 W16 (Or.inr sz_b10)
      show own_EndsW _ _ _ _ _ _ _ _ _ T16 (mkF m 40 #[.val (.int p0), .val (.int p1), .val (.int p2)] [(.ref b10), (.ref b9), (.ref b9)])
      have hl17 : ∀ c ∈ [(nar .char p1), (nar .char p2)], ¬ c < 0 ∧ ¬ (255 : Int32) < c := by
        intro c hc
        simp only [List.mem_cons, List.not_mem_nil, or_false] at hc
        rcases hc with rfl | rfl
        · exact (own_latn h1)
        · exact (own_latn h2)
      have Nsk18 : ∀ x ∈ ([b9] : List Addr), ∀ cell : Cell, h16[x]? = some cell → cell.vm.isStatics = false := (nsS (Exa.nostat (((A9.ext E10).wr W13).wr W16)) ns0)
      have Skk18 : ∀ x ∈ ([b9] : List Addr), Safe Z own_EL s.vm h16 x := (sfS (Safe.wr W16 Swp14 Iv13.ch (Safe.wr W13 Swp11 Iv10.ch (Safe.ext E10 Iv9.ch Sf9))) sf0)
      obtain ⟨T19, v19, L19, X19, hQ19, st19⟩ := own_callNB X16 hx hZ (y := (⟨"java/lang/String", "<init>", "([C)V"⟩ : MethodName)) (rc := 1) (rs := 2) rfl hown (hw _ (List.mem_of_getElem? (i := 9) rfl)) (hw _ (List.mem_of_getElem? (i := 10) rfl)) (hw _ (List.mem_of_getElem? (i := 11) rfl)) (by decide) (StrChars.Road.backV (W := 1) hZ (own_hws hw) (kI := 4) (hw _ (List.mem_of_getElem? (i := 6) rfl)) (cs := [(nar .char p1), (nar .char p2)]) (bs := [((nar .char p1)).toInt8.toInt32, ((nar .char p2)).toInt8.toInt32]) (n := 2) g_b9 (Nat.le_trans (Nat.le_trans (Nat.le_trans (Nat.le_trans Z0 E9.1) E10.1) (Keep.of_wr W13).1) (Keep.of_wr W16).1) (((A9.ext E10).wr W13).wr W16) (((F9_value.ext E10).other W13 (Or.inl (Nat.ne_of_lt (Nat.lt_of_lt_of_le A9.lt (Nat.le_of_eq g10.symm))))).other W16 (Or.inl (Nat.ne_of_lt (Nat.lt_of_lt_of_le A9.lt (Nat.le_of_eq g10.symm))))) (((F9_coder.ext E10).other W13 (Or.inl (Nat.ne_of_lt (Nat.lt_of_lt_of_le A9.lt (Nat.le_of_eq g10.symm))))).other W16 (Or.inl (Nat.ne_of_lt (Nat.lt_of_lt_of_le A9.lt (Nat.le_of_eq g10.symm))))) V16 ((((SC.ext E9).ext E10).wr W13).wr W16) hzc rfl rfl (by decide) (by decide) hl17 rfl (by decide) (by decide)) e16 (g := (mkF m 40 #[.val (.int p0), .val (.int p1), .val (.int p2)] [(.ref b10), (.ref b9), (.ref b9)])) rfl (by rw [hml]; rfl) b9 [(.ref b10)] [(.ref b9)] rfl (lenOf pd___C_V rfl) rfl (by show 2 * 0 + _ ≤ _; exact Nat.le_of_eq rfl) (hb hby d1_40) (by decide) (by decide)
      obtain ⟨rfl, N19q, Kq19, Eq19, Cq19, tb19, kb19, -, -, -, Vq19, Aq19⟩ := hQ19
      refine own_goW st19 ?_
      have N19 := Fr.app N16 N19q
      have Iv19 := Iv16.keep Kq19 Skk18
      have K19 := Keep.trans K16 Kq19 (allS (Or.inr sz_b9) all0)
      show own_EndsW _ _ _ _ _ _ _ _ _ T19 (mkF m 43 #[.val (.int p0), .val (.int p1), .val (.int p2)] [(.ref b9)])
      refine own_retRW X19 hZ (own_EW hw) Iv19 hx hlk hret rfl rfl (hb hby d1_43) rfl (by decide) (by decide) ?_
      have hs : own_str p0 p1 p2 = [p1, p2] := by simp [own_str, hc1, hc6]
      have Vx := Aq19
      rw [own_narC h1.1 (by omega), own_narC h2.1 (by omega)] at Vx
      rw [hs]
      exact ⟨b9, tb19, kb19, rfl, N19, K19, ((((A9.ext E10).wr W13).wr W16).keep Kq19), Cq19, Vq19, Vx⟩
theorem d8_0 : decode prog_118_method_2_code 0 = .ok (.aload_n 0, 1) := by decide +kernel
theorem d8_1 : decode prog_118_method_2_code 1 = .ok (.getfield 7, 3) := by decide +kernel
theorem d8_4 : decode prog_118_method_2_code 4 = .ok (.getstatic 31, 3) := by decide +kernel
theorem d8_7 : decode prog_118_method_2_code 7 = .ok (.if_acmp .eq 13, 3) := by decide +kernel
theorem d8_20 : decode prog_118_method_2_code 20 = .ok (.aload_n 0, 1) := by decide +kernel
theorem d8_21 : decode prog_118_method_2_code 21 = .ok (.getfield 13, 3) := by decide +kernel
theorem d8_24 : decode prog_118_method_2_code 24 = .ok (.aload_n 1, 1) := by decide +kernel
theorem d8_25 : decode prog_118_method_2_code 25 = .ok (.invokevirtual 39, 3) := by decide +kernel
theorem pd__Ljava_lang_Object__Z : parseMethodDescriptor "(Ljava/lang/Object;)Z" = some ⟨[(.object "java/lang/Object")], some .boolean⟩ := by decide +kernel
theorem d8_28 : decode prog_118_method_2_code 28 = .ok (.ifCond .eq 7, 3) := by decide +kernel
theorem d8_35 : decode prog_118_method_2_code 35 = .ok (.iconst 0, 1) := by decide +kernel
theorem d8_36 : decode prog_118_method_2_code 36 = .ok (.ireturn, 1) := by decide +kernel
theorem d8_31 : decode prog_118_method_2_code 31 = .ok (.iconst 1, 1) := by decide +kernel
theorem d8_32 : decode prog_118_method_2_code 32 = .ok (.goto 4, 3) := by decide +kernel
theorem d8_10 : decode prog_118_method_2_code 10 = .ok (.aload_n 0, 1) := by decide +kernel
theorem d8_11 : decode prog_118_method_2_code 11 = .ok (.getfield 7, 3) := by decide +kernel
theorem d8_14 : decode prog_118_method_2_code 14 = .ok (.getstatic 36, 3) := by decide +kernel
theorem d8_17 : decode prog_118_method_2_code 17 = .ok (.if_acmp .ne 18, 3) := by decide +kernel
theorem pn8 : plainFor (⟨"com/example/ferret/ferret/frontend/Token", "is", "(Ljava/lang/String;)Z"⟩ : MethodName) = true := plainFor_of_name (by first | (simp [plainName, overriddenIn]; done) | decide +kernel)
set_option maxRecDepth 65536 in
set_option maxHeartbeats 40000000 in
theorem rm8 (l : Launch) (Z : State) (a0 : Array Value) (hw : ∀ d ∈ tables_1, d.before a0 Z = true) (ws : List Jvm.Cond)  (t y kd x b1 b2 wP wK : Addr) (k1 k2 : ClassId) (cs ds : List Int32) (zc : Int32) (h0 : Heap) (n0 : Nat) (Z0 : n0 ≤ h0.size) (Fk : Fld Z h0 t "com/example/ferret/ferret/frontend/Token" "kind" "Lcom/example/ferret/ferret/frontend/Token$Kind;" (.ref kd)) (Ft : Fld Z h0 t "com/example/ferret/ferret/frontend/Token" "text" "Ljava/lang/String;" (.ref x)) (SP : Sta Z h0 "com/example/ferret/ferret/frontend/Token$Kind" "PUNCTUATOR" "Lcom/example/ferret/ferret/frontend/Token$Kind;" (.ref wP)) (SK : Sta Z h0 "com/example/ferret/ferret/frontend/Token$Kind" "KEYWORD" "Lcom/example/ferret/ferret/frontend/Token$Kind;" (.ref wK)) (Es1 : Exa Z h0 x "java/lang/String") (Cs1 : Fld Z h0 x "java/lang/String" "coder" "B" (.int 0)) (Vs1 : Fld Z h0 x "java/lang/String" "value" "[B" (.ref b1)) (As1 : Arv Z h0 b1 k1 .byte (Int32.ofNat cs.length) (cs.map fun c => Value.int c.toInt8.toInt32) (.int 0)) (hr1 : ∀ c ∈ cs, ¬ c < 0 ∧ ¬ (255 : Int32) < c) (hl1 : cs.length ≤ 4000) (Es2 : Exa Z h0 y "java/lang/String") (Cs2 : Fld Z h0 y "java/lang/String" "coder" "B" (.int 0)) (Vs2 : Fld Z h0 y "java/lang/String" "value" "[B" (.ref b2)) (As2 : Arv Z h0 b2 k2 .byte (Int32.ofNat ds.length) (ds.map fun c => Value.int c.toInt8.toInt32) (.int 0)) (hr2 : ∀ c ∈ ds, ¬ c < 0 ∧ ¬ (255 : Int32) < c) (hl2 : ds.length ≤ 4000) (SC : Sta Z h0 "java/lang/String" "COMPACT_STRINGS" "Z" (.int zc)) (hzc : ¬ zc = 0) :
    own_Met l (⟨"com/example/ferret/ferret/frontend/Token", "is", "(Ljava/lang/String;)Z"⟩ : MethodName) prog_118_method_2_code 2 (some .boolean) ({ frames := 2, cells := 0, slots := 0, locals := 28 } : Room) ws #[(.ref t), (.ref y)] Z h0 (fun v h L => v = some (.int (if (kd = wP ∨ kd = wK) ∧ cs = ds then 1 else 0)) ∧ Fr n0 L ∧ h = h0) := by
  refine own_met pn8 ?_
  intro p e s m below meth c s₁ hx X0 hZ e0 hby hml hown hnm hret hlk
  have N0 := Fr.nil n0
  refine own_at (f' := mkF m 0 #[.val (.ref t), .val (.ref y)] []) (by first | (simp [entryFrame, mkF, argsToLocals, Value.category]; done) | rfl) ?_
  show own_Ends _ _ _ _ _ _ _ s₁ (mkF m 0 #[.val (.ref t), .val (.ref y)] [])
  refine own_go (fun t_ k_ => XS.aloadN X0.here hx rfl (hb hby d8_0) rfl rfl  k_) ?_
  show own_Ends _ _ _ _ _ _ _ s₁ (mkF m 1 #[.val (.ref t), .val (.ref y)] [(.ref t)])
  obtain ⟨T1, X1, e1, st1⟩ := getF X0 hx hZ hown (host := "") (Or.inl (hw _ (List.mem_of_getElem? (i := 45) rfl))) Via.refl e0 Fk (g := (mkF m 1 #[.val (.ref t), .val (.ref y)] [(.ref t)])) rfl rfl (hb hby d8_1)
  refine own_go st1 ?_
  show own_Ends _ _ _ _ _ _ _ T1 (mkF m 4 #[.val (.ref t), .val (.ref y)] [(.ref kd)])
  obtain ⟨T2, X2, e2, st2⟩ := getS2 X1 hx hZ hown (host := "") (Or.inl (hw _ (List.mem_of_getElem? (i := 62) rfl))) Via.refl e1 SP (g := (mkF m 4 #[.val (.ref t), .val (.ref y)] [(.ref kd)])) rfl (hb hby d8_4)
  refine own_go st2 ?_
  show own_Ends _ _ _ _ _ _ _ T2 (mkF m 7 #[.val (.ref t), .val (.ref y)] [(.ref wP), (.ref kd)])
  by_cases hc3 : kd = wP
  · refine own_go (fun t_ k_ => XT.acmpYes X2.here hx rfl (pc0 := 7) (pc' := 20) rfl (hb hby d8_7) rfl rfl rfl (XT.aa_eq_t (congrArg Value.ref hc3)) (by decide) (by decide) k_) ?_
    show own_Ends _ _ _ _ _ _ _ T2 (mkF m 20 #[.val (.ref t), .val (.ref y)] [])
    refine own_go (fun t_ k_ => XS.aloadN X2.here hx rfl (hb hby d8_20) rfl rfl  k_) ?_
    show own_Ends _ _ _ _ _ _ _ T2 (mkF m 21 #[.val (.ref t), .val (.ref y)] [(.ref t)])
    obtain ⟨T4, X4, e4, st4⟩ := getF X2 hx hZ hown (host := "") (Or.inl (hw _ (List.mem_of_getElem? (i := 47) rfl))) Via.refl e2 Ft (g := (mkF m 21 #[.val (.ref t), .val (.ref y)] [(.ref t)])) rfl rfl (hb hby d8_21)
    refine own_go st4 ?_
    show own_Ends _ _ _ _ _ _ _ T4 (mkF m 24 #[.val (.ref t), .val (.ref y)] [(.ref x)])
    refine own_go (fun t_ k_ => XS.aloadN X4.here hx rfl (hb hby d8_24) rfl rfl  k_) ?_
    show own_Ends _ _ _ _ _ _ _ T4 (mkF m 25 #[.val (.ref t), .val (.ref y)] [(.ref y), (.ref x)])
    obtain ⟨T5, v5, L5, X5, hQ5, st5⟩ := own_callVB X4 hx hZ (y := (⟨"java/lang/String", "equals", "(Ljava/lang/Object;)Z"⟩ : MethodName)) (z := (⟨"java/lang/String", "equals", "(Ljava/lang/Object;)Z"⟩ : MethodName)) (rc := 0) (rs := 0) (Q' := fun v h' L => (((v = some (.int 1) ∧ cs = ds) ∨ (v = some (.int 0) ∧ ¬ cs = ds)) ∧ L = [] ∧ h' = h0)) hown (hw _ (List.mem_of_getElem? (i := 71) rfl)) (hw _ (List.mem_of_getElem? (i := 72) rfl)) (notFace_of_selects (args := #[]) (mvT hZ (hw _ (List.mem_of_getElem? (i := 74) rfl)))) (hw _ (List.mem_of_getElem? (i := 74) rfl)) (hw _ (List.mem_of_getElem? (i := 73) rfl)) (by decide) (StrChars.Road.eqW (W := 0) hZ (own_hwe hw) (kI := 4) (hw _ (List.mem_of_getElem? (i := 6) rfl)) Es1 Vs1 Cs1 As1 (Or.inl ⟨rfl, rfl, rfl, fun c hc => (hr1 c hc).2⟩) (own_65 hr1) hl1 Es2 Vs2 Cs2 As2 (Or.inl ⟨rfl, rfl, rfl, fun c hc => (hr2 c hc).2⟩) (own_65 hr2) hl2 SC hzc (by decide) (by decide)) e4 (g := (mkF m 25 #[.val (.ref t), .val (.ref y)] [(.ref y), (.ref x)])) rfl (by rw [hml]; rfl) x Es1 [(.ref y)] [] rfl (lenOf pd__Ljava_lang_Object__Z rfl) rfl (by show 2 * 0 + _ ≤ _; exact Nat.le_of_eq rfl) (hb hby d8_25) (by decide) (by decide)
    obtain ⟨hq5, rfl, e5⟩ := hQ5
    obtain ⟨vi, rfl, hvi⟩ := own_eq01 hq5
    refine own_go st5 ?_
    have N5 := Fr.app N0 (Fr.nil n0)
    show own_Ends _ _ _ _ _ _ _ T5 (mkF m 28 #[.val (.ref t), .val (.ref y)] [(.int vi)])
    by_cases hc6 : vi = (0 : Int32)
    · refine own_go (fun t_ k_ => XS.ifYes X5.here hx rfl (pc0 := 28) (pc' := 35) rfl (hb hby d8_28) rfl ((if0 _ _).trans (teq hc6).1) (by decide) (by decide) k_) ?_
      show own_Ends _ _ _ _ _ _ _ T5 (mkF m 35 #[.val (.ref t), .val (.ref y)] [])
      refine own_go (fun t_ k_ => XS.iconst X5.here hx rfl (hb hby d8_35) k_) ?_
      show own_Ends _ _ _ _ _ _ _ T5 (mkF m 36 #[.val (.ref t), .val (.ref y)] [(.int (0 : Int32))])
      refine own_retN X5 hx hlk (t := .boolean) hret (by simp) (hb hby d8_36) e5 (by decide) (by decide) ?_
      refine ⟨?_, N5, rfl⟩
      first | (rcases hvi with ⟨e_, q_⟩ | ⟨e_, q_⟩ <;> simp_all [nar]; done) | simp_all [nar]
    · refine own_go (fun t_ k_ => XS.ifNo X5.here hx rfl (hb hby d8_28) rfl ((if0 _ _).trans (feq hc6).1) k_) ?_
      show own_Ends _ _ _ _ _ _ _ T5 (mkF m 31 #[.val (.ref t), .val (.ref y)] [])
      refine own_go (fun t_ k_ => XS.iconst X5.here hx rfl (hb hby d8_31) k_) ?_
      show own_Ends _ _ _ _ _ _ _ T5 (mkF m 32 #[.val (.ref t), .val (.ref y)] [(.int (1 : Int32))])
      refine own_go (fun t_ k_ => XS.goto X5.here hx rfl (pc0 := 32) (pc' := 36) rfl (hb hby d8_32) (by decide) (by decide) k_) ?_
      show own_Ends _ _ _ _ _ _ _ T5 (mkF m 36 #[.val (.ref t), .val (.ref y)] [(.int (1 : Int32))])
      refine own_retN X5 hx hlk (t := .boolean) hret (by simp) (hb hby d8_36) e5 (by decide) (by decide) ?_
      refine ⟨?_, N5, rfl⟩
      first | (rcases hvi with ⟨e_, q_⟩ | ⟨e_, q_⟩ <;> simp_all [nar]; done) | simp_all [nar]
  · refine own_go (fun t_ k_ => XT.acmpNo X2.here hx rfl (hb hby d8_7) rfl rfl rfl (XT.aa_eq_f (fun q => hc3 (Value.ref.inj q))) k_) ?_
    show own_Ends _ _ _ _ _ _ _ T2 (mkF m 10 #[.val (.ref t), .val (.ref y)] [])
    refine own_go (fun t_ k_ => XS.aloadN X2.here hx rfl (hb hby d8_10) rfl rfl  k_) ?_
    show own_Ends _ _ _ _ _ _ _ T2 (mkF m 11 #[.val (.ref t), .val (.ref y)] [(.ref t)])
    obtain ⟨T7, X7, e7, st7⟩ := getF X2 hx hZ hown (host := "") (Or.inl (hw _ (List.mem_of_getElem? (i := 45) rfl))) Via.refl e2 Fk (g := (mkF m 11 #[.val (.ref t), .val (.ref y)] [(.ref t)])) rfl rfl (hb hby d8_11)
    refine own_go st7 ?_
    show own_Ends _ _ _ _ _ _ _ T7 (mkF m 14 #[.val (.ref t), .val (.ref y)] [(.ref kd)])
    obtain ⟨T8, X8, e8, st8⟩ := getS2 X7 hx hZ hown (host := "") (Or.inl (hw _ (List.mem_of_getElem? (i := 64) rfl))) Via.refl e7 SK (g := (mkF m 14 #[.val (.ref t), .val (.ref y)] [(.ref kd)])) rfl (hb hby d8_14)
    refine own_go st8 ?_
    show own_Ends _ _ _ _ _ _ _ T8 (mkF m 17 #[.val (.ref t), .val (.ref y)] [(.ref wK), (.ref kd)])
    by_cases hc9 : kd = wK
    · refine own_go (fun t_ k_ => XT.acmpNo X8.here hx rfl (hb hby d8_17) rfl rfl rfl (XT.aa_ne_f (congrArg Value.ref hc9)) k_) ?_
      show own_Ends _ _ _ _ _ _ _ T8 (mkF m 20 #[.val (.ref t), .val (.ref y)] [])
      refine own_go (fun t_ k_ => XS.aloadN X8.here hx rfl (hb hby d8_20) rfl rfl  k_) ?_
      show own_Ends _ _ _ _ _ _ _ T8 (mkF m 21 #[.val (.ref t), .val (.ref y)] [(.ref t)])
      obtain ⟨T10, X10, e10, st10⟩ := getF X8 hx hZ hown (host := "") (Or.inl (hw _ (List.mem_of_getElem? (i := 47) rfl))) Via.refl e8 Ft (g := (mkF m 21 #[.val (.ref t), .val (.ref y)] [(.ref t)])) rfl rfl (hb hby d8_21)
      refine own_go st10 ?_
      show own_Ends _ _ _ _ _ _ _ T10 (mkF m 24 #[.val (.ref t), .val (.ref y)] [(.ref x)])
      refine own_go (fun t_ k_ => XS.aloadN X10.here hx rfl (hb hby d8_24) rfl rfl  k_) ?_
      show own_Ends _ _ _ _ _ _ _ T10 (mkF m 25 #[.val (.ref t), .val (.ref y)] [(.ref y), (.ref x)])
      obtain ⟨T11, v11, L11, X11, hQ11, st11⟩ := own_callVB X10 hx hZ (y := (⟨"java/lang/String", "equals", "(Ljava/lang/Object;)Z"⟩ : MethodName)) (z := (⟨"java/lang/String", "equals", "(Ljava/lang/Object;)Z"⟩ : MethodName)) (rc := 0) (rs := 0) (Q' := fun v h' L => (((v = some (.int 1) ∧ cs = ds) ∨ (v = some (.int 0) ∧ ¬ cs = ds)) ∧ L = [] ∧ h' = h0)) hown (hw _ (List.mem_of_getElem? (i := 71) rfl)) (hw _ (List.mem_of_getElem? (i := 72) rfl)) (notFace_of_selects (args := #[]) (mvT hZ (hw _ (List.mem_of_getElem? (i := 74) rfl)))) (hw _ (List.mem_of_getElem? (i := 74) rfl)) (hw _ (List.mem_of_getElem? (i := 73) rfl)) (by decide) (StrChars.Road.eqW (W := 0) hZ (own_hwe hw) (kI := 4) (hw _ (List.mem_of_getElem? (i := 6) rfl)) Es1 Vs1 Cs1 As1 (Or.inl ⟨rfl, rfl, rfl, fun c hc => (hr1 c hc).2⟩) (own_65 hr1) hl1 Es2 Vs2 Cs2 As2 (Or.inl ⟨rfl, rfl, rfl, fun c hc => (hr2 c hc).2⟩) (own_65 hr2) hl2 SC hzc (by decide) (by decide)) e10 (g := (mkF m 25 #[.val (.ref t), .val (.ref y)] [(.ref y), (.ref x)])) rfl (by rw [hml]; rfl) x Es1 [(.ref y)] [] rfl (lenOf pd__Ljava_lang_Object__Z rfl) rfl (by show 2 * 0 + _ ≤ _; exact Nat.le_of_eq rfl) (hb hby d8_25) (by decide) (by decide)
      obtain ⟨hq11, rfl, e11⟩ := hQ11
      obtain ⟨vi, rfl, hvi⟩ := own_eq01 hq11
      refine own_go st11 ?_
      have N11 := Fr.app N0 (Fr.nil n0)
      show own_Ends _ _ _ _ _ _ _ T11 (mkF m 28 #[.val (.ref t), .val (.ref y)] [(.int vi)])
      by_cases hc12 : vi = (0 : Int32)
      · refine own_go (fun t_ k_ => XS.ifYes X11.here hx rfl (pc0 := 28) (pc' := 35) rfl (hb hby d8_28) rfl ((if0 _ _).trans (teq hc12).1) (by decide) (by decide) k_) ?_
        show own_Ends _ _ _ _ _ _ _ T11 (mkF m 35 #[.val (.ref t), .val (.ref y)] [])
        refine own_go (fun t_ k_ => XS.iconst X11.here hx rfl (hb hby d8_35) k_) ?_
        show own_Ends _ _ _ _ _ _ _ T11 (mkF m 36 #[.val (.ref t), .val (.ref y)] [(.int (0 : Int32))])
        refine own_retN X11 hx hlk (t := .boolean) hret (by simp) (hb hby d8_36) e11 (by decide) (by decide) ?_
        refine ⟨?_, N11, rfl⟩
        first | (rcases hvi with ⟨e_, q_⟩ | ⟨e_, q_⟩ <;> simp_all [nar]; done) | simp_all [nar]
      · refine own_go (fun t_ k_ => XS.ifNo X11.here hx rfl (hb hby d8_28) rfl ((if0 _ _).trans (feq hc12).1) k_) ?_
        show own_Ends _ _ _ _ _ _ _ T11 (mkF m 31 #[.val (.ref t), .val (.ref y)] [])
        refine own_go (fun t_ k_ => XS.iconst X11.here hx rfl (hb hby d8_31) k_) ?_
        show own_Ends _ _ _ _ _ _ _ T11 (mkF m 32 #[.val (.ref t), .val (.ref y)] [(.int (1 : Int32))])
        refine own_go (fun t_ k_ => XS.goto X11.here hx rfl (pc0 := 32) (pc' := 36) rfl (hb hby d8_32) (by decide) (by decide) k_) ?_
        show own_Ends _ _ _ _ _ _ _ T11 (mkF m 36 #[.val (.ref t), .val (.ref y)] [(.int (1 : Int32))])
        refine own_retN X11 hx hlk (t := .boolean) hret (by simp) (hb hby d8_36) e11 (by decide) (by decide) ?_
        refine ⟨?_, N11, rfl⟩
        first | (rcases hvi with ⟨e_, q_⟩ | ⟨e_, q_⟩ <;> simp_all [nar]; done) | simp_all [nar]
    · refine own_go (fun t_ k_ => XT.acmpYes X8.here hx rfl (pc0 := 17) (pc' := 35) rfl (hb hby d8_17) rfl rfl rfl (XT.aa_ne_t (fun q => hc9 (Value.ref.inj q))) (by decide) (by decide) k_) ?_
      show own_Ends _ _ _ _ _ _ _ T8 (mkF m 35 #[.val (.ref t), .val (.ref y)] [])
      refine own_go (fun t_ k_ => XS.iconst X8.here hx rfl (hb hby d8_35) k_) ?_
      show own_Ends _ _ _ _ _ _ _ T8 (mkF m 36 #[.val (.ref t), .val (.ref y)] [(.int (0 : Int32))])
      refine own_retN X8 hx hlk (t := .boolean) hret (by simp) (hb hby d8_36) e8 (by decide) (by decide) ?_
      refine ⟨?_, N0, rfl⟩
      first | (rcases hvi with ⟨e_, q_⟩ | ⟨e_, q_⟩ <;> simp_all [nar]; done) | simp_all [nar]
theorem own_seven (x : Int32) : (x &&& (2147483647 : Int32)) % (7 : Int32) = 0 ∨ (x &&& (2147483647 : Int32)) % (7 : Int32) = 1 ∨ (x &&& (2147483647 : Int32)) % (7 : Int32) = 2 ∨ (x &&& (2147483647 : Int32)) % (7 : Int32) = 3 ∨ (x &&& (2147483647 : Int32)) % (7 : Int32) = 4 ∨ (x &&& (2147483647 : Int32)) % (7 : Int32) = 5 ∨ (x &&& (2147483647 : Int32)) % (7 : Int32) = 6 := by
  have h1 := c_and x 2147483647 (by decide)
  have h2 := (c_iremV (x &&& 2147483647) 7).1 h1.1 (by decide)
  have h3 : (7 : Int32).toInt = 7 := rfl
  simp only [← Int32.toInt_inj]
  simp only [show (0 : Int32).toInt = 0 from rfl, show (1 : Int32).toInt = 1 from rfl, show (2 : Int32).toInt = 2 from rfl, show (3 : Int32).toInt = 3 from rfl, show (4 : Int32).toInt = 4 from rfl, show (5 : Int32).toInt = 5 from rfl, show (6 : Int32).toInt = 6 from rfl, show (7 : Int32).toInt = 7 from rfl]
  omega
theorem own_kindF {i : Int32} {w0 w1 w2 w3 w4 w5 w6 : Addr} (hi : i = 0 ∨ i = 1 ∨ i = 2 ∨ i = 3 ∨ i = 4 ∨ i = 5 ∨ i = 6) (n5_0 : ¬ w0 = w5) (n5_1 : ¬ w1 = w5) (n5_2 : ¬ w2 = w5) (n5_3 : ¬ w3 = w5) (n5_4 : ¬ w4 = w5) (n5_6 : ¬ w6 = w5) (n1_0 : ¬ w0 = w1) (n1_2 : ¬ w2 = w1) (n1_3 : ¬ w3 = w1) (n1_4 : ¬ w4 = w1) (n1_5 : ¬ w5 = w1) (n1_6 : ¬ w6 = w1) : (own_kind i w0 w1 w2 w3 w4 w5 w6 = w5 ∨ own_kind i w0 w1 w2 w3 w4 w5 w6 = w1) ↔ (i = 1 ∨ i = 5) := by
  rcases hi with rfl | rfl | rfl | rfl | rfl | rfl | rfl <;> simp [own_kind, *]
theorem own_r1 {K S A B : Prop} [Decidable A] [Decidable B] {z1 z2 r : Int32} (h1 : (z1 = 1 ∧ K) ∨ (z1 = 0 ∧ ¬ K)) (h2 : (z2 = 1 ∧ S) ∨ (z2 = 0 ∧ ¬ S)) (hA : A ↔ K) (hB : B ↔ S) (hr : r = if A ∧ B then 1 else 0) (n1 : ¬ z1 = 0) (n2 : ¬ z2 = 0) : r = 1 := by
  rcases h1 with ⟨-, h1⟩ | ⟨h1, -⟩
  · rcases h2 with ⟨-, h2⟩ | ⟨h2, -⟩
    · rw [hr, if_pos ⟨hA.mpr h1, hB.mpr h2⟩]
    · exact absurd h2 n2
  · exact absurd h1 n1
theorem own_r0a {K S A B : Prop} [Decidable A] [Decidable B] {z1 z2 r : Int32} (h1 : (z1 = 1 ∧ K) ∨ (z1 = 0 ∧ ¬ K)) (hA : A ↔ K) (hr : r = if A ∧ B then 1 else 0) (n1 : z1 = 0) : r = 0 := by
  rcases h1 with ⟨q, -⟩ | ⟨-, h1⟩
  · rw [q] at n1; exact absurd n1 (by decide)
  · rw [hr, if_neg fun q => h1 (hA.mp q.1)]
theorem own_r0b {K S A B : Prop} [Decidable A] [Decidable B] {z1 z2 r : Int32} (h2 : (z2 = 1 ∧ S) ∨ (z2 = 0 ∧ ¬ S)) (hB : B ↔ S) (hr : r = if A ∧ B then 1 else 0) (n2 : z2 = 0) : r = 0 := by
  rcases h2 with ⟨q, -⟩ | ⟨-, h2⟩
  · rw [q] at n2; exact absurd n2 (by decide)
  · rw [hr, if_neg fun q => h2 (hB.mp q.2)]
theorem pd__ICC_Ljava_lang_String_ : parseMethodDescriptor "(ICC)Ljava/lang/String;" = some ⟨[.int, .char, .char], some (.object "java/lang/String")⟩ := by decide +kernel
theorem pd__I_Lcom_example_ferret_ferret_frontend_Token_Kind_ : parseMethodDescriptor "(I)Lcom/example/ferret/ferret/frontend/Token$Kind;" = some ⟨[.int], some (.object "com/example/ferret/ferret/frontend/Token$Kind")⟩ := by decide +kernel
theorem pd__Lcom_example_ferret_ferret_frontend_Token_Kind_Ljava_lang_String_IILjava_lang_String_Z_V : parseMethodDescriptor "(Lcom/example/ferret/ferret/frontend/Token$Kind;Ljava/lang/String;IILjava/lang/String;Z)V" = some ⟨[(.object "com/example/ferret/ferret/frontend/Token$Kind"), (.object "java/lang/String"), .int, .int, (.object "java/lang/String"), .boolean], none⟩ := by decide +kernel
theorem pd__Ljava_lang_String__Z : parseMethodDescriptor "(Ljava/lang/String;)Z" = some ⟨[(.object "java/lang/String")], some .boolean⟩ := by decide +kernel
theorem pn0 : plainFor (⟨"com/example/ferret/ferret/frontend/TokenIsPinLaw", "law", "(IIIIII)Z"⟩ : MethodName) = true := plainFor_of_name (by first | (simp [plainName, overriddenIn]; done) | decide +kernel)
set_option maxRecDepth 65536 in
set_option maxHeartbeats 40000000 in
theorem rm0 (l : Launch) (Z : State) (a0 : Array Value) (hw : ∀ d ∈ tables_1, d.before a0 Z = true) (ws : List Jvm.Cond) (p0 : Int32) (p1 : Int32) (p2 : Int32) (p3 : Int32) (p4 : Int32) (p5 : Int32) (w0 w1 w2 w3 w4 w5 w6 : Addr) (zc : Int32) (h0 : Heap) (n0 : Nat) (Z0 : n0 ≤ h0.size) (S0 : Sta Z h0 "com/example/ferret/ferret/frontend/Token$Kind" "IDENTIFIER" "Lcom/example/ferret/ferret/frontend/Token$Kind;" (.ref w0)) (S1 : Sta Z h0 "com/example/ferret/ferret/frontend/Token$Kind" "KEYWORD" "Lcom/example/ferret/ferret/frontend/Token$Kind;" (.ref w1)) (S2 : Sta Z h0 "com/example/ferret/ferret/frontend/Token$Kind" "NUMBER" "Lcom/example/ferret/ferret/frontend/Token$Kind;" (.ref w2)) (S3 : Sta Z h0 "com/example/ferret/ferret/frontend/Token$Kind" "CHARACTER" "Lcom/example/ferret/ferret/frontend/Token$Kind;" (.ref w3)) (S4 : Sta Z h0 "com/example/ferret/ferret/frontend/Token$Kind" "STRING" "Lcom/example/ferret/ferret/frontend/Token$Kind;" (.ref w4)) (S5 : Sta Z h0 "com/example/ferret/ferret/frontend/Token$Kind" "PUNCTUATOR" "Lcom/example/ferret/ferret/frontend/Token$Kind;" (.ref w5)) (S6 : Sta Z h0 "com/example/ferret/ferret/frontend/Token$Kind" "END" "Lcom/example/ferret/ferret/frontend/Token$Kind;" (.ref w6)) (n5_0 : ¬ w0 = w5) (n5_1 : ¬ w1 = w5) (n5_2 : ¬ w2 = w5) (n5_3 : ¬ w3 = w5) (n5_4 : ¬ w4 = w5) (n5_6 : ¬ w6 = w5) (n1_0 : ¬ w0 = w1) (n1_2 : ¬ w2 = w1) (n1_3 : ¬ w3 = w1) (n1_4 : ¬ w4 = w1) (n1_5 : ¬ w5 = w1) (n1_6 : ¬ w6 = w1) (SC : Sta Z h0 "java/lang/String" "COMPACT_STRINGS" "Z" (.int zc)) (hzc : ¬ zc = 0) :
    own_MetW l x code maxLocals ret room_1 ws #[(.int p0), (.int p1), (.int p2), (.int p3), (.int p4), (.int p5)] Z own_EL h0 (fun v h L => v = some (.int 1) ∧ Fr n0 L) := by
  refine own_metW pn0 ?_
  intro p e s m below meth c s₁ hx X0 hZ e0 hby hml hown hnm hret hlk Iv0
  have N0 := Fr.nil n0
  refine own_atW (f' := mkF m 0 #[.val (.int p0), .val (.int p1), .val (.int p2), .val (.int p3), .val (.int p4), .val (.int p5), .unset, .unset, .unset, .unset, .unset, .unset, .unset, .unset, .unset, .unset, .unset, .unset, .unset, .unset, .unset] []) (by first | (simp [entryFrame, mkF, argsToLocals, Value.category, maxLocals]; done) | rfl) ?_
  show own_EndsW _ _ _ _ _ _ _ _ _ s₁ (mkF m 0 #[.val (.int p0), .val (.int p1), .val (.int p2), .val (.int p3), .val (.int p4), .val (.int p5), .unset, .unset, .unset, .unset, .unset, .unset, .unset, .unset, .unset, .unset, .unset, .unset, .unset, .unset, .unset] [])
  refine own_goW (fun t_ k_ => XS.iloadN X0.here hx rfl (hb hby at_0) rfl  k_) ?_
  show own_EndsW _ _ _ _ _ _ _ _ _ s₁ (mkF m 1 #[.val (.int p0), .val (.int p1), .val (.int p2), .val (.int p3), .val (.int p4), .val (.int p5), .unset, .unset, .unset, .unset, .unset, .unset, .unset, .unset, .unset, .unset, .unset, .unset, .unset, .unset, .unset] [(.int p0)])
  refine own_goW (X0.ldcInt hx hown (mvT hZ (hw _ (List.mem_of_getElem? (i := 0) rfl))) (g := (mkF m 1 #[.val (.int p0), .val (.int p1), .val (.int p2), .val (.int p3), .val (.int p4), .val (.int p5), .unset, .unset, .unset, .unset, .unset, .unset, .unset, .unset, .unset, .unset, .unset, .unset, .unset, .unset, .unset] [(.int p0)])) rfl (hb hby at_1)) ?_
  show own_EndsW _ _ _ _ _ _ _ _ _ s₁ (mkF m 3 #[.val (.int p0), .val (.int p1), .val (.int p2), .val (.int p3), .val (.int p4), .val (.int p5), .unset, .unset, .unset, .unset, .unset, .unset, .unset, .unset, .unset, .unset, .unset, .unset, .unset, .unset, .unset] [(.int (2147483647 : Int32)), (.int p0)])
  refine own_goW (fun t_ k_ => XS.iand X0.here hx rfl (hb hby at_3) rfl k_) ?_
  show own_EndsW _ _ _ _ _ _ _ _ _ s₁ (mkF m 4 #[.val (.int p0), .val (.int p1), .val (.int p2), .val (.int p3), .val (.int p4), .val (.int p5), .unset, .unset, .unset, .unset, .unset, .unset, .unset, .unset, .unset, .unset, .unset, .unset, .unset, .unset, .unset] [(.int (p0 &&& (2147483647 : Int32)))])
  refine own_goW (fun t_ k_ => XS.bipush X0.here hx rfl (hb hby at_4) k_) ?_
  show own_EndsW _ _ _ _ _ _ _ _ _ s₁ (mkF m 6 #[.val (.int p0), .val (.int p1), .val (.int p2), .val (.int p3), .val (.int p4), .val (.int p5), .unset, .unset, .unset, .unset, .unset, .unset, .unset, .unset, .unset, .unset, .unset, .unset, .unset, .unset, .unset] [(.int (7 : Int32)), (.int (p0 &&& (2147483647 : Int32)))])
  refine own_goW (fun t_ k_ => own_irem X0 hx rfl (hb hby at_6) rfl (by decide) k_) ?_
  show own_EndsW _ _ _ _ _ _ _ _ _ s₁ (mkF m 7 #[.val (.int p0), .val (.int p1), .val (.int p2), .val (.int p3), .val (.int p4), .val (.int p5), .unset, .unset, .unset, .unset, .unset, .unset, .unset, .unset, .unset, .unset, .unset, .unset, .unset, .unset, .unset] [(.int ((p0 &&& (2147483647 : Int32)) % (7 : Int32)))])
  refine own_goW (fun t_ k_ => XS.istore X0.here hx rfl (hb hby at_7) rfl (l' := #[.val (.int p0), .val (.int p1), .val (.int p2), .val (.int p3), .val (.int p4), .val (.int p5), .val (.int ((p0 &&& (2147483647 : Int32)) % (7 : Int32))), .unset, .unset, .unset, .unset, .unset, .unset, .unset, .unset, .unset, .unset, .unset, .unset, .unset, .unset]) rfl k_) ?_
  show own_EndsW _ _ _ _ _ _ _ _ _ s₁ (mkF m 9 #[.val (.int p0), .val (.int p1), .val (.int p2), .val (.int p3), .val (.int p4), .val (.int p5), .val (.int ((p0 &&& (2147483647 : Int32)) % (7 : Int32))), .unset, .unset, .unset, .unset, .unset, .unset, .unset, .unset, .unset, .unset, .unset, .unset, .unset, .unset] [])
  refine own_goW (fun t_ k_ => XS.iloadN X0.here hx rfl (hb hby at_9) rfl  k_) ?_
  show own_EndsW _ _ _ _ _ _ _ _ _ s₁ (mkF m 10 #[.val (.int p0), .val (.int p1), .val (.int p2), .val (.int p3), .val (.int p4), .val (.int p5), .val (.int ((p0 &&& (2147483647 : Int32)) % (7 : Int32))), .unset, .unset, .unset, .unset, .unset, .unset, .unset, .unset, .unset, .unset, .unset, .unset, .unset, .unset] [(.int p1)])
  refine own_goW (fun t_ k_ => XS.sipush X0.here hx rfl (hb hby at_10) k_) ?_
  show own_EndsW _ _ _ _ _ _ _ _ _ s₁ (mkF m 13 #[.val (.int p0), .val (.int p1), .val (.int p2), .val (.int p3), .val (.int p4), .val (.int p5), .val (.int ((p0 &&& (2147483647 : Int32)) % (7 : Int32))), .unset, .unset, .unset, .unset, .unset, .unset, .unset, .unset, .unset, .unset, .unset, .unset, .unset, .unset] [(.int (255 : Int32)), (.int p1)])
  refine own_goW (fun t_ k_ => XS.iand X0.here hx rfl (hb hby at_13) rfl k_) ?_
  show own_EndsW _ _ _ _ _ _ _ _ _ s₁ (mkF m 14 #[.val (.int p0), .val (.int p1), .val (.int p2), .val (.int p3), .val (.int p4), .val (.int p5), .val (.int ((p0 &&& (2147483647 : Int32)) % (7 : Int32))), .unset, .unset, .unset, .unset, .unset, .unset, .unset, .unset, .unset, .unset, .unset, .unset, .unset, .unset] [(.int (p1 &&& (255 : Int32)))])
  refine own_goW (fun t_ k_ => XT.i2c X0.here hx rfl (hb hby at_14) rfl k_) ?_
  show own_EndsW _ _ _ _ _ _ _ _ _ s₁ (mkF m 15 #[.val (.int p0), .val (.int p1), .val (.int p2), .val (.int p3), .val (.int p4), .val (.int p5), .val (.int ((p0 &&& (2147483647 : Int32)) % (7 : Int32))), .unset, .unset, .unset, .unset, .unset, .unset, .unset, .unset, .unset, .unset, .unset, .unset, .unset, .unset] [(.int ((p1 &&& (255 : Int32)).toUInt32.toUInt16.toUInt32.toInt32))])
  refine own_goW (fun t_ k_ => XS.istore X0.here hx rfl (hb hby at_15) rfl (l' := #[.val (.int p0), .val (.int p1), .val (.int p2), .val (.int p3), .val (.int p4), .val (.int p5), .val (.int ((p0 &&& (2147483647 : Int32)) % (7 : Int32))), .val (.int ((p1 &&& (255 : Int32)).toUInt32.toUInt16.toUInt32.toInt32)), .unset, .unset, .unset, .unset, .unset, .unset, .unset, .unset, .unset, .unset, .unset, .unset, .unset]) rfl k_) ?_
  show own_EndsW _ _ _ _ _ _ _ _ _ s₁ (mkF m 17 #[.val (.int p0), .val (.int p1), .val (.int p2), .val (.int p3), .val (.int p4), .val (.int p5), .val (.int ((p0 &&& (2147483647 : Int32)) % (7 : Int32))), .val (.int ((p1 &&& (255 : Int32)).toUInt32.toUInt16.toUInt32.toInt32)), .unset, .unset, .unset, .unset, .unset, .unset, .unset, .unset, .unset, .unset, .unset, .unset, .unset] [])
  refine own_goW (fun t_ k_ => XS.iloadN X0.here hx rfl (hb hby at_17) rfl  k_) ?_
  show own_EndsW _ _ _ _ _ _ _ _ _ s₁ (mkF m 18 #[.val (.int p0), .val (.int p1), .val (.int p2), .val (.int p3), .val (.int p4), .val (.int p5), .val (.int ((p0 &&& (2147483647 : Int32)) % (7 : Int32))), .val (.int ((p1 &&& (255 : Int32)).toUInt32.toUInt16.toUInt32.toInt32)), .unset, .unset, .unset, .unset, .unset, .unset, .unset, .unset, .unset, .unset, .unset, .unset, .unset] [(.int p1)])
  refine own_goW (fun t_ k_ => XS.bipush X0.here hx rfl (hb hby at_18) k_) ?_
  show own_EndsW _ _ _ _ _ _ _ _ _ s₁ (mkF m 20 #[.val (.int p0), .val (.int p1), .val (.int p2), .val (.int p3), .val (.int p4), .val (.int p5), .val (.int ((p0 &&& (2147483647 : Int32)) % (7 : Int32))), .val (.int ((p1 &&& (255 : Int32)).toUInt32.toUInt16.toUInt32.toInt32)), .unset, .unset, .unset, .unset, .unset, .unset, .unset, .unset, .unset, .unset, .unset, .unset, .unset] [(.int (8 : Int32)), (.int p1)])
  refine own_goW (fun t_ k_ => XT.iushr X0.here hx rfl (hb hby at_20) rfl k_) ?_
  show own_EndsW _ _ _ _ _ _ _ _ _ s₁ (mkF m 21 #[.val (.int p0), .val (.int p1), .val (.int p2), .val (.int p3), .val (.int p4), .val (.int p5), .val (.int ((p0 &&& (2147483647 : Int32)) % (7 : Int32))), .val (.int ((p1 &&& (255 : Int32)).toUInt32.toUInt16.toUInt32.toInt32)), .unset, .unset, .unset, .unset, .unset, .unset, .unset, .unset, .unset, .unset, .unset, .unset, .unset] [(.int (XT.ushr p1 (8 : Int32)))])
  refine own_goW (fun t_ k_ => XS.sipush X0.here hx rfl (hb hby at_21) k_) ?_
  show own_EndsW _ _ _ _ _ _ _ _ _ s₁ (mkF m 24 #[.val (.int p0), .val (.int p1), .val (.int p2), .val (.int p3), .val (.int p4), .val (.int p5), .val (.int ((p0 &&& (2147483647 : Int32)) % (7 : Int32))), .val (.int ((p1 &&& (255 : Int32)).toUInt32.toUInt16.toUInt32.toInt32)), .unset, .unset, .unset, .unset, .unset, .unset, .unset, .unset, .unset, .unset, .unset, .unset, .unset] [(.int (255 : Int32)), (.int (XT.ushr p1 (8 : Int32)))])
  refine own_goW (fun t_ k_ => XS.iand X0.here hx rfl (hb hby at_24) rfl k_) ?_
  show own_EndsW _ _ _ _ _ _ _ _ _ s₁ (mkF m 25 #[.val (.int p0), .val (.int p1), .val (.int p2), .val (.int p3), .val (.int p4), .val (.int p5), .val (.int ((p0 &&& (2147483647 : Int32)) % (7 : Int32))), .val (.int ((p1 &&& (255 : Int32)).toUInt32.toUInt16.toUInt32.toInt32)), .unset, .unset, .unset, .unset, .unset, .unset, .unset, .unset, .unset, .unset, .unset, .unset, .unset] [(.int ((XT.ushr p1 (8 : Int32)) &&& (255 : Int32)))])
  refine own_goW (fun t_ k_ => XT.i2c X0.here hx rfl (hb hby at_25) rfl k_) ?_
  show own_EndsW _ _ _ _ _ _ _ _ _ s₁ (mkF m 26 #[.val (.int p0), .val (.int p1), .val (.int p2), .val (.int p3), .val (.int p4), .val (.int p5), .val (.int ((p0 &&& (2147483647 : Int32)) % (7 : Int32))), .val (.int ((p1 &&& (255 : Int32)).toUInt32.toUInt16.toUInt32.toInt32)), .unset, .unset, .unset, .unset, .unset, .unset, .unset, .unset, .unset, .unset, .unset, .unset, .unset] [(.int (((XT.ushr p1 (8 : Int32)) &&& (255 : Int32)).toUInt32.toUInt16.toUInt32.toInt32))])
  refine own_goW (fun t_ k_ => XS.istore X0.here hx rfl (hb hby at_26) rfl (l' := #[.val (.int p0), .val (.int p1), .val (.int p2), .val (.int p3), .val (.int p4), .val (.int p5), .val (.int ((p0 &&& (2147483647 : Int32)) % (7 : Int32))), .val (.int ((p1 &&& (255 : Int32)).toUInt32.toUInt16.toUInt32.toInt32)), .val (.int (((XT.ushr p1 (8 : Int32)) &&& (255 : Int32)).toUInt32.toUInt16.toUInt32.toInt32)), .unset, .unset, .unset, .unset, .unset, .unset, .unset, .unset, .unset, .unset, .unset, .unset]) rfl k_) ?_
  show own_EndsW _ _ _ _ _ _ _ _ _ s₁ (mkF m 28 #[.val (.int p0), .val (.int p1), .val (.int p2), .val (.int p3), .val (.int p4), .val (.int p5), .val (.int ((p0 &&& (2147483647 : Int32)) % (7 : Int32))), .val (.int ((p1 &&& (255 : Int32)).toUInt32.toUInt16.toUInt32.toInt32)), .val (.int (((XT.ushr p1 (8 : Int32)) &&& (255 : Int32)).toUInt32.toUInt16.toUInt32.toInt32)), .unset, .unset, .unset, .unset, .unset, .unset, .unset, .unset, .unset, .unset, .unset, .unset] [])
  refine own_goW (fun t_ k_ => XS.iloadN X0.here hx rfl (hb hby at_28) rfl  k_) ?_
  show own_EndsW _ _ _ _ _ _ _ _ _ s₁ (mkF m 29 #[.val (.int p0), .val (.int p1), .val (.int p2), .val (.int p3), .val (.int p4), .val (.int p5), .val (.int ((p0 &&& (2147483647 : Int32)) % (7 : Int32))), .val (.int ((p1 &&& (255 : Int32)).toUInt32.toUInt16.toUInt32.toInt32)), .val (.int (((XT.ushr p1 (8 : Int32)) &&& (255 : Int32)).toUInt32.toUInt16.toUInt32.toInt32)), .unset, .unset, .unset, .unset, .unset, .unset, .unset, .unset, .unset, .unset, .unset, .unset] [(.int p1)])
  refine own_goW (fun t_ k_ => XS.bipush X0.here hx rfl (hb hby at_29) k_) ?_
  show own_EndsW _ _ _ _ _ _ _ _ _ s₁ (mkF m 31 #[.val (.int p0), .val (.int p1), .val (.int p2), .val (.int p3), .val (.int p4), .val (.int p5), .val (.int ((p0 &&& (2147483647 : Int32)) % (7 : Int32))), .val (.int ((p1 &&& (255 : Int32)).toUInt32.toUInt16.toUInt32.toInt32)), .val (.int (((XT.ushr p1 (8 : Int32)) &&& (255 : Int32)).toUInt32.toUInt16.toUInt32.toInt32)), .unset, .unset, .unset, .unset, .unset, .unset, .unset, .unset, .unset, .unset, .unset, .unset] [(.int (16 : Int32)), (.int p1)])
  refine own_goW (fun t_ k_ => XT.iushr X0.here hx rfl (hb hby at_31) rfl k_) ?_
  show own_EndsW _ _ _ _ _ _ _ _ _ s₁ (mkF m 32 #[.val (.int p0), .val (.int p1), .val (.int p2), .val (.int p3), .val (.int p4), .val (.int p5), .val (.int ((p0 &&& (2147483647 : Int32)) % (7 : Int32))), .val (.int ((p1 &&& (255 : Int32)).toUInt32.toUInt16.toUInt32.toInt32)), .val (.int (((XT.ushr p1 (8 : Int32)) &&& (255 : Int32)).toUInt32.toUInt16.toUInt32.toInt32)), .unset, .unset, .unset, .unset, .unset, .unset, .unset, .unset, .unset, .unset, .unset, .unset] [(.int (XT.ushr p1 (16 : Int32)))])
  refine own_goW (fun t_ k_ => XS.iconst X0.here hx rfl (hb hby at_32) k_) ?_
  show own_EndsW _ _ _ _ _ _ _ _ _ s₁ (mkF m 33 #[.val (.int p0), .val (.int p1), .val (.int p2), .val (.int p3), .val (.int p4), .val (.int p5), .val (.int ((p0 &&& (2147483647 : Int32)) % (7 : Int32))), .val (.int ((p1 &&& (255 : Int32)).toUInt32.toUInt16.toUInt32.toInt32)), .val (.int (((XT.ushr p1 (8 : Int32)) &&& (255 : Int32)).toUInt32.toUInt16.toUInt32.toInt32)), .unset, .unset, .unset, .unset, .unset, .unset, .unset, .unset, .unset, .unset, .unset, .unset] [(.int (3 : Int32)), (.int (XT.ushr p1 (16 : Int32)))])
  refine own_goW (fun t_ k_ => XS.iand X0.here hx rfl (hb hby at_33) rfl k_) ?_
  show own_EndsW _ _ _ _ _ _ _ _ _ s₁ (mkF m 34 #[.val (.int p0), .val (.int p1), .val (.int p2), .val (.int p3), .val (.int p4), .val (.int p5), .val (.int ((p0 &&& (2147483647 : Int32)) % (7 : Int32))), .val (.int ((p1 &&& (255 : Int32)).toUInt32.toUInt16.toUInt32.toInt32)), .val (.int (((XT.ushr p1 (8 : Int32)) &&& (255 : Int32)).toUInt32.toUInt16.toUInt32.toInt32)), .unset, .unset, .unset, .unset, .unset, .unset, .unset, .unset, .unset, .unset, .unset, .unset] [(.int ((XT.ushr p1 (16 : Int32)) &&& (3 : Int32)))])
  refine own_goW (fun t_ k_ => XS.iconst X0.here hx rfl (hb hby at_34) k_) ?_
  show own_EndsW _ _ _ _ _ _ _ _ _ s₁ (mkF m 35 #[.val (.int p0), .val (.int p1), .val (.int p2), .val (.int p3), .val (.int p4), .val (.int p5), .val (.int ((p0 &&& (2147483647 : Int32)) % (7 : Int32))), .val (.int ((p1 &&& (255 : Int32)).toUInt32.toUInt16.toUInt32.toInt32)), .val (.int (((XT.ushr p1 (8 : Int32)) &&& (255 : Int32)).toUInt32.toUInt16.toUInt32.toInt32)), .unset, .unset, .unset, .unset, .unset, .unset, .unset, .unset, .unset, .unset, .unset, .unset] [(.int (3 : Int32)), (.int ((XT.ushr p1 (16 : Int32)) &&& (3 : Int32)))])
  refine own_goW (fun t_ k_ => own_irem X0 hx rfl (hb hby at_35) rfl (by decide) k_) ?_
  show own_EndsW _ _ _ _ _ _ _ _ _ s₁ (mkF m 36 #[.val (.int p0), .val (.int p1), .val (.int p2), .val (.int p3), .val (.int p4), .val (.int p5), .val (.int ((p0 &&& (2147483647 : Int32)) % (7 : Int32))), .val (.int ((p1 &&& (255 : Int32)).toUInt32.toUInt16.toUInt32.toInt32)), .val (.int (((XT.ushr p1 (8 : Int32)) &&& (255 : Int32)).toUInt32.toUInt16.toUInt32.toInt32)), .unset, .unset, .unset, .unset, .unset, .unset, .unset, .unset, .unset, .unset, .unset, .unset] [(.int (((XT.ushr p1 (16 : Int32)) &&& (3 : Int32)) % (3 : Int32)))])
  refine own_goW (fun t_ k_ => XS.istore X0.here hx rfl (hb hby at_36) rfl (l' := #[.val (.int p0), .val (.int p1), .val (.int p2), .val (.int p3), .val (.int p4), .val (.int p5), .val (.int ((p0 &&& (2147483647 : Int32)) % (7 : Int32))), .val (.int ((p1 &&& (255 : Int32)).toUInt32.toUInt16.toUInt32.toInt32)), .val (.int (((XT.ushr p1 (8 : Int32)) &&& (255 : Int32)).toUInt32.toUInt16.toUInt32.toInt32)), .val (.int (((XT.ushr p1 (16 : Int32)) &&& (3 : Int32)) % (3 : Int32))), .unset, .unset, .unset, .unset, .unset, .unset, .unset, .unset, .unset, .unset, .unset]) rfl k_) ?_
  have J56 : ∀ (d0 : Int32) (hd0 : 0 ≤ d0.toInt ∧ d0.toInt ≤ 255), own_EndsW p e below s Z own_EL (fun v h L => v = some (.int 1) ∧ Fr n0 L) room_1.cells room_1.slots s₁ (mkF m 56 #[.val (.int p0), .val (.int p1), .val (.int p2), .val (.int p3), .val (.int p4), .val (.int p5), .val (.int ((p0 &&& (2147483647 : Int32)) % (7 : Int32))), .val (.int ((p1 &&& (255 : Int32)).toUInt32.toUInt16.toUInt32.toInt32)), .val (.int (((XT.ushr p1 (8 : Int32)) &&& (255 : Int32)).toUInt32.toUInt16.toUInt32.toInt32)), .val (.int (((XT.ushr p1 (16 : Int32)) &&& (3 : Int32)) % (3 : Int32))), .unset, .unset, .unset, .unset, .unset, .unset, .unset, .unset, .unset, .unset, .unset] [(.int d0)]) := by
    intro d0 hd0
    show own_EndsW _ _ _ _ _ _ _ _ _ s₁ (mkF m 56 #[.val (.int p0), .val (.int p1), .val (.int p2), .val (.int p3), .val (.int p4), .val (.int p5), .val (.int ((p0 &&& (2147483647 : Int32)) % (7 : Int32))), .val (.int ((p1 &&& (255 : Int32)).toUInt32.toUInt16.toUInt32.toInt32)), .val (.int (((XT.ushr p1 (8 : Int32)) &&& (255 : Int32)).toUInt32.toUInt16.toUInt32.toInt32)), .val (.int (((XT.ushr p1 (16 : Int32)) &&& (3 : Int32)) % (3 : Int32))), .unset, .unset, .unset, .unset, .unset, .unset, .unset, .unset, .unset, .unset, .unset] [(.int d0)])
    refine own_goW (fun t_ k_ => XS.istore X0.here hx rfl (hb hby at_56) rfl (l' := #[.val (.int p0), .val (.int p1), .val (.int p2), .val (.int p3), .val (.int p4), .val (.int p5), .val (.int ((p0 &&& (2147483647 : Int32)) % (7 : Int32))), .val (.int ((p1 &&& (255 : Int32)).toUInt32.toUInt16.toUInt32.toInt32)), .val (.int (((XT.ushr p1 (8 : Int32)) &&& (255 : Int32)).toUInt32.toUInt16.toUInt32.toInt32)), .val (.int (((XT.ushr p1 (16 : Int32)) &&& (3 : Int32)) % (3 : Int32))), .val (.int d0), .unset, .unset, .unset, .unset, .unset, .unset, .unset, .unset, .unset, .unset]) rfl k_) ?_
    have J76 : ∀ (d1 : Int32) (hd1 : 0 ≤ d1.toInt ∧ d1.toInt ≤ 255), own_EndsW p e below s Z own_EL (fun v h L => v = some (.int 1) ∧ Fr n0 L) room_1.cells room_1.slots s₁ (mkF m 76 #[.val (.int p0), .val (.int p1), .val (.int p2), .val (.int p3), .val (.int p4), .val (.int p5), .val (.int ((p0 &&& (2147483647 : Int32)) % (7 : Int32))), .val (.int ((p1 &&& (255 : Int32)).toUInt32.toUInt16.toUInt32.toInt32)), .val (.int (((XT.ushr p1 (8 : Int32)) &&& (255 : Int32)).toUInt32.toUInt16.toUInt32.toInt32)), .val (.int (((XT.ushr p1 (16 : Int32)) &&& (3 : Int32)) % (3 : Int32))), .val (.int d0), .unset, .unset, .unset, .unset, .unset, .unset, .unset, .unset, .unset, .unset] [(.int d1)]) := by
      intro d1 hd1
      show own_EndsW _ _ _ _ _ _ _ _ _ s₁ (mkF m 76 #[.val (.int p0), .val (.int p1), .val (.int p2), .val (.int p3), .val (.int p4), .val (.int p5), .val (.int ((p0 &&& (2147483647 : Int32)) % (7 : Int32))), .val (.int ((p1 &&& (255 : Int32)).toUInt32.toUInt16.toUInt32.toInt32)), .val (.int (((XT.ushr p1 (8 : Int32)) &&& (255 : Int32)).toUInt32.toUInt16.toUInt32.toInt32)), .val (.int (((XT.ushr p1 (16 : Int32)) &&& (3 : Int32)) % (3 : Int32))), .val (.int d0), .unset, .unset, .unset, .unset, .unset, .unset, .unset, .unset, .unset, .unset] [(.int d1)])
      refine own_goW (fun t_ k_ => XS.istore X0.here hx rfl (hb hby at_76) rfl (l' := #[.val (.int p0), .val (.int p1), .val (.int p2), .val (.int p3), .val (.int p4), .val (.int p5), .val (.int ((p0 &&& (2147483647 : Int32)) % (7 : Int32))), .val (.int ((p1 &&& (255 : Int32)).toUInt32.toUInt16.toUInt32.toInt32)), .val (.int (((XT.ushr p1 (8 : Int32)) &&& (255 : Int32)).toUInt32.toUInt16.toUInt32.toInt32)), .val (.int (((XT.ushr p1 (16 : Int32)) &&& (3 : Int32)) % (3 : Int32))), .val (.int d0), .val (.int d1), .unset, .unset, .unset, .unset, .unset, .unset, .unset, .unset, .unset]) rfl k_) ?_
      show own_EndsW _ _ _ _ _ _ _ _ _ s₁ (mkF m 78 #[.val (.int p0), .val (.int p1), .val (.int p2), .val (.int p3), .val (.int p4), .val (.int p5), .val (.int ((p0 &&& (2147483647 : Int32)) % (7 : Int32))), .val (.int ((p1 &&& (255 : Int32)).toUInt32.toUInt16.toUInt32.toInt32)), .val (.int (((XT.ushr p1 (8 : Int32)) &&& (255 : Int32)).toUInt32.toUInt16.toUInt32.toInt32)), .val (.int (((XT.ushr p1 (16 : Int32)) &&& (3 : Int32)) % (3 : Int32))), .val (.int d0), .val (.int d1), .unset, .unset, .unset, .unset, .unset, .unset, .unset, .unset, .unset] [])
      refine own_goW (fun t_ k_ => XS.iload X0.here hx rfl (hb hby at_78) rfl  k_) ?_
      show own_EndsW _ _ _ _ _ _ _ _ _ s₁ (mkF m 80 #[.val (.int p0), .val (.int p1), .val (.int p2), .val (.int p3), .val (.int p4), .val (.int p5), .val (.int ((p0 &&& (2147483647 : Int32)) % (7 : Int32))), .val (.int ((p1 &&& (255 : Int32)).toUInt32.toUInt16.toUInt32.toInt32)), .val (.int (((XT.ushr p1 (8 : Int32)) &&& (255 : Int32)).toUInt32.toUInt16.toUInt32.toInt32)), .val (.int (((XT.ushr p1 (16 : Int32)) &&& (3 : Int32)) % (3 : Int32))), .val (.int d0), .val (.int d1), .unset, .unset, .unset, .unset, .unset, .unset, .unset, .unset, .unset] [(.int ((p1 &&& (255 : Int32)).toUInt32.toUInt16.toUInt32.toInt32))])
      refine own_goW (fun t_ k_ => XS.iload X0.here hx rfl (hb hby at_80) rfl  k_) ?_
      show own_EndsW _ _ _ _ _ _ _ _ _ s₁ (mkF m 82 #[.val (.int p0), .val (.int p1), .val (.int p2), .val (.int p3), .val (.int p4), .val (.int p5), .val (.int ((p0 &&& (2147483647 : Int32)) % (7 : Int32))), .val (.int ((p1 &&& (255 : Int32)).toUInt32.toUInt16.toUInt32.toInt32)), .val (.int (((XT.ushr p1 (8 : Int32)) &&& (255 : Int32)).toUInt32.toUInt16.toUInt32.toInt32)), .val (.int (((XT.ushr p1 (16 : Int32)) &&& (3 : Int32)) % (3 : Int32))), .val (.int d0), .val (.int d1), .unset, .unset, .unset, .unset, .unset, .unset, .unset, .unset, .unset] [(.int d0), (.int ((p1 &&& (255 : Int32)).toUInt32.toUInt16.toUInt32.toInt32))])
      refine own_goW (fun t_ k_ => XT.ixor X0.here hx rfl (hb hby at_82) rfl k_) ?_
      show own_EndsW _ _ _ _ _ _ _ _ _ s₁ (mkF m 83 #[.val (.int p0), .val (.int p1), .val (.int p2), .val (.int p3), .val (.int p4), .val (.int p5), .val (.int ((p0 &&& (2147483647 : Int32)) % (7 : Int32))), .val (.int ((p1 &&& (255 : Int32)).toUInt32.toUInt16.toUInt32.toInt32)), .val (.int (((XT.ushr p1 (8 : Int32)) &&& (255 : Int32)).toUInt32.toUInt16.toUInt32.toInt32)), .val (.int (((XT.ushr p1 (16 : Int32)) &&& (3 : Int32)) % (3 : Int32))), .val (.int d0), .val (.int d1), .unset, .unset, .unset, .unset, .unset, .unset, .unset, .unset, .unset] [(.int (((p1 &&& (255 : Int32)).toUInt32.toUInt16.toUInt32.toInt32) ^^^ d0))])
      refine own_goW (fun t_ k_ => XT.i2c X0.here hx rfl (hb hby at_83) rfl k_) ?_
      show own_EndsW _ _ _ _ _ _ _ _ _ s₁ (mkF m 84 #[.val (.int p0), .val (.int p1), .val (.int p2), .val (.int p3), .val (.int p4), .val (.int p5), .val (.int ((p0 &&& (2147483647 : Int32)) % (7 : Int32))), .val (.int ((p1 &&& (255 : Int32)).toUInt32.toUInt16.toUInt32.toInt32)), .val (.int (((XT.ushr p1 (8 : Int32)) &&& (255 : Int32)).toUInt32.toUInt16.toUInt32.toInt32)), .val (.int (((XT.ushr p1 (16 : Int32)) &&& (3 : Int32)) % (3 : Int32))), .val (.int d0), .val (.int d1), .unset, .unset, .unset, .unset, .unset, .unset, .unset, .unset, .unset] [(.int ((((p1 &&& (255 : Int32)).toUInt32.toUInt16.toUInt32.toInt32) ^^^ d0).toUInt32.toUInt16.toUInt32.toInt32))])
      refine own_goW (fun t_ k_ => XS.istore X0.here hx rfl (hb hby at_84) rfl (l' := #[.val (.int p0), .val (.int p1), .val (.int p2), .val (.int p3), .val (.int p4), .val (.int p5), .val (.int ((p0 &&& (2147483647 : Int32)) % (7 : Int32))), .val (.int ((p1 &&& (255 : Int32)).toUInt32.toUInt16.toUInt32.toInt32)), .val (.int (((XT.ushr p1 (8 : Int32)) &&& (255 : Int32)).toUInt32.toUInt16.toUInt32.toInt32)), .val (.int (((XT.ushr p1 (16 : Int32)) &&& (3 : Int32)) % (3 : Int32))), .val (.int d0), .val (.int d1), .val (.int ((((p1 &&& (255 : Int32)).toUInt32.toUInt16.toUInt32.toInt32) ^^^ d0).toUInt32.toUInt16.toUInt32.toInt32)), .unset, .unset, .unset, .unset, .unset, .unset, .unset, .unset]) rfl k_) ?_
      show own_EndsW _ _ _ _ _ _ _ _ _ s₁ (mkF m 86 #[.val (.int p0), .val (.int p1), .val (.int p2), .val (.int p3), .val (.int p4), .val (.int p5), .val (.int ((p0 &&& (2147483647 : Int32)) % (7 : Int32))), .val (.int ((p1 &&& (255 : Int32)).toUInt32.toUInt16.toUInt32.toInt32)), .val (.int (((XT.ushr p1 (8 : Int32)) &&& (255 : Int32)).toUInt32.toUInt16.toUInt32.toInt32)), .val (.int (((XT.ushr p1 (16 : Int32)) &&& (3 : Int32)) % (3 : Int32))), .val (.int d0), .val (.int d1), .val (.int ((((p1 &&& (255 : Int32)).toUInt32.toUInt16.toUInt32.toInt32) ^^^ d0).toUInt32.toUInt16.toUInt32.toInt32)), .unset, .unset, .unset, .unset, .unset, .unset, .unset, .unset] [])
      refine own_goW (fun t_ k_ => XS.iload X0.here hx rfl (hb hby at_86) rfl  k_) ?_
      show own_EndsW _ _ _ _ _ _ _ _ _ s₁ (mkF m 88 #[.val (.int p0), .val (.int p1), .val (.int p2), .val (.int p3), .val (.int p4), .val (.int p5), .val (.int ((p0 &&& (2147483647 : Int32)) % (7 : Int32))), .val (.int ((p1 &&& (255 : Int32)).toUInt32.toUInt16.toUInt32.toInt32)), .val (.int (((XT.ushr p1 (8 : Int32)) &&& (255 : Int32)).toUInt32.toUInt16.toUInt32.toInt32)), .val (.int (((XT.ushr p1 (16 : Int32)) &&& (3 : Int32)) % (3 : Int32))), .val (.int d0), .val (.int d1), .val (.int ((((p1 &&& (255 : Int32)).toUInt32.toUInt16.toUInt32.toInt32) ^^^ d0).toUInt32.toUInt16.toUInt32.toInt32)), .unset, .unset, .unset, .unset, .unset, .unset, .unset, .unset] [(.int (((XT.ushr p1 (8 : Int32)) &&& (255 : Int32)).toUInt32.toUInt16.toUInt32.toInt32))])
      refine own_goW (fun t_ k_ => XS.iload X0.here hx rfl (hb hby at_88) rfl  k_) ?_
      show own_EndsW _ _ _ _ _ _ _ _ _ s₁ (mkF m 90 #[.val (.int p0), .val (.int p1), .val (.int p2), .val (.int p3), .val (.int p4), .val (.int p5), .val (.int ((p0 &&& (2147483647 : Int32)) % (7 : Int32))), .val (.int ((p1 &&& (255 : Int32)).toUInt32.toUInt16.toUInt32.toInt32)), .val (.int (((XT.ushr p1 (8 : Int32)) &&& (255 : Int32)).toUInt32.toUInt16.toUInt32.toInt32)), .val (.int (((XT.ushr p1 (16 : Int32)) &&& (3 : Int32)) % (3 : Int32))), .val (.int d0), .val (.int d1), .val (.int ((((p1 &&& (255 : Int32)).toUInt32.toUInt16.toUInt32.toInt32) ^^^ d0).toUInt32.toUInt16.toUInt32.toInt32)), .unset, .unset, .unset, .unset, .unset, .unset, .unset, .unset] [(.int d1), (.int (((XT.ushr p1 (8 : Int32)) &&& (255 : Int32)).toUInt32.toUInt16.toUInt32.toInt32))])
      refine own_goW (fun t_ k_ => XT.ixor X0.here hx rfl (hb hby at_90) rfl k_) ?_
      show own_EndsW _ _ _ _ _ _ _ _ _ s₁ (mkF m 91 #[.val (.int p0), .val (.int p1), .val (.int p2), .val (.int p3), .val (.int p4), .val (.int p5), .val (.int ((p0 &&& (2147483647 : Int32)) % (7 : Int32))), .val (.int ((p1 &&& (255 : Int32)).toUInt32.toUInt16.toUInt32.toInt32)), .val (.int (((XT.ushr p1 (8 : Int32)) &&& (255 : Int32)).toUInt32.toUInt16.toUInt32.toInt32)), .val (.int (((XT.ushr p1 (16 : Int32)) &&& (3 : Int32)) % (3 : Int32))), .val (.int d0), .val (.int d1), .val (.int ((((p1 &&& (255 : Int32)).toUInt32.toUInt16.toUInt32.toInt32) ^^^ d0).toUInt32.toUInt16.toUInt32.toInt32)), .unset, .unset, .unset, .unset, .unset, .unset, .unset, .unset] [(.int ((((XT.ushr p1 (8 : Int32)) &&& (255 : Int32)).toUInt32.toUInt16.toUInt32.toInt32) ^^^ d1))])
      refine own_goW (fun t_ k_ => XT.i2c X0.here hx rfl (hb hby at_91) rfl k_) ?_
      show own_EndsW _ _ _ _ _ _ _ _ _ s₁ (mkF m 92 #[.val (.int p0), .val (.int p1), .val (.int p2), .val (.int p3), .val (.int p4), .val (.int p5), .val (.int ((p0 &&& (2147483647 : Int32)) % (7 : Int32))), .val (.int ((p1 &&& (255 : Int32)).toUInt32.toUInt16.toUInt32.toInt32)), .val (.int (((XT.ushr p1 (8 : Int32)) &&& (255 : Int32)).toUInt32.toUInt16.toUInt32.toInt32)), .val (.int (((XT.ushr p1 (16 : Int32)) &&& (3 : Int32)) % (3 : Int32))), .val (.int d0), .val (.int d1), .val (.int ((((p1 &&& (255 : Int32)).toUInt32.toUInt16.toUInt32.toInt32) ^^^ d0).toUInt32.toUInt16.toUInt32.toInt32)), .unset, .unset, .unset, .unset, .unset, .unset, .unset, .unset] [(.int (((((XT.ushr p1 (8 : Int32)) &&& (255 : Int32)).toUInt32.toUInt16.toUInt32.toInt32) ^^^ d1).toUInt32.toUInt16.toUInt32.toInt32))])
      refine own_goW (fun t_ k_ => XS.istore X0.here hx rfl (hb hby at_92) rfl (l' := #[.val (.int p0), .val (.int p1), .val (.int p2), .val (.int p3), .val (.int p4), .val (.int p5), .val (.int ((p0 &&& (2147483647 : Int32)) % (7 : Int32))), .val (.int ((p1 &&& (255 : Int32)).toUInt32.toUInt16.toUInt32.toInt32)), .val (.int (((XT.ushr p1 (8 : Int32)) &&& (255 : Int32)).toUInt32.toUInt16.toUInt32.toInt32)), .val (.int (((XT.ushr p1 (16 : Int32)) &&& (3 : Int32)) % (3 : Int32))), .val (.int d0), .val (.int d1), .val (.int ((((p1 &&& (255 : Int32)).toUInt32.toUInt16.toUInt32.toInt32) ^^^ d0).toUInt32.toUInt16.toUInt32.toInt32)), .val (.int (((((XT.ushr p1 (8 : Int32)) &&& (255 : Int32)).toUInt32.toUInt16.toUInt32.toInt32) ^^^ d1).toUInt32.toUInt16.toUInt32.toInt32)), .unset, .unset, .unset, .unset, .unset, .unset, .unset]) rfl k_) ?_
      show own_EndsW _ _ _ _ _ _ _ _ _ s₁ (mkF m 94 #[.val (.int p0), .val (.int p1), .val (.int p2), .val (.int p3), .val (.int p4), .val (.int p5), .val (.int ((p0 &&& (2147483647 : Int32)) % (7 : Int32))), .val (.int ((p1 &&& (255 : Int32)).toUInt32.toUInt16.toUInt32.toInt32)), .val (.int (((XT.ushr p1 (8 : Int32)) &&& (255 : Int32)).toUInt32.toUInt16.toUInt32.toInt32)), .val (.int (((XT.ushr p1 (16 : Int32)) &&& (3 : Int32)) % (3 : Int32))), .val (.int d0), .val (.int d1), .val (.int ((((p1 &&& (255 : Int32)).toUInt32.toUInt16.toUInt32.toInt32) ^^^ d0).toUInt32.toUInt16.toUInt32.toInt32)), .val (.int (((((XT.ushr p1 (8 : Int32)) &&& (255 : Int32)).toUInt32.toUInt16.toUInt32.toInt32) ^^^ d1).toUInt32.toUInt16.toUInt32.toInt32)), .unset, .unset, .unset, .unset, .unset, .unset, .unset] [])
      refine own_goW (fun t_ k_ => XS.iloadN X0.here hx rfl (hb hby at_94) rfl  k_) ?_
      show own_EndsW _ _ _ _ _ _ _ _ _ s₁ (mkF m 95 #[.val (.int p0), .val (.int p1), .val (.int p2), .val (.int p3), .val (.int p4), .val (.int p5), .val (.int ((p0 &&& (2147483647 : Int32)) % (7 : Int32))), .val (.int ((p1 &&& (255 : Int32)).toUInt32.toUInt16.toUInt32.toInt32)), .val (.int (((XT.ushr p1 (8 : Int32)) &&& (255 : Int32)).toUInt32.toUInt16.toUInt32.toInt32)), .val (.int (((XT.ushr p1 (16 : Int32)) &&& (3 : Int32)) % (3 : Int32))), .val (.int d0), .val (.int d1), .val (.int ((((p1 &&& (255 : Int32)).toUInt32.toUInt16.toUInt32.toInt32) ^^^ d0).toUInt32.toUInt16.toUInt32.toInt32)), .val (.int (((((XT.ushr p1 (8 : Int32)) &&& (255 : Int32)).toUInt32.toUInt16.toUInt32.toInt32) ^^^ d1).toUInt32.toUInt16.toUInt32.toInt32)), .unset, .unset, .unset, .unset, .unset, .unset, .unset] [(.int p2)])
      refine own_goW (fun t_ k_ => XS.bipush X0.here hx rfl (hb hby at_95) k_) ?_
      show own_EndsW _ _ _ _ _ _ _ _ _ s₁ (mkF m 97 #[.val (.int p0), .val (.int p1), .val (.int p2), .val (.int p3), .val (.int p4), .val (.int p5), .val (.int ((p0 &&& (2147483647 : Int32)) % (7 : Int32))), .val (.int ((p1 &&& (255 : Int32)).toUInt32.toUInt16.toUInt32.toInt32)), .val (.int (((XT.ushr p1 (8 : Int32)) &&& (255 : Int32)).toUInt32.toUInt16.toUInt32.toInt32)), .val (.int (((XT.ushr p1 (16 : Int32)) &&& (3 : Int32)) % (3 : Int32))), .val (.int d0), .val (.int d1), .val (.int ((((p1 &&& (255 : Int32)).toUInt32.toUInt16.toUInt32.toInt32) ^^^ d0).toUInt32.toUInt16.toUInt32.toInt32)), .val (.int (((((XT.ushr p1 (8 : Int32)) &&& (255 : Int32)).toUInt32.toUInt16.toUInt32.toInt32) ^^^ d1).toUInt32.toUInt16.toUInt32.toInt32)), .unset, .unset, .unset, .unset, .unset, .unset, .unset] [(.int (24 : Int32)), (.int p2)])
      refine own_goW (fun t_ k_ => XT.iushr X0.here hx rfl (hb hby at_97) rfl k_) ?_
      show own_EndsW _ _ _ _ _ _ _ _ _ s₁ (mkF m 98 #[.val (.int p0), .val (.int p1), .val (.int p2), .val (.int p3), .val (.int p4), .val (.int p5), .val (.int ((p0 &&& (2147483647 : Int32)) % (7 : Int32))), .val (.int ((p1 &&& (255 : Int32)).toUInt32.toUInt16.toUInt32.toInt32)), .val (.int (((XT.ushr p1 (8 : Int32)) &&& (255 : Int32)).toUInt32.toUInt16.toUInt32.toInt32)), .val (.int (((XT.ushr p1 (16 : Int32)) &&& (3 : Int32)) % (3 : Int32))), .val (.int d0), .val (.int d1), .val (.int ((((p1 &&& (255 : Int32)).toUInt32.toUInt16.toUInt32.toInt32) ^^^ d0).toUInt32.toUInt16.toUInt32.toInt32)), .val (.int (((((XT.ushr p1 (8 : Int32)) &&& (255 : Int32)).toUInt32.toUInt16.toUInt32.toInt32) ^^^ d1).toUInt32.toUInt16.toUInt32.toInt32)), .unset, .unset, .unset, .unset, .unset, .unset, .unset] [(.int (XT.ushr p2 (24 : Int32)))])
      refine own_goW (fun t_ k_ => XS.iconst X0.here hx rfl (hb hby at_98) k_) ?_
      show own_EndsW _ _ _ _ _ _ _ _ _ s₁ (mkF m 99 #[.val (.int p0), .val (.int p1), .val (.int p2), .val (.int p3), .val (.int p4), .val (.int p5), .val (.int ((p0 &&& (2147483647 : Int32)) % (7 : Int32))), .val (.int ((p1 &&& (255 : Int32)).toUInt32.toUInt16.toUInt32.toInt32)), .val (.int (((XT.ushr p1 (8 : Int32)) &&& (255 : Int32)).toUInt32.toUInt16.toUInt32.toInt32)), .val (.int (((XT.ushr p1 (16 : Int32)) &&& (3 : Int32)) % (3 : Int32))), .val (.int d0), .val (.int d1), .val (.int ((((p1 &&& (255 : Int32)).toUInt32.toUInt16.toUInt32.toInt32) ^^^ d0).toUInt32.toUInt16.toUInt32.toInt32)), .val (.int (((((XT.ushr p1 (8 : Int32)) &&& (255 : Int32)).toUInt32.toUInt16.toUInt32.toInt32) ^^^ d1).toUInt32.toUInt16.toUInt32.toInt32)), .unset, .unset, .unset, .unset, .unset, .unset, .unset] [(.int (3 : Int32)), (.int (XT.ushr p2 (24 : Int32)))])
      refine own_goW (fun t_ k_ => XS.iand X0.here hx rfl (hb hby at_99) rfl k_) ?_
      show own_EndsW _ _ _ _ _ _ _ _ _ s₁ (mkF m 100 #[.val (.int p0), .val (.int p1), .val (.int p2), .val (.int p3), .val (.int p4), .val (.int p5), .val (.int ((p0 &&& (2147483647 : Int32)) % (7 : Int32))), .val (.int ((p1 &&& (255 : Int32)).toUInt32.toUInt16.toUInt32.toInt32)), .val (.int (((XT.ushr p1 (8 : Int32)) &&& (255 : Int32)).toUInt32.toUInt16.toUInt32.toInt32)), .val (.int (((XT.ushr p1 (16 : Int32)) &&& (3 : Int32)) % (3 : Int32))), .val (.int d0), .val (.int d1), .val (.int ((((p1 &&& (255 : Int32)).toUInt32.toUInt16.toUInt32.toInt32) ^^^ d0).toUInt32.toUInt16.toUInt32.toInt32)), .val (.int (((((XT.ushr p1 (8 : Int32)) &&& (255 : Int32)).toUInt32.toUInt16.toUInt32.toInt32) ^^^ d1).toUInt32.toUInt16.toUInt32.toInt32)), .unset, .unset, .unset, .unset, .unset, .unset, .unset] [(.int ((XT.ushr p2 (24 : Int32)) &&& (3 : Int32)))])
      refine own_goW (fun t_ k_ => XS.iconst X0.here hx rfl (hb hby at_100) k_) ?_
      show own_EndsW _ _ _ _ _ _ _ _ _ s₁ (mkF m 101 #[.val (.int p0), .val (.int p1), .val (.int p2), .val (.int p3), .val (.int p4), .val (.int p5), .val (.int ((p0 &&& (2147483647 : Int32)) % (7 : Int32))), .val (.int ((p1 &&& (255 : Int32)).toUInt32.toUInt16.toUInt32.toInt32)), .val (.int (((XT.ushr p1 (8 : Int32)) &&& (255 : Int32)).toUInt32.toUInt16.toUInt32.toInt32)), .val (.int (((XT.ushr p1 (16 : Int32)) &&& (3 : Int32)) % (3 : Int32))), .val (.int d0), .val (.int d1), .val (.int ((((p1 &&& (255 : Int32)).toUInt32.toUInt16.toUInt32.toInt32) ^^^ d0).toUInt32.toUInt16.toUInt32.toInt32)), .val (.int (((((XT.ushr p1 (8 : Int32)) &&& (255 : Int32)).toUInt32.toUInt16.toUInt32.toInt32) ^^^ d1).toUInt32.toUInt16.toUInt32.toInt32)), .unset, .unset, .unset, .unset, .unset, .unset, .unset] [(.int (3 : Int32)), (.int ((XT.ushr p2 (24 : Int32)) &&& (3 : Int32)))])
      refine own_goW (fun t_ k_ => own_irem X0 hx rfl (hb hby at_101) rfl (by decide) k_) ?_
      show own_EndsW _ _ _ _ _ _ _ _ _ s₁ (mkF m 102 #[.val (.int p0), .val (.int p1), .val (.int p2), .val (.int p3), .val (.int p4), .val (.int p5), .val (.int ((p0 &&& (2147483647 : Int32)) % (7 : Int32))), .val (.int ((p1 &&& (255 : Int32)).toUInt32.toUInt16.toUInt32.toInt32)), .val (.int (((XT.ushr p1 (8 : Int32)) &&& (255 : Int32)).toUInt32.toUInt16.toUInt32.toInt32)), .val (.int (((XT.ushr p1 (16 : Int32)) &&& (3 : Int32)) % (3 : Int32))), .val (.int d0), .val (.int d1), .val (.int ((((p1 &&& (255 : Int32)).toUInt32.toUInt16.toUInt32.toInt32) ^^^ d0).toUInt32.toUInt16.toUInt32.toInt32)), .val (.int (((((XT.ushr p1 (8 : Int32)) &&& (255 : Int32)).toUInt32.toUInt16.toUInt32.toInt32) ^^^ d1).toUInt32.toUInt16.toUInt32.toInt32)), .unset, .unset, .unset, .unset, .unset, .unset, .unset] [(.int (((XT.ushr p2 (24 : Int32)) &&& (3 : Int32)) % (3 : Int32)))])
      refine own_goW (fun t_ k_ => XS.istore X0.here hx rfl (hb hby at_102) rfl (l' := #[.val (.int p0), .val (.int p1), .val (.int p2), .val (.int p3), .val (.int p4), .val (.int p5), .val (.int ((p0 &&& (2147483647 : Int32)) % (7 : Int32))), .val (.int ((p1 &&& (255 : Int32)).toUInt32.toUInt16.toUInt32.toInt32)), .val (.int (((XT.ushr p1 (8 : Int32)) &&& (255 : Int32)).toUInt32.toUInt16.toUInt32.toInt32)), .val (.int (((XT.ushr p1 (16 : Int32)) &&& (3 : Int32)) % (3 : Int32))), .val (.int d0), .val (.int d1), .val (.int ((((p1 &&& (255 : Int32)).toUInt32.toUInt16.toUInt32.toInt32) ^^^ d0).toUInt32.toUInt16.toUInt32.toInt32)), .val (.int (((((XT.ushr p1 (8 : Int32)) &&& (255 : Int32)).toUInt32.toUInt16.toUInt32.toInt32) ^^^ d1).toUInt32.toUInt16.toUInt32.toInt32)), .val (.int (((XT.ushr p2 (24 : Int32)) &&& (3 : Int32)) % (3 : Int32))), .unset, .unset, .unset, .unset, .unset, .unset]) rfl k_) ?_
      show own_EndsW _ _ _ _ _ _ _ _ _ s₁ (mkF m 104 #[.val (.int p0), .val (.int p1), .val (.int p2), .val (.int p3), .val (.int p4), .val (.int p5), .val (.int ((p0 &&& (2147483647 : Int32)) % (7 : Int32))), .val (.int ((p1 &&& (255 : Int32)).toUInt32.toUInt16.toUInt32.toInt32)), .val (.int (((XT.ushr p1 (8 : Int32)) &&& (255 : Int32)).toUInt32.toUInt16.toUInt32.toInt32)), .val (.int (((XT.ushr p1 (16 : Int32)) &&& (3 : Int32)) % (3 : Int32))), .val (.int d0), .val (.int d1), .val (.int ((((p1 &&& (255 : Int32)).toUInt32.toUInt16.toUInt32.toInt32) ^^^ d0).toUInt32.toUInt16.toUInt32.toInt32)), .val (.int (((((XT.ushr p1 (8 : Int32)) &&& (255 : Int32)).toUInt32.toUInt16.toUInt32.toInt32) ^^^ d1).toUInt32.toUInt16.toUInt32.toInt32)), .val (.int (((XT.ushr p2 (24 : Int32)) &&& (3 : Int32)) % (3 : Int32))), .unset, .unset, .unset, .unset, .unset, .unset] [])
      refine own_goW (fun t_ k_ => XS.iload X0.here hx rfl (hb hby at_104) rfl  k_) ?_
      show own_EndsW _ _ _ _ _ _ _ _ _ s₁ (mkF m 106 #[.val (.int p0), .val (.int p1), .val (.int p2), .val (.int p3), .val (.int p4), .val (.int p5), .val (.int ((p0 &&& (2147483647 : Int32)) % (7 : Int32))), .val (.int ((p1 &&& (255 : Int32)).toUInt32.toUInt16.toUInt32.toInt32)), .val (.int (((XT.ushr p1 (8 : Int32)) &&& (255 : Int32)).toUInt32.toUInt16.toUInt32.toInt32)), .val (.int (((XT.ushr p1 (16 : Int32)) &&& (3 : Int32)) % (3 : Int32))), .val (.int d0), .val (.int d1), .val (.int ((((p1 &&& (255 : Int32)).toUInt32.toUInt16.toUInt32.toInt32) ^^^ d0).toUInt32.toUInt16.toUInt32.toInt32)), .val (.int (((((XT.ushr p1 (8 : Int32)) &&& (255 : Int32)).toUInt32.toUInt16.toUInt32.toInt32) ^^^ d1).toUInt32.toUInt16.toUInt32.toInt32)), .val (.int (((XT.ushr p2 (24 : Int32)) &&& (3 : Int32)) % (3 : Int32))), .unset, .unset, .unset, .unset, .unset, .unset] [(.int (((XT.ushr p1 (16 : Int32)) &&& (3 : Int32)) % (3 : Int32)))])
      refine own_goW (fun t_ k_ => XS.iload X0.here hx rfl (hb hby at_106) rfl  k_) ?_
      show own_EndsW _ _ _ _ _ _ _ _ _ s₁ (mkF m 108 #[.val (.int p0), .val (.int p1), .val (.int p2), .val (.int p3), .val (.int p4), .val (.int p5), .val (.int ((p0 &&& (2147483647 : Int32)) % (7 : Int32))), .val (.int ((p1 &&& (255 : Int32)).toUInt32.toUInt16.toUInt32.toInt32)), .val (.int (((XT.ushr p1 (8 : Int32)) &&& (255 : Int32)).toUInt32.toUInt16.toUInt32.toInt32)), .val (.int (((XT.ushr p1 (16 : Int32)) &&& (3 : Int32)) % (3 : Int32))), .val (.int d0), .val (.int d1), .val (.int ((((p1 &&& (255 : Int32)).toUInt32.toUInt16.toUInt32.toInt32) ^^^ d0).toUInt32.toUInt16.toUInt32.toInt32)), .val (.int (((((XT.ushr p1 (8 : Int32)) &&& (255 : Int32)).toUInt32.toUInt16.toUInt32.toInt32) ^^^ d1).toUInt32.toUInt16.toUInt32.toInt32)), .val (.int (((XT.ushr p2 (24 : Int32)) &&& (3 : Int32)) % (3 : Int32))), .unset, .unset, .unset, .unset, .unset, .unset] [(.int ((p1 &&& (255 : Int32)).toUInt32.toUInt16.toUInt32.toInt32)), (.int (((XT.ushr p1 (16 : Int32)) &&& (3 : Int32)) % (3 : Int32)))])
      refine own_goW (fun t_ k_ => XS.iload X0.here hx rfl (hb hby at_108) rfl  k_) ?_
      show own_EndsW _ _ _ _ _ _ _ _ _ s₁ (mkF m 110 #[.val (.int p0), .val (.int p1), .val (.int p2), .val (.int p3), .val (.int p4), .val (.int p5), .val (.int ((p0 &&& (2147483647 : Int32)) % (7 : Int32))), .val (.int ((p1 &&& (255 : Int32)).toUInt32.toUInt16.toUInt32.toInt32)), .val (.int (((XT.ushr p1 (8 : Int32)) &&& (255 : Int32)).toUInt32.toUInt16.toUInt32.toInt32)), .val (.int (((XT.ushr p1 (16 : Int32)) &&& (3 : Int32)) % (3 : Int32))), .val (.int d0), .val (.int d1), .val (.int ((((p1 &&& (255 : Int32)).toUInt32.toUInt16.toUInt32.toInt32) ^^^ d0).toUInt32.toUInt16.toUInt32.toInt32)), .val (.int (((((XT.ushr p1 (8 : Int32)) &&& (255 : Int32)).toUInt32.toUInt16.toUInt32.toInt32) ^^^ d1).toUInt32.toUInt16.toUInt32.toInt32)), .val (.int (((XT.ushr p2 (24 : Int32)) &&& (3 : Int32)) % (3 : Int32))), .unset, .unset, .unset, .unset, .unset, .unset] [(.int (((XT.ushr p1 (8 : Int32)) &&& (255 : Int32)).toUInt32.toUInt16.toUInt32.toInt32)), (.int ((p1 &&& (255 : Int32)).toUInt32.toUInt16.toUInt32.toInt32)), (.int (((XT.ushr p1 (16 : Int32)) &&& (3 : Int32)) % (3 : Int32)))])
      have Nsk1 : ∀ x ∈ ([] : List Addr), ∀ cell : Cell, h0[x]? = some cell → cell.vm.isStatics = false := ns0
      have Skk1 : ∀ x ∈ ([] : List Addr), Safe Z own_EL s.vm h0 x := sf0
      obtain ⟨T2, v2, L2, h2, X2, e2, hQ2, Iv2, hZ, hown, CH2, Gr2, st2⟩ := own_callSW X0 hx hZ (y := (⟨"com/example/ferret/ferret/frontend/TokenIsPinLaw", "str", "(ICC)Ljava/lang/String;"⟩ : MethodName)) hown (own_EW hw) Iv0 (hw _ (List.mem_of_getElem? (i := 1) rfl)) (hw _ (List.mem_of_getElem? (i := 2) rfl)) (hw _ (List.mem_of_getElem? (i := 3) rfl)) (hw _ (List.mem_of_getElem? (i := 4) rfl)) (by decide) (rm1 l Z a0 hw [] (((XT.ushr p1 (16 : Int32)) &&& (3 : Int32)) % (3 : Int32)) ((p1 &&& (255 : Int32)).toUInt32.toUInt16.toUInt32.toInt32) (((XT.ushr p1 (8 : Int32)) &&& (255 : Int32)).toUInt32.toUInt16.toUInt32.toInt32) zc h0 n0 Z0 SC hzc (own_i2cR (own_and255 _)) (own_i2cR (own_and255 _))) e0 (g := (mkF m 110 #[.val (.int p0), .val (.int p1), .val (.int p2), .val (.int p3), .val (.int p4), .val (.int p5), .val (.int ((p0 &&& (2147483647 : Int32)) % (7 : Int32))), .val (.int ((p1 &&& (255 : Int32)).toUInt32.toUInt16.toUInt32.toInt32)), .val (.int (((XT.ushr p1 (8 : Int32)) &&& (255 : Int32)).toUInt32.toUInt16.toUInt32.toInt32)), .val (.int (((XT.ushr p1 (16 : Int32)) &&& (3 : Int32)) % (3 : Int32))), .val (.int d0), .val (.int d1), .val (.int ((((p1 &&& (255 : Int32)).toUInt32.toUInt16.toUInt32.toInt32) ^^^ d0).toUInt32.toUInt16.toUInt32.toInt32)), .val (.int (((((XT.ushr p1 (8 : Int32)) &&& (255 : Int32)).toUInt32.toUInt16.toUInt32.toInt32) ^^^ d1).toUInt32.toUInt16.toUInt32.toInt32)), .val (.int (((XT.ushr p2 (24 : Int32)) &&& (3 : Int32)) % (3 : Int32))), .unset, .unset, .unset, .unset, .unset, .unset] [(.int (((XT.ushr p1 (8 : Int32)) &&& (255 : Int32)).toUInt32.toUInt16.toUInt32.toInt32)), (.int ((p1 &&& (255 : Int32)).toUInt32.toUInt16.toUInt32.toInt32)), (.int (((XT.ushr p1 (16 : Int32)) &&& (3 : Int32)) % (3 : Int32)))])) rfl (by rw [hml]; rfl) [(.int (((XT.ushr p1 (16 : Int32)) &&& (3 : Int32)) % (3 : Int32))), (.int ((p1 &&& (255 : Int32)).toUInt32.toUInt16.toUInt32.toInt32)), (.int (((XT.ushr p1 (8 : Int32)) &&& (255 : Int32)).toUInt32.toUInt16.toUInt32.toInt32))] [] rfl (lenOf pd__ICC_Ljava_lang_String_ rfl) rfl 0 (by show 2 * 0 + _ ≤ _; exact Nat.le_of_eq rfl) (hb hby at_110) (by decide) (by decide) (by decide) (by decide)
      obtain ⟨sa2, sb2, kb2, rfl, N2q, Kq2, Eq2, Cq2, Vq2, Aq2⟩ := hQ2
      refine own_goW st2 ?_
      have N2 := Fr.app N0 N2q
      show own_EndsW _ _ _ _ _ _ _ _ _ T2 (mkF m 113 #[.val (.int p0), .val (.int p1), .val (.int p2), .val (.int p3), .val (.int p4), .val (.int p5), .val (.int ((p0 &&& (2147483647 : Int32)) % (7 : Int32))), .val (.int ((p1 &&& (255 : Int32)).toUInt32.toUInt16.toUInt32.toInt32)), .val (.int (((XT.ushr p1 (8 : Int32)) &&& (255 : Int32)).toUInt32.toUInt16.toUInt32.toInt32)), .val (.int (((XT.ushr p1 (16 : Int32)) &&& (3 : Int32)) % (3 : Int32))), .val (.int d0), .val (.int d1), .val (.int ((((p1 &&& (255 : Int32)).toUInt32.toUInt16.toUInt32.toInt32) ^^^ d0).toUInt32.toUInt16.toUInt32.toInt32)), .val (.int (((((XT.ushr p1 (8 : Int32)) &&& (255 : Int32)).toUInt32.toUInt16.toUInt32.toInt32) ^^^ d1).toUInt32.toUInt16.toUInt32.toInt32)), .val (.int (((XT.ushr p2 (24 : Int32)) &&& (3 : Int32)) % (3 : Int32))), .unset, .unset, .unset, .unset, .unset, .unset] [(.ref sa2)])
      refine own_goW (fun t_ k_ => XS.astore X2.here hx rfl (hb hby at_113) rfl rfl (l' := #[.val (.int p0), .val (.int p1), .val (.int p2), .val (.int p3), .val (.int p4), .val (.int p5), .val (.int ((p0 &&& (2147483647 : Int32)) % (7 : Int32))), .val (.int ((p1 &&& (255 : Int32)).toUInt32.toUInt16.toUInt32.toInt32)), .val (.int (((XT.ushr p1 (8 : Int32)) &&& (255 : Int32)).toUInt32.toUInt16.toUInt32.toInt32)), .val (.int (((XT.ushr p1 (16 : Int32)) &&& (3 : Int32)) % (3 : Int32))), .val (.int d0), .val (.int d1), .val (.int ((((p1 &&& (255 : Int32)).toUInt32.toUInt16.toUInt32.toInt32) ^^^ d0).toUInt32.toUInt16.toUInt32.toInt32)), .val (.int (((((XT.ushr p1 (8 : Int32)) &&& (255 : Int32)).toUInt32.toUInt16.toUInt32.toInt32) ^^^ d1).toUInt32.toUInt16.toUInt32.toInt32)), .val (.int (((XT.ushr p2 (24 : Int32)) &&& (3 : Int32)) % (3 : Int32))), .val (.ref sa2), .unset, .unset, .unset, .unset, .unset]) rfl k_) ?_
      show own_EndsW _ _ _ _ _ _ _ _ _ T2 (mkF m 115 #[.val (.int p0), .val (.int p1), .val (.int p2), .val (.int p3), .val (.int p4), .val (.int p5), .val (.int ((p0 &&& (2147483647 : Int32)) % (7 : Int32))), .val (.int ((p1 &&& (255 : Int32)).toUInt32.toUInt16.toUInt32.toInt32)), .val (.int (((XT.ushr p1 (8 : Int32)) &&& (255 : Int32)).toUInt32.toUInt16.toUInt32.toInt32)), .val (.int (((XT.ushr p1 (16 : Int32)) &&& (3 : Int32)) % (3 : Int32))), .val (.int d0), .val (.int d1), .val (.int ((((p1 &&& (255 : Int32)).toUInt32.toUInt16.toUInt32.toInt32) ^^^ d0).toUInt32.toUInt16.toUInt32.toInt32)), .val (.int (((((XT.ushr p1 (8 : Int32)) &&& (255 : Int32)).toUInt32.toUInt16.toUInt32.toInt32) ^^^ d1).toUInt32.toUInt16.toUInt32.toInt32)), .val (.int (((XT.ushr p2 (24 : Int32)) &&& (3 : Int32)) % (3 : Int32))), .val (.ref sa2), .unset, .unset, .unset, .unset, .unset] [])
      refine own_goW (fun t_ k_ => XS.iload X2.here hx rfl (hb hby at_115) rfl  k_) ?_
      show own_EndsW _ _ _ _ _ _ _ _ _ T2 (mkF m 117 #[.val (.int p0), .val (.int p1), .val (.int p2), .val (.int p3), .val (.int p4), .val (.int p5), .val (.int ((p0 &&& (2147483647 : Int32)) % (7 : Int32))), .val (.int ((p1 &&& (255 : Int32)).toUInt32.toUInt16.toUInt32.toInt32)), .val (.int (((XT.ushr p1 (8 : Int32)) &&& (255 : Int32)).toUInt32.toUInt16.toUInt32.toInt32)), .val (.int (((XT.ushr p1 (16 : Int32)) &&& (3 : Int32)) % (3 : Int32))), .val (.int d0), .val (.int d1), .val (.int ((((p1 &&& (255 : Int32)).toUInt32.toUInt16.toUInt32.toInt32) ^^^ d0).toUInt32.toUInt16.toUInt32.toInt32)), .val (.int (((((XT.ushr p1 (8 : Int32)) &&& (255 : Int32)).toUInt32.toUInt16.toUInt32.toInt32) ^^^ d1).toUInt32.toUInt16.toUInt32.toInt32)), .val (.int (((XT.ushr p2 (24 : Int32)) &&& (3 : Int32)) % (3 : Int32))), .val (.ref sa2), .unset, .unset, .unset, .unset, .unset] [(.int (((XT.ushr p2 (24 : Int32)) &&& (3 : Int32)) % (3 : Int32)))])
      refine own_goW (fun t_ k_ => XS.iload X2.here hx rfl (hb hby at_117) rfl  k_) ?_
      show own_EndsW _ _ _ _ _ _ _ _ _ T2 (mkF m 119 #[.val (.int p0), .val (.int p1), .val (.int p2), .val (.int p3), .val (.int p4), .val (.int p5), .val (.int ((p0 &&& (2147483647 : Int32)) % (7 : Int32))), .val (.int ((p1 &&& (255 : Int32)).toUInt32.toUInt16.toUInt32.toInt32)), .val (.int (((XT.ushr p1 (8 : Int32)) &&& (255 : Int32)).toUInt32.toUInt16.toUInt32.toInt32)), .val (.int (((XT.ushr p1 (16 : Int32)) &&& (3 : Int32)) % (3 : Int32))), .val (.int d0), .val (.int d1), .val (.int ((((p1 &&& (255 : Int32)).toUInt32.toUInt16.toUInt32.toInt32) ^^^ d0).toUInt32.toUInt16.toUInt32.toInt32)), .val (.int (((((XT.ushr p1 (8 : Int32)) &&& (255 : Int32)).toUInt32.toUInt16.toUInt32.toInt32) ^^^ d1).toUInt32.toUInt16.toUInt32.toInt32)), .val (.int (((XT.ushr p2 (24 : Int32)) &&& (3 : Int32)) % (3 : Int32))), .val (.ref sa2), .unset, .unset, .unset, .unset, .unset] [(.int ((((p1 &&& (255 : Int32)).toUInt32.toUInt16.toUInt32.toInt32) ^^^ d0).toUInt32.toUInt16.toUInt32.toInt32)), (.int (((XT.ushr p2 (24 : Int32)) &&& (3 : Int32)) % (3 : Int32)))])
      refine own_goW (fun t_ k_ => XS.iload X2.here hx rfl (hb hby at_119) rfl  k_) ?_
      show own_EndsW _ _ _ _ _ _ _ _ _ T2 (mkF m 121 #[.val (.int p0), .val (.int p1), .val (.int p2), .val (.int p3), .val (.int p4), .val (.int p5), .val (.int ((p0 &&& (2147483647 : Int32)) % (7 : Int32))), .val (.int ((p1 &&& (255 : Int32)).toUInt32.toUInt16.toUInt32.toInt32)), .val (.int (((XT.ushr p1 (8 : Int32)) &&& (255 : Int32)).toUInt32.toUInt16.toUInt32.toInt32)), .val (.int (((XT.ushr p1 (16 : Int32)) &&& (3 : Int32)) % (3 : Int32))), .val (.int d0), .val (.int d1), .val (.int ((((p1 &&& (255 : Int32)).toUInt32.toUInt16.toUInt32.toInt32) ^^^ d0).toUInt32.toUInt16.toUInt32.toInt32)), .val (.int (((((XT.ushr p1 (8 : Int32)) &&& (255 : Int32)).toUInt32.toUInt16.toUInt32.toInt32) ^^^ d1).toUInt32.toUInt16.toUInt32.toInt32)), .val (.int (((XT.ushr p2 (24 : Int32)) &&& (3 : Int32)) % (3 : Int32))), .val (.ref sa2), .unset, .unset, .unset, .unset, .unset] [(.int (((((XT.ushr p1 (8 : Int32)) &&& (255 : Int32)).toUInt32.toUInt16.toUInt32.toInt32) ^^^ d1).toUInt32.toUInt16.toUInt32.toInt32)), (.int ((((p1 &&& (255 : Int32)).toUInt32.toUInt16.toUInt32.toInt32) ^^^ d0).toUInt32.toUInt16.toUInt32.toInt32)), (.int (((XT.ushr p2 (24 : Int32)) &&& (3 : Int32)) % (3 : Int32)))])
      have Nsk3 : ∀ x ∈ ([] : List Addr), ∀ cell : Cell, h2[x]? = some cell → cell.vm.isStatics = false := ns0
      have Skk3 : ∀ x ∈ ([] : List Addr), Safe Z own_EL T2.vm h2 x := sf0
      obtain ⟨T4, v4, L4, h4, X4, e4, hQ4, Iv4, hZ, hown, CH4, Gr4, st4⟩ := own_callSW X2 hx hZ (y := (⟨"com/example/ferret/ferret/frontend/TokenIsPinLaw", "str", "(ICC)Ljava/lang/String;"⟩ : MethodName)) hown (own_EW hw) Iv2 (hw _ (List.mem_of_getElem? (i := 1) rfl)) (hw _ (List.mem_of_getElem? (i := 2) rfl)) (hw _ (List.mem_of_getElem? (i := 3) rfl)) (hw _ (List.mem_of_getElem? (i := 4) rfl)) (by decide) (rm1 l Z a0 hw [] (((XT.ushr p2 (24 : Int32)) &&& (3 : Int32)) % (3 : Int32)) ((((p1 &&& (255 : Int32)).toUInt32.toUInt16.toUInt32.toInt32) ^^^ d0).toUInt32.toUInt16.toUInt32.toInt32) (((((XT.ushr p1 (8 : Int32)) &&& (255 : Int32)).toUInt32.toUInt16.toUInt32.toInt32) ^^^ d1).toUInt32.toUInt16.toUInt32.toInt32) zc h2 n0 (Nat.le_trans Z0 Kq2.1) (own_staK SC Kq2 Nsk1) hzc (own_i2cR (own_xor (own_i2cR (own_and255 _)) hd0)) (own_i2cR (own_xor (own_i2cR (own_and255 _)) hd1))) e2 (g := (mkF m 121 #[.val (.int p0), .val (.int p1), .val (.int p2), .val (.int p3), .val (.int p4), .val (.int p5), .val (.int ((p0 &&& (2147483647 : Int32)) % (7 : Int32))), .val (.int ((p1 &&& (255 : Int32)).toUInt32.toUInt16.toUInt32.toInt32)), .val (.int (((XT.ushr p1 (8 : Int32)) &&& (255 : Int32)).toUInt32.toUInt16.toUInt32.toInt32)), .val (.int (((XT.ushr p1 (16 : Int32)) &&& (3 : Int32)) % (3 : Int32))), .val (.int d0), .val (.int d1), .val (.int ((((p1 &&& (255 : Int32)).toUInt32.toUInt16.toUInt32.toInt32) ^^^ d0).toUInt32.toUInt16.toUInt32.toInt32)), .val (.int (((((XT.ushr p1 (8 : Int32)) &&& (255 : Int32)).toUInt32.toUInt16.toUInt32.toInt32) ^^^ d1).toUInt32.toUInt16.toUInt32.toInt32)), .val (.int (((XT.ushr p2 (24 : Int32)) &&& (3 : Int32)) % (3 : Int32))), .val (.ref sa2), .unset, .unset, .unset, .unset, .unset] [(.int (((((XT.ushr p1 (8 : Int32)) &&& (255 : Int32)).toUInt32.toUInt16.toUInt32.toInt32) ^^^ d1).toUInt32.toUInt16.toUInt32.toInt32)), (.int ((((p1 &&& (255 : Int32)).toUInt32.toUInt16.toUInt32.toInt32) ^^^ d0).toUInt32.toUInt16.toUInt32.toInt32)), (.int (((XT.ushr p2 (24 : Int32)) &&& (3 : Int32)) % (3 : Int32)))])) rfl (by rw [hml]; rfl) [(.int (((XT.ushr p2 (24 : Int32)) &&& (3 : Int32)) % (3 : Int32))), (.int ((((p1 &&& (255 : Int32)).toUInt32.toUInt16.toUInt32.toInt32) ^^^ d0).toUInt32.toUInt16.toUInt32.toInt32)), (.int (((((XT.ushr p1 (8 : Int32)) &&& (255 : Int32)).toUInt32.toUInt16.toUInt32.toInt32) ^^^ d1).toUInt32.toUInt16.toUInt32.toInt32))] [] rfl (lenOf pd__ICC_Ljava_lang_String_ rfl) rfl 0 (by show 2 * 0 + _ ≤ _; exact Nat.le_of_eq rfl) (hb hby at_121) (by decide) (by decide) (by decide) (by decide)
      obtain ⟨sa4, sb4, kb4, rfl, N4q, Kq4, Eq4, Cq4, Vq4, Aq4⟩ := hQ4
      refine own_goW st4 ?_
      have N4 := Fr.app N2 N4q
      show own_EndsW _ _ _ _ _ _ _ _ _ T4 (mkF m 124 #[.val (.int p0), .val (.int p1), .val (.int p2), .val (.int p3), .val (.int p4), .val (.int p5), .val (.int ((p0 &&& (2147483647 : Int32)) % (7 : Int32))), .val (.int ((p1 &&& (255 : Int32)).toUInt32.toUInt16.toUInt32.toInt32)), .val (.int (((XT.ushr p1 (8 : Int32)) &&& (255 : Int32)).toUInt32.toUInt16.toUInt32.toInt32)), .val (.int (((XT.ushr p1 (16 : Int32)) &&& (3 : Int32)) % (3 : Int32))), .val (.int d0), .val (.int d1), .val (.int ((((p1 &&& (255 : Int32)).toUInt32.toUInt16.toUInt32.toInt32) ^^^ d0).toUInt32.toUInt16.toUInt32.toInt32)), .val (.int (((((XT.ushr p1 (8 : Int32)) &&& (255 : Int32)).toUInt32.toUInt16.toUInt32.toInt32) ^^^ d1).toUInt32.toUInt16.toUInt32.toInt32)), .val (.int (((XT.ushr p2 (24 : Int32)) &&& (3 : Int32)) % (3 : Int32))), .val (.ref sa2), .unset, .unset, .unset, .unset, .unset] [(.ref sa4)])
      refine own_goW (fun t_ k_ => XS.astore X4.here hx rfl (hb hby at_124) rfl rfl (l' := #[.val (.int p0), .val (.int p1), .val (.int p2), .val (.int p3), .val (.int p4), .val (.int p5), .val (.int ((p0 &&& (2147483647 : Int32)) % (7 : Int32))), .val (.int ((p1 &&& (255 : Int32)).toUInt32.toUInt16.toUInt32.toInt32)), .val (.int (((XT.ushr p1 (8 : Int32)) &&& (255 : Int32)).toUInt32.toUInt16.toUInt32.toInt32)), .val (.int (((XT.ushr p1 (16 : Int32)) &&& (3 : Int32)) % (3 : Int32))), .val (.int d0), .val (.int d1), .val (.int ((((p1 &&& (255 : Int32)).toUInt32.toUInt16.toUInt32.toInt32) ^^^ d0).toUInt32.toUInt16.toUInt32.toInt32)), .val (.int (((((XT.ushr p1 (8 : Int32)) &&& (255 : Int32)).toUInt32.toUInt16.toUInt32.toInt32) ^^^ d1).toUInt32.toUInt16.toUInt32.toInt32)), .val (.int (((XT.ushr p2 (24 : Int32)) &&& (3 : Int32)) % (3 : Int32))), .val (.ref sa2), .val (.ref sa4), .unset, .unset, .unset, .unset]) rfl k_) ?_
      show own_EndsW _ _ _ _ _ _ _ _ _ T4 (mkF m 126 #[.val (.int p0), .val (.int p1), .val (.int p2), .val (.int p3), .val (.int p4), .val (.int p5), .val (.int ((p0 &&& (2147483647 : Int32)) % (7 : Int32))), .val (.int ((p1 &&& (255 : Int32)).toUInt32.toUInt16.toUInt32.toInt32)), .val (.int (((XT.ushr p1 (8 : Int32)) &&& (255 : Int32)).toUInt32.toUInt16.toUInt32.toInt32)), .val (.int (((XT.ushr p1 (16 : Int32)) &&& (3 : Int32)) % (3 : Int32))), .val (.int d0), .val (.int d1), .val (.int ((((p1 &&& (255 : Int32)).toUInt32.toUInt16.toUInt32.toInt32) ^^^ d0).toUInt32.toUInt16.toUInt32.toInt32)), .val (.int (((((XT.ushr p1 (8 : Int32)) &&& (255 : Int32)).toUInt32.toUInt16.toUInt32.toInt32) ^^^ d1).toUInt32.toUInt16.toUInt32.toInt32)), .val (.int (((XT.ushr p2 (24 : Int32)) &&& (3 : Int32)) % (3 : Int32))), .val (.ref sa2), .val (.ref sa4), .unset, .unset, .unset, .unset] [])
      refine own_goW (fun t_ k_ => XS.iload X4.here hx rfl (hb hby at_126) rfl  k_) ?_
      show own_EndsW _ _ _ _ _ _ _ _ _ T4 (mkF m 128 #[.val (.int p0), .val (.int p1), .val (.int p2), .val (.int p3), .val (.int p4), .val (.int p5), .val (.int ((p0 &&& (2147483647 : Int32)) % (7 : Int32))), .val (.int ((p1 &&& (255 : Int32)).toUInt32.toUInt16.toUInt32.toInt32)), .val (.int (((XT.ushr p1 (8 : Int32)) &&& (255 : Int32)).toUInt32.toUInt16.toUInt32.toInt32)), .val (.int (((XT.ushr p1 (16 : Int32)) &&& (3 : Int32)) % (3 : Int32))), .val (.int d0), .val (.int d1), .val (.int ((((p1 &&& (255 : Int32)).toUInt32.toUInt16.toUInt32.toInt32) ^^^ d0).toUInt32.toUInt16.toUInt32.toInt32)), .val (.int (((((XT.ushr p1 (8 : Int32)) &&& (255 : Int32)).toUInt32.toUInt16.toUInt32.toInt32) ^^^ d1).toUInt32.toUInt16.toUInt32.toInt32)), .val (.int (((XT.ushr p2 (24 : Int32)) &&& (3 : Int32)) % (3 : Int32))), .val (.ref sa2), .val (.ref sa4), .unset, .unset, .unset, .unset] [(.int (((XT.ushr p1 (16 : Int32)) &&& (3 : Int32)) % (3 : Int32)))])
      refine own_goW (fun t_ k_ => XS.iload X4.here hx rfl (hb hby at_128) rfl  k_) ?_
      show own_EndsW _ _ _ _ _ _ _ _ _ T4 (mkF m 130 #[.val (.int p0), .val (.int p1), .val (.int p2), .val (.int p3), .val (.int p4), .val (.int p5), .val (.int ((p0 &&& (2147483647 : Int32)) % (7 : Int32))), .val (.int ((p1 &&& (255 : Int32)).toUInt32.toUInt16.toUInt32.toInt32)), .val (.int (((XT.ushr p1 (8 : Int32)) &&& (255 : Int32)).toUInt32.toUInt16.toUInt32.toInt32)), .val (.int (((XT.ushr p1 (16 : Int32)) &&& (3 : Int32)) % (3 : Int32))), .val (.int d0), .val (.int d1), .val (.int ((((p1 &&& (255 : Int32)).toUInt32.toUInt16.toUInt32.toInt32) ^^^ d0).toUInt32.toUInt16.toUInt32.toInt32)), .val (.int (((((XT.ushr p1 (8 : Int32)) &&& (255 : Int32)).toUInt32.toUInt16.toUInt32.toInt32) ^^^ d1).toUInt32.toUInt16.toUInt32.toInt32)), .val (.int (((XT.ushr p2 (24 : Int32)) &&& (3 : Int32)) % (3 : Int32))), .val (.ref sa2), .val (.ref sa4), .unset, .unset, .unset, .unset] [(.int ((p1 &&& (255 : Int32)).toUInt32.toUInt16.toUInt32.toInt32)), (.int (((XT.ushr p1 (16 : Int32)) &&& (3 : Int32)) % (3 : Int32)))])
      refine own_goW (fun t_ k_ => XS.iload X4.here hx rfl (hb hby at_130) rfl  k_) ?_
      show own_EndsW _ _ _ _ _ _ _ _ _ T4 (mkF m 132 #[.val (.int p0), .val (.int p1), .val (.int p2), .val (.int p3), .val (.int p4), .val (.int p5), .val (.int ((p0 &&& (2147483647 : Int32)) % (7 : Int32))), .val (.int ((p1 &&& (255 : Int32)).toUInt32.toUInt16.toUInt32.toInt32)), .val (.int (((XT.ushr p1 (8 : Int32)) &&& (255 : Int32)).toUInt32.toUInt16.toUInt32.toInt32)), .val (.int (((XT.ushr p1 (16 : Int32)) &&& (3 : Int32)) % (3 : Int32))), .val (.int d0), .val (.int d1), .val (.int ((((p1 &&& (255 : Int32)).toUInt32.toUInt16.toUInt32.toInt32) ^^^ d0).toUInt32.toUInt16.toUInt32.toInt32)), .val (.int (((((XT.ushr p1 (8 : Int32)) &&& (255 : Int32)).toUInt32.toUInt16.toUInt32.toInt32) ^^^ d1).toUInt32.toUInt16.toUInt32.toInt32)), .val (.int (((XT.ushr p2 (24 : Int32)) &&& (3 : Int32)) % (3 : Int32))), .val (.ref sa2), .val (.ref sa4), .unset, .unset, .unset, .unset] [(.int (((XT.ushr p1 (8 : Int32)) &&& (255 : Int32)).toUInt32.toUInt16.toUInt32.toInt32)), (.int ((p1 &&& (255 : Int32)).toUInt32.toUInt16.toUInt32.toInt32)), (.int (((XT.ushr p1 (16 : Int32)) &&& (3 : Int32)) % (3 : Int32)))])
      have Nsk5 : ∀ x ∈ ([] : List Addr), ∀ cell : Cell, h4[x]? = some cell → cell.vm.isStatics = false := ns0
      have Skk5 : ∀ x ∈ ([] : List Addr), Safe Z own_EL T4.vm h4 x := sf0
      obtain ⟨T6, v6, L6, h6, X6, e6, hQ6, Iv6, hZ, hown, CH6, Gr6, st6⟩ := own_callSW X4 hx hZ (y := (⟨"com/example/ferret/ferret/frontend/TokenIsPinLaw", "str", "(ICC)Ljava/lang/String;"⟩ : MethodName)) hown (own_EW hw) Iv4 (hw _ (List.mem_of_getElem? (i := 1) rfl)) (hw _ (List.mem_of_getElem? (i := 2) rfl)) (hw _ (List.mem_of_getElem? (i := 3) rfl)) (hw _ (List.mem_of_getElem? (i := 4) rfl)) (by decide) (rm1 l Z a0 hw [] (((XT.ushr p1 (16 : Int32)) &&& (3 : Int32)) % (3 : Int32)) ((p1 &&& (255 : Int32)).toUInt32.toUInt16.toUInt32.toInt32) (((XT.ushr p1 (8 : Int32)) &&& (255 : Int32)).toUInt32.toUInt16.toUInt32.toInt32) zc h4 n0 (Nat.le_trans (Nat.le_trans Z0 Kq2.1) Kq4.1) (own_staK (own_staK SC Kq2 Nsk1) Kq4 Nsk3) hzc (own_i2cR (own_and255 _)) (own_i2cR (own_and255 _))) e4 (g := (mkF m 132 #[.val (.int p0), .val (.int p1), .val (.int p2), .val (.int p3), .val (.int p4), .val (.int p5), .val (.int ((p0 &&& (2147483647 : Int32)) % (7 : Int32))), .val (.int ((p1 &&& (255 : Int32)).toUInt32.toUInt16.toUInt32.toInt32)), .val (.int (((XT.ushr p1 (8 : Int32)) &&& (255 : Int32)).toUInt32.toUInt16.toUInt32.toInt32)), .val (.int (((XT.ushr p1 (16 : Int32)) &&& (3 : Int32)) % (3 : Int32))), .val (.int d0), .val (.int d1), .val (.int ((((p1 &&& (255 : Int32)).toUInt32.toUInt16.toUInt32.toInt32) ^^^ d0).toUInt32.toUInt16.toUInt32.toInt32)), .val (.int (((((XT.ushr p1 (8 : Int32)) &&& (255 : Int32)).toUInt32.toUInt16.toUInt32.toInt32) ^^^ d1).toUInt32.toUInt16.toUInt32.toInt32)), .val (.int (((XT.ushr p2 (24 : Int32)) &&& (3 : Int32)) % (3 : Int32))), .val (.ref sa2), .val (.ref sa4), .unset, .unset, .unset, .unset] [(.int (((XT.ushr p1 (8 : Int32)) &&& (255 : Int32)).toUInt32.toUInt16.toUInt32.toInt32)), (.int ((p1 &&& (255 : Int32)).toUInt32.toUInt16.toUInt32.toInt32)), (.int (((XT.ushr p1 (16 : Int32)) &&& (3 : Int32)) % (3 : Int32)))])) rfl (by rw [hml]; rfl) [(.int (((XT.ushr p1 (16 : Int32)) &&& (3 : Int32)) % (3 : Int32))), (.int ((p1 &&& (255 : Int32)).toUInt32.toUInt16.toUInt32.toInt32)), (.int (((XT.ushr p1 (8 : Int32)) &&& (255 : Int32)).toUInt32.toUInt16.toUInt32.toInt32))] [] rfl (lenOf pd__ICC_Ljava_lang_String_ rfl) rfl 0 (by show 2 * 0 + _ ≤ _; exact Nat.le_of_eq rfl) (hb hby at_132) (by decide) (by decide) (by decide) (by decide)
      obtain ⟨sa6, sb6, kb6, rfl, N6q, Kq6, Eq6, Cq6, Vq6, Aq6⟩ := hQ6
      refine own_goW st6 ?_
      have N6 := Fr.app N4 N6q
      show own_EndsW _ _ _ _ _ _ _ _ _ T6 (mkF m 135 #[.val (.int p0), .val (.int p1), .val (.int p2), .val (.int p3), .val (.int p4), .val (.int p5), .val (.int ((p0 &&& (2147483647 : Int32)) % (7 : Int32))), .val (.int ((p1 &&& (255 : Int32)).toUInt32.toUInt16.toUInt32.toInt32)), .val (.int (((XT.ushr p1 (8 : Int32)) &&& (255 : Int32)).toUInt32.toUInt16.toUInt32.toInt32)), .val (.int (((XT.ushr p1 (16 : Int32)) &&& (3 : Int32)) % (3 : Int32))), .val (.int d0), .val (.int d1), .val (.int ((((p1 &&& (255 : Int32)).toUInt32.toUInt16.toUInt32.toInt32) ^^^ d0).toUInt32.toUInt16.toUInt32.toInt32)), .val (.int (((((XT.ushr p1 (8 : Int32)) &&& (255 : Int32)).toUInt32.toUInt16.toUInt32.toInt32) ^^^ d1).toUInt32.toUInt16.toUInt32.toInt32)), .val (.int (((XT.ushr p2 (24 : Int32)) &&& (3 : Int32)) % (3 : Int32))), .val (.ref sa2), .val (.ref sa4), .unset, .unset, .unset, .unset] [(.ref sa6)])
      refine own_goW (fun t_ k_ => XS.astore X6.here hx rfl (hb hby at_135) rfl rfl (l' := #[.val (.int p0), .val (.int p1), .val (.int p2), .val (.int p3), .val (.int p4), .val (.int p5), .val (.int ((p0 &&& (2147483647 : Int32)) % (7 : Int32))), .val (.int ((p1 &&& (255 : Int32)).toUInt32.toUInt16.toUInt32.toInt32)), .val (.int (((XT.ushr p1 (8 : Int32)) &&& (255 : Int32)).toUInt32.toUInt16.toUInt32.toInt32)), .val (.int (((XT.ushr p1 (16 : Int32)) &&& (3 : Int32)) % (3 : Int32))), .val (.int d0), .val (.int d1), .val (.int ((((p1 &&& (255 : Int32)).toUInt32.toUInt16.toUInt32.toInt32) ^^^ d0).toUInt32.toUInt16.toUInt32.toInt32)), .val (.int (((((XT.ushr p1 (8 : Int32)) &&& (255 : Int32)).toUInt32.toUInt16.toUInt32.toInt32) ^^^ d1).toUInt32.toUInt16.toUInt32.toInt32)), .val (.int (((XT.ushr p2 (24 : Int32)) &&& (3 : Int32)) % (3 : Int32))), .val (.ref sa2), .val (.ref sa4), .val (.ref sa6), .unset, .unset, .unset]) rfl k_) ?_
      show own_EndsW _ _ _ _ _ _ _ _ _ T6 (mkF m 137 #[.val (.int p0), .val (.int p1), .val (.int p2), .val (.int p3), .val (.int p4), .val (.int p5), .val (.int ((p0 &&& (2147483647 : Int32)) % (7 : Int32))), .val (.int ((p1 &&& (255 : Int32)).toUInt32.toUInt16.toUInt32.toInt32)), .val (.int (((XT.ushr p1 (8 : Int32)) &&& (255 : Int32)).toUInt32.toUInt16.toUInt32.toInt32)), .val (.int (((XT.ushr p1 (16 : Int32)) &&& (3 : Int32)) % (3 : Int32))), .val (.int d0), .val (.int d1), .val (.int ((((p1 &&& (255 : Int32)).toUInt32.toUInt16.toUInt32.toInt32) ^^^ d0).toUInt32.toUInt16.toUInt32.toInt32)), .val (.int (((((XT.ushr p1 (8 : Int32)) &&& (255 : Int32)).toUInt32.toUInt16.toUInt32.toInt32) ^^^ d1).toUInt32.toUInt16.toUInt32.toInt32)), .val (.int (((XT.ushr p2 (24 : Int32)) &&& (3 : Int32)) % (3 : Int32))), .val (.ref sa2), .val (.ref sa4), .val (.ref sa6), .unset, .unset, .unset] [])
      obtain ⟨T7, h7, X7, e7, E7, A7, D7, -, st7⟩ := newO X6 hx hZ hown (hw _ (List.mem_of_getElem? (i := 27) rfl)) (hw _ (List.mem_of_getElem? (i := 28) rfl)) (hw _ (List.mem_of_getElem? (i := 29) rfl)) e6 (g := (mkF m 137 #[.val (.int p0), .val (.int p1), .val (.int p2), .val (.int p3), .val (.int p4), .val (.int p5), .val (.int ((p0 &&& (2147483647 : Int32)) % (7 : Int32))), .val (.int ((p1 &&& (255 : Int32)).toUInt32.toUInt16.toUInt32.toInt32)), .val (.int (((XT.ushr p1 (8 : Int32)) &&& (255 : Int32)).toUInt32.toUInt16.toUInt32.toInt32)), .val (.int (((XT.ushr p1 (16 : Int32)) &&& (3 : Int32)) % (3 : Int32))), .val (.int d0), .val (.int d1), .val (.int ((((p1 &&& (255 : Int32)).toUInt32.toUInt16.toUInt32.toInt32) ^^^ d0).toUInt32.toUInt16.toUInt32.toInt32)), .val (.int (((((XT.ushr p1 (8 : Int32)) &&& (255 : Int32)).toUInt32.toUInt16.toUInt32.toInt32) ^^^ d1).toUInt32.toUInt16.toUInt32.toInt32)), .val (.int (((XT.ushr p2 (24 : Int32)) &&& (3 : Int32)) % (3 : Int32))), .val (.ref sa2), .val (.ref sa4), .val (.ref sa6), .unset, .unset, .unset] [])) rfl (hb hby at_137) (by decide) (by decide)
      obtain ⟨b7, g7⟩ : ∃ z, z = h6.size := ⟨_, rfl⟩
      rw [← g7] at A7 D7 st7
      refine own_goW st7 ?_
      have g_b7 : n0 ≤ b7 := Nat.le_trans (Nat.le_trans (Nat.le_trans (Nat.le_trans Z0 Kq2.1) Kq4.1) Kq6.1) (Nat.le_of_eq g7.symm)
      have Sf7 : Safe Z own_EL T6.vm h7 b7 := Safe.ext E7 Iv6.ch (Safe.new (Nat.le_of_eq g7.symm))
      have Iv7 := Iv6.ext E7
      have F7_kind : Fld Z h7 b7 "com/example/ferret/ferret/frontend/Token" "kind" "Lcom/example/ferret/ferret/frontend/Token$Kind;" .null := D7 (Or.inr (hw _ (List.mem_of_getElem? (i := 46) rfl))) (ty := (.object "com/example/ferret/ferret/frontend/Token$Kind")) (by decide)
      have F7_text : Fld Z h7 b7 "com/example/ferret/ferret/frontend/Token" "text" "Ljava/lang/String;" .null := D7 (Or.inr (hw _ (List.mem_of_getElem? (i := 48) rfl))) (ty := (.object "java/lang/String")) (by decide)
      have F7_line : Fld Z h7 b7 "com/example/ferret/ferret/frontend/Token" "line" "I" (.int (0 : Int32)) := D7 (Or.inr (hw _ (List.mem_of_getElem? (i := 50) rfl))) (ty := .int) (by decide)
      have F7_column : Fld Z h7 b7 "com/example/ferret/ferret/frontend/Token" "column" "I" (.int (0 : Int32)) := D7 (Or.inr (hw _ (List.mem_of_getElem? (i := 52) rfl))) (ty := .int) (by decide)
      have F7_spelling : Fld Z h7 b7 "com/example/ferret/ferret/frontend/Token" "spelling" "Ljava/lang/String;" .null := D7 (Or.inr (hw _ (List.mem_of_getElem? (i := 54) rfl))) (ty := (.object "java/lang/String")) (by decide)
      have F7_spaced : Fld Z h7 b7 "com/example/ferret/ferret/frontend/Token" "spaced" "Z" (.int (0 : Int32)) := D7 (Or.inr (hw _ (List.mem_of_getElem? (i := 56) rfl))) (ty := .boolean) (by decide)
      show own_EndsW _ _ _ _ _ _ _ _ _ T7 (mkF m 140 #[.val (.int p0), .val (.int p1), .val (.int p2), .val (.int p3), .val (.int p4), .val (.int p5), .val (.int ((p0 &&& (2147483647 : Int32)) % (7 : Int32))), .val (.int ((p1 &&& (255 : Int32)).toUInt32.toUInt16.toUInt32.toInt32)), .val (.int (((XT.ushr p1 (8 : Int32)) &&& (255 : Int32)).toUInt32.toUInt16.toUInt32.toInt32)), .val (.int (((XT.ushr p1 (16 : Int32)) &&& (3 : Int32)) % (3 : Int32))), .val (.int d0), .val (.int d1), .val (.int ((((p1 &&& (255 : Int32)).toUInt32.toUInt16.toUInt32.toInt32) ^^^ d0).toUInt32.toUInt16.toUInt32.toInt32)), .val (.int (((((XT.ushr p1 (8 : Int32)) &&& (255 : Int32)).toUInt32.toUInt16.toUInt32.toInt32) ^^^ d1).toUInt32.toUInt16.toUInt32.toInt32)), .val (.int (((XT.ushr p2 (24 : Int32)) &&& (3 : Int32)) % (3 : Int32))), .val (.ref sa2), .val (.ref sa4), .val (.ref sa6), .unset, .unset, .unset] [(.ref b7)])
      refine own_goW (fun t_ k_ => XS.dup X7.here hx rfl (hb hby at_140) rfl rfl k_) ?_
      show own_EndsW _ _ _ _ _ _ _ _ _ T7 (mkF m 141 #[.val (.int p0), .val (.int p1), .val (.int p2), .val (.int p3), .val (.int p4), .val (.int p5), .val (.int ((p0 &&& (2147483647 : Int32)) % (7 : Int32))), .val (.int ((p1 &&& (255 : Int32)).toUInt32.toUInt16.toUInt32.toInt32)), .val (.int (((XT.ushr p1 (8 : Int32)) &&& (255 : Int32)).toUInt32.toUInt16.toUInt32.toInt32)), .val (.int (((XT.ushr p1 (16 : Int32)) &&& (3 : Int32)) % (3 : Int32))), .val (.int d0), .val (.int d1), .val (.int ((((p1 &&& (255 : Int32)).toUInt32.toUInt16.toUInt32.toInt32) ^^^ d0).toUInt32.toUInt16.toUInt32.toInt32)), .val (.int (((((XT.ushr p1 (8 : Int32)) &&& (255 : Int32)).toUInt32.toUInt16.toUInt32.toInt32) ^^^ d1).toUInt32.toUInt16.toUInt32.toInt32)), .val (.int (((XT.ushr p2 (24 : Int32)) &&& (3 : Int32)) % (3 : Int32))), .val (.ref sa2), .val (.ref sa4), .val (.ref sa6), .unset, .unset, .unset] [(.ref b7), (.ref b7)])
      refine own_goW (fun t_ k_ => XS.iload X7.here hx rfl (hb hby at_141) rfl  k_) ?_
      show own_EndsW _ _ _ _ _ _ _ _ _ T7 (mkF m 143 #[.val (.int p0), .val (.int p1), .val (.int p2), .val (.int p3), .val (.int p4), .val (.int p5), .val (.int ((p0 &&& (2147483647 : Int32)) % (7 : Int32))), .val (.int ((p1 &&& (255 : Int32)).toUInt32.toUInt16.toUInt32.toInt32)), .val (.int (((XT.ushr p1 (8 : Int32)) &&& (255 : Int32)).toUInt32.toUInt16.toUInt32.toInt32)), .val (.int (((XT.ushr p1 (16 : Int32)) &&& (3 : Int32)) % (3 : Int32))), .val (.int d0), .val (.int d1), .val (.int ((((p1 &&& (255 : Int32)).toUInt32.toUInt16.toUInt32.toInt32) ^^^ d0).toUInt32.toUInt16.toUInt32.toInt32)), .val (.int (((((XT.ushr p1 (8 : Int32)) &&& (255 : Int32)).toUInt32.toUInt16.toUInt32.toInt32) ^^^ d1).toUInt32.toUInt16.toUInt32.toInt32)), .val (.int (((XT.ushr p2 (24 : Int32)) &&& (3 : Int32)) % (3 : Int32))), .val (.ref sa2), .val (.ref sa4), .val (.ref sa6), .unset, .unset, .unset] [(.int ((p0 &&& (2147483647 : Int32)) % (7 : Int32))), (.ref b7), (.ref b7)])
      obtain ⟨T8, v8, L8, X8, hQ8, st8⟩ := own_callS X7 hx hZ (y := (⟨"com/example/ferret/ferret/frontend/TokenIsPinLaw", "kindOf", "(I)Lcom/example/ferret/ferret/frontend/Token$Kind;"⟩ : MethodName)) hown (hw _ (List.mem_of_getElem? (i := 30) rfl)) (hw _ (List.mem_of_getElem? (i := 31) rfl)) (hw _ (List.mem_of_getElem? (i := 3) rfl)) (hw _ (List.mem_of_getElem? (i := 32) rfl)) (by decide) (rm5 l Z a0 hw [] ((p0 &&& (2147483647 : Int32)) % (7 : Int32)) w0 w1 w2 w3 w4 w5 w6 h7 n0 (Nat.le_trans (Nat.le_trans (Nat.le_trans (Nat.le_trans Z0 Kq2.1) Kq4.1) Kq6.1) E7.1) ((own_staK (own_staK (own_staK S0 Kq2 Nsk1) Kq4 Nsk3) Kq6 Nsk5).ext E7) ((own_staK (own_staK (own_staK S1 Kq2 Nsk1) Kq4 Nsk3) Kq6 Nsk5).ext E7) ((own_staK (own_staK (own_staK S2 Kq2 Nsk1) Kq4 Nsk3) Kq6 Nsk5).ext E7) ((own_staK (own_staK (own_staK S3 Kq2 Nsk1) Kq4 Nsk3) Kq6 Nsk5).ext E7) ((own_staK (own_staK (own_staK S4 Kq2 Nsk1) Kq4 Nsk3) Kq6 Nsk5).ext E7) ((own_staK (own_staK (own_staK S5 Kq2 Nsk1) Kq4 Nsk3) Kq6 Nsk5).ext E7) ((own_staK (own_staK (own_staK S6 Kq2 Nsk1) Kq4 Nsk3) Kq6 Nsk5).ext E7)) e7 (g := (mkF m 143 #[.val (.int p0), .val (.int p1), .val (.int p2), .val (.int p3), .val (.int p4), .val (.int p5), .val (.int ((p0 &&& (2147483647 : Int32)) % (7 : Int32))), .val (.int ((p1 &&& (255 : Int32)).toUInt32.toUInt16.toUInt32.toInt32)), .val (.int (((XT.ushr p1 (8 : Int32)) &&& (255 : Int32)).toUInt32.toUInt16.toUInt32.toInt32)), .val (.int (((XT.ushr p1 (16 : Int32)) &&& (3 : Int32)) % (3 : Int32))), .val (.int d0), .val (.int d1), .val (.int ((((p1 &&& (255 : Int32)).toUInt32.toUInt16.toUInt32.toInt32) ^^^ d0).toUInt32.toUInt16.toUInt32.toInt32)), .val (.int (((((XT.ushr p1 (8 : Int32)) &&& (255 : Int32)).toUInt32.toUInt16.toUInt32.toInt32) ^^^ d1).toUInt32.toUInt16.toUInt32.toInt32)), .val (.int (((XT.ushr p2 (24 : Int32)) &&& (3 : Int32)) % (3 : Int32))), .val (.ref sa2), .val (.ref sa4), .val (.ref sa6), .unset, .unset, .unset] [(.int ((p0 &&& (2147483647 : Int32)) % (7 : Int32))), (.ref b7), (.ref b7)])) rfl (by rw [hml]; rfl) [(.int ((p0 &&& (2147483647 : Int32)) % (7 : Int32)))] [(.ref b7), (.ref b7)] rfl (lenOf pd__I_Lcom_example_ferret_ferret_frontend_Token_Kind_ rfl) rfl 2 (by show 2 * 0 + _ ≤ _; exact Nat.le_of_eq rfl) (hb hby at_143) (by decide) (by decide) (by decide) (by decide)
      obtain ⟨hv8, N8q, e8⟩ := hQ8
      obtain ⟨kd, hkd⟩ : ∃ z, z = own_kind ((p0 &&& (2147483647 : Int32)) % (7 : Int32)) w0 w1 w2 w3 w4 w5 w6 := ⟨_, rfl⟩
      rw [← hkd] at hv8
      subst hv8
      refine own_goW st8 ?_
      have N8 := Fr.app N6 N8q
      show own_EndsW _ _ _ _ _ _ _ _ _ T8 (mkF m 146 #[.val (.int p0), .val (.int p1), .val (.int p2), .val (.int p3), .val (.int p4), .val (.int p5), .val (.int ((p0 &&& (2147483647 : Int32)) % (7 : Int32))), .val (.int ((p1 &&& (255 : Int32)).toUInt32.toUInt16.toUInt32.toInt32)), .val (.int (((XT.ushr p1 (8 : Int32)) &&& (255 : Int32)).toUInt32.toUInt16.toUInt32.toInt32)), .val (.int (((XT.ushr p1 (16 : Int32)) &&& (3 : Int32)) % (3 : Int32))), .val (.int d0), .val (.int d1), .val (.int ((((p1 &&& (255 : Int32)).toUInt32.toUInt16.toUInt32.toInt32) ^^^ d0).toUInt32.toUInt16.toUInt32.toInt32)), .val (.int (((((XT.ushr p1 (8 : Int32)) &&& (255 : Int32)).toUInt32.toUInt16.toUInt32.toInt32) ^^^ d1).toUInt32.toUInt16.toUInt32.toInt32)), .val (.int (((XT.ushr p2 (24 : Int32)) &&& (3 : Int32)) % (3 : Int32))), .val (.ref sa2), .val (.ref sa4), .val (.ref sa6), .unset, .unset, .unset] [(.ref kd), (.ref b7), (.ref b7)])
      refine own_goW (fun t_ k_ => XS.aload X8.here hx rfl (hb hby at_146) rfl rfl  k_) ?_
      show own_EndsW _ _ _ _ _ _ _ _ _ T8 (mkF m 148 #[.val (.int p0), .val (.int p1), .val (.int p2), .val (.int p3), .val (.int p4), .val (.int p5), .val (.int ((p0 &&& (2147483647 : Int32)) % (7 : Int32))), .val (.int ((p1 &&& (255 : Int32)).toUInt32.toUInt16.toUInt32.toInt32)), .val (.int (((XT.ushr p1 (8 : Int32)) &&& (255 : Int32)).toUInt32.toUInt16.toUInt32.toInt32)), .val (.int (((XT.ushr p1 (16 : Int32)) &&& (3 : Int32)) % (3 : Int32))), .val (.int d0), .val (.int d1), .val (.int ((((p1 &&& (255 : Int32)).toUInt32.toUInt16.toUInt32.toInt32) ^^^ d0).toUInt32.toUInt16.toUInt32.toInt32)), .val (.int (((((XT.ushr p1 (8 : Int32)) &&& (255 : Int32)).toUInt32.toUInt16.toUInt32.toInt32) ^^^ d1).toUInt32.toUInt16.toUInt32.toInt32)), .val (.int (((XT.ushr p2 (24 : Int32)) &&& (3 : Int32)) % (3 : Int32))), .val (.ref sa2), .val (.ref sa4), .val (.ref sa6), .unset, .unset, .unset] [(.ref sa2), (.ref kd), (.ref b7), (.ref b7)])
      refine own_goW (fun t_ k_ => XS.iloadN X8.here hx rfl (hb hby at_148) rfl  k_) ?_
      show own_EndsW _ _ _ _ _ _ _ _ _ T8 (mkF m 149 #[.val (.int p0), .val (.int p1), .val (.int p2), .val (.int p3), .val (.int p4), .val (.int p5), .val (.int ((p0 &&& (2147483647 : Int32)) % (7 : Int32))), .val (.int ((p1 &&& (255 : Int32)).toUInt32.toUInt16.toUInt32.toInt32)), .val (.int (((XT.ushr p1 (8 : Int32)) &&& (255 : Int32)).toUInt32.toUInt16.toUInt32.toInt32)), .val (.int (((XT.ushr p1 (16 : Int32)) &&& (3 : Int32)) % (3 : Int32))), .val (.int d0), .val (.int d1), .val (.int ((((p1 &&& (255 : Int32)).toUInt32.toUInt16.toUInt32.toInt32) ^^^ d0).toUInt32.toUInt16.toUInt32.toInt32)), .val (.int (((((XT.ushr p1 (8 : Int32)) &&& (255 : Int32)).toUInt32.toUInt16.toUInt32.toInt32) ^^^ d1).toUInt32.toUInt16.toUInt32.toInt32)), .val (.int (((XT.ushr p2 (24 : Int32)) &&& (3 : Int32)) % (3 : Int32))), .val (.ref sa2), .val (.ref sa4), .val (.ref sa6), .unset, .unset, .unset] [(.int p3), (.ref sa2), (.ref kd), (.ref b7), (.ref b7)])
      refine own_goW (fun t_ k_ => XS.iload X8.here hx rfl (hb hby at_149) rfl  k_) ?_
      show own_EndsW _ _ _ _ _ _ _ _ _ T8 (mkF m 151 #[.val (.int p0), .val (.int p1), .val (.int p2), .val (.int p3), .val (.int p4), .val (.int p5), .val (.int ((p0 &&& (2147483647 : Int32)) % (7 : Int32))), .val (.int ((p1 &&& (255 : Int32)).toUInt32.toUInt16.toUInt32.toInt32)), .val (.int (((XT.ushr p1 (8 : Int32)) &&& (255 : Int32)).toUInt32.toUInt16.toUInt32.toInt32)), .val (.int (((XT.ushr p1 (16 : Int32)) &&& (3 : Int32)) % (3 : Int32))), .val (.int d0), .val (.int d1), .val (.int ((((p1 &&& (255 : Int32)).toUInt32.toUInt16.toUInt32.toInt32) ^^^ d0).toUInt32.toUInt16.toUInt32.toInt32)), .val (.int (((((XT.ushr p1 (8 : Int32)) &&& (255 : Int32)).toUInt32.toUInt16.toUInt32.toInt32) ^^^ d1).toUInt32.toUInt16.toUInt32.toInt32)), .val (.int (((XT.ushr p2 (24 : Int32)) &&& (3 : Int32)) % (3 : Int32))), .val (.ref sa2), .val (.ref sa4), .val (.ref sa6), .unset, .unset, .unset] [(.int p4), (.int p3), (.ref sa2), (.ref kd), (.ref b7), (.ref b7)])
      refine own_goW (fun t_ k_ => XS.aload X8.here hx rfl (hb hby at_151) rfl rfl  k_) ?_
      have J165 : ∀ (zs : Int32), own_EndsW p e below s Z own_EL (fun v h L => v = some (.int 1) ∧ Fr n0 L) room_1.cells room_1.slots T8 (mkF m 165 #[.val (.int p0), .val (.int p1), .val (.int p2), .val (.int p3), .val (.int p4), .val (.int p5), .val (.int ((p0 &&& (2147483647 : Int32)) % (7 : Int32))), .val (.int ((p1 &&& (255 : Int32)).toUInt32.toUInt16.toUInt32.toInt32)), .val (.int (((XT.ushr p1 (8 : Int32)) &&& (255 : Int32)).toUInt32.toUInt16.toUInt32.toInt32)), .val (.int (((XT.ushr p1 (16 : Int32)) &&& (3 : Int32)) % (3 : Int32))), .val (.int d0), .val (.int d1), .val (.int ((((p1 &&& (255 : Int32)).toUInt32.toUInt16.toUInt32.toInt32) ^^^ d0).toUInt32.toUInt16.toUInt32.toInt32)), .val (.int (((((XT.ushr p1 (8 : Int32)) &&& (255 : Int32)).toUInt32.toUInt16.toUInt32.toInt32) ^^^ d1).toUInt32.toUInt16.toUInt32.toInt32)), .val (.int (((XT.ushr p2 (24 : Int32)) &&& (3 : Int32)) % (3 : Int32))), .val (.ref sa2), .val (.ref sa4), .val (.ref sa6), .unset, .unset, .unset] [(.int zs), (.ref sa6), (.int p4), (.int p3), (.ref sa2), (.ref kd), (.ref b7), (.ref b7)]) := by
        intro zs
        show own_EndsW _ _ _ _ _ _ _ _ _ T8 (mkF m 165 #[.val (.int p0), .val (.int p1), .val (.int p2), .val (.int p3), .val (.int p4), .val (.int p5), .val (.int ((p0 &&& (2147483647 : Int32)) % (7 : Int32))), .val (.int ((p1 &&& (255 : Int32)).toUInt32.toUInt16.toUInt32.toInt32)), .val (.int (((XT.ushr p1 (8 : Int32)) &&& (255 : Int32)).toUInt32.toUInt16.toUInt32.toInt32)), .val (.int (((XT.ushr p1 (16 : Int32)) &&& (3 : Int32)) % (3 : Int32))), .val (.int d0), .val (.int d1), .val (.int ((((p1 &&& (255 : Int32)).toUInt32.toUInt16.toUInt32.toInt32) ^^^ d0).toUInt32.toUInt16.toUInt32.toInt32)), .val (.int (((((XT.ushr p1 (8 : Int32)) &&& (255 : Int32)).toUInt32.toUInt16.toUInt32.toInt32) ^^^ d1).toUInt32.toUInt16.toUInt32.toInt32)), .val (.int (((XT.ushr p2 (24 : Int32)) &&& (3 : Int32)) % (3 : Int32))), .val (.ref sa2), .val (.ref sa4), .val (.ref sa6), .unset, .unset, .unset] [(.int zs), (.ref sa6), (.int p4), (.int p3), (.ref sa2), (.ref kd), (.ref b7), (.ref b7)])
        have Nsk9 : ∀ x ∈ ([b7] : List Addr), ∀ cell : Cell, h7[x]? = some cell → cell.vm.isStatics = false := (nsS (Exa.nostat A7) ns0)
        have Skk9 : ∀ x ∈ ([b7] : List Addr), Safe Z own_EL T6.vm h7 x := (sfS (Safe.exa hZ.alike A7 (by decide) (by decide)) sf0)
        obtain ⟨T10, v10, L10, X10, hQ10, st10⟩ := own_callN X8 hx hZ (y := (⟨"com/example/ferret/ferret/frontend/Token", "<init>", "(Lcom/example/ferret/ferret/frontend/Token$Kind;Ljava/lang/String;IILjava/lang/String;Z)V"⟩ : MethodName)) rfl hown (hw _ (List.mem_of_getElem? (i := 36) rfl)) (hw _ (List.mem_of_getElem? (i := 37) rfl)) (hw _ (List.mem_of_getElem? (i := 29) rfl)) (hw _ (List.mem_of_getElem? (i := 38) rfl)) (by decide) (rm6 l Z a0 hw [] b7 kd sa2 p3 p4 sa6 zs h7 n0 (Nat.le_trans (Nat.le_trans (Nat.le_trans (Nat.le_trans Z0 Kq2.1) Kq4.1) Kq6.1) E7.1)  A7 F7_kind F7_text F7_line F7_column F7_spelling F7_spaced g_b7) e8 (g := (mkF m 165 #[.val (.int p0), .val (.int p1), .val (.int p2), .val (.int p3), .val (.int p4), .val (.int p5), .val (.int ((p0 &&& (2147483647 : Int32)) % (7 : Int32))), .val (.int ((p1 &&& (255 : Int32)).toUInt32.toUInt16.toUInt32.toInt32)), .val (.int (((XT.ushr p1 (8 : Int32)) &&& (255 : Int32)).toUInt32.toUInt16.toUInt32.toInt32)), .val (.int (((XT.ushr p1 (16 : Int32)) &&& (3 : Int32)) % (3 : Int32))), .val (.int d0), .val (.int d1), .val (.int ((((p1 &&& (255 : Int32)).toUInt32.toUInt16.toUInt32.toInt32) ^^^ d0).toUInt32.toUInt16.toUInt32.toInt32)), .val (.int (((((XT.ushr p1 (8 : Int32)) &&& (255 : Int32)).toUInt32.toUInt16.toUInt32.toInt32) ^^^ d1).toUInt32.toUInt16.toUInt32.toInt32)), .val (.int (((XT.ushr p2 (24 : Int32)) &&& (3 : Int32)) % (3 : Int32))), .val (.ref sa2), .val (.ref sa4), .val (.ref sa6), .unset, .unset, .unset] [(.int zs), (.ref sa6), (.int p4), (.int p3), (.ref sa2), (.ref kd), (.ref b7), (.ref b7)])) rfl (by rw [hml]; rfl) b7 [(.ref kd), (.ref sa2), (.int p3), (.int p4), (.ref sa6), (.int zs)] [(.ref b7)] rfl (lenOf pd__Lcom_example_ferret_ferret_frontend_Token_Kind_Ljava_lang_String_IILjava_lang_String_Z_V rfl) rfl 1 (by show 2 * 0 + _ ≤ _; exact Nat.le_of_eq rfl) (hb hby at_165) (by decide) (by decide) (by decide) (by decide)
        obtain ⟨rfl, N10q, Kq10, Eq10, Fq10_0, Fq10_1⟩ := hQ10
        refine own_goW st10 ?_
        have N10 := Fr.app N8 N10q
        have Iv10 := Iv7.keep Kq10 Skk9
        show own_EndsW _ _ _ _ _ _ _ _ _ T10 (mkF m 168 #[.val (.int p0), .val (.int p1), .val (.int p2), .val (.int p3), .val (.int p4), .val (.int p5), .val (.int ((p0 &&& (2147483647 : Int32)) % (7 : Int32))), .val (.int ((p1 &&& (255 : Int32)).toUInt32.toUInt16.toUInt32.toInt32)), .val (.int (((XT.ushr p1 (8 : Int32)) &&& (255 : Int32)).toUInt32.toUInt16.toUInt32.toInt32)), .val (.int (((XT.ushr p1 (16 : Int32)) &&& (3 : Int32)) % (3 : Int32))), .val (.int d0), .val (.int d1), .val (.int ((((p1 &&& (255 : Int32)).toUInt32.toUInt16.toUInt32.toInt32) ^^^ d0).toUInt32.toUInt16.toUInt32.toInt32)), .val (.int (((((XT.ushr p1 (8 : Int32)) &&& (255 : Int32)).toUInt32.toUInt16.toUInt32.toInt32) ^^^ d1).toUInt32.toUInt16.toUInt32.toInt32)), .val (.int (((XT.ushr p2 (24 : Int32)) &&& (3 : Int32)) % (3 : Int32))), .val (.ref sa2), .val (.ref sa4), .val (.ref sa6), .unset, .unset, .unset] [(.ref b7)])
        refine own_goW (fun t_ k_ => XS.astore X10.here hx rfl (hb hby at_168) rfl rfl (l' := #[.val (.int p0), .val (.int p1), .val (.int p2), .val (.int p3), .val (.int p4), .val (.int p5), .val (.int ((p0 &&& (2147483647 : Int32)) % (7 : Int32))), .val (.int ((p1 &&& (255 : Int32)).toUInt32.toUInt16.toUInt32.toInt32)), .val (.int (((XT.ushr p1 (8 : Int32)) &&& (255 : Int32)).toUInt32.toUInt16.toUInt32.toInt32)), .val (.int (((XT.ushr p1 (16 : Int32)) &&& (3 : Int32)) % (3 : Int32))), .val (.int d0), .val (.int d1), .val (.int ((((p1 &&& (255 : Int32)).toUInt32.toUInt16.toUInt32.toInt32) ^^^ d0).toUInt32.toUInt16.toUInt32.toInt32)), .val (.int (((((XT.ushr p1 (8 : Int32)) &&& (255 : Int32)).toUInt32.toUInt16.toUInt32.toInt32) ^^^ d1).toUInt32.toUInt16.toUInt32.toInt32)), .val (.int (((XT.ushr p2 (24 : Int32)) &&& (3 : Int32)) % (3 : Int32))), .val (.ref sa2), .val (.ref sa4), .val (.ref sa6), .val (.ref b7), .unset, .unset]) rfl k_) ?_
        have J187 : ∀ (z1 : Int32) (hz1 : (z1 = 1 ∧ (((p0 &&& (2147483647 : Int32)) % (7 : Int32)) = 1 ∨ ((p0 &&& (2147483647 : Int32)) % (7 : Int32)) = 5)) ∨ (z1 = 0 ∧ ¬ (((p0 &&& (2147483647 : Int32)) % (7 : Int32)) = 1 ∨ ((p0 &&& (2147483647 : Int32)) % (7 : Int32)) = 5))), own_EndsW p e below s Z own_EL (fun v h L => v = some (.int 1) ∧ Fr n0 L) room_1.cells room_1.slots T10 (mkF m 187 #[.val (.int p0), .val (.int p1), .val (.int p2), .val (.int p3), .val (.int p4), .val (.int p5), .val (.int ((p0 &&& (2147483647 : Int32)) % (7 : Int32))), .val (.int ((p1 &&& (255 : Int32)).toUInt32.toUInt16.toUInt32.toInt32)), .val (.int (((XT.ushr p1 (8 : Int32)) &&& (255 : Int32)).toUInt32.toUInt16.toUInt32.toInt32)), .val (.int (((XT.ushr p1 (16 : Int32)) &&& (3 : Int32)) % (3 : Int32))), .val (.int d0), .val (.int d1), .val (.int ((((p1 &&& (255 : Int32)).toUInt32.toUInt16.toUInt32.toInt32) ^^^ d0).toUInt32.toUInt16.toUInt32.toInt32)), .val (.int (((((XT.ushr p1 (8 : Int32)) &&& (255 : Int32)).toUInt32.toUInt16.toUInt32.toInt32) ^^^ d1).toUInt32.toUInt16.toUInt32.toInt32)), .val (.int (((XT.ushr p2 (24 : Int32)) &&& (3 : Int32)) % (3 : Int32))), .val (.ref sa2), .val (.ref sa4), .val (.ref sa6), .val (.ref b7), .unset, .unset] [(.int z1)]) := by
          intro z1 hz1
          show own_EndsW _ _ _ _ _ _ _ _ _ T10 (mkF m 187 #[.val (.int p0), .val (.int p1), .val (.int p2), .val (.int p3), .val (.int p4), .val (.int p5), .val (.int ((p0 &&& (2147483647 : Int32)) % (7 : Int32))), .val (.int ((p1 &&& (255 : Int32)).toUInt32.toUInt16.toUInt32.toInt32)), .val (.int (((XT.ushr p1 (8 : Int32)) &&& (255 : Int32)).toUInt32.toUInt16.toUInt32.toInt32)), .val (.int (((XT.ushr p1 (16 : Int32)) &&& (3 : Int32)) % (3 : Int32))), .val (.int d0), .val (.int d1), .val (.int ((((p1 &&& (255 : Int32)).toUInt32.toUInt16.toUInt32.toInt32) ^^^ d0).toUInt32.toUInt16.toUInt32.toInt32)), .val (.int (((((XT.ushr p1 (8 : Int32)) &&& (255 : Int32)).toUInt32.toUInt16.toUInt32.toInt32) ^^^ d1).toUInt32.toUInt16.toUInt32.toInt32)), .val (.int (((XT.ushr p2 (24 : Int32)) &&& (3 : Int32)) % (3 : Int32))), .val (.ref sa2), .val (.ref sa4), .val (.ref sa6), .val (.ref b7), .unset, .unset] [(.int z1)])
          refine own_goW (fun t_ k_ => XS.istore X10.here hx rfl (hb hby at_187) rfl (l' := #[.val (.int p0), .val (.int p1), .val (.int p2), .val (.int p3), .val (.int p4), .val (.int p5), .val (.int ((p0 &&& (2147483647 : Int32)) % (7 : Int32))), .val (.int ((p1 &&& (255 : Int32)).toUInt32.toUInt16.toUInt32.toInt32)), .val (.int (((XT.ushr p1 (8 : Int32)) &&& (255 : Int32)).toUInt32.toUInt16.toUInt32.toInt32)), .val (.int (((XT.ushr p1 (16 : Int32)) &&& (3 : Int32)) % (3 : Int32))), .val (.int d0), .val (.int d1), .val (.int ((((p1 &&& (255 : Int32)).toUInt32.toUInt16.toUInt32.toInt32) ^^^ d0).toUInt32.toUInt16.toUInt32.toInt32)), .val (.int (((((XT.ushr p1 (8 : Int32)) &&& (255 : Int32)).toUInt32.toUInt16.toUInt32.toInt32) ^^^ d1).toUInt32.toUInt16.toUInt32.toInt32)), .val (.int (((XT.ushr p2 (24 : Int32)) &&& (3 : Int32)) % (3 : Int32))), .val (.ref sa2), .val (.ref sa4), .val (.ref sa6), .val (.ref b7), .val (.int z1), .unset]) rfl k_) ?_
          have J227 : ∀ (z2 : Int32) (hz2 : (z2 = 1 ∧ ((((XT.ushr p1 (16 : Int32)) &&& (3 : Int32)) % (3 : Int32)) = (((XT.ushr p2 (24 : Int32)) &&& (3 : Int32)) % (3 : Int32)) ∧ ((((XT.ushr p1 (16 : Int32)) &&& (3 : Int32)) % (3 : Int32)) < 1 ∨ ((((p1 &&& (255 : Int32)).toUInt32.toUInt16.toUInt32.toInt32) ^^^ d0).toUInt32.toUInt16.toUInt32.toInt32) = ((p1 &&& (255 : Int32)).toUInt32.toUInt16.toUInt32.toInt32)) ∧ ((((XT.ushr p1 (16 : Int32)) &&& (3 : Int32)) % (3 : Int32)) < 2 ∨ (((((XT.ushr p1 (8 : Int32)) &&& (255 : Int32)).toUInt32.toUInt16.toUInt32.toInt32) ^^^ d1).toUInt32.toUInt16.toUInt32.toInt32) = (((XT.ushr p1 (8 : Int32)) &&& (255 : Int32)).toUInt32.toUInt16.toUInt32.toInt32)))) ∨ (z2 = 0 ∧ ¬ ((((XT.ushr p1 (16 : Int32)) &&& (3 : Int32)) % (3 : Int32)) = (((XT.ushr p2 (24 : Int32)) &&& (3 : Int32)) % (3 : Int32)) ∧ ((((XT.ushr p1 (16 : Int32)) &&& (3 : Int32)) % (3 : Int32)) < 1 ∨ ((((p1 &&& (255 : Int32)).toUInt32.toUInt16.toUInt32.toInt32) ^^^ d0).toUInt32.toUInt16.toUInt32.toInt32) = ((p1 &&& (255 : Int32)).toUInt32.toUInt16.toUInt32.toInt32)) ∧ ((((XT.ushr p1 (16 : Int32)) &&& (3 : Int32)) % (3 : Int32)) < 2 ∨ (((((XT.ushr p1 (8 : Int32)) &&& (255 : Int32)).toUInt32.toUInt16.toUInt32.toInt32) ^^^ d1).toUInt32.toUInt16.toUInt32.toInt32) = (((XT.ushr p1 (8 : Int32)) &&& (255 : Int32)).toUInt32.toUInt16.toUInt32.toInt32))))), own_EndsW p e below s Z own_EL (fun v h L => v = some (.int 1) ∧ Fr n0 L) room_1.cells room_1.slots T10 (mkF m 227 #[.val (.int p0), .val (.int p1), .val (.int p2), .val (.int p3), .val (.int p4), .val (.int p5), .val (.int ((p0 &&& (2147483647 : Int32)) % (7 : Int32))), .val (.int ((p1 &&& (255 : Int32)).toUInt32.toUInt16.toUInt32.toInt32)), .val (.int (((XT.ushr p1 (8 : Int32)) &&& (255 : Int32)).toUInt32.toUInt16.toUInt32.toInt32)), .val (.int (((XT.ushr p1 (16 : Int32)) &&& (3 : Int32)) % (3 : Int32))), .val (.int d0), .val (.int d1), .val (.int ((((p1 &&& (255 : Int32)).toUInt32.toUInt16.toUInt32.toInt32) ^^^ d0).toUInt32.toUInt16.toUInt32.toInt32)), .val (.int (((((XT.ushr p1 (8 : Int32)) &&& (255 : Int32)).toUInt32.toUInt16.toUInt32.toInt32) ^^^ d1).toUInt32.toUInt16.toUInt32.toInt32)), .val (.int (((XT.ushr p2 (24 : Int32)) &&& (3 : Int32)) % (3 : Int32))), .val (.ref sa2), .val (.ref sa4), .val (.ref sa6), .val (.ref b7), .val (.int z1), .unset] [(.int z2)]) := by
            intro z2 hz2
            show own_EndsW _ _ _ _ _ _ _ _ _ T10 (mkF m 227 #[.val (.int p0), .val (.int p1), .val (.int p2), .val (.int p3), .val (.int p4), .val (.int p5), .val (.int ((p0 &&& (2147483647 : Int32)) % (7 : Int32))), .val (.int ((p1 &&& (255 : Int32)).toUInt32.toUInt16.toUInt32.toInt32)), .val (.int (((XT.ushr p1 (8 : Int32)) &&& (255 : Int32)).toUInt32.toUInt16.toUInt32.toInt32)), .val (.int (((XT.ushr p1 (16 : Int32)) &&& (3 : Int32)) % (3 : Int32))), .val (.int d0), .val (.int d1), .val (.int ((((p1 &&& (255 : Int32)).toUInt32.toUInt16.toUInt32.toInt32) ^^^ d0).toUInt32.toUInt16.toUInt32.toInt32)), .val (.int (((((XT.ushr p1 (8 : Int32)) &&& (255 : Int32)).toUInt32.toUInt16.toUInt32.toInt32) ^^^ d1).toUInt32.toUInt16.toUInt32.toInt32)), .val (.int (((XT.ushr p2 (24 : Int32)) &&& (3 : Int32)) % (3 : Int32))), .val (.ref sa2), .val (.ref sa4), .val (.ref sa6), .val (.ref b7), .val (.int z1), .unset] [(.int z2)])
            refine own_goW (fun t_ k_ => XS.istore X10.here hx rfl (hb hby at_227) rfl (l' := #[.val (.int p0), .val (.int p1), .val (.int p2), .val (.int p3), .val (.int p4), .val (.int p5), .val (.int ((p0 &&& (2147483647 : Int32)) % (7 : Int32))), .val (.int ((p1 &&& (255 : Int32)).toUInt32.toUInt16.toUInt32.toInt32)), .val (.int (((XT.ushr p1 (8 : Int32)) &&& (255 : Int32)).toUInt32.toUInt16.toUInt32.toInt32)), .val (.int (((XT.ushr p1 (16 : Int32)) &&& (3 : Int32)) % (3 : Int32))), .val (.int d0), .val (.int d1), .val (.int ((((p1 &&& (255 : Int32)).toUInt32.toUInt16.toUInt32.toInt32) ^^^ d0).toUInt32.toUInt16.toUInt32.toInt32)), .val (.int (((((XT.ushr p1 (8 : Int32)) &&& (255 : Int32)).toUInt32.toUInt16.toUInt32.toInt32) ^^^ d1).toUInt32.toUInt16.toUInt32.toInt32)), .val (.int (((XT.ushr p2 (24 : Int32)) &&& (3 : Int32)) % (3 : Int32))), .val (.ref sa2), .val (.ref sa4), .val (.ref sa6), .val (.ref b7), .val (.int z1), .val (.int z2)]) rfl k_) ?_
            show own_EndsW _ _ _ _ _ _ _ _ _ T10 (mkF m 229 #[.val (.int p0), .val (.int p1), .val (.int p2), .val (.int p3), .val (.int p4), .val (.int p5), .val (.int ((p0 &&& (2147483647 : Int32)) % (7 : Int32))), .val (.int ((p1 &&& (255 : Int32)).toUInt32.toUInt16.toUInt32.toInt32)), .val (.int (((XT.ushr p1 (8 : Int32)) &&& (255 : Int32)).toUInt32.toUInt16.toUInt32.toInt32)), .val (.int (((XT.ushr p1 (16 : Int32)) &&& (3 : Int32)) % (3 : Int32))), .val (.int d0), .val (.int d1), .val (.int ((((p1 &&& (255 : Int32)).toUInt32.toUInt16.toUInt32.toInt32) ^^^ d0).toUInt32.toUInt16.toUInt32.toInt32)), .val (.int (((((XT.ushr p1 (8 : Int32)) &&& (255 : Int32)).toUInt32.toUInt16.toUInt32.toInt32) ^^^ d1).toUInt32.toUInt16.toUInt32.toInt32)), .val (.int (((XT.ushr p2 (24 : Int32)) &&& (3 : Int32)) % (3 : Int32))), .val (.ref sa2), .val (.ref sa4), .val (.ref sa6), .val (.ref b7), .val (.int z1), .val (.int z2)] [])
            refine own_goW (fun t_ k_ => XS.aload X10.here hx rfl (hb hby at_229) rfl rfl  k_) ?_
            show own_EndsW _ _ _ _ _ _ _ _ _ T10 (mkF m 231 #[.val (.int p0), .val (.int p1), .val (.int p2), .val (.int p3), .val (.int p4), .val (.int p5), .val (.int ((p0 &&& (2147483647 : Int32)) % (7 : Int32))), .val (.int ((p1 &&& (255 : Int32)).toUInt32.toUInt16.toUInt32.toInt32)), .val (.int (((XT.ushr p1 (8 : Int32)) &&& (255 : Int32)).toUInt32.toUInt16.toUInt32.toInt32)), .val (.int (((XT.ushr p1 (16 : Int32)) &&& (3 : Int32)) % (3 : Int32))), .val (.int d0), .val (.int d1), .val (.int ((((p1 &&& (255 : Int32)).toUInt32.toUInt16.toUInt32.toInt32) ^^^ d0).toUInt32.toUInt16.toUInt32.toInt32)), .val (.int (((((XT.ushr p1 (8 : Int32)) &&& (255 : Int32)).toUInt32.toUInt16.toUInt32.toInt32) ^^^ d1).toUInt32.toUInt16.toUInt32.toInt32)), .val (.int (((XT.ushr p2 (24 : Int32)) &&& (3 : Int32)) % (3 : Int32))), .val (.ref sa2), .val (.ref sa4), .val (.ref sa6), .val (.ref b7), .val (.int z1), .val (.int z2)] [(.ref b7)])
            refine own_goW (fun t_ k_ => XS.aload X10.here hx rfl (hb hby at_231) rfl rfl  k_) ?_
            show own_EndsW _ _ _ _ _ _ _ _ _ T10 (mkF m 233 #[.val (.int p0), .val (.int p1), .val (.int p2), .val (.int p3), .val (.int p4), .val (.int p5), .val (.int ((p0 &&& (2147483647 : Int32)) % (7 : Int32))), .val (.int ((p1 &&& (255 : Int32)).toUInt32.toUInt16.toUInt32.toInt32)), .val (.int (((XT.ushr p1 (8 : Int32)) &&& (255 : Int32)).toUInt32.toUInt16.toUInt32.toInt32)), .val (.int (((XT.ushr p1 (16 : Int32)) &&& (3 : Int32)) % (3 : Int32))), .val (.int d0), .val (.int d1), .val (.int ((((p1 &&& (255 : Int32)).toUInt32.toUInt16.toUInt32.toInt32) ^^^ d0).toUInt32.toUInt16.toUInt32.toInt32)), .val (.int (((((XT.ushr p1 (8 : Int32)) &&& (255 : Int32)).toUInt32.toUInt16.toUInt32.toInt32) ^^^ d1).toUInt32.toUInt16.toUInt32.toInt32)), .val (.int (((XT.ushr p2 (24 : Int32)) &&& (3 : Int32)) % (3 : Int32))), .val (.ref sa2), .val (.ref sa4), .val (.ref sa6), .val (.ref b7), .val (.int z1), .val (.int z2)] [(.ref sa4), (.ref b7)])
            obtain ⟨T11, v11, L11, X11, hQ11, st11⟩ := own_callV X10 hx hZ (y := (⟨"com/example/ferret/ferret/frontend/Token", "is", "(Ljava/lang/String;)Z"⟩ : MethodName)) (z := (⟨"com/example/ferret/ferret/frontend/Token", "is", "(Ljava/lang/String;)Z"⟩ : MethodName)) hown (hw _ (List.mem_of_getElem? (i := 57) rfl)) (hw _ (List.mem_of_getElem? (i := 58) rfl)) (notFace_of_selects (args := #[]) (mvT hZ (hw _ (List.mem_of_getElem? (i := 60) rfl)))) (hw _ (List.mem_of_getElem? (i := 60) rfl)) (hw _ (List.mem_of_getElem? (i := 59) rfl)) (hw _ (List.mem_of_getElem? (i := 29) rfl)) (hw _ (List.mem_of_getElem? (i := 61) rfl)) (by decide) (rm8 l Z a0 hw [] b7 sa4 kd sa2 sb2 sb4 w5 w1 kb2 kb4 (own_str (((XT.ushr p1 (16 : Int32)) &&& (3 : Int32)) % (3 : Int32)) ((p1 &&& (255 : Int32)).toUInt32.toUInt16.toUInt32.toInt32) (((XT.ushr p1 (8 : Int32)) &&& (255 : Int32)).toUInt32.toUInt16.toUInt32.toInt32)) (own_str (((XT.ushr p2 (24 : Int32)) &&& (3 : Int32)) % (3 : Int32)) ((((p1 &&& (255 : Int32)).toUInt32.toUInt16.toUInt32.toInt32) ^^^ d0).toUInt32.toUInt16.toUInt32.toInt32) (((((XT.ushr p1 (8 : Int32)) &&& (255 : Int32)).toUInt32.toUInt16.toUInt32.toInt32) ^^^ d1).toUInt32.toUInt16.toUInt32.toInt32)) zc T10.heap n0 (Nat.le_trans (Nat.le_trans (Nat.le_trans (Nat.le_trans (Nat.le_trans Z0 Kq2.1) Kq4.1) Kq6.1) E7.1) Kq10.1) Fq10_0 Fq10_1 (own_staK ((own_staK (own_staK (own_staK S5 Kq2 Nsk1) Kq4 Nsk3) Kq6 Nsk5).ext E7) Kq10 Nsk9) (own_staK ((own_staK (own_staK (own_staK S1 Kq2 Nsk1) Kq4 Nsk3) Kq6 Nsk5).ext E7) Kq10 Nsk9) ((((Eq2.keep Kq4).keep Kq6).ext E7).keep Kq10) ((((Cq2.keep Kq4 nin0).keep Kq6 nin0).ext E7).keep Kq10 (ninS (Nat.ne_of_lt (Nat.lt_of_lt_of_le ((Eq2.keep Kq4).keep Kq6).lt (Nat.le_of_eq g7.symm))) nin0)) ((((Vq2.keep Kq4 nin0).keep Kq6 nin0).ext E7).keep Kq10 (ninS (Nat.ne_of_lt (Nat.lt_of_lt_of_le ((Eq2.keep Kq4).keep Kq6).lt (Nat.le_of_eq g7.symm))) nin0)) ((((Aq2.keep Kq4 nin0).keep Kq6 nin0).ext E7).keep Kq10 (ninS (Nat.ne_of_lt (Nat.lt_of_lt_of_le ((Aq2.keep Kq4 nin0).keep Kq6 nin0).lt (Nat.le_of_eq g7.symm))) nin0)) (own_strR (own_i2cR (own_and255 _)) (own_i2cR (own_and255 _))) (own_strL _ _ _) (((Eq4.keep Kq6).ext E7).keep Kq10) (((Cq4.keep Kq6 nin0).ext E7).keep Kq10 (ninS (Nat.ne_of_lt (Nat.lt_of_lt_of_le (Eq4.keep Kq6).lt (Nat.le_of_eq g7.symm))) nin0)) (((Vq4.keep Kq6 nin0).ext E7).keep Kq10 (ninS (Nat.ne_of_lt (Nat.lt_of_lt_of_le (Eq4.keep Kq6).lt (Nat.le_of_eq g7.symm))) nin0)) (((Aq4.keep Kq6 nin0).ext E7).keep Kq10 (ninS (Nat.ne_of_lt (Nat.lt_of_lt_of_le (Aq4.keep Kq6 nin0).lt (Nat.le_of_eq g7.symm))) nin0)) (own_strR (own_i2cR (own_xor (own_i2cR (own_and255 _)) hd0)) (own_i2cR (own_xor (own_i2cR (own_and255 _)) hd1))) (own_strL _ _ _) (own_staK ((own_staK (own_staK (own_staK SC Kq2 Nsk1) Kq4 Nsk3) Kq6 Nsk5).ext E7) Kq10 Nsk9) hzc) rfl (g := (mkF m 233 #[.val (.int p0), .val (.int p1), .val (.int p2), .val (.int p3), .val (.int p4), .val (.int p5), .val (.int ((p0 &&& (2147483647 : Int32)) % (7 : Int32))), .val (.int ((p1 &&& (255 : Int32)).toUInt32.toUInt16.toUInt32.toInt32)), .val (.int (((XT.ushr p1 (8 : Int32)) &&& (255 : Int32)).toUInt32.toUInt16.toUInt32.toInt32)), .val (.int (((XT.ushr p1 (16 : Int32)) &&& (3 : Int32)) % (3 : Int32))), .val (.int d0), .val (.int d1), .val (.int ((((p1 &&& (255 : Int32)).toUInt32.toUInt16.toUInt32.toInt32) ^^^ d0).toUInt32.toUInt16.toUInt32.toInt32)), .val (.int (((((XT.ushr p1 (8 : Int32)) &&& (255 : Int32)).toUInt32.toUInt16.toUInt32.toInt32) ^^^ d1).toUInt32.toUInt16.toUInt32.toInt32)), .val (.int (((XT.ushr p2 (24 : Int32)) &&& (3 : Int32)) % (3 : Int32))), .val (.ref sa2), .val (.ref sa4), .val (.ref sa6), .val (.ref b7), .val (.int z1), .val (.int z2)] [(.ref sa4), (.ref b7)])) rfl (by rw [hml]; rfl) b7 (A7.keep Kq10) [(.ref sa4)] [] rfl (lenOf pd__Ljava_lang_String__Z rfl) rfl 0 (by show 2 * 0 + _ ≤ _; exact Nat.le_of_eq rfl) (hb hby at_233) (by decide) (by decide) (by decide) (by decide)
            obtain ⟨hv11, N11q, e11⟩ := hQ11
            obtain ⟨r, hr⟩ : ∃ z : Int32, z = (if (kd = w5 ∨ kd = w1) ∧ (own_str (((XT.ushr p1 (16 : Int32)) &&& (3 : Int32)) % (3 : Int32)) ((p1 &&& (255 : Int32)).toUInt32.toUInt16.toUInt32.toInt32) (((XT.ushr p1 (8 : Int32)) &&& (255 : Int32)).toUInt32.toUInt16.toUInt32.toInt32)) = (own_str (((XT.ushr p2 (24 : Int32)) &&& (3 : Int32)) % (3 : Int32)) ((((p1 &&& (255 : Int32)).toUInt32.toUInt16.toUInt32.toInt32) ^^^ d0).toUInt32.toUInt16.toUInt32.toInt32) (((((XT.ushr p1 (8 : Int32)) &&& (255 : Int32)).toUInt32.toUInt16.toUInt32.toInt32) ^^^ d1).toUInt32.toUInt16.toUInt32.toInt32)) then 1 else 0) := ⟨_, rfl⟩
            rw [← hr] at hv11
            subst hv11
            have hA := own_kindF (own_seven p0) n5_0 n5_1 n5_2 n5_3 n5_4 n5_6 n1_0 n1_2 n1_3 n1_4 n1_5 n1_6
            rw [← hkd] at hA
            have hB := own_strF (c0 := ((p1 &&& (255 : Int32)).toUInt32.toUInt16.toUInt32.toInt32)) (c1 := (((XT.ushr p1 (8 : Int32)) &&& (255 : Int32)).toUInt32.toUInt16.toUInt32.toInt32)) (d0 := ((((p1 &&& (255 : Int32)).toUInt32.toUInt16.toUInt32.toInt32) ^^^ d0).toUInt32.toUInt16.toUInt32.toInt32)) (d1 := (((((XT.ushr p1 (8 : Int32)) &&& (255 : Int32)).toUInt32.toUInt16.toUInt32.toInt32) ^^^ d1).toUInt32.toUInt16.toUInt32.toInt32)) (own_three (own_m3 (XT.ushr p1 (16 : Int32)))) (own_three (own_m3 (XT.ushr p2 (24 : Int32))))
            refine own_goW st11 ?_
            have N11 := Fr.app N10 N11q
            show own_EndsW _ _ _ _ _ _ _ _ _ T11 (mkF m 236 #[.val (.int p0), .val (.int p1), .val (.int p2), .val (.int p3), .val (.int p4), .val (.int p5), .val (.int ((p0 &&& (2147483647 : Int32)) % (7 : Int32))), .val (.int ((p1 &&& (255 : Int32)).toUInt32.toUInt16.toUInt32.toInt32)), .val (.int (((XT.ushr p1 (8 : Int32)) &&& (255 : Int32)).toUInt32.toUInt16.toUInt32.toInt32)), .val (.int (((XT.ushr p1 (16 : Int32)) &&& (3 : Int32)) % (3 : Int32))), .val (.int d0), .val (.int d1), .val (.int ((((p1 &&& (255 : Int32)).toUInt32.toUInt16.toUInt32.toInt32) ^^^ d0).toUInt32.toUInt16.toUInt32.toInt32)), .val (.int (((((XT.ushr p1 (8 : Int32)) &&& (255 : Int32)).toUInt32.toUInt16.toUInt32.toInt32) ^^^ d1).toUInt32.toUInt16.toUInt32.toInt32)), .val (.int (((XT.ushr p2 (24 : Int32)) &&& (3 : Int32)) % (3 : Int32))), .val (.ref sa2), .val (.ref sa4), .val (.ref sa6), .val (.ref b7), .val (.int z1), .val (.int z2)] [(.int r)])
            refine own_goW (fun t_ k_ => XS.iload X11.here hx rfl (hb hby at_236) rfl  k_) ?_
            show own_EndsW _ _ _ _ _ _ _ _ _ T11 (mkF m 238 #[.val (.int p0), .val (.int p1), .val (.int p2), .val (.int p3), .val (.int p4), .val (.int p5), .val (.int ((p0 &&& (2147483647 : Int32)) % (7 : Int32))), .val (.int ((p1 &&& (255 : Int32)).toUInt32.toUInt16.toUInt32.toInt32)), .val (.int (((XT.ushr p1 (8 : Int32)) &&& (255 : Int32)).toUInt32.toUInt16.toUInt32.toInt32)), .val (.int (((XT.ushr p1 (16 : Int32)) &&& (3 : Int32)) % (3 : Int32))), .val (.int d0), .val (.int d1), .val (.int ((((p1 &&& (255 : Int32)).toUInt32.toUInt16.toUInt32.toInt32) ^^^ d0).toUInt32.toUInt16.toUInt32.toInt32)), .val (.int (((((XT.ushr p1 (8 : Int32)) &&& (255 : Int32)).toUInt32.toUInt16.toUInt32.toInt32) ^^^ d1).toUInt32.toUInt16.toUInt32.toInt32)), .val (.int (((XT.ushr p2 (24 : Int32)) &&& (3 : Int32)) % (3 : Int32))), .val (.ref sa2), .val (.ref sa4), .val (.ref sa6), .val (.ref b7), .val (.int z1), .val (.int z2)] [(.int z1), (.int r)])
            by_cases hc12 : z1 = (0 : Int32)
            · refine own_goW (fun t_ k_ => XS.ifYes X11.here hx rfl (pc0 := 238) (pc' := 250) rfl (hb hby at_238) rfl ((if0 _ _).trans (teq hc12).1) (by decide) (by decide) k_) ?_
              show own_EndsW _ _ _ _ _ _ _ _ _ T11 (mkF m 250 #[.val (.int p0), .val (.int p1), .val (.int p2), .val (.int p3), .val (.int p4), .val (.int p5), .val (.int ((p0 &&& (2147483647 : Int32)) % (7 : Int32))), .val (.int ((p1 &&& (255 : Int32)).toUInt32.toUInt16.toUInt32.toInt32)), .val (.int (((XT.ushr p1 (8 : Int32)) &&& (255 : Int32)).toUInt32.toUInt16.toUInt32.toInt32)), .val (.int (((XT.ushr p1 (16 : Int32)) &&& (3 : Int32)) % (3 : Int32))), .val (.int d0), .val (.int d1), .val (.int ((((p1 &&& (255 : Int32)).toUInt32.toUInt16.toUInt32.toInt32) ^^^ d0).toUInt32.toUInt16.toUInt32.toInt32)), .val (.int (((((XT.ushr p1 (8 : Int32)) &&& (255 : Int32)).toUInt32.toUInt16.toUInt32.toInt32) ^^^ d1).toUInt32.toUInt16.toUInt32.toInt32)), .val (.int (((XT.ushr p2 (24 : Int32)) &&& (3 : Int32)) % (3 : Int32))), .val (.ref sa2), .val (.ref sa4), .val (.ref sa6), .val (.ref b7), .val (.int z1), .val (.int z2)] [(.int r)])
              refine own_goW (fun t_ k_ => XS.iconst X11.here hx rfl (hb hby at_250) k_) ?_
              show own_EndsW _ _ _ _ _ _ _ _ _ T11 (mkF m 251 #[.val (.int p0), .val (.int p1), .val (.int p2), .val (.int p3), .val (.int p4), .val (.int p5), .val (.int ((p0 &&& (2147483647 : Int32)) % (7 : Int32))), .val (.int ((p1 &&& (255 : Int32)).toUInt32.toUInt16.toUInt32.toInt32)), .val (.int (((XT.ushr p1 (8 : Int32)) &&& (255 : Int32)).toUInt32.toUInt16.toUInt32.toInt32)), .val (.int (((XT.ushr p1 (16 : Int32)) &&& (3 : Int32)) % (3 : Int32))), .val (.int d0), .val (.int d1), .val (.int ((((p1 &&& (255 : Int32)).toUInt32.toUInt16.toUInt32.toInt32) ^^^ d0).toUInt32.toUInt16.toUInt32.toInt32)), .val (.int (((((XT.ushr p1 (8 : Int32)) &&& (255 : Int32)).toUInt32.toUInt16.toUInt32.toInt32) ^^^ d1).toUInt32.toUInt16.toUInt32.toInt32)), .val (.int (((XT.ushr p2 (24 : Int32)) &&& (3 : Int32)) % (3 : Int32))), .val (.ref sa2), .val (.ref sa4), .val (.ref sa6), .val (.ref b7), .val (.int z1), .val (.int z2)] [(.int (0 : Int32)), (.int r)])
              refine own_goW (fun t_ k_ => XS.icmpNo X11.here hx rfl (hb hby at_251) rfl (teq (own_r0a (S := True) (z2 := 0) hz1 hA hr hc12)).2 k_) ?_
              show own_EndsW _ _ _ _ _ _ _ _ _ T11 (mkF m 254 #[.val (.int p0), .val (.int p1), .val (.int p2), .val (.int p3), .val (.int p4), .val (.int p5), .val (.int ((p0 &&& (2147483647 : Int32)) % (7 : Int32))), .val (.int ((p1 &&& (255 : Int32)).toUInt32.toUInt16.toUInt32.toInt32)), .val (.int (((XT.ushr p1 (8 : Int32)) &&& (255 : Int32)).toUInt32.toUInt16.toUInt32.toInt32)), .val (.int (((XT.ushr p1 (16 : Int32)) &&& (3 : Int32)) % (3 : Int32))), .val (.int d0), .val (.int d1), .val (.int ((((p1 &&& (255 : Int32)).toUInt32.toUInt16.toUInt32.toInt32) ^^^ d0).toUInt32.toUInt16.toUInt32.toInt32)), .val (.int (((((XT.ushr p1 (8 : Int32)) &&& (255 : Int32)).toUInt32.toUInt16.toUInt32.toInt32) ^^^ d1).toUInt32.toUInt16.toUInt32.toInt32)), .val (.int (((XT.ushr p2 (24 : Int32)) &&& (3 : Int32)) % (3 : Int32))), .val (.ref sa2), .val (.ref sa4), .val (.ref sa6), .val (.ref b7), .val (.int z1), .val (.int z2)] [])
              refine own_goW (fun t_ k_ => XS.iconst X11.here hx rfl (hb hby at_254) k_) ?_
              show own_EndsW _ _ _ _ _ _ _ _ _ T11 (mkF m 255 #[.val (.int p0), .val (.int p1), .val (.int p2), .val (.int p3), .val (.int p4), .val (.int p5), .val (.int ((p0 &&& (2147483647 : Int32)) % (7 : Int32))), .val (.int ((p1 &&& (255 : Int32)).toUInt32.toUInt16.toUInt32.toInt32)), .val (.int (((XT.ushr p1 (8 : Int32)) &&& (255 : Int32)).toUInt32.toUInt16.toUInt32.toInt32)), .val (.int (((XT.ushr p1 (16 : Int32)) &&& (3 : Int32)) % (3 : Int32))), .val (.int d0), .val (.int d1), .val (.int ((((p1 &&& (255 : Int32)).toUInt32.toUInt16.toUInt32.toInt32) ^^^ d0).toUInt32.toUInt16.toUInt32.toInt32)), .val (.int (((((XT.ushr p1 (8 : Int32)) &&& (255 : Int32)).toUInt32.toUInt16.toUInt32.toInt32) ^^^ d1).toUInt32.toUInt16.toUInt32.toInt32)), .val (.int (((XT.ushr p2 (24 : Int32)) &&& (3 : Int32)) % (3 : Int32))), .val (.ref sa2), .val (.ref sa4), .val (.ref sa6), .val (.ref b7), .val (.int z1), .val (.int z2)] [(.int (1 : Int32))])
              refine own_goW (fun t_ k_ => XS.goto X11.here hx rfl (pc0 := 255) (pc' := 259) rfl (hb hby at_255) (by decide) (by decide) k_) ?_
              show own_EndsW _ _ _ _ _ _ _ _ _ T11 (mkF m 259 #[.val (.int p0), .val (.int p1), .val (.int p2), .val (.int p3), .val (.int p4), .val (.int p5), .val (.int ((p0 &&& (2147483647 : Int32)) % (7 : Int32))), .val (.int ((p1 &&& (255 : Int32)).toUInt32.toUInt16.toUInt32.toInt32)), .val (.int (((XT.ushr p1 (8 : Int32)) &&& (255 : Int32)).toUInt32.toUInt16.toUInt32.toInt32)), .val (.int (((XT.ushr p1 (16 : Int32)) &&& (3 : Int32)) % (3 : Int32))), .val (.int d0), .val (.int d1), .val (.int ((((p1 &&& (255 : Int32)).toUInt32.toUInt16.toUInt32.toInt32) ^^^ d0).toUInt32.toUInt16.toUInt32.toInt32)), .val (.int (((((XT.ushr p1 (8 : Int32)) &&& (255 : Int32)).toUInt32.toUInt16.toUInt32.toInt32) ^^^ d1).toUInt32.toUInt16.toUInt32.toInt32)), .val (.int (((XT.ushr p2 (24 : Int32)) &&& (3 : Int32)) % (3 : Int32))), .val (.ref sa2), .val (.ref sa4), .val (.ref sa6), .val (.ref b7), .val (.int z1), .val (.int z2)] [(.int (1 : Int32))])
              refine own_retNW X11 hZ (own_EW hw) Iv10 hx hlk (t := .boolean) hret (by simp) (hb hby at_259) e11 (by decide) (by decide) ?_
              exact ⟨rfl, N11⟩
            · refine own_goW (fun t_ k_ => XS.ifNo X11.here hx rfl (hb hby at_238) rfl ((if0 _ _).trans (feq hc12).1) k_) ?_
              show own_EndsW _ _ _ _ _ _ _ _ _ T11 (mkF m 241 #[.val (.int p0), .val (.int p1), .val (.int p2), .val (.int p3), .val (.int p4), .val (.int p5), .val (.int ((p0 &&& (2147483647 : Int32)) % (7 : Int32))), .val (.int ((p1 &&& (255 : Int32)).toUInt32.toUInt16.toUInt32.toInt32)), .val (.int (((XT.ushr p1 (8 : Int32)) &&& (255 : Int32)).toUInt32.toUInt16.toUInt32.toInt32)), .val (.int (((XT.ushr p1 (16 : Int32)) &&& (3 : Int32)) % (3 : Int32))), .val (.int d0), .val (.int d1), .val (.int ((((p1 &&& (255 : Int32)).toUInt32.toUInt16.toUInt32.toInt32) ^^^ d0).toUInt32.toUInt16.toUInt32.toInt32)), .val (.int (((((XT.ushr p1 (8 : Int32)) &&& (255 : Int32)).toUInt32.toUInt16.toUInt32.toInt32) ^^^ d1).toUInt32.toUInt16.toUInt32.toInt32)), .val (.int (((XT.ushr p2 (24 : Int32)) &&& (3 : Int32)) % (3 : Int32))), .val (.ref sa2), .val (.ref sa4), .val (.ref sa6), .val (.ref b7), .val (.int z1), .val (.int z2)] [(.int r)])
              refine own_goW (fun t_ k_ => XS.iload X11.here hx rfl (hb hby at_241) rfl  k_) ?_
              show own_EndsW _ _ _ _ _ _ _ _ _ T11 (mkF m 243 #[.val (.int p0), .val (.int p1), .val (.int p2), .val (.int p3), .val (.int p4), .val (.int p5), .val (.int ((p0 &&& (2147483647 : Int32)) % (7 : Int32))), .val (.int ((p1 &&& (255 : Int32)).toUInt32.toUInt16.toUInt32.toInt32)), .val (.int (((XT.ushr p1 (8 : Int32)) &&& (255 : Int32)).toUInt32.toUInt16.toUInt32.toInt32)), .val (.int (((XT.ushr p1 (16 : Int32)) &&& (3 : Int32)) % (3 : Int32))), .val (.int d0), .val (.int d1), .val (.int ((((p1 &&& (255 : Int32)).toUInt32.toUInt16.toUInt32.toInt32) ^^^ d0).toUInt32.toUInt16.toUInt32.toInt32)), .val (.int (((((XT.ushr p1 (8 : Int32)) &&& (255 : Int32)).toUInt32.toUInt16.toUInt32.toInt32) ^^^ d1).toUInt32.toUInt16.toUInt32.toInt32)), .val (.int (((XT.ushr p2 (24 : Int32)) &&& (3 : Int32)) % (3 : Int32))), .val (.ref sa2), .val (.ref sa4), .val (.ref sa6), .val (.ref b7), .val (.int z1), .val (.int z2)] [(.int z2), (.int r)])
              by_cases hc13 : z2 = (0 : Int32)
              · refine own_goW (fun t_ k_ => XS.ifYes X11.here hx rfl (pc0 := 243) (pc' := 250) rfl (hb hby at_243) rfl ((if0 _ _).trans (teq hc13).1) (by decide) (by decide) k_) ?_
                show own_EndsW _ _ _ _ _ _ _ _ _ T11 (mkF m 250 #[.val (.int p0), .val (.int p1), .val (.int p2), .val (.int p3), .val (.int p4), .val (.int p5), .val (.int ((p0 &&& (2147483647 : Int32)) % (7 : Int32))), .val (.int ((p1 &&& (255 : Int32)).toUInt32.toUInt16.toUInt32.toInt32)), .val (.int (((XT.ushr p1 (8 : Int32)) &&& (255 : Int32)).toUInt32.toUInt16.toUInt32.toInt32)), .val (.int (((XT.ushr p1 (16 : Int32)) &&& (3 : Int32)) % (3 : Int32))), .val (.int d0), .val (.int d1), .val (.int ((((p1 &&& (255 : Int32)).toUInt32.toUInt16.toUInt32.toInt32) ^^^ d0).toUInt32.toUInt16.toUInt32.toInt32)), .val (.int (((((XT.ushr p1 (8 : Int32)) &&& (255 : Int32)).toUInt32.toUInt16.toUInt32.toInt32) ^^^ d1).toUInt32.toUInt16.toUInt32.toInt32)), .val (.int (((XT.ushr p2 (24 : Int32)) &&& (3 : Int32)) % (3 : Int32))), .val (.ref sa2), .val (.ref sa4), .val (.ref sa6), .val (.ref b7), .val (.int z1), .val (.int z2)] [(.int r)])
                refine own_goW (fun t_ k_ => XS.iconst X11.here hx rfl (hb hby at_250) k_) ?_
                show own_EndsW _ _ _ _ _ _ _ _ _ T11 (mkF m 251 #[.val (.int p0), .val (.int p1), .val (.int p2), .val (.int p3), .val (.int p4), .val (.int p5), .val (.int ((p0 &&& (2147483647 : Int32)) % (7 : Int32))), .val (.int ((p1 &&& (255 : Int32)).toUInt32.toUInt16.toUInt32.toInt32)), .val (.int (((XT.ushr p1 (8 : Int32)) &&& (255 : Int32)).toUInt32.toUInt16.toUInt32.toInt32)), .val (.int (((XT.ushr p1 (16 : Int32)) &&& (3 : Int32)) % (3 : Int32))), .val (.int d0), .val (.int d1), .val (.int ((((p1 &&& (255 : Int32)).toUInt32.toUInt16.toUInt32.toInt32) ^^^ d0).toUInt32.toUInt16.toUInt32.toInt32)), .val (.int (((((XT.ushr p1 (8 : Int32)) &&& (255 : Int32)).toUInt32.toUInt16.toUInt32.toInt32) ^^^ d1).toUInt32.toUInt16.toUInt32.toInt32)), .val (.int (((XT.ushr p2 (24 : Int32)) &&& (3 : Int32)) % (3 : Int32))), .val (.ref sa2), .val (.ref sa4), .val (.ref sa6), .val (.ref b7), .val (.int z1), .val (.int z2)] [(.int (0 : Int32)), (.int r)])
                refine own_goW (fun t_ k_ => XS.icmpNo X11.here hx rfl (hb hby at_251) rfl (teq (own_r0b (K := True) (z1 := 0) hz2 hB hr hc13)).2 k_) ?_
                show own_EndsW _ _ _ _ _ _ _ _ _ T11 (mkF m 254 #[.val (.int p0), .val (.int p1), .val (.int p2), .val (.int p3), .val (.int p4), .val (.int p5), .val (.int ((p0 &&& (2147483647 : Int32)) % (7 : Int32))), .val (.int ((p1 &&& (255 : Int32)).toUInt32.toUInt16.toUInt32.toInt32)), .val (.int (((XT.ushr p1 (8 : Int32)) &&& (255 : Int32)).toUInt32.toUInt16.toUInt32.toInt32)), .val (.int (((XT.ushr p1 (16 : Int32)) &&& (3 : Int32)) % (3 : Int32))), .val (.int d0), .val (.int d1), .val (.int ((((p1 &&& (255 : Int32)).toUInt32.toUInt16.toUInt32.toInt32) ^^^ d0).toUInt32.toUInt16.toUInt32.toInt32)), .val (.int (((((XT.ushr p1 (8 : Int32)) &&& (255 : Int32)).toUInt32.toUInt16.toUInt32.toInt32) ^^^ d1).toUInt32.toUInt16.toUInt32.toInt32)), .val (.int (((XT.ushr p2 (24 : Int32)) &&& (3 : Int32)) % (3 : Int32))), .val (.ref sa2), .val (.ref sa4), .val (.ref sa6), .val (.ref b7), .val (.int z1), .val (.int z2)] [])
                refine own_goW (fun t_ k_ => XS.iconst X11.here hx rfl (hb hby at_254) k_) ?_
                show own_EndsW _ _ _ _ _ _ _ _ _ T11 (mkF m 255 #[.val (.int p0), .val (.int p1), .val (.int p2), .val (.int p3), .val (.int p4), .val (.int p5), .val (.int ((p0 &&& (2147483647 : Int32)) % (7 : Int32))), .val (.int ((p1 &&& (255 : Int32)).toUInt32.toUInt16.toUInt32.toInt32)), .val (.int (((XT.ushr p1 (8 : Int32)) &&& (255 : Int32)).toUInt32.toUInt16.toUInt32.toInt32)), .val (.int (((XT.ushr p1 (16 : Int32)) &&& (3 : Int32)) % (3 : Int32))), .val (.int d0), .val (.int d1), .val (.int ((((p1 &&& (255 : Int32)).toUInt32.toUInt16.toUInt32.toInt32) ^^^ d0).toUInt32.toUInt16.toUInt32.toInt32)), .val (.int (((((XT.ushr p1 (8 : Int32)) &&& (255 : Int32)).toUInt32.toUInt16.toUInt32.toInt32) ^^^ d1).toUInt32.toUInt16.toUInt32.toInt32)), .val (.int (((XT.ushr p2 (24 : Int32)) &&& (3 : Int32)) % (3 : Int32))), .val (.ref sa2), .val (.ref sa4), .val (.ref sa6), .val (.ref b7), .val (.int z1), .val (.int z2)] [(.int (1 : Int32))])
                refine own_goW (fun t_ k_ => XS.goto X11.here hx rfl (pc0 := 255) (pc' := 259) rfl (hb hby at_255) (by decide) (by decide) k_) ?_
                show own_EndsW _ _ _ _ _ _ _ _ _ T11 (mkF m 259 #[.val (.int p0), .val (.int p1), .val (.int p2), .val (.int p3), .val (.int p4), .val (.int p5), .val (.int ((p0 &&& (2147483647 : Int32)) % (7 : Int32))), .val (.int ((p1 &&& (255 : Int32)).toUInt32.toUInt16.toUInt32.toInt32)), .val (.int (((XT.ushr p1 (8 : Int32)) &&& (255 : Int32)).toUInt32.toUInt16.toUInt32.toInt32)), .val (.int (((XT.ushr p1 (16 : Int32)) &&& (3 : Int32)) % (3 : Int32))), .val (.int d0), .val (.int d1), .val (.int ((((p1 &&& (255 : Int32)).toUInt32.toUInt16.toUInt32.toInt32) ^^^ d0).toUInt32.toUInt16.toUInt32.toInt32)), .val (.int (((((XT.ushr p1 (8 : Int32)) &&& (255 : Int32)).toUInt32.toUInt16.toUInt32.toInt32) ^^^ d1).toUInt32.toUInt16.toUInt32.toInt32)), .val (.int (((XT.ushr p2 (24 : Int32)) &&& (3 : Int32)) % (3 : Int32))), .val (.ref sa2), .val (.ref sa4), .val (.ref sa6), .val (.ref b7), .val (.int z1), .val (.int z2)] [(.int (1 : Int32))])
                refine own_retNW X11 hZ (own_EW hw) Iv10 hx hlk (t := .boolean) hret (by simp) (hb hby at_259) e11 (by decide) (by decide) ?_
                exact ⟨rfl, N11⟩
              · refine own_goW (fun t_ k_ => XS.ifNo X11.here hx rfl (hb hby at_243) rfl ((if0 _ _).trans (feq hc13).1) k_) ?_
                show own_EndsW _ _ _ _ _ _ _ _ _ T11 (mkF m 246 #[.val (.int p0), .val (.int p1), .val (.int p2), .val (.int p3), .val (.int p4), .val (.int p5), .val (.int ((p0 &&& (2147483647 : Int32)) % (7 : Int32))), .val (.int ((p1 &&& (255 : Int32)).toUInt32.toUInt16.toUInt32.toInt32)), .val (.int (((XT.ushr p1 (8 : Int32)) &&& (255 : Int32)).toUInt32.toUInt16.toUInt32.toInt32)), .val (.int (((XT.ushr p1 (16 : Int32)) &&& (3 : Int32)) % (3 : Int32))), .val (.int d0), .val (.int d1), .val (.int ((((p1 &&& (255 : Int32)).toUInt32.toUInt16.toUInt32.toInt32) ^^^ d0).toUInt32.toUInt16.toUInt32.toInt32)), .val (.int (((((XT.ushr p1 (8 : Int32)) &&& (255 : Int32)).toUInt32.toUInt16.toUInt32.toInt32) ^^^ d1).toUInt32.toUInt16.toUInt32.toInt32)), .val (.int (((XT.ushr p2 (24 : Int32)) &&& (3 : Int32)) % (3 : Int32))), .val (.ref sa2), .val (.ref sa4), .val (.ref sa6), .val (.ref b7), .val (.int z1), .val (.int z2)] [(.int r)])
                refine own_goW (fun t_ k_ => XS.iconst X11.here hx rfl (hb hby at_246) k_) ?_
                show own_EndsW _ _ _ _ _ _ _ _ _ T11 (mkF m 247 #[.val (.int p0), .val (.int p1), .val (.int p2), .val (.int p3), .val (.int p4), .val (.int p5), .val (.int ((p0 &&& (2147483647 : Int32)) % (7 : Int32))), .val (.int ((p1 &&& (255 : Int32)).toUInt32.toUInt16.toUInt32.toInt32)), .val (.int (((XT.ushr p1 (8 : Int32)) &&& (255 : Int32)).toUInt32.toUInt16.toUInt32.toInt32)), .val (.int (((XT.ushr p1 (16 : Int32)) &&& (3 : Int32)) % (3 : Int32))), .val (.int d0), .val (.int d1), .val (.int ((((p1 &&& (255 : Int32)).toUInt32.toUInt16.toUInt32.toInt32) ^^^ d0).toUInt32.toUInt16.toUInt32.toInt32)), .val (.int (((((XT.ushr p1 (8 : Int32)) &&& (255 : Int32)).toUInt32.toUInt16.toUInt32.toInt32) ^^^ d1).toUInt32.toUInt16.toUInt32.toInt32)), .val (.int (((XT.ushr p2 (24 : Int32)) &&& (3 : Int32)) % (3 : Int32))), .val (.ref sa2), .val (.ref sa4), .val (.ref sa6), .val (.ref b7), .val (.int z1), .val (.int z2)] [(.int (1 : Int32)), (.int r)])
                refine own_goW (fun t_ k_ => XS.goto X11.here hx rfl (pc0 := 247) (pc' := 251) rfl (hb hby at_247) (by decide) (by decide) k_) ?_
                show own_EndsW _ _ _ _ _ _ _ _ _ T11 (mkF m 251 #[.val (.int p0), .val (.int p1), .val (.int p2), .val (.int p3), .val (.int p4), .val (.int p5), .val (.int ((p0 &&& (2147483647 : Int32)) % (7 : Int32))), .val (.int ((p1 &&& (255 : Int32)).toUInt32.toUInt16.toUInt32.toInt32)), .val (.int (((XT.ushr p1 (8 : Int32)) &&& (255 : Int32)).toUInt32.toUInt16.toUInt32.toInt32)), .val (.int (((XT.ushr p1 (16 : Int32)) &&& (3 : Int32)) % (3 : Int32))), .val (.int d0), .val (.int d1), .val (.int ((((p1 &&& (255 : Int32)).toUInt32.toUInt16.toUInt32.toInt32) ^^^ d0).toUInt32.toUInt16.toUInt32.toInt32)), .val (.int (((((XT.ushr p1 (8 : Int32)) &&& (255 : Int32)).toUInt32.toUInt16.toUInt32.toInt32) ^^^ d1).toUInt32.toUInt16.toUInt32.toInt32)), .val (.int (((XT.ushr p2 (24 : Int32)) &&& (3 : Int32)) % (3 : Int32))), .val (.ref sa2), .val (.ref sa4), .val (.ref sa6), .val (.ref b7), .val (.int z1), .val (.int z2)] [(.int (1 : Int32)), (.int r)])
                refine own_goW (fun t_ k_ => XS.icmpNo X11.here hx rfl (hb hby at_251) rfl (teq (own_r1 hz1 hz2 hA hB hr hc12 hc13)).2 k_) ?_
                show own_EndsW _ _ _ _ _ _ _ _ _ T11 (mkF m 254 #[.val (.int p0), .val (.int p1), .val (.int p2), .val (.int p3), .val (.int p4), .val (.int p5), .val (.int ((p0 &&& (2147483647 : Int32)) % (7 : Int32))), .val (.int ((p1 &&& (255 : Int32)).toUInt32.toUInt16.toUInt32.toInt32)), .val (.int (((XT.ushr p1 (8 : Int32)) &&& (255 : Int32)).toUInt32.toUInt16.toUInt32.toInt32)), .val (.int (((XT.ushr p1 (16 : Int32)) &&& (3 : Int32)) % (3 : Int32))), .val (.int d0), .val (.int d1), .val (.int ((((p1 &&& (255 : Int32)).toUInt32.toUInt16.toUInt32.toInt32) ^^^ d0).toUInt32.toUInt16.toUInt32.toInt32)), .val (.int (((((XT.ushr p1 (8 : Int32)) &&& (255 : Int32)).toUInt32.toUInt16.toUInt32.toInt32) ^^^ d1).toUInt32.toUInt16.toUInt32.toInt32)), .val (.int (((XT.ushr p2 (24 : Int32)) &&& (3 : Int32)) % (3 : Int32))), .val (.ref sa2), .val (.ref sa4), .val (.ref sa6), .val (.ref b7), .val (.int z1), .val (.int z2)] [])
                refine own_goW (fun t_ k_ => XS.iconst X11.here hx rfl (hb hby at_254) k_) ?_
                show own_EndsW _ _ _ _ _ _ _ _ _ T11 (mkF m 255 #[.val (.int p0), .val (.int p1), .val (.int p2), .val (.int p3), .val (.int p4), .val (.int p5), .val (.int ((p0 &&& (2147483647 : Int32)) % (7 : Int32))), .val (.int ((p1 &&& (255 : Int32)).toUInt32.toUInt16.toUInt32.toInt32)), .val (.int (((XT.ushr p1 (8 : Int32)) &&& (255 : Int32)).toUInt32.toUInt16.toUInt32.toInt32)), .val (.int (((XT.ushr p1 (16 : Int32)) &&& (3 : Int32)) % (3 : Int32))), .val (.int d0), .val (.int d1), .val (.int ((((p1 &&& (255 : Int32)).toUInt32.toUInt16.toUInt32.toInt32) ^^^ d0).toUInt32.toUInt16.toUInt32.toInt32)), .val (.int (((((XT.ushr p1 (8 : Int32)) &&& (255 : Int32)).toUInt32.toUInt16.toUInt32.toInt32) ^^^ d1).toUInt32.toUInt16.toUInt32.toInt32)), .val (.int (((XT.ushr p2 (24 : Int32)) &&& (3 : Int32)) % (3 : Int32))), .val (.ref sa2), .val (.ref sa4), .val (.ref sa6), .val (.ref b7), .val (.int z1), .val (.int z2)] [(.int (1 : Int32))])
                refine own_goW (fun t_ k_ => XS.goto X11.here hx rfl (pc0 := 255) (pc' := 259) rfl (hb hby at_255) (by decide) (by decide) k_) ?_
                show own_EndsW _ _ _ _ _ _ _ _ _ T11 (mkF m 259 #[.val (.int p0), .val (.int p1), .val (.int p2), .val (.int p3), .val (.int p4), .val (.int p5), .val (.int ((p0 &&& (2147483647 : Int32)) % (7 : Int32))), .val (.int ((p1 &&& (255 : Int32)).toUInt32.toUInt16.toUInt32.toInt32)), .val (.int (((XT.ushr p1 (8 : Int32)) &&& (255 : Int32)).toUInt32.toUInt16.toUInt32.toInt32)), .val (.int (((XT.ushr p1 (16 : Int32)) &&& (3 : Int32)) % (3 : Int32))), .val (.int d0), .val (.int d1), .val (.int ((((p1 &&& (255 : Int32)).toUInt32.toUInt16.toUInt32.toInt32) ^^^ d0).toUInt32.toUInt16.toUInt32.toInt32)), .val (.int (((((XT.ushr p1 (8 : Int32)) &&& (255 : Int32)).toUInt32.toUInt16.toUInt32.toInt32) ^^^ d1).toUInt32.toUInt16.toUInt32.toInt32)), .val (.int (((XT.ushr p2 (24 : Int32)) &&& (3 : Int32)) % (3 : Int32))), .val (.ref sa2), .val (.ref sa4), .val (.ref sa6), .val (.ref b7), .val (.int z1), .val (.int z2)] [(.int (1 : Int32))])
                refine own_retNW X11 hZ (own_EW hw) Iv10 hx hlk (t := .boolean) hret (by simp) (hb hby at_259) e11 (by decide) (by decide) ?_
                exact ⟨rfl, N11⟩
          show own_EndsW _ _ _ _ _ _ _ _ _ T10 (mkF m 189 #[.val (.int p0), .val (.int p1), .val (.int p2), .val (.int p3), .val (.int p4), .val (.int p5), .val (.int ((p0 &&& (2147483647 : Int32)) % (7 : Int32))), .val (.int ((p1 &&& (255 : Int32)).toUInt32.toUInt16.toUInt32.toInt32)), .val (.int (((XT.ushr p1 (8 : Int32)) &&& (255 : Int32)).toUInt32.toUInt16.toUInt32.toInt32)), .val (.int (((XT.ushr p1 (16 : Int32)) &&& (3 : Int32)) % (3 : Int32))), .val (.int d0), .val (.int d1), .val (.int ((((p1 &&& (255 : Int32)).toUInt32.toUInt16.toUInt32.toInt32) ^^^ d0).toUInt32.toUInt16.toUInt32.toInt32)), .val (.int (((((XT.ushr p1 (8 : Int32)) &&& (255 : Int32)).toUInt32.toUInt16.toUInt32.toInt32) ^^^ d1).toUInt32.toUInt16.toUInt32.toInt32)), .val (.int (((XT.ushr p2 (24 : Int32)) &&& (3 : Int32)) % (3 : Int32))), .val (.ref sa2), .val (.ref sa4), .val (.ref sa6), .val (.ref b7), .val (.int z1), .unset] [])
          refine own_goW (fun t_ k_ => XS.iload X10.here hx rfl (hb hby at_189) rfl  k_) ?_
          show own_EndsW _ _ _ _ _ _ _ _ _ T10 (mkF m 191 #[.val (.int p0), .val (.int p1), .val (.int p2), .val (.int p3), .val (.int p4), .val (.int p5), .val (.int ((p0 &&& (2147483647 : Int32)) % (7 : Int32))), .val (.int ((p1 &&& (255 : Int32)).toUInt32.toUInt16.toUInt32.toInt32)), .val (.int (((XT.ushr p1 (8 : Int32)) &&& (255 : Int32)).toUInt32.toUInt16.toUInt32.toInt32)), .val (.int (((XT.ushr p1 (16 : Int32)) &&& (3 : Int32)) % (3 : Int32))), .val (.int d0), .val (.int d1), .val (.int ((((p1 &&& (255 : Int32)).toUInt32.toUInt16.toUInt32.toInt32) ^^^ d0).toUInt32.toUInt16.toUInt32.toInt32)), .val (.int (((((XT.ushr p1 (8 : Int32)) &&& (255 : Int32)).toUInt32.toUInt16.toUInt32.toInt32) ^^^ d1).toUInt32.toUInt16.toUInt32.toInt32)), .val (.int (((XT.ushr p2 (24 : Int32)) &&& (3 : Int32)) % (3 : Int32))), .val (.ref sa2), .val (.ref sa4), .val (.ref sa6), .val (.ref b7), .val (.int z1), .unset] [(.int (((XT.ushr p1 (16 : Int32)) &&& (3 : Int32)) % (3 : Int32)))])
          refine own_goW (fun t_ k_ => XS.iload X10.here hx rfl (hb hby at_191) rfl  k_) ?_
          show own_EndsW _ _ _ _ _ _ _ _ _ T10 (mkF m 193 #[.val (.int p0), .val (.int p1), .val (.int p2), .val (.int p3), .val (.int p4), .val (.int p5), .val (.int ((p0 &&& (2147483647 : Int32)) % (7 : Int32))), .val (.int ((p1 &&& (255 : Int32)).toUInt32.toUInt16.toUInt32.toInt32)), .val (.int (((XT.ushr p1 (8 : Int32)) &&& (255 : Int32)).toUInt32.toUInt16.toUInt32.toInt32)), .val (.int (((XT.ushr p1 (16 : Int32)) &&& (3 : Int32)) % (3 : Int32))), .val (.int d0), .val (.int d1), .val (.int ((((p1 &&& (255 : Int32)).toUInt32.toUInt16.toUInt32.toInt32) ^^^ d0).toUInt32.toUInt16.toUInt32.toInt32)), .val (.int (((((XT.ushr p1 (8 : Int32)) &&& (255 : Int32)).toUInt32.toUInt16.toUInt32.toInt32) ^^^ d1).toUInt32.toUInt16.toUInt32.toInt32)), .val (.int (((XT.ushr p2 (24 : Int32)) &&& (3 : Int32)) % (3 : Int32))), .val (.ref sa2), .val (.ref sa4), .val (.ref sa6), .val (.ref b7), .val (.int z1), .unset] [(.int (((XT.ushr p2 (24 : Int32)) &&& (3 : Int32)) % (3 : Int32))), (.int (((XT.ushr p1 (16 : Int32)) &&& (3 : Int32)) % (3 : Int32)))])
          by_cases hc14 : (((XT.ushr p1 (16 : Int32)) &&& (3 : Int32)) % (3 : Int32)) = (((XT.ushr p2 (24 : Int32)) &&& (3 : Int32)) % (3 : Int32))
          · refine own_goW (fun t_ k_ => XS.icmpNo X10.here hx rfl (hb hby at_193) rfl (teq hc14).2 k_) ?_
            show own_EndsW _ _ _ _ _ _ _ _ _ T10 (mkF m 196 #[.val (.int p0), .val (.int p1), .val (.int p2), .val (.int p3), .val (.int p4), .val (.int p5), .val (.int ((p0 &&& (2147483647 : Int32)) % (7 : Int32))), .val (.int ((p1 &&& (255 : Int32)).toUInt32.toUInt16.toUInt32.toInt32)), .val (.int (((XT.ushr p1 (8 : Int32)) &&& (255 : Int32)).toUInt32.toUInt16.toUInt32.toInt32)), .val (.int (((XT.ushr p1 (16 : Int32)) &&& (3 : Int32)) % (3 : Int32))), .val (.int d0), .val (.int d1), .val (.int ((((p1 &&& (255 : Int32)).toUInt32.toUInt16.toUInt32.toInt32) ^^^ d0).toUInt32.toUInt16.toUInt32.toInt32)), .val (.int (((((XT.ushr p1 (8 : Int32)) &&& (255 : Int32)).toUInt32.toUInt16.toUInt32.toInt32) ^^^ d1).toUInt32.toUInt16.toUInt32.toInt32)), .val (.int (((XT.ushr p2 (24 : Int32)) &&& (3 : Int32)) % (3 : Int32))), .val (.ref sa2), .val (.ref sa4), .val (.ref sa6), .val (.ref b7), .val (.int z1), .unset] [])
            refine own_goW (fun t_ k_ => XS.iload X10.here hx rfl (hb hby at_196) rfl  k_) ?_
            show own_EndsW _ _ _ _ _ _ _ _ _ T10 (mkF m 198 #[.val (.int p0), .val (.int p1), .val (.int p2), .val (.int p3), .val (.int p4), .val (.int p5), .val (.int ((p0 &&& (2147483647 : Int32)) % (7 : Int32))), .val (.int ((p1 &&& (255 : Int32)).toUInt32.toUInt16.toUInt32.toInt32)), .val (.int (((XT.ushr p1 (8 : Int32)) &&& (255 : Int32)).toUInt32.toUInt16.toUInt32.toInt32)), .val (.int (((XT.ushr p1 (16 : Int32)) &&& (3 : Int32)) % (3 : Int32))), .val (.int d0), .val (.int d1), .val (.int ((((p1 &&& (255 : Int32)).toUInt32.toUInt16.toUInt32.toInt32) ^^^ d0).toUInt32.toUInt16.toUInt32.toInt32)), .val (.int (((((XT.ushr p1 (8 : Int32)) &&& (255 : Int32)).toUInt32.toUInt16.toUInt32.toInt32) ^^^ d1).toUInt32.toUInt16.toUInt32.toInt32)), .val (.int (((XT.ushr p2 (24 : Int32)) &&& (3 : Int32)) % (3 : Int32))), .val (.ref sa2), .val (.ref sa4), .val (.ref sa6), .val (.ref b7), .val (.int z1), .unset] [(.int (((XT.ushr p1 (16 : Int32)) &&& (3 : Int32)) % (3 : Int32)))])
            refine own_goW (fun t_ k_ => XS.iconst X10.here hx rfl (hb hby at_198) k_) ?_
            show own_EndsW _ _ _ _ _ _ _ _ _ T10 (mkF m 199 #[.val (.int p0), .val (.int p1), .val (.int p2), .val (.int p3), .val (.int p4), .val (.int p5), .val (.int ((p0 &&& (2147483647 : Int32)) % (7 : Int32))), .val (.int ((p1 &&& (255 : Int32)).toUInt32.toUInt16.toUInt32.toInt32)), .val (.int (((XT.ushr p1 (8 : Int32)) &&& (255 : Int32)).toUInt32.toUInt16.toUInt32.toInt32)), .val (.int (((XT.ushr p1 (16 : Int32)) &&& (3 : Int32)) % (3 : Int32))), .val (.int d0), .val (.int d1), .val (.int ((((p1 &&& (255 : Int32)).toUInt32.toUInt16.toUInt32.toInt32) ^^^ d0).toUInt32.toUInt16.toUInt32.toInt32)), .val (.int (((((XT.ushr p1 (8 : Int32)) &&& (255 : Int32)).toUInt32.toUInt16.toUInt32.toInt32) ^^^ d1).toUInt32.toUInt16.toUInt32.toInt32)), .val (.int (((XT.ushr p2 (24 : Int32)) &&& (3 : Int32)) % (3 : Int32))), .val (.ref sa2), .val (.ref sa4), .val (.ref sa6), .val (.ref b7), .val (.int z1), .unset] [(.int (1 : Int32)), (.int (((XT.ushr p1 (16 : Int32)) &&& (3 : Int32)) % (3 : Int32)))])
            by_cases hc15 : (((XT.ushr p1 (16 : Int32)) &&& (3 : Int32)) % (3 : Int32)) < (1 : Int32)
            · refine own_goW (fun t_ k_ => XS.icmpYes X10.here hx rfl (pc0 := 199) (pc' := 209) rfl (hb hby at_199) rfl (tlt hc15).1 (by decide) (by decide) k_) ?_
              show own_EndsW _ _ _ _ _ _ _ _ _ T10 (mkF m 209 #[.val (.int p0), .val (.int p1), .val (.int p2), .val (.int p3), .val (.int p4), .val (.int p5), .val (.int ((p0 &&& (2147483647 : Int32)) % (7 : Int32))), .val (.int ((p1 &&& (255 : Int32)).toUInt32.toUInt16.toUInt32.toInt32)), .val (.int (((XT.ushr p1 (8 : Int32)) &&& (255 : Int32)).toUInt32.toUInt16.toUInt32.toInt32)), .val (.int (((XT.ushr p1 (16 : Int32)) &&& (3 : Int32)) % (3 : Int32))), .val (.int d0), .val (.int d1), .val (.int ((((p1 &&& (255 : Int32)).toUInt32.toUInt16.toUInt32.toInt32) ^^^ d0).toUInt32.toUInt16.toUInt32.toInt32)), .val (.int (((((XT.ushr p1 (8 : Int32)) &&& (255 : Int32)).toUInt32.toUInt16.toUInt32.toInt32) ^^^ d1).toUInt32.toUInt16.toUInt32.toInt32)), .val (.int (((XT.ushr p2 (24 : Int32)) &&& (3 : Int32)) % (3 : Int32))), .val (.ref sa2), .val (.ref sa4), .val (.ref sa6), .val (.ref b7), .val (.int z1), .unset] [])
              refine own_goW (fun t_ k_ => XS.iload X10.here hx rfl (hb hby at_209) rfl  k_) ?_
              show own_EndsW _ _ _ _ _ _ _ _ _ T10 (mkF m 211 #[.val (.int p0), .val (.int p1), .val (.int p2), .val (.int p3), .val (.int p4), .val (.int p5), .val (.int ((p0 &&& (2147483647 : Int32)) % (7 : Int32))), .val (.int ((p1 &&& (255 : Int32)).toUInt32.toUInt16.toUInt32.toInt32)), .val (.int (((XT.ushr p1 (8 : Int32)) &&& (255 : Int32)).toUInt32.toUInt16.toUInt32.toInt32)), .val (.int (((XT.ushr p1 (16 : Int32)) &&& (3 : Int32)) % (3 : Int32))), .val (.int d0), .val (.int d1), .val (.int ((((p1 &&& (255 : Int32)).toUInt32.toUInt16.toUInt32.toInt32) ^^^ d0).toUInt32.toUInt16.toUInt32.toInt32)), .val (.int (((((XT.ushr p1 (8 : Int32)) &&& (255 : Int32)).toUInt32.toUInt16.toUInt32.toInt32) ^^^ d1).toUInt32.toUInt16.toUInt32.toInt32)), .val (.int (((XT.ushr p2 (24 : Int32)) &&& (3 : Int32)) % (3 : Int32))), .val (.ref sa2), .val (.ref sa4), .val (.ref sa6), .val (.ref b7), .val (.int z1), .unset] [(.int (((XT.ushr p1 (16 : Int32)) &&& (3 : Int32)) % (3 : Int32)))])
              refine own_goW (fun t_ k_ => XS.iconst X10.here hx rfl (hb hby at_211) k_) ?_
              show own_EndsW _ _ _ _ _ _ _ _ _ T10 (mkF m 212 #[.val (.int p0), .val (.int p1), .val (.int p2), .val (.int p3), .val (.int p4), .val (.int p5), .val (.int ((p0 &&& (2147483647 : Int32)) % (7 : Int32))), .val (.int ((p1 &&& (255 : Int32)).toUInt32.toUInt16.toUInt32.toInt32)), .val (.int (((XT.ushr p1 (8 : Int32)) &&& (255 : Int32)).toUInt32.toUInt16.toUInt32.toInt32)), .val (.int (((XT.ushr p1 (16 : Int32)) &&& (3 : Int32)) % (3 : Int32))), .val (.int d0), .val (.int d1), .val (.int ((((p1 &&& (255 : Int32)).toUInt32.toUInt16.toUInt32.toInt32) ^^^ d0).toUInt32.toUInt16.toUInt32.toInt32)), .val (.int (((((XT.ushr p1 (8 : Int32)) &&& (255 : Int32)).toUInt32.toUInt16.toUInt32.toInt32) ^^^ d1).toUInt32.toUInt16.toUInt32.toInt32)), .val (.int (((XT.ushr p2 (24 : Int32)) &&& (3 : Int32)) % (3 : Int32))), .val (.ref sa2), .val (.ref sa4), .val (.ref sa6), .val (.ref b7), .val (.int z1), .unset] [(.int (2 : Int32)), (.int (((XT.ushr p1 (16 : Int32)) &&& (3 : Int32)) % (3 : Int32)))])
              by_cases hc16 : (((XT.ushr p1 (16 : Int32)) &&& (3 : Int32)) % (3 : Int32)) < (2 : Int32)
              · refine own_goW (fun t_ k_ => XS.icmpYes X10.here hx rfl (pc0 := 212) (pc' := 222) rfl (hb hby at_212) rfl (tlt hc16).1 (by decide) (by decide) k_) ?_
                show own_EndsW _ _ _ _ _ _ _ _ _ T10 (mkF m 222 #[.val (.int p0), .val (.int p1), .val (.int p2), .val (.int p3), .val (.int p4), .val (.int p5), .val (.int ((p0 &&& (2147483647 : Int32)) % (7 : Int32))), .val (.int ((p1 &&& (255 : Int32)).toUInt32.toUInt16.toUInt32.toInt32)), .val (.int (((XT.ushr p1 (8 : Int32)) &&& (255 : Int32)).toUInt32.toUInt16.toUInt32.toInt32)), .val (.int (((XT.ushr p1 (16 : Int32)) &&& (3 : Int32)) % (3 : Int32))), .val (.int d0), .val (.int d1), .val (.int ((((p1 &&& (255 : Int32)).toUInt32.toUInt16.toUInt32.toInt32) ^^^ d0).toUInt32.toUInt16.toUInt32.toInt32)), .val (.int (((((XT.ushr p1 (8 : Int32)) &&& (255 : Int32)).toUInt32.toUInt16.toUInt32.toInt32) ^^^ d1).toUInt32.toUInt16.toUInt32.toInt32)), .val (.int (((XT.ushr p2 (24 : Int32)) &&& (3 : Int32)) % (3 : Int32))), .val (.ref sa2), .val (.ref sa4), .val (.ref sa6), .val (.ref b7), .val (.int z1), .unset] [])
                refine own_goW (fun t_ k_ => XS.iconst X10.here hx rfl (hb hby at_222) k_) ?_
                show own_EndsW _ _ _ _ _ _ _ _ _ T10 (mkF m 223 #[.val (.int p0), .val (.int p1), .val (.int p2), .val (.int p3), .val (.int p4), .val (.int p5), .val (.int ((p0 &&& (2147483647 : Int32)) % (7 : Int32))), .val (.int ((p1 &&& (255 : Int32)).toUInt32.toUInt16.toUInt32.toInt32)), .val (.int (((XT.ushr p1 (8 : Int32)) &&& (255 : Int32)).toUInt32.toUInt16.toUInt32.toInt32)), .val (.int (((XT.ushr p1 (16 : Int32)) &&& (3 : Int32)) % (3 : Int32))), .val (.int d0), .val (.int d1), .val (.int ((((p1 &&& (255 : Int32)).toUInt32.toUInt16.toUInt32.toInt32) ^^^ d0).toUInt32.toUInt16.toUInt32.toInt32)), .val (.int (((((XT.ushr p1 (8 : Int32)) &&& (255 : Int32)).toUInt32.toUInt16.toUInt32.toInt32) ^^^ d1).toUInt32.toUInt16.toUInt32.toInt32)), .val (.int (((XT.ushr p2 (24 : Int32)) &&& (3 : Int32)) % (3 : Int32))), .val (.ref sa2), .val (.ref sa4), .val (.ref sa6), .val (.ref b7), .val (.int z1), .unset] [(.int (1 : Int32))])
                refine own_goW (fun t_ k_ => XS.goto X10.here hx rfl (pc0 := 223) (pc' := 227) rfl (hb hby at_223) (by decide) (by decide) k_) ?_
                exact J227 _ (Or.inl ⟨rfl, hc14, Or.inl hc15, Or.inl hc16⟩)
              · refine own_goW (fun t_ k_ => XS.icmpNo X10.here hx rfl (hb hby at_212) rfl (flt hc16).1 k_) ?_
                show own_EndsW _ _ _ _ _ _ _ _ _ T10 (mkF m 215 #[.val (.int p0), .val (.int p1), .val (.int p2), .val (.int p3), .val (.int p4), .val (.int p5), .val (.int ((p0 &&& (2147483647 : Int32)) % (7 : Int32))), .val (.int ((p1 &&& (255 : Int32)).toUInt32.toUInt16.toUInt32.toInt32)), .val (.int (((XT.ushr p1 (8 : Int32)) &&& (255 : Int32)).toUInt32.toUInt16.toUInt32.toInt32)), .val (.int (((XT.ushr p1 (16 : Int32)) &&& (3 : Int32)) % (3 : Int32))), .val (.int d0), .val (.int d1), .val (.int ((((p1 &&& (255 : Int32)).toUInt32.toUInt16.toUInt32.toInt32) ^^^ d0).toUInt32.toUInt16.toUInt32.toInt32)), .val (.int (((((XT.ushr p1 (8 : Int32)) &&& (255 : Int32)).toUInt32.toUInt16.toUInt32.toInt32) ^^^ d1).toUInt32.toUInt16.toUInt32.toInt32)), .val (.int (((XT.ushr p2 (24 : Int32)) &&& (3 : Int32)) % (3 : Int32))), .val (.ref sa2), .val (.ref sa4), .val (.ref sa6), .val (.ref b7), .val (.int z1), .unset] [])
                refine own_goW (fun t_ k_ => XS.iload X10.here hx rfl (hb hby at_215) rfl  k_) ?_
                show own_EndsW _ _ _ _ _ _ _ _ _ T10 (mkF m 217 #[.val (.int p0), .val (.int p1), .val (.int p2), .val (.int p3), .val (.int p4), .val (.int p5), .val (.int ((p0 &&& (2147483647 : Int32)) % (7 : Int32))), .val (.int ((p1 &&& (255 : Int32)).toUInt32.toUInt16.toUInt32.toInt32)), .val (.int (((XT.ushr p1 (8 : Int32)) &&& (255 : Int32)).toUInt32.toUInt16.toUInt32.toInt32)), .val (.int (((XT.ushr p1 (16 : Int32)) &&& (3 : Int32)) % (3 : Int32))), .val (.int d0), .val (.int d1), .val (.int ((((p1 &&& (255 : Int32)).toUInt32.toUInt16.toUInt32.toInt32) ^^^ d0).toUInt32.toUInt16.toUInt32.toInt32)), .val (.int (((((XT.ushr p1 (8 : Int32)) &&& (255 : Int32)).toUInt32.toUInt16.toUInt32.toInt32) ^^^ d1).toUInt32.toUInt16.toUInt32.toInt32)), .val (.int (((XT.ushr p2 (24 : Int32)) &&& (3 : Int32)) % (3 : Int32))), .val (.ref sa2), .val (.ref sa4), .val (.ref sa6), .val (.ref b7), .val (.int z1), .unset] [(.int (((((XT.ushr p1 (8 : Int32)) &&& (255 : Int32)).toUInt32.toUInt16.toUInt32.toInt32) ^^^ d1).toUInt32.toUInt16.toUInt32.toInt32))])
                refine own_goW (fun t_ k_ => XS.iload X10.here hx rfl (hb hby at_217) rfl  k_) ?_
                show own_EndsW _ _ _ _ _ _ _ _ _ T10 (mkF m 219 #[.val (.int p0), .val (.int p1), .val (.int p2), .val (.int p3), .val (.int p4), .val (.int p5), .val (.int ((p0 &&& (2147483647 : Int32)) % (7 : Int32))), .val (.int ((p1 &&& (255 : Int32)).toUInt32.toUInt16.toUInt32.toInt32)), .val (.int (((XT.ushr p1 (8 : Int32)) &&& (255 : Int32)).toUInt32.toUInt16.toUInt32.toInt32)), .val (.int (((XT.ushr p1 (16 : Int32)) &&& (3 : Int32)) % (3 : Int32))), .val (.int d0), .val (.int d1), .val (.int ((((p1 &&& (255 : Int32)).toUInt32.toUInt16.toUInt32.toInt32) ^^^ d0).toUInt32.toUInt16.toUInt32.toInt32)), .val (.int (((((XT.ushr p1 (8 : Int32)) &&& (255 : Int32)).toUInt32.toUInt16.toUInt32.toInt32) ^^^ d1).toUInt32.toUInt16.toUInt32.toInt32)), .val (.int (((XT.ushr p2 (24 : Int32)) &&& (3 : Int32)) % (3 : Int32))), .val (.ref sa2), .val (.ref sa4), .val (.ref sa6), .val (.ref b7), .val (.int z1), .unset] [(.int (((XT.ushr p1 (8 : Int32)) &&& (255 : Int32)).toUInt32.toUInt16.toUInt32.toInt32)), (.int (((((XT.ushr p1 (8 : Int32)) &&& (255 : Int32)).toUInt32.toUInt16.toUInt32.toInt32) ^^^ d1).toUInt32.toUInt16.toUInt32.toInt32))])
                by_cases hc17 : (((((XT.ushr p1 (8 : Int32)) &&& (255 : Int32)).toUInt32.toUInt16.toUInt32.toInt32) ^^^ d1).toUInt32.toUInt16.toUInt32.toInt32) = (((XT.ushr p1 (8 : Int32)) &&& (255 : Int32)).toUInt32.toUInt16.toUInt32.toInt32)
                · refine own_goW (fun t_ k_ => XS.icmpNo X10.here hx rfl (hb hby at_219) rfl (teq hc17).2 k_) ?_
                  show own_EndsW _ _ _ _ _ _ _ _ _ T10 (mkF m 222 #[.val (.int p0), .val (.int p1), .val (.int p2), .val (.int p3), .val (.int p4), .val (.int p5), .val (.int ((p0 &&& (2147483647 : Int32)) % (7 : Int32))), .val (.int ((p1 &&& (255 : Int32)).toUInt32.toUInt16.toUInt32.toInt32)), .val (.int (((XT.ushr p1 (8 : Int32)) &&& (255 : Int32)).toUInt32.toUInt16.toUInt32.toInt32)), .val (.int (((XT.ushr p1 (16 : Int32)) &&& (3 : Int32)) % (3 : Int32))), .val (.int d0), .val (.int d1), .val (.int ((((p1 &&& (255 : Int32)).toUInt32.toUInt16.toUInt32.toInt32) ^^^ d0).toUInt32.toUInt16.toUInt32.toInt32)), .val (.int (((((XT.ushr p1 (8 : Int32)) &&& (255 : Int32)).toUInt32.toUInt16.toUInt32.toInt32) ^^^ d1).toUInt32.toUInt16.toUInt32.toInt32)), .val (.int (((XT.ushr p2 (24 : Int32)) &&& (3 : Int32)) % (3 : Int32))), .val (.ref sa2), .val (.ref sa4), .val (.ref sa6), .val (.ref b7), .val (.int z1), .unset] [])
                  refine own_goW (fun t_ k_ => XS.iconst X10.here hx rfl (hb hby at_222) k_) ?_
                  show own_EndsW _ _ _ _ _ _ _ _ _ T10 (mkF m 223 #[.val (.int p0), .val (.int p1), .val (.int p2), .val (.int p3), .val (.int p4), .val (.int p5), .val (.int ((p0 &&& (2147483647 : Int32)) % (7 : Int32))), .val (.int ((p1 &&& (255 : Int32)).toUInt32.toUInt16.toUInt32.toInt32)), .val (.int (((XT.ushr p1 (8 : Int32)) &&& (255 : Int32)).toUInt32.toUInt16.toUInt32.toInt32)), .val (.int (((XT.ushr p1 (16 : Int32)) &&& (3 : Int32)) % (3 : Int32))), .val (.int d0), .val (.int d1), .val (.int ((((p1 &&& (255 : Int32)).toUInt32.toUInt16.toUInt32.toInt32) ^^^ d0).toUInt32.toUInt16.toUInt32.toInt32)), .val (.int (((((XT.ushr p1 (8 : Int32)) &&& (255 : Int32)).toUInt32.toUInt16.toUInt32.toInt32) ^^^ d1).toUInt32.toUInt16.toUInt32.toInt32)), .val (.int (((XT.ushr p2 (24 : Int32)) &&& (3 : Int32)) % (3 : Int32))), .val (.ref sa2), .val (.ref sa4), .val (.ref sa6), .val (.ref b7), .val (.int z1), .unset] [(.int (1 : Int32))])
                  refine own_goW (fun t_ k_ => XS.goto X10.here hx rfl (pc0 := 223) (pc' := 227) rfl (hb hby at_223) (by decide) (by decide) k_) ?_
                  exact J227 _ (Or.inl ⟨rfl, hc14, Or.inl hc15, Or.inr hc17⟩)
                · refine own_goW (fun t_ k_ => XS.icmpYes X10.here hx rfl (pc0 := 219) (pc' := 226) rfl (hb hby at_219) rfl (feq hc17).2 (by decide) (by decide) k_) ?_
                  show own_EndsW _ _ _ _ _ _ _ _ _ T10 (mkF m 226 #[.val (.int p0), .val (.int p1), .val (.int p2), .val (.int p3), .val (.int p4), .val (.int p5), .val (.int ((p0 &&& (2147483647 : Int32)) % (7 : Int32))), .val (.int ((p1 &&& (255 : Int32)).toUInt32.toUInt16.toUInt32.toInt32)), .val (.int (((XT.ushr p1 (8 : Int32)) &&& (255 : Int32)).toUInt32.toUInt16.toUInt32.toInt32)), .val (.int (((XT.ushr p1 (16 : Int32)) &&& (3 : Int32)) % (3 : Int32))), .val (.int d0), .val (.int d1), .val (.int ((((p1 &&& (255 : Int32)).toUInt32.toUInt16.toUInt32.toInt32) ^^^ d0).toUInt32.toUInt16.toUInt32.toInt32)), .val (.int (((((XT.ushr p1 (8 : Int32)) &&& (255 : Int32)).toUInt32.toUInt16.toUInt32.toInt32) ^^^ d1).toUInt32.toUInt16.toUInt32.toInt32)), .val (.int (((XT.ushr p2 (24 : Int32)) &&& (3 : Int32)) % (3 : Int32))), .val (.ref sa2), .val (.ref sa4), .val (.ref sa6), .val (.ref b7), .val (.int z1), .unset] [])
                  refine own_goW (fun t_ k_ => XS.iconst X10.here hx rfl (hb hby at_226) k_) ?_
                  exact J227 _ (Or.inr ⟨rfl, fun q => q.2.2.elim hc16 hc17⟩)
            · refine own_goW (fun t_ k_ => XS.icmpNo X10.here hx rfl (hb hby at_199) rfl (flt hc15).1 k_) ?_
              show own_EndsW _ _ _ _ _ _ _ _ _ T10 (mkF m 202 #[.val (.int p0), .val (.int p1), .val (.int p2), .val (.int p3), .val (.int p4), .val (.int p5), .val (.int ((p0 &&& (2147483647 : Int32)) % (7 : Int32))), .val (.int ((p1 &&& (255 : Int32)).toUInt32.toUInt16.toUInt32.toInt32)), .val (.int (((XT.ushr p1 (8 : Int32)) &&& (255 : Int32)).toUInt32.toUInt16.toUInt32.toInt32)), .val (.int (((XT.ushr p1 (16 : Int32)) &&& (3 : Int32)) % (3 : Int32))), .val (.int d0), .val (.int d1), .val (.int ((((p1 &&& (255 : Int32)).toUInt32.toUInt16.toUInt32.toInt32) ^^^ d0).toUInt32.toUInt16.toUInt32.toInt32)), .val (.int (((((XT.ushr p1 (8 : Int32)) &&& (255 : Int32)).toUInt32.toUInt16.toUInt32.toInt32) ^^^ d1).toUInt32.toUInt16.toUInt32.toInt32)), .val (.int (((XT.ushr p2 (24 : Int32)) &&& (3 : Int32)) % (3 : Int32))), .val (.ref sa2), .val (.ref sa4), .val (.ref sa6), .val (.ref b7), .val (.int z1), .unset] [])
              refine own_goW (fun t_ k_ => XS.iload X10.here hx rfl (hb hby at_202) rfl  k_) ?_
              show own_EndsW _ _ _ _ _ _ _ _ _ T10 (mkF m 204 #[.val (.int p0), .val (.int p1), .val (.int p2), .val (.int p3), .val (.int p4), .val (.int p5), .val (.int ((p0 &&& (2147483647 : Int32)) % (7 : Int32))), .val (.int ((p1 &&& (255 : Int32)).toUInt32.toUInt16.toUInt32.toInt32)), .val (.int (((XT.ushr p1 (8 : Int32)) &&& (255 : Int32)).toUInt32.toUInt16.toUInt32.toInt32)), .val (.int (((XT.ushr p1 (16 : Int32)) &&& (3 : Int32)) % (3 : Int32))), .val (.int d0), .val (.int d1), .val (.int ((((p1 &&& (255 : Int32)).toUInt32.toUInt16.toUInt32.toInt32) ^^^ d0).toUInt32.toUInt16.toUInt32.toInt32)), .val (.int (((((XT.ushr p1 (8 : Int32)) &&& (255 : Int32)).toUInt32.toUInt16.toUInt32.toInt32) ^^^ d1).toUInt32.toUInt16.toUInt32.toInt32)), .val (.int (((XT.ushr p2 (24 : Int32)) &&& (3 : Int32)) % (3 : Int32))), .val (.ref sa2), .val (.ref sa4), .val (.ref sa6), .val (.ref b7), .val (.int z1), .unset] [(.int ((((p1 &&& (255 : Int32)).toUInt32.toUInt16.toUInt32.toInt32) ^^^ d0).toUInt32.toUInt16.toUInt32.toInt32))])
              refine own_goW (fun t_ k_ => XS.iload X10.here hx rfl (hb hby at_204) rfl  k_) ?_
              show own_EndsW _ _ _ _ _ _ _ _ _ T10 (mkF m 206 #[.val (.int p0), .val (.int p1), .val (.int p2), .val (.int p3), .val (.int p4), .val (.int p5), .val (.int ((p0 &&& (2147483647 : Int32)) % (7 : Int32))), .val (.int ((p1 &&& (255 : Int32)).toUInt32.toUInt16.toUInt32.toInt32)), .val (.int (((XT.ushr p1 (8 : Int32)) &&& (255 : Int32)).toUInt32.toUInt16.toUInt32.toInt32)), .val (.int (((XT.ushr p1 (16 : Int32)) &&& (3 : Int32)) % (3 : Int32))), .val (.int d0), .val (.int d1), .val (.int ((((p1 &&& (255 : Int32)).toUInt32.toUInt16.toUInt32.toInt32) ^^^ d0).toUInt32.toUInt16.toUInt32.toInt32)), .val (.int (((((XT.ushr p1 (8 : Int32)) &&& (255 : Int32)).toUInt32.toUInt16.toUInt32.toInt32) ^^^ d1).toUInt32.toUInt16.toUInt32.toInt32)), .val (.int (((XT.ushr p2 (24 : Int32)) &&& (3 : Int32)) % (3 : Int32))), .val (.ref sa2), .val (.ref sa4), .val (.ref sa6), .val (.ref b7), .val (.int z1), .unset] [(.int ((p1 &&& (255 : Int32)).toUInt32.toUInt16.toUInt32.toInt32)), (.int ((((p1 &&& (255 : Int32)).toUInt32.toUInt16.toUInt32.toInt32) ^^^ d0).toUInt32.toUInt16.toUInt32.toInt32))])
              by_cases hc18 : ((((p1 &&& (255 : Int32)).toUInt32.toUInt16.toUInt32.toInt32) ^^^ d0).toUInt32.toUInt16.toUInt32.toInt32) = ((p1 &&& (255 : Int32)).toUInt32.toUInt16.toUInt32.toInt32)
              · refine own_goW (fun t_ k_ => XS.icmpNo X10.here hx rfl (hb hby at_206) rfl (teq hc18).2 k_) ?_
                show own_EndsW _ _ _ _ _ _ _ _ _ T10 (mkF m 209 #[.val (.int p0), .val (.int p1), .val (.int p2), .val (.int p3), .val (.int p4), .val (.int p5), .val (.int ((p0 &&& (2147483647 : Int32)) % (7 : Int32))), .val (.int ((p1 &&& (255 : Int32)).toUInt32.toUInt16.toUInt32.toInt32)), .val (.int (((XT.ushr p1 (8 : Int32)) &&& (255 : Int32)).toUInt32.toUInt16.toUInt32.toInt32)), .val (.int (((XT.ushr p1 (16 : Int32)) &&& (3 : Int32)) % (3 : Int32))), .val (.int d0), .val (.int d1), .val (.int ((((p1 &&& (255 : Int32)).toUInt32.toUInt16.toUInt32.toInt32) ^^^ d0).toUInt32.toUInt16.toUInt32.toInt32)), .val (.int (((((XT.ushr p1 (8 : Int32)) &&& (255 : Int32)).toUInt32.toUInt16.toUInt32.toInt32) ^^^ d1).toUInt32.toUInt16.toUInt32.toInt32)), .val (.int (((XT.ushr p2 (24 : Int32)) &&& (3 : Int32)) % (3 : Int32))), .val (.ref sa2), .val (.ref sa4), .val (.ref sa6), .val (.ref b7), .val (.int z1), .unset] [])
                refine own_goW (fun t_ k_ => XS.iload X10.here hx rfl (hb hby at_209) rfl  k_) ?_
                show own_EndsW _ _ _ _ _ _ _ _ _ T10 (mkF m 211 #[.val (.int p0), .val (.int p1), .val (.int p2), .val (.int p3), .val (.int p4), .val (.int p5), .val (.int ((p0 &&& (2147483647 : Int32)) % (7 : Int32))), .val (.int ((p1 &&& (255 : Int32)).toUInt32.toUInt16.toUInt32.toInt32)), .val (.int (((XT.ushr p1 (8 : Int32)) &&& (255 : Int32)).toUInt32.toUInt16.toUInt32.toInt32)), .val (.int (((XT.ushr p1 (16 : Int32)) &&& (3 : Int32)) % (3 : Int32))), .val (.int d0), .val (.int d1), .val (.int ((((p1 &&& (255 : Int32)).toUInt32.toUInt16.toUInt32.toInt32) ^^^ d0).toUInt32.toUInt16.toUInt32.toInt32)), .val (.int (((((XT.ushr p1 (8 : Int32)) &&& (255 : Int32)).toUInt32.toUInt16.toUInt32.toInt32) ^^^ d1).toUInt32.toUInt16.toUInt32.toInt32)), .val (.int (((XT.ushr p2 (24 : Int32)) &&& (3 : Int32)) % (3 : Int32))), .val (.ref sa2), .val (.ref sa4), .val (.ref sa6), .val (.ref b7), .val (.int z1), .unset] [(.int (((XT.ushr p1 (16 : Int32)) &&& (3 : Int32)) % (3 : Int32)))])
                refine own_goW (fun t_ k_ => XS.iconst X10.here hx rfl (hb hby at_211) k_) ?_
                show own_EndsW _ _ _ _ _ _ _ _ _ T10 (mkF m 212 #[.val (.int p0), .val (.int p1), .val (.int p2), .val (.int p3), .val (.int p4), .val (.int p5), .val (.int ((p0 &&& (2147483647 : Int32)) % (7 : Int32))), .val (.int ((p1 &&& (255 : Int32)).toUInt32.toUInt16.toUInt32.toInt32)), .val (.int (((XT.ushr p1 (8 : Int32)) &&& (255 : Int32)).toUInt32.toUInt16.toUInt32.toInt32)), .val (.int (((XT.ushr p1 (16 : Int32)) &&& (3 : Int32)) % (3 : Int32))), .val (.int d0), .val (.int d1), .val (.int ((((p1 &&& (255 : Int32)).toUInt32.toUInt16.toUInt32.toInt32) ^^^ d0).toUInt32.toUInt16.toUInt32.toInt32)), .val (.int (((((XT.ushr p1 (8 : Int32)) &&& (255 : Int32)).toUInt32.toUInt16.toUInt32.toInt32) ^^^ d1).toUInt32.toUInt16.toUInt32.toInt32)), .val (.int (((XT.ushr p2 (24 : Int32)) &&& (3 : Int32)) % (3 : Int32))), .val (.ref sa2), .val (.ref sa4), .val (.ref sa6), .val (.ref b7), .val (.int z1), .unset] [(.int (2 : Int32)), (.int (((XT.ushr p1 (16 : Int32)) &&& (3 : Int32)) % (3 : Int32)))])
                by_cases hc19 : (((XT.ushr p1 (16 : Int32)) &&& (3 : Int32)) % (3 : Int32)) < (2 : Int32)
                · refine own_goW (fun t_ k_ => XS.icmpYes X10.here hx rfl (pc0 := 212) (pc' := 222) rfl (hb hby at_212) rfl (tlt hc19).1 (by decide) (by decide) k_) ?_
                  show own_EndsW _ _ _ _ _ _ _ _ _ T10 (mkF m 222 #[.val (.int p0), .val (.int p1), .val (.int p2), .val (.int p3), .val (.int p4), .val (.int p5), .val (.int ((p0 &&& (2147483647 : Int32)) % (7 : Int32))), .val (.int ((p1 &&& (255 : Int32)).toUInt32.toUInt16.toUInt32.toInt32)), .val (.int (((XT.ushr p1 (8 : Int32)) &&& (255 : Int32)).toUInt32.toUInt16.toUInt32.toInt32)), .val (.int (((XT.ushr p1 (16 : Int32)) &&& (3 : Int32)) % (3 : Int32))), .val (.int d0), .val (.int d1), .val (.int ((((p1 &&& (255 : Int32)).toUInt32.toUInt16.toUInt32.toInt32) ^^^ d0).toUInt32.toUInt16.toUInt32.toInt32)), .val (.int (((((XT.ushr p1 (8 : Int32)) &&& (255 : Int32)).toUInt32.toUInt16.toUInt32.toInt32) ^^^ d1).toUInt32.toUInt16.toUInt32.toInt32)), .val (.int (((XT.ushr p2 (24 : Int32)) &&& (3 : Int32)) % (3 : Int32))), .val (.ref sa2), .val (.ref sa4), .val (.ref sa6), .val (.ref b7), .val (.int z1), .unset] [])
                  refine own_goW (fun t_ k_ => XS.iconst X10.here hx rfl (hb hby at_222) k_) ?_
                  show own_EndsW _ _ _ _ _ _ _ _ _ T10 (mkF m 223 #[.val (.int p0), .val (.int p1), .val (.int p2), .val (.int p3), .val (.int p4), .val (.int p5), .val (.int ((p0 &&& (2147483647 : Int32)) % (7 : Int32))), .val (.int ((p1 &&& (255 : Int32)).toUInt32.toUInt16.toUInt32.toInt32)), .val (.int (((XT.ushr p1 (8 : Int32)) &&& (255 : Int32)).toUInt32.toUInt16.toUInt32.toInt32)), .val (.int (((XT.ushr p1 (16 : Int32)) &&& (3 : Int32)) % (3 : Int32))), .val (.int d0), .val (.int d1), .val (.int ((((p1 &&& (255 : Int32)).toUInt32.toUInt16.toUInt32.toInt32) ^^^ d0).toUInt32.toUInt16.toUInt32.toInt32)), .val (.int (((((XT.ushr p1 (8 : Int32)) &&& (255 : Int32)).toUInt32.toUInt16.toUInt32.toInt32) ^^^ d1).toUInt32.toUInt16.toUInt32.toInt32)), .val (.int (((XT.ushr p2 (24 : Int32)) &&& (3 : Int32)) % (3 : Int32))), .val (.ref sa2), .val (.ref sa4), .val (.ref sa6), .val (.ref b7), .val (.int z1), .unset] [(.int (1 : Int32))])
                  refine own_goW (fun t_ k_ => XS.goto X10.here hx rfl (pc0 := 223) (pc' := 227) rfl (hb hby at_223) (by decide) (by decide) k_) ?_
                  exact J227 _ (Or.inl ⟨rfl, hc14, Or.inr hc18, Or.inl hc19⟩)
                · refine own_goW (fun t_ k_ => XS.icmpNo X10.here hx rfl (hb hby at_212) rfl (flt hc19).1 k_) ?_
                  show own_EndsW _ _ _ _ _ _ _ _ _ T10 (mkF m 215 #[.val (.int p0), .val (.int p1), .val (.int p2), .val (.int p3), .val (.int p4), .val (.int p5), .val (.int ((p0 &&& (2147483647 : Int32)) % (7 : Int32))), .val (.int ((p1 &&& (255 : Int32)).toUInt32.toUInt16.toUInt32.toInt32)), .val (.int (((XT.ushr p1 (8 : Int32)) &&& (255 : Int32)).toUInt32.toUInt16.toUInt32.toInt32)), .val (.int (((XT.ushr p1 (16 : Int32)) &&& (3 : Int32)) % (3 : Int32))), .val (.int d0), .val (.int d1), .val (.int ((((p1 &&& (255 : Int32)).toUInt32.toUInt16.toUInt32.toInt32) ^^^ d0).toUInt32.toUInt16.toUInt32.toInt32)), .val (.int (((((XT.ushr p1 (8 : Int32)) &&& (255 : Int32)).toUInt32.toUInt16.toUInt32.toInt32) ^^^ d1).toUInt32.toUInt16.toUInt32.toInt32)), .val (.int (((XT.ushr p2 (24 : Int32)) &&& (3 : Int32)) % (3 : Int32))), .val (.ref sa2), .val (.ref sa4), .val (.ref sa6), .val (.ref b7), .val (.int z1), .unset] [])
                  refine own_goW (fun t_ k_ => XS.iload X10.here hx rfl (hb hby at_215) rfl  k_) ?_
                  show own_EndsW _ _ _ _ _ _ _ _ _ T10 (mkF m 217 #[.val (.int p0), .val (.int p1), .val (.int p2), .val (.int p3), .val (.int p4), .val (.int p5), .val (.int ((p0 &&& (2147483647 : Int32)) % (7 : Int32))), .val (.int ((p1 &&& (255 : Int32)).toUInt32.toUInt16.toUInt32.toInt32)), .val (.int (((XT.ushr p1 (8 : Int32)) &&& (255 : Int32)).toUInt32.toUInt16.toUInt32.toInt32)), .val (.int (((XT.ushr p1 (16 : Int32)) &&& (3 : Int32)) % (3 : Int32))), .val (.int d0), .val (.int d1), .val (.int ((((p1 &&& (255 : Int32)).toUInt32.toUInt16.toUInt32.toInt32) ^^^ d0).toUInt32.toUInt16.toUInt32.toInt32)), .val (.int (((((XT.ushr p1 (8 : Int32)) &&& (255 : Int32)).toUInt32.toUInt16.toUInt32.toInt32) ^^^ d1).toUInt32.toUInt16.toUInt32.toInt32)), .val (.int (((XT.ushr p2 (24 : Int32)) &&& (3 : Int32)) % (3 : Int32))), .val (.ref sa2), .val (.ref sa4), .val (.ref sa6), .val (.ref b7), .val (.int z1), .unset] [(.int (((((XT.ushr p1 (8 : Int32)) &&& (255 : Int32)).toUInt32.toUInt16.toUInt32.toInt32) ^^^ d1).toUInt32.toUInt16.toUInt32.toInt32))])
                  refine own_goW (fun t_ k_ => XS.iload X10.here hx rfl (hb hby at_217) rfl  k_) ?_
                  show own_EndsW _ _ _ _ _ _ _ _ _ T10 (mkF m 219 #[.val (.int p0), .val (.int p1), .val (.int p2), .val (.int p3), .val (.int p4), .val (.int p5), .val (.int ((p0 &&& (2147483647 : Int32)) % (7 : Int32))), .val (.int ((p1 &&& (255 : Int32)).toUInt32.toUInt16.toUInt32.toInt32)), .val (.int (((XT.ushr p1 (8 : Int32)) &&& (255 : Int32)).toUInt32.toUInt16.toUInt32.toInt32)), .val (.int (((XT.ushr p1 (16 : Int32)) &&& (3 : Int32)) % (3 : Int32))), .val (.int d0), .val (.int d1), .val (.int ((((p1 &&& (255 : Int32)).toUInt32.toUInt16.toUInt32.toInt32) ^^^ d0).toUInt32.toUInt16.toUInt32.toInt32)), .val (.int (((((XT.ushr p1 (8 : Int32)) &&& (255 : Int32)).toUInt32.toUInt16.toUInt32.toInt32) ^^^ d1).toUInt32.toUInt16.toUInt32.toInt32)), .val (.int (((XT.ushr p2 (24 : Int32)) &&& (3 : Int32)) % (3 : Int32))), .val (.ref sa2), .val (.ref sa4), .val (.ref sa6), .val (.ref b7), .val (.int z1), .unset] [(.int (((XT.ushr p1 (8 : Int32)) &&& (255 : Int32)).toUInt32.toUInt16.toUInt32.toInt32)), (.int (((((XT.ushr p1 (8 : Int32)) &&& (255 : Int32)).toUInt32.toUInt16.toUInt32.toInt32) ^^^ d1).toUInt32.toUInt16.toUInt32.toInt32))])
                  by_cases hc20 : (((((XT.ushr p1 (8 : Int32)) &&& (255 : Int32)).toUInt32.toUInt16.toUInt32.toInt32) ^^^ d1).toUInt32.toUInt16.toUInt32.toInt32) = (((XT.ushr p1 (8 : Int32)) &&& (255 : Int32)).toUInt32.toUInt16.toUInt32.toInt32)
                  · refine own_goW (fun t_ k_ => XS.icmpNo X10.here hx rfl (hb hby at_219) rfl (teq hc20).2 k_) ?_
                    show own_EndsW _ _ _ _ _ _ _ _ _ T10 (mkF m 222 #[.val (.int p0), .val (.int p1), .val (.int p2), .val (.int p3), .val (.int p4), .val (.int p5), .val (.int ((p0 &&& (2147483647 : Int32)) % (7 : Int32))), .val (.int ((p1 &&& (255 : Int32)).toUInt32.toUInt16.toUInt32.toInt32)), .val (.int (((XT.ushr p1 (8 : Int32)) &&& (255 : Int32)).toUInt32.toUInt16.toUInt32.toInt32)), .val (.int (((XT.ushr p1 (16 : Int32)) &&& (3 : Int32)) % (3 : Int32))), .val (.int d0), .val (.int d1), .val (.int ((((p1 &&& (255 : Int32)).toUInt32.toUInt16.toUInt32.toInt32) ^^^ d0).toUInt32.toUInt16.toUInt32.toInt32)), .val (.int (((((XT.ushr p1 (8 : Int32)) &&& (255 : Int32)).toUInt32.toUInt16.toUInt32.toInt32) ^^^ d1).toUInt32.toUInt16.toUInt32.toInt32)), .val (.int (((XT.ushr p2 (24 : Int32)) &&& (3 : Int32)) % (3 : Int32))), .val (.ref sa2), .val (.ref sa4), .val (.ref sa6), .val (.ref b7), .val (.int z1), .unset] [])
                    refine own_goW (fun t_ k_ => XS.iconst X10.here hx rfl (hb hby at_222) k_) ?_
                    show own_EndsW _ _ _ _ _ _ _ _ _ T10 (mkF m 223 #[.val (.int p0), .val (.int p1), .val (.int p2), .val (.int p3), .val (.int p4), .val (.int p5), .val (.int ((p0 &&& (2147483647 : Int32)) % (7 : Int32))), .val (.int ((p1 &&& (255 : Int32)).toUInt32.toUInt16.toUInt32.toInt32)), .val (.int (((XT.ushr p1 (8 : Int32)) &&& (255 : Int32)).toUInt32.toUInt16.toUInt32.toInt32)), .val (.int (((XT.ushr p1 (16 : Int32)) &&& (3 : Int32)) % (3 : Int32))), .val (.int d0), .val (.int d1), .val (.int ((((p1 &&& (255 : Int32)).toUInt32.toUInt16.toUInt32.toInt32) ^^^ d0).toUInt32.toUInt16.toUInt32.toInt32)), .val (.int (((((XT.ushr p1 (8 : Int32)) &&& (255 : Int32)).toUInt32.toUInt16.toUInt32.toInt32) ^^^ d1).toUInt32.toUInt16.toUInt32.toInt32)), .val (.int (((XT.ushr p2 (24 : Int32)) &&& (3 : Int32)) % (3 : Int32))), .val (.ref sa2), .val (.ref sa4), .val (.ref sa6), .val (.ref b7), .val (.int z1), .unset] [(.int (1 : Int32))])
                    refine own_goW (fun t_ k_ => XS.goto X10.here hx rfl (pc0 := 223) (pc' := 227) rfl (hb hby at_223) (by decide) (by decide) k_) ?_
                    exact J227 _ (Or.inl ⟨rfl, hc14, Or.inr hc18, Or.inr hc20⟩)
                  · refine own_goW (fun t_ k_ => XS.icmpYes X10.here hx rfl (pc0 := 219) (pc' := 226) rfl (hb hby at_219) rfl (feq hc20).2 (by decide) (by decide) k_) ?_
                    show own_EndsW _ _ _ _ _ _ _ _ _ T10 (mkF m 226 #[.val (.int p0), .val (.int p1), .val (.int p2), .val (.int p3), .val (.int p4), .val (.int p5), .val (.int ((p0 &&& (2147483647 : Int32)) % (7 : Int32))), .val (.int ((p1 &&& (255 : Int32)).toUInt32.toUInt16.toUInt32.toInt32)), .val (.int (((XT.ushr p1 (8 : Int32)) &&& (255 : Int32)).toUInt32.toUInt16.toUInt32.toInt32)), .val (.int (((XT.ushr p1 (16 : Int32)) &&& (3 : Int32)) % (3 : Int32))), .val (.int d0), .val (.int d1), .val (.int ((((p1 &&& (255 : Int32)).toUInt32.toUInt16.toUInt32.toInt32) ^^^ d0).toUInt32.toUInt16.toUInt32.toInt32)), .val (.int (((((XT.ushr p1 (8 : Int32)) &&& (255 : Int32)).toUInt32.toUInt16.toUInt32.toInt32) ^^^ d1).toUInt32.toUInt16.toUInt32.toInt32)), .val (.int (((XT.ushr p2 (24 : Int32)) &&& (3 : Int32)) % (3 : Int32))), .val (.ref sa2), .val (.ref sa4), .val (.ref sa6), .val (.ref b7), .val (.int z1), .unset] [])
                    refine own_goW (fun t_ k_ => XS.iconst X10.here hx rfl (hb hby at_226) k_) ?_
                    exact J227 _ (Or.inr ⟨rfl, fun q => q.2.2.elim hc19 hc20⟩)
              · refine own_goW (fun t_ k_ => XS.icmpYes X10.here hx rfl (pc0 := 206) (pc' := 226) rfl (hb hby at_206) rfl (feq hc18).2 (by decide) (by decide) k_) ?_
                show own_EndsW _ _ _ _ _ _ _ _ _ T10 (mkF m 226 #[.val (.int p0), .val (.int p1), .val (.int p2), .val (.int p3), .val (.int p4), .val (.int p5), .val (.int ((p0 &&& (2147483647 : Int32)) % (7 : Int32))), .val (.int ((p1 &&& (255 : Int32)).toUInt32.toUInt16.toUInt32.toInt32)), .val (.int (((XT.ushr p1 (8 : Int32)) &&& (255 : Int32)).toUInt32.toUInt16.toUInt32.toInt32)), .val (.int (((XT.ushr p1 (16 : Int32)) &&& (3 : Int32)) % (3 : Int32))), .val (.int d0), .val (.int d1), .val (.int ((((p1 &&& (255 : Int32)).toUInt32.toUInt16.toUInt32.toInt32) ^^^ d0).toUInt32.toUInt16.toUInt32.toInt32)), .val (.int (((((XT.ushr p1 (8 : Int32)) &&& (255 : Int32)).toUInt32.toUInt16.toUInt32.toInt32) ^^^ d1).toUInt32.toUInt16.toUInt32.toInt32)), .val (.int (((XT.ushr p2 (24 : Int32)) &&& (3 : Int32)) % (3 : Int32))), .val (.ref sa2), .val (.ref sa4), .val (.ref sa6), .val (.ref b7), .val (.int z1), .unset] [])
                refine own_goW (fun t_ k_ => XS.iconst X10.here hx rfl (hb hby at_226) k_) ?_
                exact J227 _ (Or.inr ⟨rfl, fun q => q.2.1.elim hc15 hc18⟩)
          · refine own_goW (fun t_ k_ => XS.icmpYes X10.here hx rfl (pc0 := 193) (pc' := 226) rfl (hb hby at_193) rfl (feq hc14).2 (by decide) (by decide) k_) ?_
            show own_EndsW _ _ _ _ _ _ _ _ _ T10 (mkF m 226 #[.val (.int p0), .val (.int p1), .val (.int p2), .val (.int p3), .val (.int p4), .val (.int p5), .val (.int ((p0 &&& (2147483647 : Int32)) % (7 : Int32))), .val (.int ((p1 &&& (255 : Int32)).toUInt32.toUInt16.toUInt32.toInt32)), .val (.int (((XT.ushr p1 (8 : Int32)) &&& (255 : Int32)).toUInt32.toUInt16.toUInt32.toInt32)), .val (.int (((XT.ushr p1 (16 : Int32)) &&& (3 : Int32)) % (3 : Int32))), .val (.int d0), .val (.int d1), .val (.int ((((p1 &&& (255 : Int32)).toUInt32.toUInt16.toUInt32.toInt32) ^^^ d0).toUInt32.toUInt16.toUInt32.toInt32)), .val (.int (((((XT.ushr p1 (8 : Int32)) &&& (255 : Int32)).toUInt32.toUInt16.toUInt32.toInt32) ^^^ d1).toUInt32.toUInt16.toUInt32.toInt32)), .val (.int (((XT.ushr p2 (24 : Int32)) &&& (3 : Int32)) % (3 : Int32))), .val (.ref sa2), .val (.ref sa4), .val (.ref sa6), .val (.ref b7), .val (.int z1), .unset] [])
            refine own_goW (fun t_ k_ => XS.iconst X10.here hx rfl (hb hby at_226) k_) ?_
            exact J227 _ (Or.inr ⟨rfl, fun q => hc14 q.1⟩)
        show own_EndsW _ _ _ _ _ _ _ _ _ T10 (mkF m 170 #[.val (.int p0), .val (.int p1), .val (.int p2), .val (.int p3), .val (.int p4), .val (.int p5), .val (.int ((p0 &&& (2147483647 : Int32)) % (7 : Int32))), .val (.int ((p1 &&& (255 : Int32)).toUInt32.toUInt16.toUInt32.toInt32)), .val (.int (((XT.ushr p1 (8 : Int32)) &&& (255 : Int32)).toUInt32.toUInt16.toUInt32.toInt32)), .val (.int (((XT.ushr p1 (16 : Int32)) &&& (3 : Int32)) % (3 : Int32))), .val (.int d0), .val (.int d1), .val (.int ((((p1 &&& (255 : Int32)).toUInt32.toUInt16.toUInt32.toInt32) ^^^ d0).toUInt32.toUInt16.toUInt32.toInt32)), .val (.int (((((XT.ushr p1 (8 : Int32)) &&& (255 : Int32)).toUInt32.toUInt16.toUInt32.toInt32) ^^^ d1).toUInt32.toUInt16.toUInt32.toInt32)), .val (.int (((XT.ushr p2 (24 : Int32)) &&& (3 : Int32)) % (3 : Int32))), .val (.ref sa2), .val (.ref sa4), .val (.ref sa6), .val (.ref b7), .unset, .unset] [])
        refine own_goW (fun t_ k_ => XS.iload X10.here hx rfl (hb hby at_170) rfl  k_) ?_
        show own_EndsW _ _ _ _ _ _ _ _ _ T10 (mkF m 172 #[.val (.int p0), .val (.int p1), .val (.int p2), .val (.int p3), .val (.int p4), .val (.int p5), .val (.int ((p0 &&& (2147483647 : Int32)) % (7 : Int32))), .val (.int ((p1 &&& (255 : Int32)).toUInt32.toUInt16.toUInt32.toInt32)), .val (.int (((XT.ushr p1 (8 : Int32)) &&& (255 : Int32)).toUInt32.toUInt16.toUInt32.toInt32)), .val (.int (((XT.ushr p1 (16 : Int32)) &&& (3 : Int32)) % (3 : Int32))), .val (.int d0), .val (.int d1), .val (.int ((((p1 &&& (255 : Int32)).toUInt32.toUInt16.toUInt32.toInt32) ^^^ d0).toUInt32.toUInt16.toUInt32.toInt32)), .val (.int (((((XT.ushr p1 (8 : Int32)) &&& (255 : Int32)).toUInt32.toUInt16.toUInt32.toInt32) ^^^ d1).toUInt32.toUInt16.toUInt32.toInt32)), .val (.int (((XT.ushr p2 (24 : Int32)) &&& (3 : Int32)) % (3 : Int32))), .val (.ref sa2), .val (.ref sa4), .val (.ref sa6), .val (.ref b7), .unset, .unset] [(.int ((p0 &&& (2147483647 : Int32)) % (7 : Int32)))])
        refine own_goW (fun t_ k_ => XS.iconst X10.here hx rfl (hb hby at_172) k_) ?_
        show own_EndsW _ _ _ _ _ _ _ _ _ T10 (mkF m 173 #[.val (.int p0), .val (.int p1), .val (.int p2), .val (.int p3), .val (.int p4), .val (.int p5), .val (.int ((p0 &&& (2147483647 : Int32)) % (7 : Int32))), .val (.int ((p1 &&& (255 : Int32)).toUInt32.toUInt16.toUInt32.toInt32)), .val (.int (((XT.ushr p1 (8 : Int32)) &&& (255 : Int32)).toUInt32.toUInt16.toUInt32.toInt32)), .val (.int (((XT.ushr p1 (16 : Int32)) &&& (3 : Int32)) % (3 : Int32))), .val (.int d0), .val (.int d1), .val (.int ((((p1 &&& (255 : Int32)).toUInt32.toUInt16.toUInt32.toInt32) ^^^ d0).toUInt32.toUInt16.toUInt32.toInt32)), .val (.int (((((XT.ushr p1 (8 : Int32)) &&& (255 : Int32)).toUInt32.toUInt16.toUInt32.toInt32) ^^^ d1).toUInt32.toUInt16.toUInt32.toInt32)), .val (.int (((XT.ushr p2 (24 : Int32)) &&& (3 : Int32)) % (3 : Int32))), .val (.ref sa2), .val (.ref sa4), .val (.ref sa6), .val (.ref b7), .unset, .unset] [(.int (1 : Int32)), (.int ((p0 &&& (2147483647 : Int32)) % (7 : Int32)))])
        by_cases hc21 : ((p0 &&& (2147483647 : Int32)) % (7 : Int32)) = (1 : Int32)
        · refine own_goW (fun t_ k_ => XS.icmpYes X10.here hx rfl (pc0 := 173) (pc' := 182) rfl (hb hby at_173) rfl (teq hc21).1 (by decide) (by decide) k_) ?_
          show own_EndsW _ _ _ _ _ _ _ _ _ T10 (mkF m 182 #[.val (.int p0), .val (.int p1), .val (.int p2), .val (.int p3), .val (.int p4), .val (.int p5), .val (.int ((p0 &&& (2147483647 : Int32)) % (7 : Int32))), .val (.int ((p1 &&& (255 : Int32)).toUInt32.toUInt16.toUInt32.toInt32)), .val (.int (((XT.ushr p1 (8 : Int32)) &&& (255 : Int32)).toUInt32.toUInt16.toUInt32.toInt32)), .val (.int (((XT.ushr p1 (16 : Int32)) &&& (3 : Int32)) % (3 : Int32))), .val (.int d0), .val (.int d1), .val (.int ((((p1 &&& (255 : Int32)).toUInt32.toUInt16.toUInt32.toInt32) ^^^ d0).toUInt32.toUInt16.toUInt32.toInt32)), .val (.int (((((XT.ushr p1 (8 : Int32)) &&& (255 : Int32)).toUInt32.toUInt16.toUInt32.toInt32) ^^^ d1).toUInt32.toUInt16.toUInt32.toInt32)), .val (.int (((XT.ushr p2 (24 : Int32)) &&& (3 : Int32)) % (3 : Int32))), .val (.ref sa2), .val (.ref sa4), .val (.ref sa6), .val (.ref b7), .unset, .unset] [])
          refine own_goW (fun t_ k_ => XS.iconst X10.here hx rfl (hb hby at_182) k_) ?_
          show own_EndsW _ _ _ _ _ _ _ _ _ T10 (mkF m 183 #[.val (.int p0), .val (.int p1), .val (.int p2), .val (.int p3), .val (.int p4), .val (.int p5), .val (.int ((p0 &&& (2147483647 : Int32)) % (7 : Int32))), .val (.int ((p1 &&& (255 : Int32)).toUInt32.toUInt16.toUInt32.toInt32)), .val (.int (((XT.ushr p1 (8 : Int32)) &&& (255 : Int32)).toUInt32.toUInt16.toUInt32.toInt32)), .val (.int (((XT.ushr p1 (16 : Int32)) &&& (3 : Int32)) % (3 : Int32))), .val (.int d0), .val (.int d1), .val (.int ((((p1 &&& (255 : Int32)).toUInt32.toUInt16.toUInt32.toInt32) ^^^ d0).toUInt32.toUInt16.toUInt32.toInt32)), .val (.int (((((XT.ushr p1 (8 : Int32)) &&& (255 : Int32)).toUInt32.toUInt16.toUInt32.toInt32) ^^^ d1).toUInt32.toUInt16.toUInt32.toInt32)), .val (.int (((XT.ushr p2 (24 : Int32)) &&& (3 : Int32)) % (3 : Int32))), .val (.ref sa2), .val (.ref sa4), .val (.ref sa6), .val (.ref b7), .unset, .unset] [(.int (1 : Int32))])
          refine own_goW (fun t_ k_ => XS.goto X10.here hx rfl (pc0 := 183) (pc' := 187) rfl (hb hby at_183) (by decide) (by decide) k_) ?_
          exact J187 _ (by simp [hc21])
        · refine own_goW (fun t_ k_ => XS.icmpNo X10.here hx rfl (hb hby at_173) rfl (feq hc21).1 k_) ?_
          show own_EndsW _ _ _ _ _ _ _ _ _ T10 (mkF m 176 #[.val (.int p0), .val (.int p1), .val (.int p2), .val (.int p3), .val (.int p4), .val (.int p5), .val (.int ((p0 &&& (2147483647 : Int32)) % (7 : Int32))), .val (.int ((p1 &&& (255 : Int32)).toUInt32.toUInt16.toUInt32.toInt32)), .val (.int (((XT.ushr p1 (8 : Int32)) &&& (255 : Int32)).toUInt32.toUInt16.toUInt32.toInt32)), .val (.int (((XT.ushr p1 (16 : Int32)) &&& (3 : Int32)) % (3 : Int32))), .val (.int d0), .val (.int d1), .val (.int ((((p1 &&& (255 : Int32)).toUInt32.toUInt16.toUInt32.toInt32) ^^^ d0).toUInt32.toUInt16.toUInt32.toInt32)), .val (.int (((((XT.ushr p1 (8 : Int32)) &&& (255 : Int32)).toUInt32.toUInt16.toUInt32.toInt32) ^^^ d1).toUInt32.toUInt16.toUInt32.toInt32)), .val (.int (((XT.ushr p2 (24 : Int32)) &&& (3 : Int32)) % (3 : Int32))), .val (.ref sa2), .val (.ref sa4), .val (.ref sa6), .val (.ref b7), .unset, .unset] [])
          refine own_goW (fun t_ k_ => XS.iload X10.here hx rfl (hb hby at_176) rfl  k_) ?_
          show own_EndsW _ _ _ _ _ _ _ _ _ T10 (mkF m 178 #[.val (.int p0), .val (.int p1), .val (.int p2), .val (.int p3), .val (.int p4), .val (.int p5), .val (.int ((p0 &&& (2147483647 : Int32)) % (7 : Int32))), .val (.int ((p1 &&& (255 : Int32)).toUInt32.toUInt16.toUInt32.toInt32)), .val (.int (((XT.ushr p1 (8 : Int32)) &&& (255 : Int32)).toUInt32.toUInt16.toUInt32.toInt32)), .val (.int (((XT.ushr p1 (16 : Int32)) &&& (3 : Int32)) % (3 : Int32))), .val (.int d0), .val (.int d1), .val (.int ((((p1 &&& (255 : Int32)).toUInt32.toUInt16.toUInt32.toInt32) ^^^ d0).toUInt32.toUInt16.toUInt32.toInt32)), .val (.int (((((XT.ushr p1 (8 : Int32)) &&& (255 : Int32)).toUInt32.toUInt16.toUInt32.toInt32) ^^^ d1).toUInt32.toUInt16.toUInt32.toInt32)), .val (.int (((XT.ushr p2 (24 : Int32)) &&& (3 : Int32)) % (3 : Int32))), .val (.ref sa2), .val (.ref sa4), .val (.ref sa6), .val (.ref b7), .unset, .unset] [(.int ((p0 &&& (2147483647 : Int32)) % (7 : Int32)))])
          refine own_goW (fun t_ k_ => XS.iconst X10.here hx rfl (hb hby at_178) k_) ?_
          show own_EndsW _ _ _ _ _ _ _ _ _ T10 (mkF m 179 #[.val (.int p0), .val (.int p1), .val (.int p2), .val (.int p3), .val (.int p4), .val (.int p5), .val (.int ((p0 &&& (2147483647 : Int32)) % (7 : Int32))), .val (.int ((p1 &&& (255 : Int32)).toUInt32.toUInt16.toUInt32.toInt32)), .val (.int (((XT.ushr p1 (8 : Int32)) &&& (255 : Int32)).toUInt32.toUInt16.toUInt32.toInt32)), .val (.int (((XT.ushr p1 (16 : Int32)) &&& (3 : Int32)) % (3 : Int32))), .val (.int d0), .val (.int d1), .val (.int ((((p1 &&& (255 : Int32)).toUInt32.toUInt16.toUInt32.toInt32) ^^^ d0).toUInt32.toUInt16.toUInt32.toInt32)), .val (.int (((((XT.ushr p1 (8 : Int32)) &&& (255 : Int32)).toUInt32.toUInt16.toUInt32.toInt32) ^^^ d1).toUInt32.toUInt16.toUInt32.toInt32)), .val (.int (((XT.ushr p2 (24 : Int32)) &&& (3 : Int32)) % (3 : Int32))), .val (.ref sa2), .val (.ref sa4), .val (.ref sa6), .val (.ref b7), .unset, .unset] [(.int (5 : Int32)), (.int ((p0 &&& (2147483647 : Int32)) % (7 : Int32)))])
          by_cases hc22 : ((p0 &&& (2147483647 : Int32)) % (7 : Int32)) = (5 : Int32)
          · refine own_goW (fun t_ k_ => XS.icmpNo X10.here hx rfl (hb hby at_179) rfl (teq hc22).2 k_) ?_
            show own_EndsW _ _ _ _ _ _ _ _ _ T10 (mkF m 182 #[.val (.int p0), .val (.int p1), .val (.int p2), .val (.int p3), .val (.int p4), .val (.int p5), .val (.int ((p0 &&& (2147483647 : Int32)) % (7 : Int32))), .val (.int ((p1 &&& (255 : Int32)).toUInt32.toUInt16.toUInt32.toInt32)), .val (.int (((XT.ushr p1 (8 : Int32)) &&& (255 : Int32)).toUInt32.toUInt16.toUInt32.toInt32)), .val (.int (((XT.ushr p1 (16 : Int32)) &&& (3 : Int32)) % (3 : Int32))), .val (.int d0), .val (.int d1), .val (.int ((((p1 &&& (255 : Int32)).toUInt32.toUInt16.toUInt32.toInt32) ^^^ d0).toUInt32.toUInt16.toUInt32.toInt32)), .val (.int (((((XT.ushr p1 (8 : Int32)) &&& (255 : Int32)).toUInt32.toUInt16.toUInt32.toInt32) ^^^ d1).toUInt32.toUInt16.toUInt32.toInt32)), .val (.int (((XT.ushr p2 (24 : Int32)) &&& (3 : Int32)) % (3 : Int32))), .val (.ref sa2), .val (.ref sa4), .val (.ref sa6), .val (.ref b7), .unset, .unset] [])
            refine own_goW (fun t_ k_ => XS.iconst X10.here hx rfl (hb hby at_182) k_) ?_
            show own_EndsW _ _ _ _ _ _ _ _ _ T10 (mkF m 183 #[.val (.int p0), .val (.int p1), .val (.int p2), .val (.int p3), .val (.int p4), .val (.int p5), .val (.int ((p0 &&& (2147483647 : Int32)) % (7 : Int32))), .val (.int ((p1 &&& (255 : Int32)).toUInt32.toUInt16.toUInt32.toInt32)), .val (.int (((XT.ushr p1 (8 : Int32)) &&& (255 : Int32)).toUInt32.toUInt16.toUInt32.toInt32)), .val (.int (((XT.ushr p1 (16 : Int32)) &&& (3 : Int32)) % (3 : Int32))), .val (.int d0), .val (.int d1), .val (.int ((((p1 &&& (255 : Int32)).toUInt32.toUInt16.toUInt32.toInt32) ^^^ d0).toUInt32.toUInt16.toUInt32.toInt32)), .val (.int (((((XT.ushr p1 (8 : Int32)) &&& (255 : Int32)).toUInt32.toUInt16.toUInt32.toInt32) ^^^ d1).toUInt32.toUInt16.toUInt32.toInt32)), .val (.int (((XT.ushr p2 (24 : Int32)) &&& (3 : Int32)) % (3 : Int32))), .val (.ref sa2), .val (.ref sa4), .val (.ref sa6), .val (.ref b7), .unset, .unset] [(.int (1 : Int32))])
            refine own_goW (fun t_ k_ => XS.goto X10.here hx rfl (pc0 := 183) (pc' := 187) rfl (hb hby at_183) (by decide) (by decide) k_) ?_
            exact J187 _ (by simp [hc21, hc22])
          · refine own_goW (fun t_ k_ => XS.icmpYes X10.here hx rfl (pc0 := 179) (pc' := 186) rfl (hb hby at_179) rfl (feq hc22).2 (by decide) (by decide) k_) ?_
            show own_EndsW _ _ _ _ _ _ _ _ _ T10 (mkF m 186 #[.val (.int p0), .val (.int p1), .val (.int p2), .val (.int p3), .val (.int p4), .val (.int p5), .val (.int ((p0 &&& (2147483647 : Int32)) % (7 : Int32))), .val (.int ((p1 &&& (255 : Int32)).toUInt32.toUInt16.toUInt32.toInt32)), .val (.int (((XT.ushr p1 (8 : Int32)) &&& (255 : Int32)).toUInt32.toUInt16.toUInt32.toInt32)), .val (.int (((XT.ushr p1 (16 : Int32)) &&& (3 : Int32)) % (3 : Int32))), .val (.int d0), .val (.int d1), .val (.int ((((p1 &&& (255 : Int32)).toUInt32.toUInt16.toUInt32.toInt32) ^^^ d0).toUInt32.toUInt16.toUInt32.toInt32)), .val (.int (((((XT.ushr p1 (8 : Int32)) &&& (255 : Int32)).toUInt32.toUInt16.toUInt32.toInt32) ^^^ d1).toUInt32.toUInt16.toUInt32.toInt32)), .val (.int (((XT.ushr p2 (24 : Int32)) &&& (3 : Int32)) % (3 : Int32))), .val (.ref sa2), .val (.ref sa4), .val (.ref sa6), .val (.ref b7), .unset, .unset] [])
            refine own_goW (fun t_ k_ => XS.iconst X10.here hx rfl (hb hby at_186) k_) ?_
            exact J187 _ (by simp [hc21, hc22])
      show own_EndsW _ _ _ _ _ _ _ _ _ T8 (mkF m 153 #[.val (.int p0), .val (.int p1), .val (.int p2), .val (.int p3), .val (.int p4), .val (.int p5), .val (.int ((p0 &&& (2147483647 : Int32)) % (7 : Int32))), .val (.int ((p1 &&& (255 : Int32)).toUInt32.toUInt16.toUInt32.toInt32)), .val (.int (((XT.ushr p1 (8 : Int32)) &&& (255 : Int32)).toUInt32.toUInt16.toUInt32.toInt32)), .val (.int (((XT.ushr p1 (16 : Int32)) &&& (3 : Int32)) % (3 : Int32))), .val (.int d0), .val (.int d1), .val (.int ((((p1 &&& (255 : Int32)).toUInt32.toUInt16.toUInt32.toInt32) ^^^ d0).toUInt32.toUInt16.toUInt32.toInt32)), .val (.int (((((XT.ushr p1 (8 : Int32)) &&& (255 : Int32)).toUInt32.toUInt16.toUInt32.toInt32) ^^^ d1).toUInt32.toUInt16.toUInt32.toInt32)), .val (.int (((XT.ushr p2 (24 : Int32)) &&& (3 : Int32)) % (3 : Int32))), .val (.ref sa2), .val (.ref sa4), .val (.ref sa6), .unset, .unset, .unset] [(.ref sa6), (.int p4), (.int p3), (.ref sa2), (.ref kd), (.ref b7), (.ref b7)])
      refine own_goW (fun t_ k_ => XS.iload X8.here hx rfl (hb hby at_153) rfl  k_) ?_
      show own_EndsW _ _ _ _ _ _ _ _ _ T8 (mkF m 155 #[.val (.int p0), .val (.int p1), .val (.int p2), .val (.int p3), .val (.int p4), .val (.int p5), .val (.int ((p0 &&& (2147483647 : Int32)) % (7 : Int32))), .val (.int ((p1 &&& (255 : Int32)).toUInt32.toUInt16.toUInt32.toInt32)), .val (.int (((XT.ushr p1 (8 : Int32)) &&& (255 : Int32)).toUInt32.toUInt16.toUInt32.toInt32)), .val (.int (((XT.ushr p1 (16 : Int32)) &&& (3 : Int32)) % (3 : Int32))), .val (.int d0), .val (.int d1), .val (.int ((((p1 &&& (255 : Int32)).toUInt32.toUInt16.toUInt32.toInt32) ^^^ d0).toUInt32.toUInt16.toUInt32.toInt32)), .val (.int (((((XT.ushr p1 (8 : Int32)) &&& (255 : Int32)).toUInt32.toUInt16.toUInt32.toInt32) ^^^ d1).toUInt32.toUInt16.toUInt32.toInt32)), .val (.int (((XT.ushr p2 (24 : Int32)) &&& (3 : Int32)) % (3 : Int32))), .val (.ref sa2), .val (.ref sa4), .val (.ref sa6), .unset, .unset, .unset] [(.int p5), (.ref sa6), (.int p4), (.int p3), (.ref sa2), (.ref kd), (.ref b7), (.ref b7)])
      refine own_goW (fun t_ k_ => XS.iconst X8.here hx rfl (hb hby at_155) k_) ?_
      show own_EndsW _ _ _ _ _ _ _ _ _ T8 (mkF m 156 #[.val (.int p0), .val (.int p1), .val (.int p2), .val (.int p3), .val (.int p4), .val (.int p5), .val (.int ((p0 &&& (2147483647 : Int32)) % (7 : Int32))), .val (.int ((p1 &&& (255 : Int32)).toUInt32.toUInt16.toUInt32.toInt32)), .val (.int (((XT.ushr p1 (8 : Int32)) &&& (255 : Int32)).toUInt32.toUInt16.toUInt32.toInt32)), .val (.int (((XT.ushr p1 (16 : Int32)) &&& (3 : Int32)) % (3 : Int32))), .val (.int d0), .val (.int d1), .val (.int ((((p1 &&& (255 : Int32)).toUInt32.toUInt16.toUInt32.toInt32) ^^^ d0).toUInt32.toUInt16.toUInt32.toInt32)), .val (.int (((((XT.ushr p1 (8 : Int32)) &&& (255 : Int32)).toUInt32.toUInt16.toUInt32.toInt32) ^^^ d1).toUInt32.toUInt16.toUInt32.toInt32)), .val (.int (((XT.ushr p2 (24 : Int32)) &&& (3 : Int32)) % (3 : Int32))), .val (.ref sa2), .val (.ref sa4), .val (.ref sa6), .unset, .unset, .unset] [(.int (1 : Int32)), (.int p5), (.ref sa6), (.int p4), (.int p3), (.ref sa2), (.ref kd), (.ref b7), (.ref b7)])
      refine own_goW (fun t_ k_ => XS.iand X8.here hx rfl (hb hby at_156) rfl k_) ?_
      show own_EndsW _ _ _ _ _ _ _ _ _ T8 (mkF m 157 #[.val (.int p0), .val (.int p1), .val (.int p2), .val (.int p3), .val (.int p4), .val (.int p5), .val (.int ((p0 &&& (2147483647 : Int32)) % (7 : Int32))), .val (.int ((p1 &&& (255 : Int32)).toUInt32.toUInt16.toUInt32.toInt32)), .val (.int (((XT.ushr p1 (8 : Int32)) &&& (255 : Int32)).toUInt32.toUInt16.toUInt32.toInt32)), .val (.int (((XT.ushr p1 (16 : Int32)) &&& (3 : Int32)) % (3 : Int32))), .val (.int d0), .val (.int d1), .val (.int ((((p1 &&& (255 : Int32)).toUInt32.toUInt16.toUInt32.toInt32) ^^^ d0).toUInt32.toUInt16.toUInt32.toInt32)), .val (.int (((((XT.ushr p1 (8 : Int32)) &&& (255 : Int32)).toUInt32.toUInt16.toUInt32.toInt32) ^^^ d1).toUInt32.toUInt16.toUInt32.toInt32)), .val (.int (((XT.ushr p2 (24 : Int32)) &&& (3 : Int32)) % (3 : Int32))), .val (.ref sa2), .val (.ref sa4), .val (.ref sa6), .unset, .unset, .unset] [(.int (p5 &&& (1 : Int32))), (.ref sa6), (.int p4), (.int p3), (.ref sa2), (.ref kd), (.ref b7), (.ref b7)])
      by_cases hc23 : (p5 &&& (1 : Int32)) = (0 : Int32)
      · refine own_goW (fun t_ k_ => XS.ifYes X8.here hx rfl (pc0 := 157) (pc' := 164) rfl (hb hby at_157) rfl ((if0 _ _).trans (teq hc23).1) (by decide) (by decide) k_) ?_
        show own_EndsW _ _ _ _ _ _ _ _ _ T8 (mkF m 164 #[.val (.int p0), .val (.int p1), .val (.int p2), .val (.int p3), .val (.int p4), .val (.int p5), .val (.int ((p0 &&& (2147483647 : Int32)) % (7 : Int32))), .val (.int ((p1 &&& (255 : Int32)).toUInt32.toUInt16.toUInt32.toInt32)), .val (.int (((XT.ushr p1 (8 : Int32)) &&& (255 : Int32)).toUInt32.toUInt16.toUInt32.toInt32)), .val (.int (((XT.ushr p1 (16 : Int32)) &&& (3 : Int32)) % (3 : Int32))), .val (.int d0), .val (.int d1), .val (.int ((((p1 &&& (255 : Int32)).toUInt32.toUInt16.toUInt32.toInt32) ^^^ d0).toUInt32.toUInt16.toUInt32.toInt32)), .val (.int (((((XT.ushr p1 (8 : Int32)) &&& (255 : Int32)).toUInt32.toUInt16.toUInt32.toInt32) ^^^ d1).toUInt32.toUInt16.toUInt32.toInt32)), .val (.int (((XT.ushr p2 (24 : Int32)) &&& (3 : Int32)) % (3 : Int32))), .val (.ref sa2), .val (.ref sa4), .val (.ref sa6), .unset, .unset, .unset] [(.ref sa6), (.int p4), (.int p3), (.ref sa2), (.ref kd), (.ref b7), (.ref b7)])
        refine own_goW (fun t_ k_ => XS.iconst X8.here hx rfl (hb hby at_164) k_) ?_
        exact J165 _
      · refine own_goW (fun t_ k_ => XS.ifNo X8.here hx rfl (hb hby at_157) rfl ((if0 _ _).trans (feq hc23).1) k_) ?_
        show own_EndsW _ _ _ _ _ _ _ _ _ T8 (mkF m 160 #[.val (.int p0), .val (.int p1), .val (.int p2), .val (.int p3), .val (.int p4), .val (.int p5), .val (.int ((p0 &&& (2147483647 : Int32)) % (7 : Int32))), .val (.int ((p1 &&& (255 : Int32)).toUInt32.toUInt16.toUInt32.toInt32)), .val (.int (((XT.ushr p1 (8 : Int32)) &&& (255 : Int32)).toUInt32.toUInt16.toUInt32.toInt32)), .val (.int (((XT.ushr p1 (16 : Int32)) &&& (3 : Int32)) % (3 : Int32))), .val (.int d0), .val (.int d1), .val (.int ((((p1 &&& (255 : Int32)).toUInt32.toUInt16.toUInt32.toInt32) ^^^ d0).toUInt32.toUInt16.toUInt32.toInt32)), .val (.int (((((XT.ushr p1 (8 : Int32)) &&& (255 : Int32)).toUInt32.toUInt16.toUInt32.toInt32) ^^^ d1).toUInt32.toUInt16.toUInt32.toInt32)), .val (.int (((XT.ushr p2 (24 : Int32)) &&& (3 : Int32)) % (3 : Int32))), .val (.ref sa2), .val (.ref sa4), .val (.ref sa6), .unset, .unset, .unset] [(.ref sa6), (.int p4), (.int p3), (.ref sa2), (.ref kd), (.ref b7), (.ref b7)])
        refine own_goW (fun t_ k_ => XS.iconst X8.here hx rfl (hb hby at_160) k_) ?_
        show own_EndsW _ _ _ _ _ _ _ _ _ T8 (mkF m 161 #[.val (.int p0), .val (.int p1), .val (.int p2), .val (.int p3), .val (.int p4), .val (.int p5), .val (.int ((p0 &&& (2147483647 : Int32)) % (7 : Int32))), .val (.int ((p1 &&& (255 : Int32)).toUInt32.toUInt16.toUInt32.toInt32)), .val (.int (((XT.ushr p1 (8 : Int32)) &&& (255 : Int32)).toUInt32.toUInt16.toUInt32.toInt32)), .val (.int (((XT.ushr p1 (16 : Int32)) &&& (3 : Int32)) % (3 : Int32))), .val (.int d0), .val (.int d1), .val (.int ((((p1 &&& (255 : Int32)).toUInt32.toUInt16.toUInt32.toInt32) ^^^ d0).toUInt32.toUInt16.toUInt32.toInt32)), .val (.int (((((XT.ushr p1 (8 : Int32)) &&& (255 : Int32)).toUInt32.toUInt16.toUInt32.toInt32) ^^^ d1).toUInt32.toUInt16.toUInt32.toInt32)), .val (.int (((XT.ushr p2 (24 : Int32)) &&& (3 : Int32)) % (3 : Int32))), .val (.ref sa2), .val (.ref sa4), .val (.ref sa6), .unset, .unset, .unset] [(.int (1 : Int32)), (.ref sa6), (.int p4), (.int p3), (.ref sa2), (.ref kd), (.ref b7), (.ref b7)])
        refine own_goW (fun t_ k_ => XS.goto X8.here hx rfl (pc0 := 161) (pc' := 165) rfl (hb hby at_161) (by decide) (by decide) k_) ?_
        exact J165 _
    show own_EndsW _ _ _ _ _ _ _ _ _ s₁ (mkF m 58 #[.val (.int p0), .val (.int p1), .val (.int p2), .val (.int p3), .val (.int p4), .val (.int p5), .val (.int ((p0 &&& (2147483647 : Int32)) % (7 : Int32))), .val (.int ((p1 &&& (255 : Int32)).toUInt32.toUInt16.toUInt32.toInt32)), .val (.int (((XT.ushr p1 (8 : Int32)) &&& (255 : Int32)).toUInt32.toUInt16.toUInt32.toInt32)), .val (.int (((XT.ushr p1 (16 : Int32)) &&& (3 : Int32)) % (3 : Int32))), .val (.int d0), .unset, .unset, .unset, .unset, .unset, .unset, .unset, .unset, .unset, .unset] [])
    refine own_goW (fun t_ k_ => XS.iloadN X0.here hx rfl (hb hby at_58) rfl  k_) ?_
    show own_EndsW _ _ _ _ _ _ _ _ _ s₁ (mkF m 59 #[.val (.int p0), .val (.int p1), .val (.int p2), .val (.int p3), .val (.int p4), .val (.int p5), .val (.int ((p0 &&& (2147483647 : Int32)) % (7 : Int32))), .val (.int ((p1 &&& (255 : Int32)).toUInt32.toUInt16.toUInt32.toInt32)), .val (.int (((XT.ushr p1 (8 : Int32)) &&& (255 : Int32)).toUInt32.toUInt16.toUInt32.toInt32)), .val (.int (((XT.ushr p1 (16 : Int32)) &&& (3 : Int32)) % (3 : Int32))), .val (.int d0), .unset, .unset, .unset, .unset, .unset, .unset, .unset, .unset, .unset, .unset] [(.int p2)])
    refine own_goW (fun t_ k_ => XS.iconst X0.here hx rfl (hb hby at_59) k_) ?_
    show own_EndsW _ _ _ _ _ _ _ _ _ s₁ (mkF m 60 #[.val (.int p0), .val (.int p1), .val (.int p2), .val (.int p3), .val (.int p4), .val (.int p5), .val (.int ((p0 &&& (2147483647 : Int32)) % (7 : Int32))), .val (.int ((p1 &&& (255 : Int32)).toUInt32.toUInt16.toUInt32.toInt32)), .val (.int (((XT.ushr p1 (8 : Int32)) &&& (255 : Int32)).toUInt32.toUInt16.toUInt32.toInt32)), .val (.int (((XT.ushr p1 (16 : Int32)) &&& (3 : Int32)) % (3 : Int32))), .val (.int d0), .unset, .unset, .unset, .unset, .unset, .unset, .unset, .unset, .unset, .unset] [(.int (2 : Int32)), (.int p2)])
    refine own_goW (fun t_ k_ => XS.iand X0.here hx rfl (hb hby at_60) rfl k_) ?_
    show own_EndsW _ _ _ _ _ _ _ _ _ s₁ (mkF m 61 #[.val (.int p0), .val (.int p1), .val (.int p2), .val (.int p3), .val (.int p4), .val (.int p5), .val (.int ((p0 &&& (2147483647 : Int32)) % (7 : Int32))), .val (.int ((p1 &&& (255 : Int32)).toUInt32.toUInt16.toUInt32.toInt32)), .val (.int (((XT.ushr p1 (8 : Int32)) &&& (255 : Int32)).toUInt32.toUInt16.toUInt32.toInt32)), .val (.int (((XT.ushr p1 (16 : Int32)) &&& (3 : Int32)) % (3 : Int32))), .val (.int d0), .unset, .unset, .unset, .unset, .unset, .unset, .unset, .unset, .unset, .unset] [(.int (p2 &&& (2 : Int32)))])
    by_cases hc24 : (p2 &&& (2 : Int32)) = (0 : Int32)
    · refine own_goW (fun t_ k_ => XS.ifYes X0.here hx rfl (pc0 := 61) (pc' := 75) rfl (hb hby at_61) rfl ((if0 _ _).trans (teq hc24).1) (by decide) (by decide) k_) ?_
      show own_EndsW _ _ _ _ _ _ _ _ _ s₁ (mkF m 75 #[.val (.int p0), .val (.int p1), .val (.int p2), .val (.int p3), .val (.int p4), .val (.int p5), .val (.int ((p0 &&& (2147483647 : Int32)) % (7 : Int32))), .val (.int ((p1 &&& (255 : Int32)).toUInt32.toUInt16.toUInt32.toInt32)), .val (.int (((XT.ushr p1 (8 : Int32)) &&& (255 : Int32)).toUInt32.toUInt16.toUInt32.toInt32)), .val (.int (((XT.ushr p1 (16 : Int32)) &&& (3 : Int32)) % (3 : Int32))), .val (.int d0), .unset, .unset, .unset, .unset, .unset, .unset, .unset, .unset, .unset, .unset] [])
      refine own_goW (fun t_ k_ => XS.iconst X0.here hx rfl (hb hby at_75) k_) ?_
      exact J76 _ ⟨by decide, by decide⟩
    · refine own_goW (fun t_ k_ => XS.ifNo X0.here hx rfl (hb hby at_61) rfl ((if0 _ _).trans (feq hc24).1) k_) ?_
      show own_EndsW _ _ _ _ _ _ _ _ _ s₁ (mkF m 64 #[.val (.int p0), .val (.int p1), .val (.int p2), .val (.int p3), .val (.int p4), .val (.int p5), .val (.int ((p0 &&& (2147483647 : Int32)) % (7 : Int32))), .val (.int ((p1 &&& (255 : Int32)).toUInt32.toUInt16.toUInt32.toInt32)), .val (.int (((XT.ushr p1 (8 : Int32)) &&& (255 : Int32)).toUInt32.toUInt16.toUInt32.toInt32)), .val (.int (((XT.ushr p1 (16 : Int32)) &&& (3 : Int32)) % (3 : Int32))), .val (.int d0), .unset, .unset, .unset, .unset, .unset, .unset, .unset, .unset, .unset, .unset] [])
      refine own_goW (fun t_ k_ => XS.iloadN X0.here hx rfl (hb hby at_64) rfl  k_) ?_
      show own_EndsW _ _ _ _ _ _ _ _ _ s₁ (mkF m 65 #[.val (.int p0), .val (.int p1), .val (.int p2), .val (.int p3), .val (.int p4), .val (.int p5), .val (.int ((p0 &&& (2147483647 : Int32)) % (7 : Int32))), .val (.int ((p1 &&& (255 : Int32)).toUInt32.toUInt16.toUInt32.toInt32)), .val (.int (((XT.ushr p1 (8 : Int32)) &&& (255 : Int32)).toUInt32.toUInt16.toUInt32.toInt32)), .val (.int (((XT.ushr p1 (16 : Int32)) &&& (3 : Int32)) % (3 : Int32))), .val (.int d0), .unset, .unset, .unset, .unset, .unset, .unset, .unset, .unset, .unset, .unset] [(.int p2)])
      refine own_goW (fun t_ k_ => XS.bipush X0.here hx rfl (hb hby at_65) k_) ?_
      show own_EndsW _ _ _ _ _ _ _ _ _ s₁ (mkF m 67 #[.val (.int p0), .val (.int p1), .val (.int p2), .val (.int p3), .val (.int p4), .val (.int p5), .val (.int ((p0 &&& (2147483647 : Int32)) % (7 : Int32))), .val (.int ((p1 &&& (255 : Int32)).toUInt32.toUInt16.toUInt32.toInt32)), .val (.int (((XT.ushr p1 (8 : Int32)) &&& (255 : Int32)).toUInt32.toUInt16.toUInt32.toInt32)), .val (.int (((XT.ushr p1 (16 : Int32)) &&& (3 : Int32)) % (3 : Int32))), .val (.int d0), .unset, .unset, .unset, .unset, .unset, .unset, .unset, .unset, .unset, .unset] [(.int (16 : Int32)), (.int p2)])
      refine own_goW (fun t_ k_ => XT.iushr X0.here hx rfl (hb hby at_67) rfl k_) ?_
      show own_EndsW _ _ _ _ _ _ _ _ _ s₁ (mkF m 68 #[.val (.int p0), .val (.int p1), .val (.int p2), .val (.int p3), .val (.int p4), .val (.int p5), .val (.int ((p0 &&& (2147483647 : Int32)) % (7 : Int32))), .val (.int ((p1 &&& (255 : Int32)).toUInt32.toUInt16.toUInt32.toInt32)), .val (.int (((XT.ushr p1 (8 : Int32)) &&& (255 : Int32)).toUInt32.toUInt16.toUInt32.toInt32)), .val (.int (((XT.ushr p1 (16 : Int32)) &&& (3 : Int32)) % (3 : Int32))), .val (.int d0), .unset, .unset, .unset, .unset, .unset, .unset, .unset, .unset, .unset, .unset] [(.int (XT.ushr p2 (16 : Int32)))])
      refine own_goW (fun t_ k_ => XS.sipush X0.here hx rfl (hb hby at_68) k_) ?_
      show own_EndsW _ _ _ _ _ _ _ _ _ s₁ (mkF m 71 #[.val (.int p0), .val (.int p1), .val (.int p2), .val (.int p3), .val (.int p4), .val (.int p5), .val (.int ((p0 &&& (2147483647 : Int32)) % (7 : Int32))), .val (.int ((p1 &&& (255 : Int32)).toUInt32.toUInt16.toUInt32.toInt32)), .val (.int (((XT.ushr p1 (8 : Int32)) &&& (255 : Int32)).toUInt32.toUInt16.toUInt32.toInt32)), .val (.int (((XT.ushr p1 (16 : Int32)) &&& (3 : Int32)) % (3 : Int32))), .val (.int d0), .unset, .unset, .unset, .unset, .unset, .unset, .unset, .unset, .unset, .unset] [(.int (255 : Int32)), (.int (XT.ushr p2 (16 : Int32)))])
      refine own_goW (fun t_ k_ => XS.iand X0.here hx rfl (hb hby at_71) rfl k_) ?_
      show own_EndsW _ _ _ _ _ _ _ _ _ s₁ (mkF m 72 #[.val (.int p0), .val (.int p1), .val (.int p2), .val (.int p3), .val (.int p4), .val (.int p5), .val (.int ((p0 &&& (2147483647 : Int32)) % (7 : Int32))), .val (.int ((p1 &&& (255 : Int32)).toUInt32.toUInt16.toUInt32.toInt32)), .val (.int (((XT.ushr p1 (8 : Int32)) &&& (255 : Int32)).toUInt32.toUInt16.toUInt32.toInt32)), .val (.int (((XT.ushr p1 (16 : Int32)) &&& (3 : Int32)) % (3 : Int32))), .val (.int d0), .unset, .unset, .unset, .unset, .unset, .unset, .unset, .unset, .unset, .unset] [(.int ((XT.ushr p2 (16 : Int32)) &&& (255 : Int32)))])
      refine own_goW (fun t_ k_ => XS.goto X0.here hx rfl (pc0 := 72) (pc' := 76) rfl (hb hby at_72) (by decide) (by decide) k_) ?_
      exact J76 _ (own_and255 _)
  show own_EndsW _ _ _ _ _ _ _ _ _ s₁ (mkF m 38 #[.val (.int p0), .val (.int p1), .val (.int p2), .val (.int p3), .val (.int p4), .val (.int p5), .val (.int ((p0 &&& (2147483647 : Int32)) % (7 : Int32))), .val (.int ((p1 &&& (255 : Int32)).toUInt32.toUInt16.toUInt32.toInt32)), .val (.int (((XT.ushr p1 (8 : Int32)) &&& (255 : Int32)).toUInt32.toUInt16.toUInt32.toInt32)), .val (.int (((XT.ushr p1 (16 : Int32)) &&& (3 : Int32)) % (3 : Int32))), .unset, .unset, .unset, .unset, .unset, .unset, .unset, .unset, .unset, .unset, .unset] [])
  refine own_goW (fun t_ k_ => XS.iloadN X0.here hx rfl (hb hby at_38) rfl  k_) ?_
  show own_EndsW _ _ _ _ _ _ _ _ _ s₁ (mkF m 39 #[.val (.int p0), .val (.int p1), .val (.int p2), .val (.int p3), .val (.int p4), .val (.int p5), .val (.int ((p0 &&& (2147483647 : Int32)) % (7 : Int32))), .val (.int ((p1 &&& (255 : Int32)).toUInt32.toUInt16.toUInt32.toInt32)), .val (.int (((XT.ushr p1 (8 : Int32)) &&& (255 : Int32)).toUInt32.toUInt16.toUInt32.toInt32)), .val (.int (((XT.ushr p1 (16 : Int32)) &&& (3 : Int32)) % (3 : Int32))), .unset, .unset, .unset, .unset, .unset, .unset, .unset, .unset, .unset, .unset, .unset] [(.int p2)])
  refine own_goW (fun t_ k_ => XS.iconst X0.here hx rfl (hb hby at_39) k_) ?_
  show own_EndsW _ _ _ _ _ _ _ _ _ s₁ (mkF m 40 #[.val (.int p0), .val (.int p1), .val (.int p2), .val (.int p3), .val (.int p4), .val (.int p5), .val (.int ((p0 &&& (2147483647 : Int32)) % (7 : Int32))), .val (.int ((p1 &&& (255 : Int32)).toUInt32.toUInt16.toUInt32.toInt32)), .val (.int (((XT.ushr p1 (8 : Int32)) &&& (255 : Int32)).toUInt32.toUInt16.toUInt32.toInt32)), .val (.int (((XT.ushr p1 (16 : Int32)) &&& (3 : Int32)) % (3 : Int32))), .unset, .unset, .unset, .unset, .unset, .unset, .unset, .unset, .unset, .unset, .unset] [(.int (1 : Int32)), (.int p2)])
  refine own_goW (fun t_ k_ => XS.iand X0.here hx rfl (hb hby at_40) rfl k_) ?_
  show own_EndsW _ _ _ _ _ _ _ _ _ s₁ (mkF m 41 #[.val (.int p0), .val (.int p1), .val (.int p2), .val (.int p3), .val (.int p4), .val (.int p5), .val (.int ((p0 &&& (2147483647 : Int32)) % (7 : Int32))), .val (.int ((p1 &&& (255 : Int32)).toUInt32.toUInt16.toUInt32.toInt32)), .val (.int (((XT.ushr p1 (8 : Int32)) &&& (255 : Int32)).toUInt32.toUInt16.toUInt32.toInt32)), .val (.int (((XT.ushr p1 (16 : Int32)) &&& (3 : Int32)) % (3 : Int32))), .unset, .unset, .unset, .unset, .unset, .unset, .unset, .unset, .unset, .unset, .unset] [(.int (p2 &&& (1 : Int32)))])
  by_cases hc25 : (p2 &&& (1 : Int32)) = (0 : Int32)
  · refine own_goW (fun t_ k_ => XS.ifYes X0.here hx rfl (pc0 := 41) (pc' := 55) rfl (hb hby at_41) rfl ((if0 _ _).trans (teq hc25).1) (by decide) (by decide) k_) ?_
    show own_EndsW _ _ _ _ _ _ _ _ _ s₁ (mkF m 55 #[.val (.int p0), .val (.int p1), .val (.int p2), .val (.int p3), .val (.int p4), .val (.int p5), .val (.int ((p0 &&& (2147483647 : Int32)) % (7 : Int32))), .val (.int ((p1 &&& (255 : Int32)).toUInt32.toUInt16.toUInt32.toInt32)), .val (.int (((XT.ushr p1 (8 : Int32)) &&& (255 : Int32)).toUInt32.toUInt16.toUInt32.toInt32)), .val (.int (((XT.ushr p1 (16 : Int32)) &&& (3 : Int32)) % (3 : Int32))), .unset, .unset, .unset, .unset, .unset, .unset, .unset, .unset, .unset, .unset, .unset] [])
    refine own_goW (fun t_ k_ => XS.iconst X0.here hx rfl (hb hby at_55) k_) ?_
    exact J56 _ ⟨by decide, by decide⟩
  · refine own_goW (fun t_ k_ => XS.ifNo X0.here hx rfl (hb hby at_41) rfl ((if0 _ _).trans (feq hc25).1) k_) ?_
    show own_EndsW _ _ _ _ _ _ _ _ _ s₁ (mkF m 44 #[.val (.int p0), .val (.int p1), .val (.int p2), .val (.int p3), .val (.int p4), .val (.int p5), .val (.int ((p0 &&& (2147483647 : Int32)) % (7 : Int32))), .val (.int ((p1 &&& (255 : Int32)).toUInt32.toUInt16.toUInt32.toInt32)), .val (.int (((XT.ushr p1 (8 : Int32)) &&& (255 : Int32)).toUInt32.toUInt16.toUInt32.toInt32)), .val (.int (((XT.ushr p1 (16 : Int32)) &&& (3 : Int32)) % (3 : Int32))), .unset, .unset, .unset, .unset, .unset, .unset, .unset, .unset, .unset, .unset, .unset] [])
    refine own_goW (fun t_ k_ => XS.iloadN X0.here hx rfl (hb hby at_44) rfl  k_) ?_
    show own_EndsW _ _ _ _ _ _ _ _ _ s₁ (mkF m 45 #[.val (.int p0), .val (.int p1), .val (.int p2), .val (.int p3), .val (.int p4), .val (.int p5), .val (.int ((p0 &&& (2147483647 : Int32)) % (7 : Int32))), .val (.int ((p1 &&& (255 : Int32)).toUInt32.toUInt16.toUInt32.toInt32)), .val (.int (((XT.ushr p1 (8 : Int32)) &&& (255 : Int32)).toUInt32.toUInt16.toUInt32.toInt32)), .val (.int (((XT.ushr p1 (16 : Int32)) &&& (3 : Int32)) % (3 : Int32))), .unset, .unset, .unset, .unset, .unset, .unset, .unset, .unset, .unset, .unset, .unset] [(.int p2)])
    refine own_goW (fun t_ k_ => XS.bipush X0.here hx rfl (hb hby at_45) k_) ?_
    show own_EndsW _ _ _ _ _ _ _ _ _ s₁ (mkF m 47 #[.val (.int p0), .val (.int p1), .val (.int p2), .val (.int p3), .val (.int p4), .val (.int p5), .val (.int ((p0 &&& (2147483647 : Int32)) % (7 : Int32))), .val (.int ((p1 &&& (255 : Int32)).toUInt32.toUInt16.toUInt32.toInt32)), .val (.int (((XT.ushr p1 (8 : Int32)) &&& (255 : Int32)).toUInt32.toUInt16.toUInt32.toInt32)), .val (.int (((XT.ushr p1 (16 : Int32)) &&& (3 : Int32)) % (3 : Int32))), .unset, .unset, .unset, .unset, .unset, .unset, .unset, .unset, .unset, .unset, .unset] [(.int (8 : Int32)), (.int p2)])
    refine own_goW (fun t_ k_ => XT.iushr X0.here hx rfl (hb hby at_47) rfl k_) ?_
    show own_EndsW _ _ _ _ _ _ _ _ _ s₁ (mkF m 48 #[.val (.int p0), .val (.int p1), .val (.int p2), .val (.int p3), .val (.int p4), .val (.int p5), .val (.int ((p0 &&& (2147483647 : Int32)) % (7 : Int32))), .val (.int ((p1 &&& (255 : Int32)).toUInt32.toUInt16.toUInt32.toInt32)), .val (.int (((XT.ushr p1 (8 : Int32)) &&& (255 : Int32)).toUInt32.toUInt16.toUInt32.toInt32)), .val (.int (((XT.ushr p1 (16 : Int32)) &&& (3 : Int32)) % (3 : Int32))), .unset, .unset, .unset, .unset, .unset, .unset, .unset, .unset, .unset, .unset, .unset] [(.int (XT.ushr p2 (8 : Int32)))])
    refine own_goW (fun t_ k_ => XS.sipush X0.here hx rfl (hb hby at_48) k_) ?_
    show own_EndsW _ _ _ _ _ _ _ _ _ s₁ (mkF m 51 #[.val (.int p0), .val (.int p1), .val (.int p2), .val (.int p3), .val (.int p4), .val (.int p5), .val (.int ((p0 &&& (2147483647 : Int32)) % (7 : Int32))), .val (.int ((p1 &&& (255 : Int32)).toUInt32.toUInt16.toUInt32.toInt32)), .val (.int (((XT.ushr p1 (8 : Int32)) &&& (255 : Int32)).toUInt32.toUInt16.toUInt32.toInt32)), .val (.int (((XT.ushr p1 (16 : Int32)) &&& (3 : Int32)) % (3 : Int32))), .unset, .unset, .unset, .unset, .unset, .unset, .unset, .unset, .unset, .unset, .unset] [(.int (255 : Int32)), (.int (XT.ushr p2 (8 : Int32)))])
    refine own_goW (fun t_ k_ => XS.iand X0.here hx rfl (hb hby at_51) rfl k_) ?_
    show own_EndsW _ _ _ _ _ _ _ _ _ s₁ (mkF m 52 #[.val (.int p0), .val (.int p1), .val (.int p2), .val (.int p3), .val (.int p4), .val (.int p5), .val (.int ((p0 &&& (2147483647 : Int32)) % (7 : Int32))), .val (.int ((p1 &&& (255 : Int32)).toUInt32.toUInt16.toUInt32.toInt32)), .val (.int (((XT.ushr p1 (8 : Int32)) &&& (255 : Int32)).toUInt32.toUInt16.toUInt32.toInt32)), .val (.int (((XT.ushr p1 (16 : Int32)) &&& (3 : Int32)) % (3 : Int32))), .unset, .unset, .unset, .unset, .unset, .unset, .unset, .unset, .unset, .unset, .unset] [(.int ((XT.ushr p2 (8 : Int32)) &&& (255 : Int32)))])
    refine own_goW (fun t_ k_ => XS.goto X0.here hx rfl (pc0 := 52) (pc' := 56) rfl (hb hby at_52) (by decide) (by decide) k_) ?_
    exact J56 _ (own_and255 _)
set_option maxRecDepth 65536 in
set_option maxHeartbeats 40000000 in
theorem comes_1 {Post : Tables → Env → Array Value → State → Outcome → State → Prop} (hpost : ∀ tb e args s v u, (limb_1_1.after args s (.returned v) u = true ∧ limb_1_2.after args s (.returned v) u = true ∧ True) → ReturnedEndW s (.returned v) u (Jvm.fieldLocs frame_1_writes args s ++ Jvm.arrayLocs frame_1_arrays args s ++ Jvm.staticLocs frame_1_statics s) 32 1152 → Post tb e args s (.returned v) u) :
    ArmFor flags0 classFile x code maxLocals ret World_1 tables_1 room_1 Calls_1 rest_1 Pre_1 Post := by
  intro l hfl _ _ p e ha hc hk s m args below hf hA hF happ hP
  obtain ⟨hcalls, hrest, hpre⟩ := hP
  obtain ⟨-, -, -, hnamed, -, -, -, hat⟩ := (Spec.applies_iff hf).mp happ
  obtain ⟨hg, hn⟩ := and_e (Cond.before_iff.mp (show (Jvm.Cond.and given_1 narrow_1).before args s = true from hpre))
  obtain ⟨g1, g2⟩ := and_e hg
  obtain ⟨g3, g4⟩ := and_e g2
  obtain ⟨g5, g6⟩ := and_e g4
  obtain ⟨g7, g8⟩ := and_e g6
  obtain ⟨g9, g10⟩ := and_e g8
  obtain ⟨g11, g12⟩ := and_e g10
  obtain ⟨w0, w1, w2, w3, w4, w5, rfl⟩ : ∃ w0 w1 w2 w3 w4 w5 : Value, args = #[w0, w1, w2, w3, w4, w5] := by
    have hs : args.size = 6 := by simpa [Cond.value, given_1] using g1
    obtain ⟨L⟩ := args
    match L, hs with
    | [w0, w1, w2, w3, w4, w5], _ => exact ⟨w0, w1, w2, w3, w4, w5, rfl⟩
  have hw := fun d (hd : d ∈ tables_1) => atoms_spec (ws := Jvm.Cond.code x code maxLocals ret :: tables_1) hat d (List.mem_cons_of_mem _ hd)
  have hfit : Fit s := fun {y c} hc i hi => by
    obtain ⟨ha, rfl⟩ := Array.getElem?_eq_some_iff.mp hc
    have q := List.all_eq_true.mp ((Array.all_eq_true_iff_forall_mem.mp hF) _ (Array.getElem_mem ha)) i (List.mem_range.mpr hi)
    simpa [Array.getElem?_eq_getElem hi] using q
  obtain ⟨hsets, hown0⟩ := atoms_of _ (rest_1_c_eq ▸ (show rest_1_c.before _ s = true from hrest))
  obtain ⟨i0, ei0⟩ := is_v g3
  obtain rfl : w0 = (.int i0) := Option.some.inj ei0
  obtain ⟨i1, ei1⟩ := is_v g5
  obtain rfl : w1 = (.int i1) := Option.some.inj ei1
  obtain ⟨i2, ei2⟩ := is_v g7
  obtain rfl : w2 = (.int i2) := Option.some.inj ei2
  obtain ⟨i3, ei3⟩ := is_v g9
  obtain rfl : w3 = (.int i3) := Option.some.inj ei3
  obtain ⟨i4, ei4⟩ := is_v g11
  obtain rfl : w4 = (.int i4) := Option.some.inj ei4
  obtain ⟨i5, ei5⟩ := is_v g12
  obtain rfl : w5 = (.int i5) := Option.some.inj ei5
  unfold narrow_1 at hn
  obtain ⟨g13, g14⟩ := and_e hn
  obtain ⟨g15, g16⟩ := and_e g14
  obtain ⟨g17, g18⟩ := and_e g16
  obtain ⟨g19, g20⟩ := and_e g18
  obtain ⟨g21, g22⟩ := and_e g20
  obtain ⟨g23, g24⟩ := and_e g22
  obtain ⟨g25, g26⟩ := and_e g24
  obtain ⟨g27, g28⟩ := and_e g26
  obtain ⟨g29, g30⟩ := and_e g28
  obtain ⟨g31, g32⟩ := and_e g30
  obtain ⟨g33, g34⟩ := and_e g32
  obtain ⟨g35, g36⟩ := and_e g34
  obtain ⟨g37, g38⟩ := and_e g36
  obtain ⟨a_IDENTIFIER, ev_IDENTIFIER⟩ := exa_v g13
  have E_IDENTIFIER := Exa.start ev_IDENTIFIER g13
  have S_IDENTIFIER := Sta.start ev_IDENTIFIER (Or.inr ⟨(hw _ (List.mem_of_getElem? (i := 34) rfl)), (hw _ (List.mem_of_getElem? (i := 35) rfl))⟩)
  obtain ⟨a_PUNCTUATOR, ev_PUNCTUATOR⟩ := exa_v g15
  have E_PUNCTUATOR := Exa.start ev_PUNCTUATOR g15
  have S_PUNCTUATOR := Sta.start ev_PUNCTUATOR (Or.inr ⟨(hw _ (List.mem_of_getElem? (i := 34) rfl)), (hw _ (List.mem_of_getElem? (i := 63) rfl))⟩)
  have F_IDENTIFIER_ordinal := own_fldI ev_IDENTIFIER g17
  have F_PUNCTUATOR_ordinal := own_fldI ev_PUNCTUATOR g19
  obtain ⟨a_KEYWORD, ev_KEYWORD⟩ := exa_v g21
  have E_KEYWORD := Exa.start ev_KEYWORD g21
  have S_KEYWORD := Sta.start ev_KEYWORD (Or.inr ⟨(hw _ (List.mem_of_getElem? (i := 34) rfl)), (hw _ (List.mem_of_getElem? (i := 65) rfl))⟩)
  have F_KEYWORD_ordinal := own_fldI ev_KEYWORD g23
  obtain ⟨a_STRING, ev_STRING⟩ := exa_v g25
  have E_STRING := Exa.start ev_STRING g25
  have S_STRING := Sta.start ev_STRING (Or.inr ⟨(hw _ (List.mem_of_getElem? (i := 34) rfl)), (hw _ (List.mem_of_getElem? (i := 67) rfl))⟩)
  have F_STRING_ordinal := own_fldI ev_STRING g27
  obtain ⟨a_NUMBER, ev_NUMBER⟩ := exa_v g29
  have E_NUMBER := Exa.start ev_NUMBER g29
  have S_NUMBER := Sta.start ev_NUMBER (Or.inr ⟨(hw _ (List.mem_of_getElem? (i := 34) rfl)), (hw _ (List.mem_of_getElem? (i := 69) rfl))⟩)
  have F_NUMBER_ordinal := own_fldI ev_NUMBER g31
  obtain ⟨a_CHARACTER, ev_CHARACTER⟩ := exa_v g33
  have E_CHARACTER := Exa.start ev_CHARACTER g33
  have S_CHARACTER := Sta.start ev_CHARACTER (Or.inr ⟨(hw _ (List.mem_of_getElem? (i := 34) rfl)), (hw _ (List.mem_of_getElem? (i := 83) rfl))⟩)
  have F_CHARACTER_ordinal := own_fldI ev_CHARACTER g35
  obtain ⟨a_END, ev_END⟩ := exa_v g37
  have E_END := Exa.start ev_END g37
  have S_END := Sta.start ev_END (Or.inr ⟨(hw _ (List.mem_of_getElem? (i := 34) rfl)), (hw _ (List.mem_of_getElem? (i := 85) rfl))⟩)
  have F_END_ordinal := own_fldI ev_END g38
  obtain ⟨zc, evc⟩ := is_v (Cond.before_iff.mp (hsets _ (List.mem_of_getElem? (i := 1) rfl)))
  have SC := Sta.start evc (Or.inl (hsets _ (List.mem_of_getElem? (i := 0) rfl)))
  have hzc : ¬ zc = 0 := own_nz evc (Cond.before_iff.mp (hsets _ (List.mem_of_getElem? (i := 2) rfl)))
  have hCH : CHv s own_EL s.vm s.heap := CHv.start (own_EW hw) (fun p hp => hcalls.1 p (by simpa [own_EL, consts_1] using hp)) (hsets _ (List.mem_of_getElem? (i := 2) rfl)) (own_wS hw _ (by simp [Bundle.stringAtoms])) (own_wS hw _ (by simp [Bundle.stringAtoms, Bundle.sN]))
  obtain ⟨n, o, h1, h2, h3, _, L, rfl, ⟨rfl, N⟩, -, hq⟩ := rm0 l s _ hw tables_1 i0 i1 i2 i3 i4 i5 a_IDENTIFIER a_KEYWORD a_NUMBER a_CHARACTER a_STRING a_PUNCTUATOR a_END zc s.heap s.heap.size (Nat.le_refl _) S_IDENTIFIER S_KEYWORD S_NUMBER S_CHARACTER S_STRING S_PUNCTUATOR S_END (Fld.ne F_IDENTIFIER_ordinal F_PUNCTUATOR_ordinal (by decide)) (Fld.ne F_KEYWORD_ordinal F_PUNCTUATOR_ordinal (by decide)) (Fld.ne F_NUMBER_ordinal F_PUNCTUATOR_ordinal (by decide)) (Fld.ne F_CHARACTER_ordinal F_PUNCTUATOR_ordinal (by decide)) (Fld.ne F_STRING_ordinal F_PUNCTUATOR_ordinal (by decide)) (Fld.ne F_END_ordinal F_PUNCTUATOR_ordinal (by decide)) (Fld.ne F_IDENTIFIER_ordinal F_KEYWORD_ordinal (by decide)) (Fld.ne F_NUMBER_ordinal F_KEYWORD_ordinal (by decide)) (Fld.ne F_CHARACTER_ordinal F_KEYWORD_ordinal (by decide)) (Fld.ne F_STRING_ordinal F_KEYWORD_ordinal (by decide)) (Fld.ne F_PUNCTUATOR_ordinal F_KEYWORD_ordinal (by decide)) (Fld.ne F_END_ordinal F_KEYWORD_ordinal (by decide)) SC hzc p e ha hc hk s m _ below hf ((Spec.applies_iff_loose hf).mp happ).1 ⟨rfl, State.Warmed39.refl s, rfl, hCH⟩ trivial
  refine ⟨n, _, h1, h2, h3, hpost _ _ _ _ _ _ ⟨Cond.after_iff.mpr rfl, Cond.after_iff.mpr (eq_i res_at (Term.int_eval (1)) rfl), trivial⟩ ⟨hq.1, hq.2.1, hq.2.2.1, (hq.2.2.2.sift fun y hy => Or.inr (N y hy)).mono (by decide) (by decide)⟩⟩
theorem main_1_1 : Claimed_1_1 := comes_1 fun _ _ _ _ _ _ h hF => ⟨h.1, hF⟩
theorem main_1_2 : Claimed_1_2 := comes_1 fun _ _ _ _ _ _ h hF => ⟨h.2.1, hF⟩
end Jvm.Pilot.@@N@@
namespace Jvm.Pilot.@@N@@
open Jvm Jvm.ClassFile Sem Op Lib Jvm.Free Jvm.Stand Jvm.Pilot.@@N@@.Jvm.D
/-! MADE BY PROGRAM (witnessworld.py) out of the Statement's table words and the real class files: 23 classes; the members and pool entries that the words name. The judged class is class 1, her method 3. -/
namespace start1
open Jvm.ClassFile
def u (s : String) : CpInfo := .utf8 (stringToUtf16 s)
/-- a pool by its gaps: so many unusable entries, then the entry; so many at the end -/
def gap : Nat → List CpInfo → List CpInfo
  | 0, r => r
  | n + 1, r => .unusable :: gap n r
def poolList (es : List (Nat × CpInfo)) (last : Nat) : List CpInfo := es.foldr (fun e r => gap e.1 (e.2 :: r)) (gap last [])
def pool (es : List (Nat × CpInfo)) (last : Nat) : Array CpInfo := ⟨poolList es last⟩
def fileOf (pool : Array CpInfo) (this : Nat) (attrs : Array Attribute := #[]) (ms : Array MethodInfo := #[]) (fl : Nat := 33) (sup : Nat := 0) (ifs : Array Nat := #[]) (fds : Array FieldInfo := #[]) : ClassFile where
  minorVersion := 0
  majorVersion := 65
  constantPool := pool
  accessFlags := fl
  thisClass := this
  superClass := sup
  interfaces := ifs
  fields := fds
  methods := ms
  attributes := attrs
def plain (name : String) (sup : Option ClassId) : Class where
  name := name
  kind := .ordinary
  loader := none
  accessFlags := 33
  super := sup
  interfaces := #[]
  cf := none
  fields := #[]
  methods := #[]
  instanceTypes := #[]
  staticTypes := #[]
  resolved := #[]
  callSites := []
  init := .initialized
  statics := none
  mirror := none

def pool0 : Array CpInfo := pool [(5, u "<init>"), (0, u "()V"), (1, .class_ 10), (1, u "java/lang/Object")] 113

def k0c0 : Code := { maxStack := 0, maxLocals := 1, code := object_method_1_code, exceptionTable := #[], attributes := #[] }
def k0m0 : Method := { name := "<init>", desc := "()V", sig := { parameters := [], returnType := none }, accessFlags := 1, code := some k0c0 }
/-- java/lang/Object -/
def k0 : Class := { plain "java/lang/Object" none with
  accessFlags := 33
  interfaces := #[]
  cf := some (fileOf pool0 8 #[] #[{ accessFlags := 1, nameIndex := 5, descriptorIndex := 6, attributes := #[] }] 33 0 #[] #[])
  fields := #[]
  methods := #[k0m0]
  instanceTypes := #[]
  staticTypes := #[]
  resolved := Array.replicate 124 none
  statics := none }

def pool1 : Array CpInfo := pool [(2, .class_ 4), (1, u "java/lang/Object"), (0, u "<init>"), (0, u "()V"), (0, .fieldref 8 9), (0, .class_ 10), (0, .nameAndType 11 12), (0, u "com/example/ferret/ferret/frontend/Token$Kind"), (0, u "IDENTIFIER"), (0, u "Lcom/example/ferret/ferret/frontend/Token$Kind;"), (0, .fieldref 8 14), (0, .nameAndType 15 12), (0, u "KEYWORD"), (0, .fieldref 8 17), (0, .nameAndType 18 12), (0, u "NUMBER"), (0, .fieldref 8 20), (0, .nameAndType 21 12), (0, u "CHARACTER"), (0, .fieldref 8 23), (0, .nameAndType 24 12), (0, u "STRING"), (0, .fieldref 8 26), (0, .nameAndType 27 12), (0, u "PUNCTUATOR"), (0, .fieldref 8 29), (0, .nameAndType 30 12), (0, u "END"), (0, .class_ 32), (0, u "java/lang/String"), (0, .methodref 31 34), (0, .nameAndType 5 35), (0, u "([C)V"), (0, .methodref 31 37), (0, .nameAndType 38 39), (0, u "valueOf"), (0, u "(C)Ljava/lang/String;"), (0, .integer 2147483647), (0, .methodref 42 43), (0, .class_ 44), (0, .nameAndType 45 46), (0, u "com/example/ferret/ferret/frontend/TokenIsPinLaw"), (0, u "str"), (0, u "(ICC)Ljava/lang/String;"), (0, .class_ 48), (0, u "com/example/ferret/ferret/frontend/Token"), (0, .methodref 42 50), (0, .nameAndType 51 52), (0, u "kindOf"), (0, u "(I)Lcom/example/ferret/ferret/frontend/Token$Kind;"), (0, .methodref 47 54), (0, .nameAndType 5 55), (0, u "(Lcom/example/ferret/ferret/frontend/Token$Kind;Ljava/lang/String;IILjava/lang/String;Z)V"), (0, .methodref 47 57), (0, .nameAndType 58 59), (0, u "is"), (0, u "(Ljava/lang/String;)Z"), (3, u "law"), (0, u "(IIIIII)Z")] 4

def k1m0 : Method := { name := "<init>", desc := "()V", sig := { parameters := [], returnType := none }, accessFlags := 1, code := none }
def k1c1 : Code := { maxStack := 2, maxLocals := 1, code := method_2_code, exceptionTable := #[], attributes := #[] }
def k1m1 : Method := { name := "kindOf", desc := "(I)Lcom/example/ferret/ferret/frontend/Token$Kind;", sig := { parameters := [.int], returnType := some (.object "com/example/ferret/ferret/frontend/Token$Kind") }, accessFlags := 10, code := some k1c1 }
def k1c2 : Code := { maxStack := 6, maxLocals := 3, code := method_3_code, exceptionTable := #[], attributes := #[] }
def k1m2 : Method := { name := "str", desc := "(ICC)Ljava/lang/String;", sig := { parameters := [.int, .char, .char], returnType := some (.object "java/lang/String") }, accessFlags := 10, code := some k1c2 }
def k1c3 : Code := { maxStack := 9, maxLocals := 21, code := code, exceptionTable := #[], attributes := #[] }
def k1m3 : Method := { name := "law", desc := "(IIIIII)Z", sig := { parameters := [.int, .int, .int, .int, .int, .int], returnType := some .boolean }, accessFlags := 9, code := some k1c3 }
/-- com/example/ferret/ferret/frontend/TokenIsPinLaw -/
def k1 : Class := { plain "com/example/ferret/ferret/frontend/TokenIsPinLaw" (some 0) with
  accessFlags := 49
  interfaces := #[]
  cf := some (fileOf pool1 42 #[] #[{ accessFlags := 1, nameIndex := 5, descriptorIndex := 6, attributes := #[] }, { accessFlags := 10, nameIndex := 51, descriptorIndex := 52, attributes := #[] }, { accessFlags := 10, nameIndex := 45, descriptorIndex := 46, attributes := #[] }, { accessFlags := 9, nameIndex := 63, descriptorIndex := 64, attributes := #[] }] 49 2 #[] #[])
  fields := #[]
  methods := #[k1m0, k1m1, k1m2, k1m3]
  instanceTypes := #[]
  staticTypes := #[]
  resolved := Array.replicate 69 none
  statics := none }

def pool2 : Array CpInfo := pool [(1, .class_ 2), (0, u "java/io/Serializable"), (0, .class_ 4), (0, u "java/lang/Object")] 2

/-- java/io/Serializable -/
def k2 : Class := { plain "java/io/Serializable" (some 0) with
  accessFlags := 1537
  interfaces := #[]
  cf := some (fileOf pool2 1 #[] #[] 1537 3 #[] #[])
  fields := #[]
  methods := #[]
  instanceTypes := #[]
  staticTypes := #[]
  resolved := Array.replicate 7 none
  statics := none }

def pool3 : Array CpInfo := pool [(1, .class_ 2), (0, u "java/lang/Comparable"), (0, .class_ 4), (0, u "java/lang/Object")] 7

/-- java/lang/Comparable -/
def k3 : Class := { plain "java/lang/Comparable" (some 0) with
  accessFlags := 1537
  interfaces := #[]
  cf := some (fileOf pool3 1 #[] #[] 1537 3 #[] #[])
  fields := #[]
  methods := #[]
  instanceTypes := #[]
  staticTypes := #[]
  resolved := Array.replicate 12 none
  statics := none }

def pool4 : Array CpInfo := pool [(2, .class_ 4), (1, u "java/lang/CharSequence"), (42, .class_ 48), (0, u "java/lang/CharSequence$1CodePointIterator"), (10, .class_ 60), (0, u "java/lang/CharSequence$1CharIterator"), (5, .class_ 67), (0, u "java/lang/Object")] 63

/-- java/lang/CharSequence -/
def k4 : Class := { plain "java/lang/CharSequence" (some 0) with
  accessFlags := 1537
  interfaces := #[]
  cf := some (fileOf pool4 2 #[.nestMembers #[47, 59]] #[] 1537 66 #[] #[])
  fields := #[]
  methods := #[]
  instanceTypes := #[]
  staticTypes := #[]
  resolved := Array.replicate 131 none
  statics := none }

def pool5 : Array CpInfo := pool [(1, .class_ 2), (0, u "java/lang/constant/Constable"), (0, .class_ 4), (0, u "java/lang/Object")] 6

/-- java/lang/constant/Constable -/
def k5 : Class := { plain "java/lang/constant/Constable" (some 0) with
  accessFlags := 1537
  interfaces := #[]
  cf := some (fileOf pool5 1 #[] #[] 1537 3 #[] #[])
  fields := #[]
  methods := #[]
  instanceTypes := #[]
  staticTypes := #[]
  resolved := Array.replicate 11 none
  statics := none }

def pool6 : Array CpInfo := pool [(1, .class_ 2), (0, u "java/lang/constant/ConstantDesc"), (0, .class_ 4), (0, u "java/lang/Object")] 32

/-- java/lang/constant/ConstantDesc -/
def k6 : Class := { plain "java/lang/constant/ConstantDesc" (some 0) with
  accessFlags := 1537
  interfaces := #[]
  cf := some (fileOf pool6 1 #[] #[] 1537 3 #[] #[])
  fields := #[]
  methods := #[]
  instanceTypes := #[]
  staticTypes := #[]
  resolved := Array.replicate 37 none
  statics := none }

def pool7 : Array CpInfo := pool [(1, .methodref 2 3), (0, .class_ 4), (0, .nameAndType 5 6), (0, u "java/lang/Object"), (0, u "<init>"), (0, u "()V"), (0, .string 8), (0, u ""), (0, .fieldref 10 11), (0, .class_ 12), (0, .nameAndType 13 14), (0, u "java/lang/String"), (0, u "value"), (0, u "[B"), (0, .fieldref 10 16), (0, .nameAndType 17 18), (0, u "coder"), (0, u "B"), (2, u "hash"), (0, u "I"), (2, u "hashIsZero"), (0, u "Z"), (0, .methodref 10 28), (0, .nameAndType 5 29), (0, u "([CIILjava/lang/Void;)V"), (8, .fieldref 10 39), (0, .nameAndType 40 26), (0, u "COMPACT_STRINGS"), (1, .class_ 44), (1, u "java/lang/StringUTF16"), (0, u "compress"), (1, .methodref 42 48), (0, .nameAndType 49 50), (0, u "coderFromArrayLen"), (0, u "([BI)B"), (2, u "toBytes"), (53, .class_ 109), (1, u "java/lang/StringLatin1"), (67, .methodref 42 178), (0, .nameAndType 45 179), (0, u "([CII)[B"), (29, .methodref 10 210), (0, .nameAndType 5 211), (0, u "([BB)V"), (157, u "(C)Z"), (171, .methodref 107 542), (0, .nameAndType 543 544), (0, u "equals"), (0, u "([B[B)Z"), (28, u "(Ljava/lang/Object;)Z"), (1, .class_ 576), (0, u "java/lang/CharSequence"), (22, u "CASE_INSENSITIVE_ORDER"), (0, u "Ljava/util/Comparator;"), (181, u "valueOf"), (0, u "(C)Ljava/lang/String;"), (226, u "([C)V"), (4, .methodref 107 1016), (0, .nameAndType 1017 369), (0, u "canEncode"), (0, .methodref 107 1019), (0, .nameAndType 53 1020), (0, u "(C)[B"), (80, u "serialPersistentFields"), (0, u "[Ljava/io/ObjectStreamField;"), (0, .class_ 1104), (0, u "java/lang/String$CaseInsensitiveComparator"), (1, .class_ 1107), (0, u "java/io/Serializable"), (0, .class_ 1109), (0, u "java/lang/Comparable"), (0, .class_ 1111), (0, u "java/lang/constant/Constable"), (0, .class_ 1113), (0, u "java/lang/constant/ConstantDesc"), (2, u "serialVersionUID"), (0, u "J"), (3, u "REPL"), (0, u "C"), (2, u "LATIN1"), (1, u "UTF16")] 323

def k7m0 : Method := { name := "<init>", desc := "()V", sig := { parameters := [], returnType := none }, accessFlags := 1, code := none }
def k7c1 : Code := { maxStack := 5, maxLocals := 2, code := jdk_42_method_3_code, exceptionTable := #[], attributes := #[] }
def k7m1 : Method := { name := "<init>", desc := "([C)V", sig := { parameters := [(.array .char)], returnType := none }, accessFlags := 1, code := some k7c1 }
def k7c2 : Code := { maxStack := 2, maxLocals := 3, code := jdk_42_method_66_code, exceptionTable := #[], attributes := #[] }
def k7m2 : Method := { name := "equals", desc := "(Ljava/lang/Object;)Z", sig := { parameters := [(.object "java/lang/Object")], returnType := some .boolean }, accessFlags := 1, code := some k7c2 }
def k7c3 : Code := { maxStack := 4, maxLocals := 1, code := jdk_42_method_139_code, exceptionTable := #[], attributes := #[] }
def k7m3 : Method := { name := "valueOf", desc := "(C)Ljava/lang/String;", sig := { parameters := [.char], returnType := some (.object "java/lang/String") }, accessFlags := 9, code := some k7c3 }
def k7c4 : Code := { maxStack := 4, maxLocals := 6, code := jdk_42_method_149_code, exceptionTable := #[], attributes := #[] }
def k7m4 : Method := { name := "<init>", desc := "([CIILjava/lang/Void;)V", sig := { parameters := [(.array .char), .int, .int, (.object "java/lang/Void")], returnType := none }, accessFlags := 2, code := some k7c4 }
def k7c5 : Code := { maxStack := 2, maxLocals := 3, code := jdk_42_method_151_code, exceptionTable := #[], attributes := #[] }
def k7m5 : Method := { name := "<init>", desc := "([BB)V", sig := { parameters := [(.array .byte), .byte], returnType := none }, accessFlags := 0, code := some k7c5 }
/-- java/lang/String -/
def k7 : Class := { plain "java/lang/String" (some 0) with
  accessFlags := 49
  interfaces := #[2, 3, 4, 5, 6]
  cf := some (fileOf pool7 10 #[.nestMembers #[1103]] #[{ accessFlags := 1, nameIndex := 5, descriptorIndex := 6, attributes := #[] }, { accessFlags := 1, nameIndex := 5, descriptorIndex := 1010, attributes := #[] }, { accessFlags := 1, nameIndex := 543, descriptorIndex := 573, attributes := #[] }, { accessFlags := 9, nameIndex := 782, descriptorIndex := 783, attributes := #[] }, { accessFlags := 2, nameIndex := 5, descriptorIndex := 29, attributes := #[] }, { accessFlags := 0, nameIndex := 5, descriptorIndex := 211, attributes := #[] }] 49 2 #[1106, 1108, 575, 1110, 1112] #[{ accessFlags := 18, nameIndex := 13, descriptorIndex := 14, attributes := #[] }, { accessFlags := 18, nameIndex := 17, descriptorIndex := 18, attributes := #[] }, { accessFlags := 2, nameIndex := 21, descriptorIndex := 22, attributes := #[] }, { accessFlags := 2, nameIndex := 25, descriptorIndex := 26, attributes := #[] }, { accessFlags := 26, nameIndex := 1116, descriptorIndex := 1117, attributes := #[] }, { accessFlags := 24, nameIndex := 40, descriptorIndex := 26, attributes := #[] }, { accessFlags := 26, nameIndex := 1101, descriptorIndex := 1102, attributes := #[] }, { accessFlags := 26, nameIndex := 1121, descriptorIndex := 1122, attributes := #[] }, { accessFlags := 25, nameIndex := 599, descriptorIndex := 600, attributes := #[] }, { accessFlags := 24, nameIndex := 1125, descriptorIndex := 18, attributes := #[] }, { accessFlags := 24, nameIndex := 1127, descriptorIndex := 18, attributes := #[] }])
  fields := #[{ name := "value", type := (.array .byte), accessFlags := 18, slot := 0, constantValue := 0 }, { name := "coder", type := .byte, accessFlags := 18, slot := 1, constantValue := 0 }, { name := "hash", type := .int, accessFlags := 2, slot := 2, constantValue := 0 }, { name := "hashIsZero", type := .boolean, accessFlags := 2, slot := 3, constantValue := 0 }, { name := "serialVersionUID", type := .long, accessFlags := 26, slot := 0, constantValue := 0 }, { name := "COMPACT_STRINGS", type := .boolean, accessFlags := 24, slot := 1, constantValue := 0 }, { name := "serialPersistentFields", type := (.array (.object "java/io/ObjectStreamField")), accessFlags := 26, slot := 2, constantValue := 0 }, { name := "REPL", type := .char, accessFlags := 26, slot := 3, constantValue := 0 }, { name := "CASE_INSENSITIVE_ORDER", type := (.object "java/util/Comparator"), accessFlags := 25, slot := 4, constantValue := 0 }, { name := "LATIN1", type := .byte, accessFlags := 24, slot := 5, constantValue := 0 }, { name := "UTF16", type := .byte, accessFlags := 24, slot := 6, constantValue := 0 }]
  methods := #[k7m0, k7m1, k7m2, k7m3, k7m4, k7m5]
  instanceTypes := #[(.array .byte), .byte, .int, .boolean]
  staticTypes := #[.long, .boolean, (.array (.object "java/io/ObjectStreamField")), .char, (.object "java/util/Comparator"), .byte, .byte]
  resolved := Array.replicate 1451 none
  statics := some 0 }

def pool8 : Array CpInfo := pool [(1, .methodref 2 3), (0, .class_ 4), (0, .nameAndType 5 6), (0, u "java/lang/Object"), (0, u "<init>"), (0, u "()V"), (0, .class_ 8), (0, u "java/lang/Record")] 13

def k8c0 : Code := { maxStack := 1, maxLocals := 1, code := jdk_30_method_1_code, exceptionTable := #[], attributes := #[] }
def k8m0 : Method := { name := "<init>", desc := "()V", sig := { parameters := [], returnType := none }, accessFlags := 4, code := some k8c0 }
/-- java/lang/Record -/
def k8 : Class := { plain "java/lang/Record" (some 0) with
  accessFlags := 1057
  interfaces := #[]
  cf := some (fileOf pool8 7 #[] #[{ accessFlags := 4, nameIndex := 5, descriptorIndex := 6, attributes := #[] }] 1057 2 #[] #[])
  fields := #[]
  methods := #[k8m0]
  instanceTypes := #[]
  staticTypes := #[]
  resolved := Array.replicate 22 none
  statics := none }

def pool9 : Array CpInfo := pool [(1, .methodref 2 3), (0, .class_ 4), (0, .nameAndType 5 6), (0, u "java/lang/Record"), (0, u "<init>"), (0, u "()V"), (0, .fieldref 8 9), (0, .class_ 10), (0, .nameAndType 11 12), (0, u "com/example/ferret/ferret/frontend/Token"), (0, u "kind"), (0, u "Lcom/example/ferret/ferret/frontend/Token$Kind;"), (0, .fieldref 8 14), (0, .nameAndType 15 16), (0, u "text"), (0, u "Ljava/lang/String;"), (0, .fieldref 8 18), (0, .nameAndType 19 20), (0, u "line"), (0, u "I"), (0, .fieldref 8 22), (0, .nameAndType 23 20), (0, u "column"), (0, .fieldref 8 25), (0, .nameAndType 26 16), (0, u "spelling"), (0, .fieldref 8 28), (0, .nameAndType 29 30), (0, u "spaced"), (0, u "Z"), (0, .fieldref 32 33), (0, .class_ 34), (0, .nameAndType 35 12), (0, u "com/example/ferret/ferret/frontend/Token$Kind"), (0, u "PUNCTUATOR"), (0, .fieldref 32 37), (0, .nameAndType 38 12), (0, u "KEYWORD"), (0, .methodref 40 41), (0, .class_ 42), (0, .nameAndType 43 44), (0, u "java/lang/String"), (0, u "equals"), (0, u "(Ljava/lang/Object;)Z"), (20, u "(Lcom/example/ferret/ferret/frontend/Token$Kind;Ljava/lang/String;IILjava/lang/String;Z)V"), (3, u "is"), (0, u "(Ljava/lang/String;)Z")] 41

def k9c0 : Code := { maxStack := 2, maxLocals := 7, code := prog_118_method_1_code, exceptionTable := #[], attributes := #[] }
def k9m0 : Method := { name := "<init>", desc := "(Lcom/example/ferret/ferret/frontend/Token$Kind;Ljava/lang/String;IILjava/lang/String;Z)V", sig := { parameters := [(.object "com/example/ferret/ferret/frontend/Token$Kind"), (.object "java/lang/String"), .int, .int, (.object "java/lang/String"), .boolean], returnType := none }, accessFlags := 0, code := some k9c0 }
def k9c1 : Code := { maxStack := 2, maxLocals := 2, code := prog_118_method_2_code, exceptionTable := #[], attributes := #[] }
def k9m1 : Method := { name := "is", desc := "(Ljava/lang/String;)Z", sig := { parameters := [(.object "java/lang/String")], returnType := some .boolean }, accessFlags := 0, code := some k9c1 }
/-- com/example/ferret/ferret/frontend/Token -/
def k9 : Class := { plain "com/example/ferret/ferret/frontend/Token" (some 8) with
  accessFlags := 48
  interfaces := #[]
  cf := some (fileOf pool9 8 #[.nestMembers #[32]] #[{ accessFlags := 0, nameIndex := 5, descriptorIndex := 65, attributes := #[] }, { accessFlags := 0, nameIndex := 69, descriptorIndex := 70, attributes := #[] }] 48 2 #[] #[{ accessFlags := 18, nameIndex := 11, descriptorIndex := 12, attributes := #[] }, { accessFlags := 18, nameIndex := 15, descriptorIndex := 16, attributes := #[] }, { accessFlags := 18, nameIndex := 19, descriptorIndex := 20, attributes := #[] }, { accessFlags := 18, nameIndex := 23, descriptorIndex := 20, attributes := #[] }, { accessFlags := 18, nameIndex := 26, descriptorIndex := 16, attributes := #[] }, { accessFlags := 18, nameIndex := 29, descriptorIndex := 30, attributes := #[] }])
  fields := #[{ name := "kind", type := (.object "com/example/ferret/ferret/frontend/Token$Kind"), accessFlags := 18, slot := 0, constantValue := 0 }, { name := "text", type := (.object "java/lang/String"), accessFlags := 18, slot := 1, constantValue := 0 }, { name := "line", type := .int, accessFlags := 18, slot := 2, constantValue := 0 }, { name := "column", type := .int, accessFlags := 18, slot := 3, constantValue := 0 }, { name := "spelling", type := (.object "java/lang/String"), accessFlags := 18, slot := 4, constantValue := 0 }, { name := "spaced", type := .boolean, accessFlags := 18, slot := 5, constantValue := 0 }]
  methods := #[k9m0, k9m1]
  instanceTypes := #[(.object "com/example/ferret/ferret/frontend/Token$Kind"), (.object "java/lang/String"), .int, .int, (.object "java/lang/String"), .boolean]
  staticTypes := #[]
  resolved := Array.replicate 112 none
  statics := none }

def pool10 : Array CpInfo := pool [(2, .class_ 4), (1, u "java/lang/Enum"), (0, u "name"), (0, u "Ljava/lang/String;"), (2, u "ordinal"), (0, u "I"), (1, .class_ 14), (1, u "java/lang/Object"), (4, u "hash"), (86, .class_ 108), (1, u "java/lang/Enum$EnumDesc"), (2, .class_ 112), (0, u "java/lang/constant/Constable"), (0, .class_ 114), (0, u "java/lang/Comparable"), (0, .class_ 116), (0, u "java/io/Serializable")] 87

/-- java/lang/Enum -/
def k10 : Class := { plain "java/lang/Enum" (some 0) with
  accessFlags := 1057
  interfaces := #[5, 3, 2]
  cf := some (fileOf pool10 2 #[.nestMembers #[106]] #[] 1057 12 #[111, 113, 115] #[{ accessFlags := 18, nameIndex := 5, descriptorIndex := 6, attributes := #[] }, { accessFlags := 18, nameIndex := 9, descriptorIndex := 10, attributes := #[] }, { accessFlags := 2, nameIndex := 19, descriptorIndex := 10, attributes := #[] }])
  fields := #[{ name := "name", type := (.object "java/lang/String"), accessFlags := 18, slot := 0, constantValue := 0 }, { name := "ordinal", type := .int, accessFlags := 18, slot := 1, constantValue := 0 }, { name := "hash", type := .int, accessFlags := 2, slot := 2, constantValue := 0 }]
  methods := #[]
  instanceTypes := #[(.object "java/lang/String"), .int, .int]
  staticTypes := #[]
  resolved := Array.replicate 204 none
  statics := none }

def pool11 : Array CpInfo := pool [(1, .class_ 2), (0, u "com/example/ferret/ferret/frontend/Token$Kind"), (2, u "IDENTIFIER"), (0, u "Lcom/example/ferret/ferret/frontend/Token$Kind;"), (2, u "KEYWORD"), (2, u "NUMBER"), (2, u "CHARACTER"), (2, u "STRING"), (2, u "PUNCTUATOR"), (2, u "END"), (2, u "$VALUES"), (0, u "[Lcom/example/ferret/ferret/frontend/Token$Kind;"), (6, .class_ 37), (1, u "java/lang/Enum"), (30, .class_ 69), (0, u "com/example/ferret/ferret/frontend/Token")] 2

/-- com/example/ferret/ferret/frontend/Token$Kind -/
def k11 : Class := { plain "com/example/ferret/ferret/frontend/Token$Kind" (some 10) with
  accessFlags := 16432
  interfaces := #[]
  cf := some (fileOf pool11 1 #[.nestHost 68] #[] 16432 35 #[] #[{ accessFlags := 16409, nameIndex := 5, descriptorIndex := 6, attributes := #[] }, { accessFlags := 16409, nameIndex := 9, descriptorIndex := 6, attributes := #[] }, { accessFlags := 16409, nameIndex := 12, descriptorIndex := 6, attributes := #[] }, { accessFlags := 16409, nameIndex := 15, descriptorIndex := 6, attributes := #[] }, { accessFlags := 16409, nameIndex := 18, descriptorIndex := 6, attributes := #[] }, { accessFlags := 16409, nameIndex := 21, descriptorIndex := 6, attributes := #[] }, { accessFlags := 16409, nameIndex := 24, descriptorIndex := 6, attributes := #[] }, { accessFlags := 4122, nameIndex := 27, descriptorIndex := 28, attributes := #[] }])
  fields := #[{ name := "IDENTIFIER", type := (.object "com/example/ferret/ferret/frontend/Token$Kind"), accessFlags := 16409, slot := 0, constantValue := 0 }, { name := "KEYWORD", type := (.object "com/example/ferret/ferret/frontend/Token$Kind"), accessFlags := 16409, slot := 1, constantValue := 0 }, { name := "NUMBER", type := (.object "com/example/ferret/ferret/frontend/Token$Kind"), accessFlags := 16409, slot := 2, constantValue := 0 }, { name := "CHARACTER", type := (.object "com/example/ferret/ferret/frontend/Token$Kind"), accessFlags := 16409, slot := 3, constantValue := 0 }, { name := "STRING", type := (.object "com/example/ferret/ferret/frontend/Token$Kind"), accessFlags := 16409, slot := 4, constantValue := 0 }, { name := "PUNCTUATOR", type := (.object "com/example/ferret/ferret/frontend/Token$Kind"), accessFlags := 16409, slot := 5, constantValue := 0 }, { name := "END", type := (.object "com/example/ferret/ferret/frontend/Token$Kind"), accessFlags := 16409, slot := 6, constantValue := 0 }, { name := "$VALUES", type := (.array (.object "com/example/ferret/ferret/frontend/Token$Kind")), accessFlags := 4122, slot := 7, constantValue := 0 }]
  methods := #[]
  instanceTypes := #[(.object "java/lang/String"), .int, .int]
  staticTypes := #[(.object "com/example/ferret/ferret/frontend/Token$Kind"), (.object "com/example/ferret/ferret/frontend/Token$Kind"), (.object "com/example/ferret/ferret/frontend/Token$Kind"), (.object "com/example/ferret/ferret/frontend/Token$Kind"), (.object "com/example/ferret/ferret/frontend/Token$Kind"), (.object "com/example/ferret/ferret/frontend/Token$Kind"), (.object "com/example/ferret/ferret/frontend/Token$Kind"), (.array (.object "com/example/ferret/ferret/frontend/Token$Kind"))]
  resolved := Array.replicate 72 none
  statics := some 1 }

def pool12 : Array CpInfo := pool [(4, .class_ 6), (1, u "java/lang/Object"), (0, u "<init>"), (0, u "()V"), (5, .class_ 16), (1, u "java/lang/StringLatin1"), (73, u "canEncode"), (14, u "(C)Z"), (15, u "$assertionsDisabled"), (0, u "Z"), (98, .class_ 223), (1, u "java/lang/StringLatin1$LinesSpliterator"), (57, u "equals"), (0, u "([B[B)Z"), (97, u "toBytes"), (1, u "(C)[B"), (7, .class_ 391), (0, u "java/lang/StringLatin1$CharsSpliterator")] 3

def k12m0 : Method := { name := "<init>", desc := "()V", sig := { parameters := [], returnType := none }, accessFlags := 0, code := none }
def k12c1 : Code := { maxStack := 2, maxLocals := 1, code := jdk_43_method_3_code, exceptionTable := #[], attributes := #[] }
def k12m1 : Method := { name := "canEncode", desc := "(C)Z", sig := { parameters := [.char], returnType := some .boolean }, accessFlags := 9, code := some k12c1 }
def k12c2 : Code := { maxStack := 3, maxLocals := 3, code := jdk_43_method_13_code, exceptionTable := #[], attributes := #[] }
def k12m2 : Method := { name := "equals", desc := "([B[B)Z", sig := { parameters := [(.array .byte), (.array .byte)], returnType := some .boolean }, accessFlags := 9, code := some k12c2 }
def k12c3 : Code := { maxStack := 4, maxLocals := 1, code := jdk_43_method_46_code, exceptionTable := #[], attributes := #[] }
def k12m3 : Method := { name := "toBytes", desc := "(C)[B", sig := { parameters := [.char], returnType := some (.array .byte) }, accessFlags := 9, code := some k12c3 }
/-- java/lang/StringLatin1 -/
def k12 : Class := { plain "java/lang/StringLatin1" (some 0) with
  accessFlags := 48
  interfaces := #[]
  cf := some (fileOf pool12 14 #[.nestMembers #[390, 221]] #[{ accessFlags := 0, nameIndex := 7, descriptorIndex := 8, attributes := #[] }, { accessFlags := 9, nameIndex := 90, descriptorIndex := 105, attributes := #[] }, { accessFlags := 9, nameIndex := 281, descriptorIndex := 282, attributes := #[] }, { accessFlags := 9, nameIndex := 380, descriptorIndex := 382, attributes := #[] }] 48 4 #[] #[{ accessFlags := 4120, nameIndex := 121, descriptorIndex := 122, attributes := #[] }])
  fields := #[{ name := "$assertionsDisabled", type := .boolean, accessFlags := 4120, slot := 0, constantValue := 0 }]
  methods := #[k12m0, k12m1, k12m2, k12m3]
  instanceTypes := #[]
  staticTypes := #[.boolean]
  resolved := Array.replicate 395 none
  statics := none }

def pool13 : Array CpInfo := pool [(6, .class_ 8), (1, u "java/lang/Object"), (0, u "<init>"), (0, u "()V"), (1, .class_ 14), (1, u "java/lang/StringUTF16"), (31, u "$assertionsDisabled"), (0, u "Z"), (13, u "HI_BYTE_SHIFT"), (0, u "I"), (2, u "LO_BYTE_SHIFT"), (49, .methodref 12 116), (0, .nameAndType 117 118), (0, u "compress"), (0, u "([CI[BII)I"), (3, u "([CII)[B"), (138, u "coderFromArrayLen"), (0, u "([BI)B"), (106, .class_ 371), (1, u "java/lang/StringUTF16$LinesSpliterator"), (58, u "MAX_LENGTH"), (196, .class_ 628), (0, u "java/lang/StringUTF16$CodePointsSpliterator"), (0, .class_ 630), (0, u "java/lang/StringUTF16$CharsSpliterator")] 4

def k13m0 : Method := { name := "<init>", desc := "()V", sig := { parameters := [], returnType := none }, accessFlags := 0, code := none }
def k13c1 : Code := { maxStack := 2, maxLocals := 2, code := jdk_52_method_15_code, exceptionTable := #[], attributes := #[] }
def k13m1 : Method := { name := "coderFromArrayLen", desc := "([BI)B", sig := { parameters := [(.array .byte), .int], returnType := some .byte }, accessFlags := 8, code := some k13c1 }
def k13c2 : Code := { maxStack := 5, maxLocals := 6, code := jdk_52_method_16_code, exceptionTable := #[], attributes := #[] }
def k13m2 : Method := { name := "compress", desc := "([CII)[B", sig := { parameters := [(.array .char), .int, .int], returnType := some (.array .byte) }, accessFlags := 9, code := some k13c2 }
def k13c3 : Code := { maxStack := 3, maxLocals := 7, code := jdk_52_method_21_code, exceptionTable := #[], attributes := #[] }
def k13m3 : Method := { name := "compress", desc := "([CI[BII)I", sig := { parameters := [(.array .char), .int, (.array .byte), .int, .int], returnType := some .int }, accessFlags := 9, code := some k13c3 }
/-- java/lang/StringUTF16 -/
def k13 : Class := { plain "java/lang/StringUTF16" (some 0) with
  accessFlags := 48
  interfaces := #[]
  cf := some (fileOf pool13 12 #[.nestMembers #[627, 629, 369]] #[{ accessFlags := 0, nameIndex := 9, descriptorIndex := 10, attributes := #[] }, { accessFlags := 8, nameIndex := 261, descriptorIndex := 262, attributes := #[] }, { accessFlags := 9, nameIndex := 117, descriptorIndex := 122, attributes := #[] }, { accessFlags := 9, nameIndex := 117, descriptorIndex := 118, attributes := #[] }] 48 6 #[] #[{ accessFlags := 26, nameIndex := 61, descriptorIndex := 62, attributes := #[] }, { accessFlags := 26, nameIndex := 65, descriptorIndex := 62, attributes := #[] }, { accessFlags := 24, nameIndex := 430, descriptorIndex := 62, attributes := #[] }, { accessFlags := 4120, nameIndex := 46, descriptorIndex := 47, attributes := #[] }])
  fields := #[{ name := "HI_BYTE_SHIFT", type := .int, accessFlags := 26, slot := 0, constantValue := 0 }, { name := "LO_BYTE_SHIFT", type := .int, accessFlags := 26, slot := 1, constantValue := 0 }, { name := "MAX_LENGTH", type := .int, accessFlags := 24, slot := 2, constantValue := 0 }, { name := "$assertionsDisabled", type := .boolean, accessFlags := 4120, slot := 3, constantValue := 0 }]
  methods := #[k13m0, k13m1, k13m2, k13m3]
  instanceTypes := #[]
  staticTypes := #[.int, .int, .int, .boolean]
  resolved := Array.replicate 635 none
  statics := none }

def pool14 : Array CpInfo := pool [(2, .class_ 4), (1, u "java/lang/Object"), (0, u "<init>"), (0, u "()V"), (17, .class_ 26), (1, u "jdk/internal/util/Preconditions"), (28, .class_ 56), (0, u "jdk/internal/util/Preconditions$4"), (57, .class_ 115), (0, u "jdk/internal/util/Preconditions$1"), (7, u "SIOOBE_FORMATTER"), (0, u "Ljava/util/function/BiFunction;"), (0, .class_ 126), (0, u "jdk/internal/util/Preconditions$2"), (3, u "AIOOBE_FORMATTER"), (0, .class_ 132), (0, u "jdk/internal/util/Preconditions$3"), (3, u "IOOBE_FORMATTER")] 57

def k14m0 : Method := { name := "<init>", desc := "()V", sig := { parameters := [], returnType := none }, accessFlags := 1, code := none }
/-- jdk/internal/util/Preconditions -/
def k14 : Class := { plain "jdk/internal/util/Preconditions" (some 0) with
  accessFlags := 33
  interfaces := #[]
  cf := some (fileOf pool14 24 #[.nestMembers #[55, 131, 125, 114]] #[{ accessFlags := 1, nameIndex := 5, descriptorIndex := 6, attributes := #[] }] 33 2 #[] #[{ accessFlags := 25, nameIndex := 123, descriptorIndex := 124, attributes := #[] }, { accessFlags := 25, nameIndex := 130, descriptorIndex := 124, attributes := #[] }, { accessFlags := 25, nameIndex := 136, descriptorIndex := 124, attributes := #[] }])
  fields := #[{ name := "SIOOBE_FORMATTER", type := (.object "java/util/function/BiFunction"), accessFlags := 25, slot := 0, constantValue := 0 }, { name := "AIOOBE_FORMATTER", type := (.object "java/util/function/BiFunction"), accessFlags := 25, slot := 1, constantValue := 0 }, { name := "IOOBE_FORMATTER", type := (.object "java/util/function/BiFunction"), accessFlags := 25, slot := 2, constantValue := 0 }]
  methods := #[k14m0]
  instanceTypes := #[]
  staticTypes := #[(.object "java/util/function/BiFunction"), (.object "java/util/function/BiFunction"), (.object "java/util/function/BiFunction")]
  resolved := Array.replicate 194 none
  statics := some 2 }

def pool15 : Array CpInfo := pool [(9, u "<init>"), (6, .class_ 18), (1, u "java/lang/Object"), (0, u "()V"), (1, .class_ 23), (1, u "jdk/internal/util/ArraysSupport"), (0, u "LOG2_ARRAY_LONG_INDEX_SCALE"), (0, u "I"), (2, u "U"), (0, u "Ljdk/internal/misc/Unsafe;"), (8, u "BIG_ENDIAN"), (0, u "Z"), (8, u "LOG2_BYTE_BIT_SIZE"), (4, u "LOG2_ARRAY_INT_INDEX_SCALE"), (54, u "JLA"), (0, u "Ljdk/internal/access/JavaLangAccess;"), (11, u "LOG2_ARRAY_BOOLEAN_INDEX_SCALE"), (9, u "LOG2_ARRAY_BYTE_INDEX_SCALE"), (5, u "LOG2_ARRAY_CHAR_INDEX_SCALE"), (5, u "LOG2_ARRAY_SHORT_INDEX_SCALE"), (18, u "LOG2_ARRAY_FLOAT_INDEX_SCALE"), (24, u "LOG2_ARRAY_DOUBLE_INDEX_SCALE"), (89, u "T_BOOLEAN"), (2, u "T_CHAR"), (1, u "T_FLOAT"), (1, u "T_DOUBLE"), (1, u "T_BYTE"), (1, u "T_SHORT"), (1, u "T_INT"), (1, u "T_LONG"), (1, u "SOFT_MAX_ARRAY_LENGTH")] 83

def k15m0 : Method := { name := "<init>", desc := "()V", sig := { parameters := [], returnType := none }, accessFlags := 2, code := none }
/-- jdk/internal/util/ArraysSupport -/
def k15 : Class := { plain "jdk/internal/util/ArraysSupport" (some 0) with
  accessFlags := 33
  interfaces := #[]
  cf := some (fileOf pool15 21 #[] #[{ accessFlags := 2, nameIndex := 9, descriptorIndex := 19, attributes := #[] }] 33 16 #[] #[{ accessFlags := 24, nameIndex := 28, descriptorIndex := 29, attributes := #[] }, { accessFlags := 26, nameIndex := 38, descriptorIndex := 39, attributes := #[] }, { accessFlags := 25, nameIndex := 121, descriptorIndex := 25, attributes := #[] }, { accessFlags := 25, nameIndex := 131, descriptorIndex := 25, attributes := #[] }, { accessFlags := 25, nameIndex := 137, descriptorIndex := 25, attributes := #[] }, { accessFlags := 25, nameIndex := 143, descriptorIndex := 25, attributes := #[] }, { accessFlags := 25, nameIndex := 53, descriptorIndex := 25, attributes := #[] }, { accessFlags := 25, nameIndex := 24, descriptorIndex := 25, attributes := #[] }, { accessFlags := 25, nameIndex := 162, descriptorIndex := 25, attributes := #[] }, { accessFlags := 25, nameIndex := 187, descriptorIndex := 25, attributes := #[] }, { accessFlags := 26, nameIndex := 48, descriptorIndex := 25, attributes := #[] }, { accessFlags := 25, nameIndex := 277, descriptorIndex := 25, attributes := #[] }, { accessFlags := 25, nameIndex := 280, descriptorIndex := 25, attributes := #[] }, { accessFlags := 25, nameIndex := 282, descriptorIndex := 25, attributes := #[] }, { accessFlags := 25, nameIndex := 284, descriptorIndex := 25, attributes := #[] }, { accessFlags := 25, nameIndex := 286, descriptorIndex := 25, attributes := #[] }, { accessFlags := 25, nameIndex := 288, descriptorIndex := 25, attributes := #[] }, { accessFlags := 25, nameIndex := 290, descriptorIndex := 25, attributes := #[] }, { accessFlags := 25, nameIndex := 292, descriptorIndex := 25, attributes := #[] }, { accessFlags := 26, nameIndex := 108, descriptorIndex := 109, attributes := #[] }, { accessFlags := 25, nameIndex := 294, descriptorIndex := 25, attributes := #[] }])
  fields := #[{ name := "U", type := (.object "jdk/internal/misc/Unsafe"), accessFlags := 24, slot := 0, constantValue := 0 }, { name := "BIG_ENDIAN", type := .boolean, accessFlags := 26, slot := 1, constantValue := 0 }, { name := "LOG2_ARRAY_BOOLEAN_INDEX_SCALE", type := .int, accessFlags := 25, slot := 2, constantValue := 0 }, { name := "LOG2_ARRAY_BYTE_INDEX_SCALE", type := .int, accessFlags := 25, slot := 3, constantValue := 0 }, { name := "LOG2_ARRAY_CHAR_INDEX_SCALE", type := .int, accessFlags := 25, slot := 4, constantValue := 0 }, { name := "LOG2_ARRAY_SHORT_INDEX_SCALE", type := .int, accessFlags := 25, slot := 5, constantValue := 0 }, { name := "LOG2_ARRAY_INT_INDEX_SCALE", type := .int, accessFlags := 25, slot := 6, constantValue := 0 }, { name := "LOG2_ARRAY_LONG_INDEX_SCALE", type := .int, accessFlags := 25, slot := 7, constantValue := 0 }, { name := "LOG2_ARRAY_FLOAT_INDEX_SCALE", type := .int, accessFlags := 25, slot := 8, constantValue := 0 }, { name := "LOG2_ARRAY_DOUBLE_INDEX_SCALE", type := .int, accessFlags := 25, slot := 9, constantValue := 0 }, { name := "LOG2_BYTE_BIT_SIZE", type := .int, accessFlags := 26, slot := 10, constantValue := 0 }, { name := "T_BOOLEAN", type := .int, accessFlags := 25, slot := 11, constantValue := 0 }, { name := "T_CHAR", type := .int, accessFlags := 25, slot := 12, constantValue := 0 }, { name := "T_FLOAT", type := .int, accessFlags := 25, slot := 13, constantValue := 0 }, { name := "T_DOUBLE", type := .int, accessFlags := 25, slot := 14, constantValue := 0 }, { name := "T_BYTE", type := .int, accessFlags := 25, slot := 15, constantValue := 0 }, { name := "T_SHORT", type := .int, accessFlags := 25, slot := 16, constantValue := 0 }, { name := "T_INT", type := .int, accessFlags := 25, slot := 17, constantValue := 0 }, { name := "T_LONG", type := .int, accessFlags := 25, slot := 18, constantValue := 0 }, { name := "JLA", type := (.object "jdk/internal/access/JavaLangAccess"), accessFlags := 26, slot := 19, constantValue := 0 }, { name := "SOFT_MAX_ARRAY_LENGTH", type := .int, accessFlags := 25, slot := 20, constantValue := 0 }]
  methods := #[k15m0]
  instanceTypes := #[]
  staticTypes := #[(.object "jdk/internal/misc/Unsafe"), .boolean, .int, .int, .int, .int, .int, .int, .int, .int, .int, .int, .int, .int, .int, .int, .int, .int, .int, (.object "jdk/internal/access/JavaLangAccess"), .int]
  resolved := Array.replicate 378 none
  statics := none }

def pool16 : Array CpInfo := pool [(1, u "java/lang/Cloneable"), (0, .class_ 1), (0, u "java/lang/Object"), (0, .class_ 3)] 3

/-- java/lang/Cloneable -/
def k16 : Class := { plain "java/lang/Cloneable" (some 0) with
  accessFlags := 1537
  interfaces := #[]
  cf := some (fileOf pool16 2 #[] #[] 1537 4 #[] #[])
  fields := #[]
  methods := #[]
  instanceTypes := #[]
  staticTypes := #[]
  resolved := Array.replicate 8 none
  statics := none }

/-- the primitive byte -/
def k17 : Class := { plain "byte" none with kind := .primitive 'B', accessFlags := 0x411 }
/-- [B -/
def k18 : Class := { plain "[B" (some 0) with kind := .array 17 .byte, interfaces := #[16, 2], accessFlags := 1041 }

/-- the primitive char -/
def k19 : Class := { plain "char" none with kind := .primitive 'C', accessFlags := 0x411 }
/-- [C -/
def k20 : Class := { plain "[C" (some 0) with kind := .array 19 .char, interfaces := #[16, 2], accessFlags := 1041 }

/-- the primitive int -/
def k21 : Class := { plain "int" none with kind := .primitive 'I', accessFlags := 0x411 }
/-- [I -/
def k22 : Class := { plain "[I" (some 0) with kind := .array 21 .int, interfaces := #[16, 2], accessFlags := 1041 }

def heap : Heap := #[{ cls := 7, slots := #[.long 0, .int 1, .null, .int 0, .null, .int 0, .int 0], vm := .statics 7 },
  { cls := 11, slots := #[.ref 3, .ref 4, .ref 5, .ref 6, .ref 7, .ref 8, .ref 9, .null], vm := .statics 11 },
  { cls := 14, slots := #[.null, .null, .null], vm := .statics 14 },
  { cls := 11, slots := #[.null, .int 0, .int 0], vm := .none },
  { cls := 11, slots := #[.null, .int 1, .int 0], vm := .none },
  { cls := 11, slots := #[.null, .int 2, .int 0], vm := .none },
  { cls := 11, slots := #[.null, .int 3, .int 0], vm := .none },
  { cls := 11, slots := #[.null, .int 4, .int 0], vm := .none },
  { cls := 11, slots := #[.null, .int 5, .int 0], vm := .none },
  { cls := 11, slots := #[.null, .int 6, .int 0], vm := .none }]
def classes : Array Class := #[k0, k1, k2, k3, k4, k5, k6, k7, k8, k9, k10, k11, k12, k13, k14, k15, k16, k17, k18, k19, k20, k21, k22]
def interned : List (Array UInt16 × Addr) := []
def slotsUsed : Nat := 39
def theMethod : MethodId := ⟨1, 3⟩
def args0 : Array Value := #[.int 5, .int 3, .int 1, .int 1, .int 1, .int 1]
def aboutOver (below : List Frame) : State where
  vm := { classes := classes, interned := interned.toArray }
  heap := heap
  slotsUsed := slotsUsed
  threads := #[{ frames := .invoking theMethod args0 :: below }]
def below0 : List Frame := [.native { method := ⟨0, 0⟩, args := #[] }]
def about1 : State := aboutOver below0
def p0 : Program := .bare "" "" ""
def e0 : Env := launch0.env 0 0 0
theorem w_frames : about1.frames = Frame.invoking theMethod args0 :: below0 := rfl
set_option maxRecDepth 65536 in
theorem w_args : argsFit about1.vm theMethod args0 = true := by decide +kernel
set_option maxRecDepth 65536 in
theorem w_heap : heapFits about1 = true := by decide +kernel
set_option maxRecDepth 65536 in
theorem w_runnable : about1.curStatus? = some .runnable := by decide +kernel
set_option maxRecDepth 65536 in
theorem w_alone : about1.alone = true := by decide +kernel
set_option maxRecDepth 65536 in
theorem w_named : about1.methodNamed? x = some theMethod := by decide +kernel
set_option maxRecDepth 65536 in
theorem w_hears : about1.hears theMethod below0 = true := by decide +kernel
set_option maxRecDepth 65536 in
theorem w_ripe : about1.ripe theMethod args0 below0 = true := by decide +kernel
theorem w_running : about1.status = .running := rfl
set_option maxRecDepth 65536 in
theorem w_room : about1.hasRoom e0.platform room_1 = true :=
  launch0.hasRoom_least _ room_1 (by decide +kernel) (by decide +kernel) (by decide +kernel) (by decide +kernel) (by decide +kernel) (by decide +kernel)
theorem allAtoms_all (ts : List Jvm.Cond) (a : Array Jvm.Value) (st : Jvm.State) : (allAtoms ts).before a st = ts.all (fun c => c.before a st) := by
  induction ts with
  | nil => rfl
  | cons c t ih =>
    show (Jvm.Cond.and c (allAtoms t)).before a st = _
    rw [Jvm.Cond.before_and, ih, List.all_cons]
def words1 : List Jvm.Cond := Jvm.Cond.code x code maxLocals ret :: tables_1
/-- a 'code' word, met by the world's own term for the bytes: nothing is compared byte by byte -/
theorem code_word {y : MethodName} {bytes : ByteArray} {mx : Nat} {rt : Option FieldType} {a : Array Value} {s : State} {m : MethodId} {meth : Method} {c : Code} (h1 : s.methodNamed? y = some m) (h2 : s.vm.method? m = some meth) (h3 : meth.code = some c) (h4 : c.code = bytes)
    (h5 : (c.maxLocals == mx && c.exceptionTable.isEmpty && decide (c.maxStack ≤ mostOperands) && decide (meth.sig.returnType = rt) && !meth.locks && decide (parseMethodDescriptor y.desc = some meth.sig)) = true) : (Jvm.Cond.code y bytes mx rt).before a s = true := by
  simp only [Bool.and_eq_true, beq_iff_eq, Bool.not_eq_true', decide_eq_true_eq] at h5
  obtain ⟨⟨⟨⟨⟨g1, g2⟩, g3⟩, g4⟩, g5⟩, g6⟩ := h5
  simp [Cond.before, Cond.holds, Cond.value, h1, h2, h3, h4, g1, g2, g3, g4, g5, g6]
def isCode : Jvm.Cond → Bool
  | .code _ _ _ _ => true
  | _ => false
theorem all_split {L : List Jvm.Cond} {P : Jvm.Cond → Bool} (h1 : L.all (fun c => isCode c || P c) = true) (h2 : ∀ c ∈ L.filter isCode, P c = true) : L.all P = true := by
  refine List.all_eq_true.mpr fun c hc => ?_
  have h := List.all_eq_true.mp h1 c hc
  rcases Bool.eq_false_or_eq_true (isCode c) with hi | hi
  · exact h2 c (List.mem_filter.mpr ⟨hc, hi⟩)
  · simpa [hi] using h
set_option maxRecDepth 65536 in
theorem w_c0 : (Jvm.Cond.code x code maxLocals ret).before args0 about1 = true := code_word (m := ⟨1, 3⟩) (meth := k1m3) (c := k1c3) (by decide +kernel) rfl rfl rfl (by decide +kernel)
set_option maxRecDepth 65536 in
theorem w_c1 : (Jvm.Cond.code ({ cls := "com/example/ferret/ferret/frontend/TokenIsPinLaw", name := "str", desc := "(ICC)Ljava/lang/String;" } : Jvm.MethodName) method_3_code (3 : Nat) (Option.some (Jvm.ClassFile.FieldType.object "java/lang/String"))).before args0 about1 = true := code_word (m := ⟨1, 2⟩) (meth := k1m2) (c := k1c2) (by decide +kernel) rfl rfl rfl (by decide +kernel)
set_option maxRecDepth 65536 in
theorem w_c2 : (Jvm.Cond.code ({ cls := "java/lang/String", name := "<init>", desc := "([C)V" } : Jvm.MethodName) jdk_42_method_3_code (2 : Nat) (Option.none : Option Jvm.ClassFile.FieldType)).before args0 about1 = true := code_word (m := ⟨7, 1⟩) (meth := k7m1) (c := k7c1) (by decide +kernel) rfl rfl rfl (by decide +kernel)
set_option maxRecDepth 65536 in
theorem w_c3 : (Jvm.Cond.code ({ cls := "java/lang/String", name := "<init>", desc := "([CIILjava/lang/Void;)V" } : Jvm.MethodName) jdk_42_method_149_code (6 : Nat) (Option.none : Option Jvm.ClassFile.FieldType)).before args0 about1 = true := code_word (m := ⟨7, 4⟩) (meth := k7m4) (c := k7c4) (by decide +kernel) rfl rfl rfl (by decide +kernel)
set_option maxRecDepth 65536 in
theorem w_c4 : (Jvm.Cond.code ({ cls := "java/lang/Object", name := "<init>", desc := "()V" } : Jvm.MethodName) object_method_1_code (1 : Nat) (Option.none : Option Jvm.ClassFile.FieldType)).before args0 about1 = true := code_word (m := ⟨0, 0⟩) (meth := k0m0) (c := k0c0) (by decide +kernel) rfl rfl rfl (by decide +kernel)
set_option maxRecDepth 65536 in
theorem w_c5 : (Jvm.Cond.code ({ cls := "com/example/ferret/ferret/frontend/TokenIsPinLaw", name := "kindOf", desc := "(I)Lcom/example/ferret/ferret/frontend/Token$Kind;" } : Jvm.MethodName) method_2_code (1 : Nat) (Option.some (Jvm.ClassFile.FieldType.object "com/example/ferret/ferret/frontend/Token$Kind"))).before args0 about1 = true := code_word (m := ⟨1, 1⟩) (meth := k1m1) (c := k1c1) (by decide +kernel) rfl rfl rfl (by decide +kernel)
set_option maxRecDepth 65536 in
theorem w_c6 : (Jvm.Cond.code ({ cls := "com/example/ferret/ferret/frontend/Token", name := "<init>", desc := "(Lcom/example/ferret/ferret/frontend/Token$Kind;Ljava/lang/String;IILjava/lang/String;Z)V" } : Jvm.MethodName) prog_118_method_1_code (7 : Nat) (Option.none : Option Jvm.ClassFile.FieldType)).before args0 about1 = true := code_word (m := ⟨9, 0⟩) (meth := k9m0) (c := k9c0) (by decide +kernel) rfl rfl rfl (by decide +kernel)
set_option maxRecDepth 65536 in
theorem w_c7 : (Jvm.Cond.code ({ cls := "java/lang/Record", name := "<init>", desc := "()V" } : Jvm.MethodName) jdk_30_method_1_code (1 : Nat) (Option.none : Option Jvm.ClassFile.FieldType)).before args0 about1 = true := code_word (m := ⟨8, 0⟩) (meth := k8m0) (c := k8c0) (by decide +kernel) rfl rfl rfl (by decide +kernel)
set_option maxRecDepth 65536 in
theorem w_c8 : (Jvm.Cond.code ({ cls := "com/example/ferret/ferret/frontend/Token", name := "is", desc := "(Ljava/lang/String;)Z" } : Jvm.MethodName) prog_118_method_2_code (2 : Nat) (Option.some Jvm.ClassFile.FieldType.boolean)).before args0 about1 = true := code_word (m := ⟨9, 1⟩) (meth := k9m1) (c := k9c1) (by decide +kernel) rfl rfl rfl (by decide +kernel)
set_option maxRecDepth 65536 in
theorem w_c9 : (Jvm.Cond.code ({ cls := "java/lang/String", name := "equals", desc := "(Ljava/lang/Object;)Z" } : Jvm.MethodName) jdk_42_method_66_code (3 : Nat) (Option.some Jvm.ClassFile.FieldType.boolean)).before args0 about1 = true := code_word (m := ⟨7, 2⟩) (meth := k7m2) (c := k7c2) (by decide +kernel) rfl rfl rfl (by decide +kernel)
set_option maxRecDepth 65536 in
theorem w_c10 : (Jvm.Cond.code ({ cls := "java/lang/StringLatin1", name := "equals", desc := "([B[B)Z" } : Jvm.MethodName) jdk_43_method_13_code (3 : Nat) (Option.some Jvm.ClassFile.FieldType.boolean)).before args0 about1 = true := code_word (m := ⟨12, 2⟩) (meth := k12m2) (c := k12c2) (by decide +kernel) rfl rfl rfl (by decide +kernel)
set_option maxRecDepth 65536 in
theorem w_c11 : (Jvm.Cond.code ({ cls := "java/lang/StringUTF16", name := "compress", desc := "([CII)[B" } : Jvm.MethodName) jdk_52_method_16_code (6 : Nat) (Option.some (Jvm.ClassFile.FieldType.array Jvm.ClassFile.FieldType.byte))).before args0 about1 = true := code_word (m := ⟨13, 2⟩) (meth := k13m2) (c := k13c2) (by decide +kernel) rfl rfl rfl (by decide +kernel)
set_option maxRecDepth 65536 in
theorem w_c12 : (Jvm.Cond.code ({ cls := "java/lang/StringUTF16", name := "compress", desc := "([CI[BII)I" } : Jvm.MethodName) jdk_52_method_21_code (7 : Nat) (Option.some Jvm.ClassFile.FieldType.int)).before args0 about1 = true := code_word (m := ⟨13, 3⟩) (meth := k13m3) (c := k13c3) (by decide +kernel) rfl rfl rfl (by decide +kernel)
set_option maxRecDepth 65536 in
theorem w_c13 : (Jvm.Cond.code ({ cls := "java/lang/StringUTF16", name := "coderFromArrayLen", desc := "([BI)B" } : Jvm.MethodName) jdk_52_method_15_code (2 : Nat) (Option.some Jvm.ClassFile.FieldType.byte)).before args0 about1 = true := code_word (m := ⟨13, 1⟩) (meth := k13m1) (c := k13c1) (by decide +kernel) rfl rfl rfl (by decide +kernel)
set_option maxRecDepth 65536 in
theorem w_c14 : (Jvm.Cond.code ({ cls := "java/lang/String", name := "valueOf", desc := "(C)Ljava/lang/String;" } : Jvm.MethodName) jdk_42_method_139_code (1 : Nat) (Option.some (Jvm.ClassFile.FieldType.object "java/lang/String"))).before args0 about1 = true := code_word (m := ⟨7, 3⟩) (meth := k7m3) (c := k7c3) (by decide +kernel) rfl rfl rfl (by decide +kernel)
set_option maxRecDepth 65536 in
theorem w_c15 : (Jvm.Cond.code ({ cls := "java/lang/StringLatin1", name := "canEncode", desc := "(C)Z" } : Jvm.MethodName) jdk_43_method_3_code (1 : Nat) (Option.some Jvm.ClassFile.FieldType.boolean)).before args0 about1 = true := code_word (m := ⟨12, 1⟩) (meth := k12m1) (c := k12c1) (by decide +kernel) rfl rfl rfl (by decide +kernel)
set_option maxRecDepth 65536 in
theorem w_c16 : (Jvm.Cond.code ({ cls := "java/lang/StringLatin1", name := "toBytes", desc := "(C)[B" } : Jvm.MethodName) jdk_43_method_46_code (1 : Nat) (Option.some (Jvm.ClassFile.FieldType.array Jvm.ClassFile.FieldType.byte))).before args0 about1 = true := code_word (m := ⟨12, 3⟩) (meth := k12m3) (c := k12c3) (by decide +kernel) rfl rfl rfl (by decide +kernel)
set_option maxRecDepth 65536 in
theorem w_c17 : (Jvm.Cond.code ({ cls := "java/lang/String", name := "<init>", desc := "([BB)V" } : Jvm.MethodName) jdk_42_method_151_code (3 : Nat) (Option.none : Option Jvm.ClassFile.FieldType)).before args0 about1 = true := code_word (m := ⟨7, 5⟩) (meth := k7m5) (c := k7c5) (by decide +kernel) rfl rfl rfl (by decide +kernel)
def codes1 : List Jvm.Cond := [Jvm.Cond.code x code maxLocals ret, Jvm.Cond.code ({ cls := "com/example/ferret/ferret/frontend/TokenIsPinLaw", name := "str", desc := "(ICC)Ljava/lang/String;" } : Jvm.MethodName) method_3_code (3 : Nat) (Option.some (Jvm.ClassFile.FieldType.object "java/lang/String")), Jvm.Cond.code ({ cls := "java/lang/String", name := "<init>", desc := "([C)V" } : Jvm.MethodName) jdk_42_method_3_code (2 : Nat) (Option.none : Option Jvm.ClassFile.FieldType), Jvm.Cond.code ({ cls := "java/lang/String", name := "<init>", desc := "([CIILjava/lang/Void;)V" } : Jvm.MethodName) jdk_42_method_149_code (6 : Nat) (Option.none : Option Jvm.ClassFile.FieldType), Jvm.Cond.code ({ cls := "java/lang/Object", name := "<init>", desc := "()V" } : Jvm.MethodName) object_method_1_code (1 : Nat) (Option.none : Option Jvm.ClassFile.FieldType), Jvm.Cond.code ({ cls := "com/example/ferret/ferret/frontend/TokenIsPinLaw", name := "kindOf", desc := "(I)Lcom/example/ferret/ferret/frontend/Token$Kind;" } : Jvm.MethodName) method_2_code (1 : Nat) (Option.some (Jvm.ClassFile.FieldType.object "com/example/ferret/ferret/frontend/Token$Kind")), Jvm.Cond.code ({ cls := "com/example/ferret/ferret/frontend/Token", name := "<init>", desc := "(Lcom/example/ferret/ferret/frontend/Token$Kind;Ljava/lang/String;IILjava/lang/String;Z)V" } : Jvm.MethodName) prog_118_method_1_code (7 : Nat) (Option.none : Option Jvm.ClassFile.FieldType), Jvm.Cond.code ({ cls := "java/lang/Record", name := "<init>", desc := "()V" } : Jvm.MethodName) jdk_30_method_1_code (1 : Nat) (Option.none : Option Jvm.ClassFile.FieldType), Jvm.Cond.code ({ cls := "com/example/ferret/ferret/frontend/Token", name := "is", desc := "(Ljava/lang/String;)Z" } : Jvm.MethodName) prog_118_method_2_code (2 : Nat) (Option.some Jvm.ClassFile.FieldType.boolean), Jvm.Cond.code ({ cls := "java/lang/String", name := "equals", desc := "(Ljava/lang/Object;)Z" } : Jvm.MethodName) jdk_42_method_66_code (3 : Nat) (Option.some Jvm.ClassFile.FieldType.boolean), Jvm.Cond.code ({ cls := "java/lang/StringLatin1", name := "equals", desc := "([B[B)Z" } : Jvm.MethodName) jdk_43_method_13_code (3 : Nat) (Option.some Jvm.ClassFile.FieldType.boolean), Jvm.Cond.code ({ cls := "java/lang/StringUTF16", name := "compress", desc := "([CII)[B" } : Jvm.MethodName) jdk_52_method_16_code (6 : Nat) (Option.some (Jvm.ClassFile.FieldType.array Jvm.ClassFile.FieldType.byte)), Jvm.Cond.code ({ cls := "java/lang/StringUTF16", name := "compress", desc := "([CI[BII)I" } : Jvm.MethodName) jdk_52_method_21_code (7 : Nat) (Option.some Jvm.ClassFile.FieldType.int), Jvm.Cond.code ({ cls := "java/lang/StringUTF16", name := "coderFromArrayLen", desc := "([BI)B" } : Jvm.MethodName) jdk_52_method_15_code (2 : Nat) (Option.some Jvm.ClassFile.FieldType.byte), Jvm.Cond.code ({ cls := "java/lang/String", name := "valueOf", desc := "(C)Ljava/lang/String;" } : Jvm.MethodName) jdk_42_method_139_code (1 : Nat) (Option.some (Jvm.ClassFile.FieldType.object "java/lang/String")), Jvm.Cond.code ({ cls := "java/lang/StringLatin1", name := "canEncode", desc := "(C)Z" } : Jvm.MethodName) jdk_43_method_3_code (1 : Nat) (Option.some Jvm.ClassFile.FieldType.boolean), Jvm.Cond.code ({ cls := "java/lang/StringLatin1", name := "toBytes", desc := "(C)[B" } : Jvm.MethodName) jdk_43_method_46_code (1 : Nat) (Option.some (Jvm.ClassFile.FieldType.array Jvm.ClassFile.FieldType.byte)), Jvm.Cond.code ({ cls := "java/lang/String", name := "<init>", desc := "([BB)V" } : Jvm.MethodName) jdk_42_method_151_code (3 : Nat) (Option.none : Option Jvm.ClassFile.FieldType)]
set_option maxRecDepth 65536 in
theorem codes_eq : words1.filter isCode = codes1 := rfl
theorem w_codes : ∀ c ∈ words1.filter isCode, c.before args0 about1 = true := by
  rw [codes_eq]
  intro c hc
  simp only [codes1, List.mem_cons, List.not_mem_nil, or_false] at hc
  rcases hc with rfl | rfl | rfl | rfl | rfl | rfl | rfl | rfl | rfl | rfl | rfl | rfl | rfl | rfl | rfl | rfl | rfl | rfl
  · exact w_c0
  · exact w_c1
  · exact w_c2
  · exact w_c3
  · exact w_c4
  · exact w_c5
  · exact w_c6
  · exact w_c7
  · exact w_c8
  · exact w_c9
  · exact w_c10
  · exact w_c11
  · exact w_c12
  · exact w_c13
  · exact w_c14
  · exact w_c15
  · exact w_c16
  · exact w_c17
set_option maxRecDepth 65536 in
theorem w_t1 : (words1.take 24).all (fun c => isCode c || c.before args0 about1) = true := by decide +kernel
set_option maxRecDepth 65536 in
theorem w_t2 : ((words1.drop 24).take 24).all (fun c => isCode c || c.before args0 about1) = true := by decide +kernel
set_option maxRecDepth 65536 in
theorem w_t3 : (((words1.drop 24).drop 24).take 24).all (fun c => isCode c || c.before args0 about1) = true := by decide +kernel
set_option maxRecDepth 65536 in
theorem w_t4 : ((((words1.drop 24).drop 24).drop 24).take 24).all (fun c => isCode c || c.before args0 about1) = true := by decide +kernel
set_option maxRecDepth 65536 in
theorem w_t5 : ((((words1.drop 24).drop 24).drop 24).drop 24).all (fun c => isCode c || c.before args0 about1) = true := by decide +kernel
theorem w_tables : (allAtoms (Jvm.Cond.code x code maxLocals ret :: tables_1)).before args0 about1 = true := by
  rw [allAtoms_all]
  show words1.all (fun c => c.before args0 about1) = true
  refine all_split ?_ w_codes
  rw [← List.take_append_drop 24 words1, List.all_append, w_t1, ← List.take_append_drop 24 (words1.drop 24), List.all_append, w_t2, ← List.take_append_drop 24 ((words1.drop 24).drop 24), List.all_append, w_t3, ← List.take_append_drop 24 (((words1.drop 24).drop 24).drop 24), List.all_append, w_t4, w_t5]
  rfl
set_option maxRecDepth 65536 in
theorem w_rest : rest_1_c.before args0 about1 = true := by decide +kernel
set_option maxRecDepth 65536 in
theorem w_case : (Jvm.Cond.and given_1 narrow_1).before args0 about1 = true := by decide +kernel
set_option maxRecDepth 65536 in
theorem w_consts : constsHeld consts_1 about1 := Jvm.Lit.constsHeldB_iff.mp (by decide +kernel)
theorem w_applies : (headSpec (Jvm.Cond.code x code maxLocals ret :: tables_1) room_1).applies x e0.platform about1 = true :=
  (Spec.applies_iff w_frames).mpr ⟨w_running, w_runnable, w_alone, w_named, w_hears, w_ripe, w_room, w_tables⟩
theorem atStart : AtStart classFile x code maxLocals ret World_1 tables_1 room_1 Calls_1 rest_1 Pre_1 launch0 p0 e0 about1 theMethod args0 below0 :=
  ⟨lists_1, trivial, launch0.admits_env _ _ _, launch0.least_env, fairChoices_fair.cas, fairChoices_fair.clock, w_frames, w_args, w_heap, w_applies, ⟨w_consts, trivial⟩, w_rest, w_case⟩
end start1
theorem witness_1 : WitnessClaimed_1 := ⟨start1.p0, start1.e0, start1.about1, start1.theMethod, start1.args0, start1.below0, start1.atStart⟩
end Jvm.Pilot.@@N@@
