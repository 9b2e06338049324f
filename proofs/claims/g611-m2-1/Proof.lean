import JvmDerived
import JvmDerived.Pilot.@@N@@Statement
import JvmDerived.Pilot.@@N@@Code
set_option linter.unusedVariables false
set_option linter.unusedSimpArgs false
/- laws to paste: Road.backV (cut by pick.py; bodies as the Statement names them) -/
namespace Jvm.Pilot.@@N@@
namespace StrChars
open Jvm Sem ClassFile Op Lib Jvm.Stand Jvm.Free.XT Jvm.Free.ALB Jvm.Free.JM Jvm.Free
open Jvm.Lib.Cold (StaticIs)
/-- a char array whose places are chars -/
def Ch (a : Addr) (A : Cell) (U : State) : Prop := Arr .char a A U ∧ Typed .char A
theorem Ch.mv {a : Addr} {A : Cell} {U U' : State} (h : Ch a A U) (hal : U.vm.Alike U'.vm) (hh : U'.heap = U.heap) : Ch a A U' := ⟨h.1.mv hal hh, h.2⟩
theorem Ch.keep {a : Addr} {A : Cell} {U U' : State} (h : Ch a A U) (hal : U.vm.Alike U'.vm) (hk : U'.heap[a]? = some A) : Ch a A U' := ⟨h.1.keep hal hk, h.2⟩
/-- what place i of a char[]'s cell holds -/
def cv (A : Cell) (i : Nat) : Int32 := match A.slots[i]? with | some (.int x) => x | _ => 0
theorem Ch.get {a : Addr} {A : Cell} {U : State} (h : Ch a A U) {i : Nat} (hi : i < A.slots.size) : A.slots[i]? = some (.int (cv A i)) := by
  have e := Array.getElem?_eq_getElem hi
  have f := h.2 i _ e
  unfold cv; rw [e]
  generalize A.slots[i] = v at f
  cases v <;> simp [fits] at f ⊢
/-- the byte that i2b leaves of a char -/
def lo8 (x : Int32) : Int32 := x.toInt8.toInt32
theorem fits_lo8 (y : Int32) : fits .byte (.int (lo8 y)) = true := by
  have h1 := y.toInt8.le_toInt
  have h2 := y.toInt8.toInt_lt
  simp only [lo8, fits, Bool.and_eq_true, decide_eq_true_eq, Int32.le_iff_toInt_le, Int8.toInt_toInt32, show (-128 : Int32).toInt = -128 from by decide, show (127 : Int32).toInt = 127 from by decide]
  omega
/-- A' is A but that each place j of lo .. hi - 1 holds f j -/
def Laid (A A' : Cell) (lo hi : Nat) (f : Nat → Value) : Prop := A'.cls = A.cls ∧ A'.vm = A.vm ∧ A'.slots.size = A.slots.size ∧ ∀ i, A'.slots[i]? = if lo ≤ i ∧ i < hi then some (f i) else A.slots[i]?
theorem Laid.zero (A : Cell) (lo : Nat) (f : Nat → Value) : Laid A A lo (lo + 0) f := ⟨rfl, rfl, rfl, fun i => by rw [if_neg (by omega)]⟩
theorem Laid.step {A Ak : Cell} {lo k : Nat} {f : Nat → Value} {v : Value} (h : Laid A Ak lo k f) (hlo : lo ≤ k) (hk : k < Ak.slots.size) (hv : v = f k) : Laid A (Ak.setSlot k v) lo (k + 1) f := by
  refine ⟨h.1, h.2.1, by simpa [Cell.setSlot] using h.2.2.1, fun i => ?_⟩
  by_cases e : k = i
  · subst e; rw [Cell.slots_setSlot_self v hk, if_pos (by omega), hv]
  · rw [Cell.slots_setSlot_ne v e, h.2.2.2 i]
    by_cases q : lo ≤ i ∧ i < k
    · rw [if_pos q, if_pos (by omega)]
    · rw [if_neg q, if_neg (by omega)]
def U16 : String := "java/lang/StringUTF16"
namespace Cmp5
def yN : MethodName := ⟨"java/lang/StringUTF16", "compress", "([CI[BII)I"⟩
abbrev yB : ByteArray := jdk_52_method_21_code
theorem d0 : decode yB 0 = .ok (.iconst 0, 1) := by decide +kernel
theorem d1 : decode yB 1 = .ok (.istore 5, 2) := by decide +kernel
theorem d3 : decode yB 3 = .ok (.iload 5, 2) := by decide +kernel
theorem d5 : decode yB 5 = .ok (.iload 4, 2) := by decide +kernel
theorem d7 : decode yB 7 = .ok (.if_icmp (.ge) 37, 3) := by decide +kernel
theorem d10 : decode yB 10 = .ok (.aload_n 0, 1) := by decide +kernel
theorem d11 : decode yB 11 = .ok (.iload_n 1, 1) := by decide +kernel
theorem d12 : decode yB 12 = .ok (.caload, 1) := by decide +kernel
theorem d13 : decode yB 13 = .ok (.istore 6, 2) := by decide +kernel
theorem d15 : decode yB 15 = .ok (.iload 6, 2) := by decide +kernel
theorem d17 : decode yB 17 = .ok (.sipush 255, 3) := by decide +kernel
theorem d20 : decode yB 20 = .ok (.if_icmp (.le) 6, 3) := by decide +kernel
theorem d26 : decode yB 26 = .ok (.aload_n 2, 1) := by decide +kernel
theorem d27 : decode yB 27 = .ok (.iload_n 3, 1) := by decide +kernel
theorem d28 : decode yB 28 = .ok (.iload 6, 2) := by decide +kernel
theorem d30 : decode yB 30 = .ok (.i2b, 1) := by decide +kernel
theorem d31 : decode yB 31 = .ok (.bastore, 1) := by decide +kernel
theorem d32 : decode yB 32 = .ok (.iinc 1 1, 3) := by decide +kernel
theorem d35 : decode yB 35 = .ok (.iinc 3 1, 3) := by decide +kernel
theorem d38 : decode yB 38 = .ok (.iinc 5 1, 3) := by decide +kernel
theorem d41 : decode yB 41 = .ok (.goto (-38), 3) := by decide +kernel
theorem d44 : decode yB 44 = .ok (.iload 4, 2) := by decide +kernel
theorem d46 : decode yB 46 = .ok (.ireturn, 1) := by decide +kernel
def site : List Cond := []
def tab : Cond := tabOf yN yB 7 (some .int) site
def P (b : Addr) (A : Cell) (d : Addr) (B : Cell) (o q len : Nat) (args : Array Value) (s : State) : Prop := args = #[.ref b, .int (Int32.ofNat o), .ref d, .int (Int32.ofNat q), .int (Int32.ofNat len)] ∧ Ch b A s ∧ Arr .byte d B s ∧ b ≠ d ∧ o + len ≤ A.slots.size ∧ q + len ≤ B.slots.size ∧ ∀ i, i < len → ¬ 255 < cv A (o + i)
def E (b : Addr) (A : Cell) (d : Addr) (B : Cell) (o q len : Nat) (r : Option Value) (s u : State) : Prop := r = some (.int (Int32.ofNat len)) ∧ ∃ B', Put d B' s u ∧ Laid B B' q (q + len) (fun j => Value.int (lo8 (cv A (o + (j - q)))))
/-- no char of the range above 255: len; the places written hold each char's low byte -/
theorem law (l : Launch) (b : Addr) (A : Cell) (d : Addr) (B : Cell) (o q len : Nat) : Law l yN 5 5 0 0 yB 7 (some .int) site (P b A d B o q len) (E b A d B o q len) (copyLocs d q len) 0 0 := by
  refine Law.of_walk (plainFor_of_name (by decide +kernel)) (by decide +kernel) (by decide +kernel) (by decide) (fun _ _ h => by rw [h.1]; rfl) (fun _ U U' hal hh h => ⟨h.1, h.2.1.mv hal hh, h.2.2.1.mv hal hh, h.2.2.2⟩) (fun r U U' V V' h1 hal h2 h => ⟨h.1, h.2.elim fun B' q => ⟨B', q.1.mv h1 h2, q.2⟩⟩) ?_
  intro p e s m args below meth c s₁ X0 hexec hbytes hml hret hlk hnm hown hh0 W hP
  obtain ⟨rfl, hA, hB, hne, l1, l2, hp⟩ := hP
  have c1 : Steps p.tables e below (s₁.setTop (entryFrame m #[.ref b, .int (Int32.ofNat o), .ref d, .int (Int32.ofNat q), .int (Int32.ofNat len)] 7)) (s₁.setTop (mkF m 0 #[.val (.ref b), .val (.int (Int32.ofNat o)), .val (.ref d), .val (.int (Int32.ofNat q)), .val (.int (Int32.ofNat len)), .unset, .unset] [])) := entry rfl
  have hA0 := hA.1.mv X0.warmed.alike hh0
  have hB0 := hB.mv X0.warmed.alike hh0
  have a31 := hA.1.2.2.2
  have c2 : Steps p.tables e below (s₁.setTop (entryFrame m #[.ref b, .int (Int32.ofNat o), .ref d, .int (Int32.ofNat q), .int (Int32.ofNat len)] 7)) (s₁.setTop (mkF m 3 #[.val (.ref b), .val (.int (Int32.ofNat o)), .val (.ref d), .val (.int (Int32.ofNat q)), .val (.int (Int32.ofNat len)), .val (.int 0), .unset] [])) := c1.trans (by
    refine iconstV X0.here hexec rfl 0 (hb hbytes d0) (by decide) ?_
    refine XS.istore X0.here hexec rfl (hb hbytes d1) rfl rfl ?_
    exact Steps.refl _)
  have loop : ∀ (r i : Nat), i + r = len → ∀ (z : Slot), (z = .unset ∨ ∃ w, z = .val w ∧ w.category = 1) → ∀ (Tl : State) (Bk : Cell), Stand p l e { frames := 0, locals := 0, cells := 0, slots := 0 } s m #[.ref b, .int (Int32.ofNat o), .ref d, .int (Int32.ofNat q), .int (Int32.ofNat len)] below meth c Tl ([] ++ copyLocs d q i) 0 0 → Put d Bk s₁ Tl → Laid B Bk q (q + i) (fun j => Value.int (lo8 (cv A (o + (j - q))))) →
      Steps p.tables e below (s₁.setTop (entryFrame m #[.ref b, .int (Int32.ofNat o), .ref d, .int (Int32.ofNat q), .int (Int32.ofNat len)] 7)) (Tl.setTop (mkF m 3 #[.val (.ref b), .val (.int (Int32.ofNat (o + i))), .val (.ref d), .val (.int (Int32.ofNat (q + i))), .val (.int (Int32.ofNat len)), .val (.int (Int32.ofNat i)), z] [])) → ∃ (T' : State) (B' : Cell) (z' : Slot), Stand p l e { frames := 0, locals := 0, cells := 0, slots := 0 } s m #[.ref b, .int (Int32.ofNat o), .ref d, .int (Int32.ofNat q), .int (Int32.ofNat len)] below meth c T' ([] ++ copyLocs d q len) 0 0 ∧ Put d B' s₁ T' ∧ Laid B B' q (q + len) (fun j => Value.int (lo8 (cv A (o + (j - q))))) ∧
      Steps p.tables e below (s₁.setTop (entryFrame m #[.ref b, .int (Int32.ofNat o), .ref d, .int (Int32.ofNat q), .int (Int32.ofNat len)] 7)) (T'.setTop (mkF m 3 #[.val (.ref b), .val (.int (Int32.ofNat (o + len))), .val (.ref d), .val (.int (Int32.ofNat (q + len))), .val (.int (Int32.ofNat len)), .val (.int (Int32.ofNat len)), z'] [])) := by
    intro r
    induction r with
    | zero =>
      intro i hi z hz Tl Bk Xl pl fl cl
      have hil : i = len := by omega
      rw [hil] at Xl fl cl
      exact ⟨Tl, Bk, z, Xl, pl, fl, cl⟩
    | succ r ih =>
      intro i hi z hz Tl Bk Xl pl fl cl
      have all := X0.warmed.alike.symm.trans Xl.warmed.alike
      have hAl := hA0.keep all (pl.other hne hA0.1)
      have hBk := hB0.like all pl.1 fl.1 fl.2.1 fl.2.2.1
      have hlt : q + i < Bk.slots.size := by rw [fl.2.2.1]; omega
      have c3 : Steps p.tables e below (s₁.setTop (entryFrame m #[.ref b, .int (Int32.ofNat o), .ref d, .int (Int32.ofNat q), .int (Int32.ofNat len)] 7)) (Tl.setTop (mkF m 12 #[.val (.ref b), .val (.int (Int32.ofNat (o + i))), .val (.ref d), .val (.int (Int32.ofNat (q + i))), .val (.int (Int32.ofNat len)), .val (.int (Int32.ofNat i)), z] [.int (Int32.ofNat (o + i)), .ref b])) := cl.trans (by
        refine XS.iload Xl.here hexec rfl (hb hbytes d3) rfl ?_
        refine XS.iload Xl.here hexec rfl (hb hbytes d5) rfl ?_
        refine XS.icmpNo Xl.here hexec rfl (hb hbytes d7) rfl (ii_ge_f (lt32 (by omega) (by omega))) ?_
        refine XS.aloadN Xl.here hexec rfl (hb hbytes d10) rfl rfl ?_
        refine XS.iloadN Xl.here hexec rfl (hb hbytes d11) rfl ?_
        exact Steps.refl _)
      have c4 : Steps p.tables e below (s₁.setTop (entryFrame m #[.ref b, .int (Int32.ofNat o), .ref d, .int (Int32.ofNat q), .int (Int32.ofNat len)] 7)) (Tl.setTop (mkF m 13 #[.val (.ref b), .val (.int (Int32.ofNat (o + i))), .val (.ref d), .val (.int (Int32.ofNat (q + i))), .val (.int (Int32.ofNat len)), .val (.int (Int32.ofNat i)), z] [.int (cv A (o + i))])) := c3.trans (by
        refine Xl.aget hexec hAl rfl (hA.get (i := o + i) (by omega)) rfl rfl (hb hbytes d12) ?_
        exact Steps.refl _)
      have c5 : Steps p.tables e below (s₁.setTop (entryFrame m #[.ref b, .int (Int32.ofNat o), .ref d, .int (Int32.ofNat q), .int (Int32.ofNat len)] 7)) (Tl.setTop (mkF m 15 #[.val (.ref b), .val (.int (Int32.ofNat (o + i))), .val (.ref d), .val (.int (Int32.ofNat (q + i))), .val (.int (Int32.ofNat len)), .val (.int (Int32.ofNat i)), .val (.int (cv A (o + i)))] [])) := c4.trans (by
        refine XS.istoreS Xl.here hexec rfl (hb hbytes d13) rfl rfl hz ?_
        exact Steps.refl _)
      have c6 : Steps p.tables e below (s₁.setTop (entryFrame m #[.ref b, .int (Int32.ofNat o), .ref d, .int (Int32.ofNat q), .int (Int32.ofNat len)] 7)) (Tl.setTop (mkF m 31 #[.val (.ref b), .val (.int (Int32.ofNat (o + i))), .val (.ref d), .val (.int (Int32.ofNat (q + i))), .val (.int (Int32.ofNat len)), .val (.int (Int32.ofNat i)), .val (.int (cv A (o + i)))] [.int (lo8 (cv A (o + i))), .int (Int32.ofNat (q + i)), .ref d])) := c5.trans (by
        refine XS.iload Xl.here hexec rfl (hb hbytes d15) rfl ?_
        refine sipushV Xl.here hexec rfl 255 (hb hbytes d17) (by decide) ?_
        refine XS.icmpYes Xl.here hexec rfl (pc0 := 20) rfl (hb hbytes d20) rfl (ii_le_t (hp i (by omega))) (by decide) rfl ?_
        refine XS.aloadN Xl.here hexec rfl (hb hbytes d26) rfl rfl ?_
        refine XS.iloadN Xl.here hexec rfl (hb hbytes d27) rfl ?_
        refine XS.iload Xl.here hexec rfl (hb hbytes d28) rfl ?_
        refine i2b Xl.here hexec rfl (hb hbytes d30) rfl ?_
        exact Steps.refl _)
      obtain ⟨T7, X7, p7, st7⟩ := Xl.aput hexec hBk rfl hlt rfl (fits_lo8 (cv A (o + i))) (g := (mkF m 31 #[.val (.ref b), .val (.int (Int32.ofNat (o + i))), .val (.ref d), .val (.int (Int32.ofNat (q + i))), .val (.int (Int32.ofNat len)), .val (.int (Int32.ofNat i)), .val (.int (cv A (o + i)))] [.int (lo8 (cv A (o + i))), .int (Int32.ofNat (q + i)), .ref d])) rfl (rest := []) rfl (hb hbytes d31)
      have c8 : Steps p.tables e below (s₁.setTop (entryFrame m #[.ref b, .int (Int32.ofNat o), .ref d, .int (Int32.ofNat q), .int (Int32.ofNat len)] 7)) (T7.setTop (mkF m 32 #[.val (.ref b), .val (.int (Int32.ofNat (o + i))), .val (.ref d), .val (.int (Int32.ofNat (q + i))), .val (.int (Int32.ofNat len)), .val (.int (Int32.ofNat i)), .val (.int (cv A (o + i)))] [])) := c6.trans (st7 _ (Steps.refl _))
      have c9 : Steps p.tables e below (s₁.setTop (entryFrame m #[.ref b, .int (Int32.ofNat o), .ref d, .int (Int32.ofNat q), .int (Int32.ofNat len)] 7)) (T7.setTop (mkF m 3 #[.val (.ref b), .val (.int (Int32.ofNat (o + i) + 1)), .val (.ref d), .val (.int (Int32.ofNat (q + i) + 1)), .val (.int (Int32.ofNat len)), .val (.int (Int32.ofNat i + 1)), .val (.int (cv A (o + i)))] [])) := c8.trans (by
        refine iincV X7.here hexec rfl 1 (hb hbytes d32) (by decide) rfl rfl ?_
        refine iincV X7.here hexec rfl 1 (hb hbytes d35) (by decide) rfl rfl ?_
        refine iincV X7.here hexec rfl 1 (hb hbytes d38) (by decide) rfl rfl ?_
        refine XS.goto X7.here hexec rfl (pc0 := 41) rfl (hb hbytes d41) (by decide) rfl ?_
        exact Steps.refl _)
      have c10 : Steps p.tables e below (s₁.setTop (entryFrame m #[.ref b, .int (Int32.ofNat o), .ref d, .int (Int32.ofNat q), .int (Int32.ofNat len)] 7)) (T7.setTop (mkF m 3 #[.val (.ref b), .val (.int (Int32.ofNat (o + (i + 1)))), .val (.ref d), .val (.int (Int32.ofNat (q + (i + 1)))), .val (.int (Int32.ofNat len)), .val (.int (Int32.ofNat (i + 1))), .val (.int (cv A (o + i)))] [])) := by
        have := c9
        rw [succ32, succ32, succ32] at this
        exact this
      exact ih (i + 1) (by omega) _ (Or.inr ⟨_, rfl, rfl⟩) T7 _ (by rw [copyLocs_step, ← List.append_assoc]; exact X7) (pl.trans p7) (fl.step (by omega) hlt (by simp)) c10
  obtain ⟨T9, B9, z9, X9, p9, f9, g9⟩ := loop len 0 (by omega) .unset (Or.inl rfl) s₁ B (by simpa [copyLocs] using X0) ⟨hB0.1, fun _ _ => rfl, rfl⟩ (Laid.zero _ _ _) c2
  have c11 : Steps p.tables e below (s₁.setTop (entryFrame m #[.ref b, .int (Int32.ofNat o), .ref d, .int (Int32.ofNat q), .int (Int32.ofNat len)] 7)) (T9.setTop (mkF m 46 #[.val (.ref b), .val (.int (Int32.ofNat (o + len))), .val (.ref d), .val (.int (Int32.ofNat (q + len))), .val (.int (Int32.ofNat len)), .val (.int (Int32.ofNat len)), z9] [.int (Int32.ofNat len)])) := g9.trans (by
    refine XS.iload X9.here hexec rfl (hb hbytes d3) rfl ?_
    refine XS.iload X9.here hexec rfl (hb hbytes d5) rfl ?_
    refine XS.icmpYes X9.here hexec rfl (pc0 := 7) rfl (hb hbytes d7) rfl (ii_ge_t (nlt32 (by omega) (Nat.le_refl _))) (by decide) rfl ?_
    refine XS.iload X9.here hexec rfl (hb hbytes d44) rfl ?_
    exact Steps.refl _)
  exact ⟨T9, some (.int (Int32.ofNat len)), _, _, _, X9, by simp, rfl, rfl, (fun h => by cases h), ⟨rfl, B9, p9.from hh0, f9⟩, fun fs hl => c11.trans (X9.ireturnOut hexec hret rfl (Or.inl rfl) (hb hbytes d46) hl)⟩
end Cmp5
namespace Cmp3
def yN : MethodName := ⟨"java/lang/StringUTF16", "compress", "([CII)[B"⟩
abbrev yB : ByteArray := jdk_52_method_16_code
theorem d0 : decode yB 0 = .ok (.iload_n 2, 1) := by decide +kernel
theorem d1 : decode yB 1 = .ok (.newarray .byte, 2) := by decide +kernel
theorem d3 : decode yB 3 = .ok (.astore_n 3, 1) := by decide +kernel
theorem d4 : decode yB 4 = .ok (.aload_n 0, 1) := by decide +kernel
theorem d5 : decode yB 5 = .ok (.iload_n 1, 1) := by decide +kernel
theorem d6 : decode yB 6 = .ok (.aload_n 3, 1) := by decide +kernel
theorem d7 : decode yB 7 = .ok (.iconst 0, 1) := by decide +kernel
theorem d8 : decode yB 8 = .ok (.iload_n 2, 1) := by decide +kernel
theorem d9 : decode yB 9 = .ok (.invokestatic 115, 3) := by decide +kernel
theorem d12 : decode yB 12 = .ok (.istore 4, 2) := by decide +kernel
theorem d14 : decode yB 14 = .ok (.iload 4, 2) := by decide +kernel
theorem d16 : decode yB 16 = .ok (.iload_n 2, 1) := by decide +kernel
theorem d17 : decode yB 17 = .ok (.if_icmp (.eq) 40, 3) := by decide +kernel
theorem d57 : decode yB 57 = .ok (.aload_n 3, 1) := by decide +kernel
theorem d58 : decode yB 58 = .ok (.areturn, 1) := by decide +kernel
def site : List Cond := [.arrayClass .byte, Cmp5.tab] ++ staticW U16 115 Cmp5.yN
def tab : Cond := tabOf yN yB 6 (some (.array .byte)) site
def P (b : Addr) (A : Cell) (o len : Nat) (args : Array Value) (s : State) : Prop := args = #[.ref b, .int (Int32.ofNat o), .int (Int32.ofNat len)] ∧ Ch b A s ∧ o + len ≤ A.slots.size ∧ len ≤ 536870912 ∧ ∀ i, i < len → ¬ 255 < cv A (o + i)
def E (b : Addr) (A : Cell) (o len : Nat) (r : Option Value) (s u : State) : Prop := NewArr .byte "[B" len (fun j => .int (lo8 (cv A (o + j)))) r s u ∧ u.heap.size = s.heap.size + 1
/-- no char of the range above 255: a new byte[] of their low bytes -/
theorem law (l : Launch) (b : Addr) (A : Cell) (o len : Nat) : Law l yN 3 3 1 18 yB 6 (some (.array .byte)) site (P b A o len) (E b A o len) [] 1 len := by
  refine Law.of_walk (plainFor_of_name (by decide +kernel)) (by decide +kernel) (by decide +kernel) (by decide) (fun _ _ h => by rw [h.1]; rfl) (fun _ U U' hal hh h => ⟨h.1, h.2.1.mv hal hh, h.2.2⟩) (fun r U U' V V' h1 hal h2 h => ⟨NewArr.mv r U U' V V' h1 hal h2 h.1, by rw [h1, h2]; exact h.2⟩) ?_
  intro p e s m args below meth c s₁ X0 hexec hbytes hml hret hlk hnm hown hh0 W hP
  obtain ⟨rfl, hA, l1, l2, hp⟩ := hP
  have a31 := hA.1.2.2.2
  have c1 : Steps p.tables e below (s₁.setTop (entryFrame m #[.ref b, .int (Int32.ofNat o), .int (Int32.ofNat len)] 6)) (s₁.setTop (mkF m 0 #[.val (.ref b), .val (.int (Int32.ofNat o)), .val (.int (Int32.ofNat len)), .unset, .unset, .unset] [])) := entry rfl
  have c2 : Steps p.tables e below (s₁.setTop (entryFrame m #[.ref b, .int (Int32.ofNat o), .int (Int32.ofNat len)] 6)) (s₁.setTop (mkF m 1 #[.val (.ref b), .val (.int (Int32.ofNat o)), .val (.int (Int32.ofNat len)), .unset, .unset, .unset] [.int (Int32.ofNat len)])) := c1.trans (by
    refine XS.iloadN X0.here hexec rfl (hb hbytes d0) rfl ?_
    exact Steps.refl _)
  obtain ⟨T3, B3, X3, ba3, bs3, bv3, bh3, bf3, st3⟩ := X0.anew hexec (atype := .byte) (wk W (.arrayClass .byte)) rfl (by show len * 1 ≤ _; omega) (by omega) (g := (mkF m 1 #[.val (.ref b), .val (.int (Int32.ofNat o)), .val (.int (Int32.ofNat len)), .unset, .unset, .unset] [.int (Int32.ofNat len)])) rfl (hb hbytes d1) (rest := []) rfl (Nat.le_refl _) (by show 0 + len ≤ len; omega)
  rw [hh0] at ba3 st3
  have kp3 : XT.Kept s T3 := (XT.Kept.of_eq hh0).push bh3
  have hA3 := hA.keep X3.warmed.alike (kp3 _ _ hA.1.1)
  have hne : b ≠ s.heap.size := hA.1.ne
  have c4 : Steps p.tables e below (s₁.setTop (entryFrame m #[.ref b, .int (Int32.ofNat o), .int (Int32.ofNat len)] 6)) (T3.setTop (mkF m 3 #[.val (.ref b), .val (.int (Int32.ofNat o)), .val (.int (Int32.ofNat len)), .unset, .unset, .unset] [.ref s.heap.size])) := c2.trans (st3 _ (Steps.refl _))
  have c5 : Steps p.tables e below (s₁.setTop (entryFrame m #[.ref b, .int (Int32.ofNat o), .int (Int32.ofNat len)] 6)) (T3.setTop (mkF m 9 #[.val (.ref b), .val (.int (Int32.ofNat o)), .val (.int (Int32.ofNat len)), .val (.ref s.heap.size), .unset, .unset] [.int (Int32.ofNat len), .int 0, .ref s.heap.size, .int (Int32.ofNat o), .ref b])) := c4.trans (by
    refine XS.astoreN X3.here hexec rfl (hb hbytes d3) rfl rfl rfl ?_
    refine XS.aloadN X3.here hexec rfl (hb hbytes d4) rfl rfl ?_
    refine XS.iloadN X3.here hexec rfl (hb hbytes d5) rfl ?_
    refine XS.aloadN X3.here hexec rfl (hb hbytes d6) rfl rfl ?_
    refine iconstV X3.here hexec rfl 0 (hb hbytes d7) (by decide) ?_
    refine XS.iloadN X3.here hexec rfl (hb hbytes d8) rfl ?_
    exact Steps.refl _)
  obtain ⟨v6, T6, X6, E6, g6⟩ := X3.callS hexec (Cmp5.law l b A s.heap.size B3 o 0 len) hown (wks W (staticW U16 115 Cmp5.yN)) (wk W Cmp5.tab) (W := 0) (Nat.le_of_ble_eq_true rfl) (Nat.le_of_ble_eq_true rfl) (Nat.le_refl _) (by show 0 + len + 0 ≤ len; omega) (g := (mkF m 9 #[.val (.ref b), .val (.int (Int32.ofNat o)), .val (.int (Int32.ofNat len)), .val (.ref s.heap.size), .unset, .unset] [.int (Int32.ofNat len), .int (Int32.ofNat 0), .ref s.heap.size, .int (Int32.ofNat o), .ref b])) rfl (by rw [hml]; rfl) c5 (argsL := [.ref b, .int (Int32.ofNat o), .ref s.heap.size, .int (Int32.ofNat 0), .int (Int32.ofNat len)]) (rest := []) rfl rfl (by show 2 * 0 + 0 ≤ _; decide) (hb hbytes d9) (⟨rfl, hA3, ba3, hne, l1, by rw [bs3]; simp, hp⟩)
  obtain ⟨rfl, B6, p6, f6⟩ := E6
  have c7 : Steps p.tables e below (s₁.setTop (entryFrame m #[.ref b, .int (Int32.ofNat o), .int (Int32.ofNat len)] 6)) (T6.setTop (mkF m 12 #[.val (.ref b), .val (.int (Int32.ofNat o)), .val (.int (Int32.ofNat len)), .val (.ref s.heap.size), .unset, .unset] [.int (Int32.ofNat len)])) := g6
  have c8 : Steps p.tables e below (s₁.setTop (entryFrame m #[.ref b, .int (Int32.ofNat o), .int (Int32.ofNat len)] 6)) (T6.setTop (mkF m 58 #[.val (.ref b), .val (.int (Int32.ofNat o)), .val (.int (Int32.ofNat len)), .val (.ref s.heap.size), .val (.int (Int32.ofNat len)), .unset] [.ref s.heap.size])) := c7.trans (by
    refine XS.istore X6.here hexec rfl (hb hbytes d12) rfl rfl ?_
    refine XS.iload X6.here hexec rfl (hb hbytes d14) rfl ?_
    refine XS.iloadN X6.here hexec rfl (hb hbytes d16) rfl ?_
    refine XS.icmpYes X6.here hexec rfl (pc0 := 17) rfl (hb hbytes d17) rfl (ii_eq_t rfl) (by decide) rfl ?_
    refine XS.aloadN X6.here hexec rfl (hb hbytes d57) rfl rfl ?_
    exact Steps.refl _)
  have X8 := X6.wide (L' := []) (cells' := 1) (slots' := len) (fun x hx hlt => by
    simp only [List.nil_append, copyLocs, List.mem_map, List.mem_range] at hx
    obtain ⟨i, -, rfl⟩ := hx
    exact absurd hlt (Nat.lt_irrefl _)) (Nat.le_refl _) (by omega)
  exact ⟨T6, some (.ref s.heap.size), _, _, _, X8, rfl, rfl, rfl, (fun h => by cases h), ⟨⟨rfl, B6, ba3.like (X3.warmed.alike.symm.trans X6.warmed.alike) p6.1 f6.1 f6.2.1 f6.2.2.1, f6.2.1.trans bv3, by rw [X6.warmed.alike.findClass, f6.1]; exact bf3, by rw [f6.2.2.1, bs3]; simp, fun j hj => by rw [f6.2.2.2 j, if_pos (by omega)]; rfl, kp3.put p6 (Nat.le_refl _)⟩, by rw [p6.2.2, bh3, hh0]; simp⟩, fun fs hl => c8.trans (X8.areturnOut hexec rfl hret rfl (hb hbytes d58) hl)⟩
end Cmp3
namespace CodL
def yN : MethodName := ⟨"java/lang/StringUTF16", "coderFromArrayLen", "([BI)B"⟩
abbrev yB : ByteArray := jdk_52_method_15_code
theorem d0 : decode yB 0 = .ok (.iload_n 1, 1) := by decide +kernel
theorem d1 : decode yB 1 = .ok (.aload_n 0, 1) := by decide +kernel
theorem d2 : decode yB 2 = .ok (.arraylength, 1) := by decide +kernel
theorem d3 : decode yB 3 = .ok (.isub, 1) := by decide +kernel
theorem d4 : decode yB 4 = .ok (.bipush 31, 2) := by decide +kernel
theorem d6 : decode yB 6 = .ok (.iushr, 1) := by decide +kernel
theorem d7 : decode yB 7 = .ok (.i2b, 1) := by decide +kernel
theorem d8 : decode yB 8 = .ok (.ireturn, 1) := by decide +kernel
def site : List Cond := []
def tab : Cond := tabOf yN yB 2 (some .byte) site
def P (d : Addr) (B : Cell) (args : Array Value) (s : State) : Prop := args = #[.ref d, .int (Int32.ofNat B.slots.size)] ∧ Arr .byte d B s
def E (r : Option Value) (s u : State) : Prop := XT.PureE (some (.int 0)) r s u
/-- an array as long as the number of chars: LATIN1 -/
theorem law (l : Launch) (d : Addr) (B : Cell) : Law l yN 2 2 0 0 yB 2 (some .byte) site (P d B) E [] 0 0 := by
  refine Law.of_walk (plainFor_of_name (by decide +kernel)) (by decide +kernel) (by decide +kernel) (by decide) (fun _ _ h => by rw [h.1]; rfl) (fun _ U U' hal hh h => ⟨h.1, h.2.mv hal hh⟩) (fun r U U' V V' h1 hal h2 h => XT.PureE.mv r U U' V V' h1 hal h2 h) ?_
  intro p e s m args below meth c s₁ X0 hexec hbytes hml hret hlk hnm hown hh0 W hP
  obtain ⟨rfl, hB⟩ := hP
  have hB0 := hB.mv X0.warmed.alike hh0
  have c1 : Steps p.tables e below (s₁.setTop (entryFrame m #[.ref d, .int (Int32.ofNat B.slots.size)] 2)) (s₁.setTop (mkF m 0 #[.val (.ref d), .val (.int (Int32.ofNat B.slots.size))] [])) := entry rfl
  have c2 : Steps p.tables e below (s₁.setTop (entryFrame m #[.ref d, .int (Int32.ofNat B.slots.size)] 2)) (s₁.setTop (mkF m 2 #[.val (.ref d), .val (.int (Int32.ofNat B.slots.size))] [.ref d, .int (Int32.ofNat B.slots.size)])) := c1.trans (by
    refine XS.iloadN X0.here hexec rfl (hb hbytes d0) rfl ?_
    refine XS.aloadN X0.here hexec rfl (hb hbytes d1) rfl rfl ?_
    exact Steps.refl _)
  have c3 : Steps p.tables e below (s₁.setTop (entryFrame m #[.ref d, .int (Int32.ofNat B.slots.size)] 2)) (s₁.setTop (mkF m 8 #[.val (.ref d), .val (.int (Int32.ofNat B.slots.size))] [.int (lo8 (ushr (Int32.ofNat B.slots.size - Int32.ofNat B.slots.size) 31))])) := c2.trans (by
    refine X0.alen hexec hB0 rfl rfl (hb hbytes d2) ?_
    refine XS.isub X0.here hexec rfl (hb hbytes d3) rfl ?_
    refine bipushV X0.here hexec rfl 31 (hb hbytes d4) (by decide) ?_
    refine iushr X0.here hexec rfl (hb hbytes d6) rfl ?_
    refine i2b X0.here hexec rfl (hb hbytes d7) rfl ?_
    exact Steps.refl _)
  have e0 : lo8 (ushr (Int32.ofNat B.slots.size - Int32.ofNat B.slots.size) 31) = 0 := by rw [Int32.sub_self]; decide
  rw [e0] at c3
  exact ⟨s₁, some (.int 0), _, _, _, X0, rfl, rfl, rfl, (fun h => by cases h), ⟨rfl, hh0⟩, fun fs hl => c3.trans (X0.ireturnOut hexec hret rfl (Or.inr (Or.inr (Or.inl rfl))) (hb hbytes d8) hl)⟩
end CodL
/-- the String at a is Latin-1 over a new byte[] (the heap's one new cell): the low bytes of the len chars of A from o on; every cell but a is kept -/
def Got (a : Addr) (D : Cell) (fV fC : Field) (A : Cell) (o len : Nat) (r : Option Value) (s u : State) : Prop := r = none ∧ ∃ D' V : Cell, Blank "java/lang/String" a D' u ∧ Same D D' [fV.slot, fC.slot] ∧ D'.slots[fV.slot]? = some (.ref s.heap.size) ∧ D'.slots[fC.slot]? = some (.int 0) ∧ Arr .byte s.heap.size V u ∧ V.vm = .none ∧ u.vm.findClass "[B" = some V.cls ∧ V.slots.size = len ∧ (∀ j, j < len → V.slots[j]? = some (.int (lo8 (cv A (o + j))))) ∧ (∀ (y : Addr) (c : Cell), y ≠ a → s.heap[y]? = some c → u.heap[y]? = some c) ∧ u.heap.size = s.heap.size + 1
theorem Got.mv {a : Addr} {D A : Cell} {fV fC : Field} {o len : Nat} : ∀ r (U U' V V' : State), U'.heap = U.heap → V.vm.Alike V'.vm → V'.heap = V.heap → Got a D fV fC A o len r U V → Got a D fV fC A o len r U' V' :=
  fun r U U' V V' h1 hal h2 ⟨e0, D', X, a1, a2, a3, a4, a5, a6, a7, a8, a9, a10, a11⟩ => ⟨e0, D', X, a1.mv hal h2, a2, by rw [h1]; exact a3, a4, by rw [h1]; exact a5.mv hal h2, a6, by rw [hal.findClass]; exact a7, a8, a9, by rw [h1, h2]; exact a10, by rw [h1, h2]; exact a11⟩
namespace New4
def yN : MethodName := ⟨"java/lang/String", "<init>", "([CIILjava/lang/Void;)V"⟩
abbrev yB : ByteArray := jdk_42_method_149_code
theorem d0 : decode yB 0 = .ok (.aload_n 0, 1) := by decide +kernel
theorem d1 : decode yB 1 = .ok (.invokespecial 1, 3) := by decide +kernel
theorem d4 : decode yB 4 = .ok (.iload_n 3, 1) := by decide +kernel
theorem d5 : decode yB 5 = .ok (.ifCond (.ne) 22, 3) := by decide +kernel
theorem d27 : decode yB 27 = .ok (.getstatic 38, 3) := by decide +kernel
theorem d30 : decode yB 30 = .ok (.ifCond (.eq) 28, 3) := by decide +kernel
theorem d33 : decode yB 33 = .ok (.aload_n 1, 1) := by decide +kernel
theorem d34 : decode yB 34 = .ok (.iload_n 2, 1) := by decide +kernel
theorem d35 : decode yB 35 = .ok (.iload_n 3, 1) := by decide +kernel
theorem d36 : decode yB 36 = .ok (.invokestatic 177, 3) := by decide +kernel
theorem d39 : decode yB 39 = .ok (.astore 5, 2) := by decide +kernel
theorem d41 : decode yB 41 = .ok (.aload_n 0, 1) := by decide +kernel
theorem d42 : decode yB 42 = .ok (.aload 5, 2) := by decide +kernel
theorem d44 : decode yB 44 = .ok (.iload_n 3, 1) := by decide +kernel
theorem d45 : decode yB 45 = .ok (.invokestatic 47, 3) := by decide +kernel
theorem d48 : decode yB 48 = .ok (.putfield 15, 3) := by decide +kernel
theorem d51 : decode yB 51 = .ok (.aload_n 0, 1) := by decide +kernel
theorem d52 : decode yB 52 = .ok (.aload 5, 2) := by decide +kernel
theorem d54 : decode yB 54 = .ok (.putfield 9, 3) := by decide +kernel
theorem d57 : decode yB 57 = .ok (.return_, 1) := by decide +kernel
def site : List Cond := [.fieldLink "java/lang/String" 38 "java/lang/String" "COMPACT_STRINGS" "Z", Cmp3.tab, CodL.tab, .laysFinal "java/lang/String" "java/lang/String" "value" "[B", .fieldLink "java/lang/String" 9 "java/lang/String" "value" "[B", .laysFinal "java/lang/String" "java/lang/String" "coder" "B", .fieldLink "java/lang/String" 15 "java/lang/String" "coder" "B"] ++ objW "java/lang/String" 1 ++ staticW "java/lang/String" 177 Cmp3.yN ++ staticW "java/lang/String" 47 CodL.yN
def tab : Cond := tabOf yN yB 6 none site
def P (a : Addr) (D : Cell) (fV fC : Field) (b : Addr) (A : Cell) (z : Int32) (o len : Nat) (args : Array Value) (s : State) : Prop := args = #[.ref a, .ref b, .int (Int32.ofNat o), .int (Int32.ofNat len), .null] ∧ Blank "java/lang/String" a D s ∧ Found "java/lang/String" "value" "[B" fV s ∧ Found "java/lang/String" "coder" "B" fC s ∧ Ch b A s ∧ StaticIs s "java/lang/String" "COMPACT_STRINGS" "Z" (.int z) ∧ ¬ z = 0 ∧ 0 < len ∧ o + len ≤ A.slots.size ∧ len ≤ 536870912 ∧ ∀ i, i < len → ¬ 255 < cv A (o + i)
def E (a : Addr) (D : Cell) (fV fC : Field) (A : Cell) (o len : Nat) (r : Option Value) (s u : State) : Prop := Got a D fV fC A o len r s u
/-- len > 0, no char of the range above 255: a Latin-1 String of their low bytes -/
theorem law (l : Launch) (a : Addr) (D : Cell) (fV fC : Field) (b : Addr) (A : Cell) (z : Int32) (o len : Nat) : Law l yN 5 4 2 35 yB 6 none site (P a D fV fC b A z o len) (E a D fV fC A o len) [⟨a, fC.slot⟩, ⟨a, fV.slot⟩] 1 len := by
  refine Law.of_walk (plainFor_of_name (by decide +kernel)) (by decide +kernel) (by decide +kernel) (by decide) (fun _ _ h => by rw [h.1]; rfl) (fun _ U U' hal hh h => ⟨h.1, h.2.1.mv hal hh, h.2.2.1.al hal, h.2.2.2.1.al hal, h.2.2.2.2.1.mv hal hh, h.2.2.2.2.2.1.there hal hh, h.2.2.2.2.2.2⟩) (fun r U U' V V' h1 hal h2 h => Got.mv r U U' V V' h1 hal h2 h) ?_
  intro p e s m args below meth c s₁ X0 hexec hbytes hml hret hlk hnm hown hh0 W hP
  obtain ⟨rfl, hB, f1, f2, hA, s1, hz, l0, l1, l2, hp⟩ := hP
  have a31 := hA.1.2.2.2
  have c1 : Steps p.tables e below (s₁.setTop (entryFrame m #[.ref a, .ref b, .int (Int32.ofNat o), .int (Int32.ofNat len), .null] 6)) (s₁.setTop (mkF m 0 #[.val (.ref a), .val (.ref b), .val (.int (Int32.ofNat o)), .val (.int (Int32.ofNat len)), .val .null, .unset] [])) := entry rfl
  have c2 : Steps p.tables e below (s₁.setTop (entryFrame m #[.ref a, .ref b, .int (Int32.ofNat o), .int (Int32.ofNat len), .null] 6)) (s₁.setTop (mkF m 1 #[.val (.ref a), .val (.ref b), .val (.int (Int32.ofNat o)), .val (.int (Int32.ofNat len)), .val .null, .unset] [.ref a])) := c1.trans (by
    refine XS.aloadN X0.here hexec rfl (hb hbytes d0) rfl rfl ?_
    exact Steps.refl _)
  obtain ⟨T3, X3, q3, st3⟩ := X0.oinit hexec hown (wks W (objW "java/lang/String" 1)) (g := (mkF m 1 #[.val (.ref a), .val (.ref b), .val (.int (Int32.ofNat o)), .val (.int (Int32.ofNat len)), .val .null, .unset] [.ref a])) rfl (by rw [hml]; rfl) (rest := []) rfl (hb hbytes d1) (W := 0) (by show 2 * 0 + 0 ≤ _; decide) (Nat.le_of_ble_eq_true rfl) (Nat.le_of_ble_eq_true rfl)
  have hh3 := q3.trans hh0
  have c4 : Steps p.tables e below (s₁.setTop (entryFrame m #[.ref a, .ref b, .int (Int32.ofNat o), .int (Int32.ofNat len), .null] 6)) (T3.setTop (mkF m 27 #[.val (.ref a), .val (.ref b), .val (.int (Int32.ofNat o)), .val (.int (Int32.ofNat len)), .val .null, .unset] [])) := (c2.trans (st3 _ (Steps.refl _))).trans (by
    refine XS.iloadN X3.here hexec rfl (hb hbytes d4) rfl ?_
    refine XS.ifYes X3.here hexec rfl (pc0 := 5) rfl (hb hbytes d5) rfl (i0_ne_t (nz32 (by omega) l0)) (by decide) rfl ?_
    exact Steps.refl _)
  obtain ⟨T5, X5, q5, st5⟩ := X3.sget hexec hown (wk W (.fieldLink "java/lang/String" 38 "java/lang/String" "COMPACT_STRINGS" "Z")) s1 (fun _ _ h => by rw [hh3]; exact h) (g := (mkF m 27 #[.val (.ref a), .val (.ref b), .val (.int (Int32.ofNat o)), .val (.int (Int32.ofNat len)), .val .null, .unset] [])) rfl (hb hbytes d27)
  have hh5 := q5.trans hh3
  have c6 : Steps p.tables e below (s₁.setTop (entryFrame m #[.ref a, .ref b, .int (Int32.ofNat o), .int (Int32.ofNat len), .null] 6)) (T5.setTop (mkF m 30 #[.val (.ref a), .val (.ref b), .val (.int (Int32.ofNat o)), .val (.int (Int32.ofNat len)), .val .null, .unset] [.int z])) := c4.trans (st5 _ (Steps.refl _))
  have c7 : Steps p.tables e below (s₁.setTop (entryFrame m #[.ref a, .ref b, .int (Int32.ofNat o), .int (Int32.ofNat len), .null] 6)) (T5.setTop (mkF m 36 #[.val (.ref a), .val (.ref b), .val (.int (Int32.ofNat o)), .val (.int (Int32.ofNat len)), .val .null, .unset] [.int (Int32.ofNat len), .int (Int32.ofNat o), .ref b])) := c6.trans (by
    refine XS.ifNo X5.here hexec rfl (hb hbytes d30) rfl (i0_eq_f hz) ?_
    refine XS.aloadN X5.here hexec rfl (hb hbytes d33) rfl rfl ?_
    refine XS.iloadN X5.here hexec rfl (hb hbytes d34) rfl ?_
    refine XS.iloadN X5.here hexec rfl (hb hbytes d35) rfl ?_
    exact Steps.refl _)
  obtain ⟨v8, T8, X8, E8, g8⟩ := X5.callS hexec (Cmp3.law l b A o len) hown (wks W (staticW "java/lang/String" 177 Cmp3.yN)) (wk W Cmp3.tab) (W := 0) (Nat.le_of_ble_eq_true rfl) (Nat.le_of_ble_eq_true rfl) (Nat.le_refl _) (by show 0 + len ≤ len; omega) (g := (mkF m 36 #[.val (.ref a), .val (.ref b), .val (.int (Int32.ofNat o)), .val (.int (Int32.ofNat len)), .val .null, .unset] [.int (Int32.ofNat len), .int (Int32.ofNat o), .ref b])) rfl (by rw [hml]; rfl) c7 (argsL := [.ref b, .int (Int32.ofNat o), .int (Int32.ofNat len)]) (rest := []) rfl rfl (by show 2 * 0 + 0 ≤ _; decide) (hb hbytes d36) (⟨rfl, hA.mv X5.warmed.alike hh5, l1, l2, hp⟩)
  obtain ⟨e8, z8⟩ := E8
  obtain ⟨rfl, N, n1, n2, n3, n4, n5, n6⟩ := NewArr.mv _ T5 s _ _ hh5.symm (Vm.Alike.refl _) rfl e8
  rw [hh5] at z8
  have hB1 := hB.keep X8.warmed.alike (n6 _ _ hB.1)
  have hne : s.heap.size ≠ a := (Nat.ne_of_lt (Array.getElem?_eq_some_iff.mp hB.1).1).symm
  have c9 : Steps p.tables e below (s₁.setTop (entryFrame m #[.ref a, .ref b, .int (Int32.ofNat o), .int (Int32.ofNat len), .null] 6)) (T8.setTop (mkF m 39 #[.val (.ref a), .val (.ref b), .val (.int (Int32.ofNat o)), .val (.int (Int32.ofNat len)), .val .null, .unset] [.ref s.heap.size])) := g8
  have c10 : Steps p.tables e below (s₁.setTop (entryFrame m #[.ref a, .ref b, .int (Int32.ofNat o), .int (Int32.ofNat len), .null] 6)) (T8.setTop (mkF m 45 #[.val (.ref a), .val (.ref b), .val (.int (Int32.ofNat o)), .val (.int (Int32.ofNat len)), .val .null, .val (.ref s.heap.size)] [.int (Int32.ofNat N.slots.size), .ref s.heap.size, .ref a])) := by
    have hc : Steps p.tables e below (s₁.setTop (entryFrame m #[.ref a, .ref b, .int (Int32.ofNat o), .int (Int32.ofNat len), .null] 6)) (T8.setTop (mkF m 45 #[.val (.ref a), .val (.ref b), .val (.int (Int32.ofNat o)), .val (.int (Int32.ofNat len)), .val .null, .val (.ref s.heap.size)] [.int (Int32.ofNat len), .ref s.heap.size, .ref a])) := c9.trans (by
      refine XS.astore X8.here hexec rfl (hb hbytes d39) rfl rfl rfl ?_
      refine XS.aloadN X8.here hexec rfl (hb hbytes d41) rfl rfl ?_
      refine XS.aload X8.here hexec rfl (hb hbytes d42) rfl rfl ?_
      refine XS.iloadN X8.here hexec rfl (hb hbytes d44) rfl ?_
      exact Steps.refl _)
    rw [n4]; exact hc
  obtain ⟨v11, T11, X11, E11, g11⟩ := X8.callS hexec (CodL.law l s.heap.size N) hown (wks W (staticW "java/lang/String" 47 CodL.yN)) (wk W CodL.tab) (W := 1) (Nat.le_of_ble_eq_true rfl) (Nat.le_of_ble_eq_true rfl) (Nat.le_refl _) (by show 0 + len + 0 ≤ len; omega) (g := (mkF m 45 #[.val (.ref a), .val (.ref b), .val (.int (Int32.ofNat o)), .val (.int (Int32.ofNat len)), .val .null, .val (.ref s.heap.size)] [.int (Int32.ofNat N.slots.size), .ref s.heap.size, .ref a])) rfl (by rw [hml]; rfl) c10 (argsL := [.ref s.heap.size, .int (Int32.ofNat N.slots.size)]) (rest := [.ref a]) rfl rfl (by show 2 * 0 + (1 + 0) ≤ _; decide) (hb hbytes d45) (⟨rfl, n1⟩)
  obtain ⟨rfl, q11⟩ := E11
  have hB11 := hB1.mv (X8.warmed.alike.symm.trans X11.warmed.alike) q11
  have c12 : Steps p.tables e below (s₁.setTop (entryFrame m #[.ref a, .ref b, .int (Int32.ofNat o), .int (Int32.ofNat len), .null] 6)) (T11.setTop (mkF m 48 #[.val (.ref a), .val (.ref b), .val (.int (Int32.ofNat o)), .val (.int (Int32.ofNat len)), .val .null, .val (.ref s.heap.size)] [.int 0, .ref a])) := g11
  obtain ⟨T13, X13, p13, bl13, sl13, st13⟩ := X11.finit hexec hown (wk W (.fieldLink "java/lang/String" 15 "java/lang/String" "coder" "B")) (Or.inr ⟨_, (wk W (.laysFinal "java/lang/String" "java/lang/String" "coder" "B"))⟩) (Or.inl ⟨rfl, hnm⟩) f2 (Or.inl rfl) hB11 (t := .byte) (by decide +kernel) rfl (g := (mkF m 48 #[.val (.ref a), .val (.ref b), .val (.int (Int32.ofNat o)), .val (.int (Int32.ofNat len)), .val .null, .val (.ref s.heap.size)] [.int 0, .ref a])) rfl (rest := []) rfl (hb hbytes d48)
  have c14 : Steps p.tables e below (s₁.setTop (entryFrame m #[.ref a, .ref b, .int (Int32.ofNat o), .int (Int32.ofNat len), .null] 6)) (T13.setTop (mkF m 54 #[.val (.ref a), .val (.ref b), .val (.int (Int32.ofNat o)), .val (.int (Int32.ofNat len)), .val .null, .val (.ref s.heap.size)] [.ref s.heap.size, .ref a])) := (c12.trans (st13 _ (Steps.refl _))).trans (by
    refine XS.aloadN X13.here hexec rfl (hb hbytes d51) rfl rfl ?_
    refine XS.aload X13.here hexec rfl (hb hbytes d52) rfl rfl ?_
    exact Steps.refl _)
  obtain ⟨T15, X15, p15, bl15, sl15, st15⟩ := X13.finit hexec hown (wk W (.fieldLink "java/lang/String" 9 "java/lang/String" "value" "[B")) (Or.inr ⟨_, (wk W (.laysFinal "java/lang/String" "java/lang/String" "value" "[B"))⟩) (Or.inl ⟨rfl, hnm⟩) f1 (Or.inl rfl) bl13 (t := (.array .byte)) (by decide +kernel) rfl (g := (mkF m 54 #[.val (.ref a), .val (.ref b), .val (.int (Int32.ofNat o)), .val (.int (Int32.ofNat len)), .val .null, .val (.ref s.heap.size)] [.ref s.heap.size, .ref a])) rfl (rest := []) rfl (hb hbytes d54)
  have c16 : Steps p.tables e below (s₁.setTop (entryFrame m #[.ref a, .ref b, .int (Int32.ofNat o), .int (Int32.ofNat len), .null] 6)) (T15.setTop (mkF m 57 #[.val (.ref a), .val (.ref b), .val (.int (Int32.ofNat o)), .val (.int (Int32.ofNat len)), .val .null, .val (.ref s.heap.size)] [])) := c14.trans (st15 _ (Steps.refl _))
  have ap := apart (Or.inr ⟨_, (wk W (.laysFinal "java/lang/String" "java/lang/String" "value" "[B"))⟩) (Or.inr ⟨_, (wk W (.laysFinal "java/lang/String" "java/lang/String" "coder" "B"))⟩) f1 f2 (t₁ := .array .byte) (t₂ := .byte) (by decide +kernel) (by decide +kernel) (by decide)
  have al := X8.warmed.alike.symm.trans X15.warmed.alike
  have n7 : T11.heap[s.heap.size]? = some N := by rw [q11]; exact n1.1
  exact ⟨T15, none, _, _, _, X15, by simp, rfl, by omega, (fun _ => rfl), ⟨rfl, _, N, bl15, ((Same.refl D _).set _ (by simp)).set _ (by simp), sl15, (Cell.slots_setSlot_ne _ ap).trans sl13, n1.keep al (p15.other hne (p13.other hne n7)), n2, by rw [al.findClass]; exact n3, n4, n5, fun y c h1 h2 => p15.other h1 (p13.other h1 (by rw [q11]; exact n6 y c h2)), by rw [p15.2.2, p13.2.2, q11]; exact z8⟩, fun fs hl => c16.trans (X15.returnOut hexec hret (hb hbytes d57) hl)⟩
end New4
namespace New1
def yN : MethodName := ⟨"java/lang/String", "<init>", "([C)V"⟩
abbrev yB : ByteArray := jdk_42_method_3_code
theorem d0 : decode yB 0 = .ok (.aload_n 0, 1) := by decide +kernel
theorem d1 : decode yB 1 = .ok (.aload_n 1, 1) := by decide +kernel
theorem d2 : decode yB 2 = .ok (.iconst 0, 1) := by decide +kernel
theorem d3 : decode yB 3 = .ok (.aload_n 1, 1) := by decide +kernel
theorem d4 : decode yB 4 = .ok (.arraylength, 1) := by decide +kernel
theorem d5 : decode yB 5 = .ok (.aconst_null, 1) := by decide +kernel
theorem d6 : decode yB 6 = .ok (.invokespecial 27, 3) := by decide +kernel
theorem d9 : decode yB 9 = .ok (.return_, 1) := by decide +kernel
def site : List Cond := [New4.tab] ++ initW "java/lang/String" 27 New4.yN
def tab : Cond := tabOf yN yB 2 none site
def P (a : Addr) (D : Cell) (fV fC : Field) (b : Addr) (A : Cell) (z : Int32) (args : Array Value) (s : State) : Prop := args = #[.ref a, .ref b] ∧ Blank "java/lang/String" a D s ∧ Found "java/lang/String" "value" "[B" fV s ∧ Found "java/lang/String" "coder" "B" fC s ∧ Ch b A s ∧ StaticIs s "java/lang/String" "COMPACT_STRINGS" "Z" (.int z) ∧ ¬ z = 0 ∧ 0 < A.slots.size ∧ A.slots.size ≤ 536870912 ∧ ∀ i, i < A.slots.size → ¬ 255 < cv A i
def E (a : Addr) (D : Cell) (fV fC : Field) (A : Cell) (r : Option Value) (s u : State) : Prop := Got a D fV fC A 0 A.slots.size r s u
/-- new String(chars), not empty, no char above 255: a Latin-1 String of their low bytes -/
theorem law (l : Launch) (a : Addr) (D : Cell) (fV fC : Field) (b : Addr) (A : Cell) (z : Int32) : Law l yN 2 1 3 52 yB 2 none site (P a D fV fC b A z) (E a D fV fC A) [⟨a, fC.slot⟩, ⟨a, fV.slot⟩] 1 A.slots.size := by
  refine Law.of_walk (plainFor_of_name (by decide +kernel)) (by decide +kernel) (by decide +kernel) (by decide) (fun _ _ h => by rw [h.1]; rfl) (fun _ U U' hal hh h => ⟨h.1, h.2.1.mv hal hh, h.2.2.1.al hal, h.2.2.2.1.al hal, h.2.2.2.2.1.mv hal hh, h.2.2.2.2.2.1.there hal hh, h.2.2.2.2.2.2⟩) (fun r U U' V V' h1 hal h2 h => Got.mv r U U' V V' h1 hal h2 h) ?_
  intro p e s m args below meth c s₁ X0 hexec hbytes hml hret hlk hnm hown hh0 W hP
  obtain ⟨rfl, hB, f1, f2, hA, s1, hz, l0, l2, hp⟩ := hP
  have c1 : Steps p.tables e below (s₁.setTop (entryFrame m #[.ref a, .ref b] 2)) (s₁.setTop (mkF m 0 #[.val (.ref a), .val (.ref b)] [])) := entry rfl
  have c2 : Steps p.tables e below (s₁.setTop (entryFrame m #[.ref a, .ref b] 2)) (s₁.setTop (mkF m 6 #[.val (.ref a), .val (.ref b)] [.null, .int (Int32.ofNat A.slots.size), .int 0, .ref b, .ref a])) := c1.trans (by
    refine XS.aloadN X0.here hexec rfl (hb hbytes d0) rfl rfl ?_
    refine XS.aloadN X0.here hexec rfl (hb hbytes d1) rfl rfl ?_
    refine iconstV X0.here hexec rfl 0 (hb hbytes d2) (by decide) ?_
    refine XS.aloadN X0.here hexec rfl (hb hbytes d3) rfl rfl ?_
    refine X0.alen hexec (hA.1.mv X0.warmed.alike hh0) rfl rfl (hb hbytes d4) ?_
    refine XS.aconstNull X0.here hexec rfl (hb hbytes d5) ?_
    exact Steps.refl _)
  obtain ⟨v3, T3, X3, E3, g3⟩ := X0.callN hexec (New4.law l a D fV fC b A z 0 A.slots.size) rfl hown (wks W (initW "java/lang/String" 27 New4.yN)) (W New4.tab (by simp only [site, List.mem_cons, List.mem_append, true_or, or_true])) (W := 0) (Nat.le_of_ble_eq_true rfl) (Nat.le_of_ble_eq_true rfl) (Nat.le_refl _) (by show 0 + A.slots.size ≤ A.slots.size; omega) (g := (mkF m 6 #[.val (.ref a), .val (.ref b)] [.null, .int (Int32.ofNat A.slots.size), .int (Int32.ofNat 0), .ref b, .ref a])) rfl (by rw [hml]; rfl) c2 (argsL := [.ref b, .int (Int32.ofNat 0), .int (Int32.ofNat A.slots.size), .null]) (rest := []) rfl rfl (by show 2 * 0 + 0 ≤ _; decide) (hb hbytes d6) (⟨rfl, hB.mv X0.warmed.alike hh0, f1.al X0.warmed.alike, f2.al X0.warmed.alike, hA.mv X0.warmed.alike hh0, s1.there X0.warmed.alike hh0, hz, l0, by omega, l2, fun i hi => by rw [Nat.zero_add]; exact hp i hi⟩)
  have e0 := Got.mv _ s₁ s _ _ hh0.symm (Vm.Alike.refl _) rfl E3
  obtain rfl := e0.1
  have c4 : Steps p.tables e below (s₁.setTop (entryFrame m #[.ref a, .ref b] 2)) (T3.setTop (mkF m 9 #[.val (.ref a), .val (.ref b)] [])) := g3
  exact ⟨T3, none, _, _, _, X3, by simp, rfl, by omega, (fun _ => rfl), e0, fun fs hl => c4.trans (X3.returnOut hexec hret (hb hbytes d9) hl)⟩
theorem pays {l : Launch} {R : Room} {p : Program} {e : Env} {below : List Frame} {s : State} {sargs : Array Value} {len W : Nat} (a : Addr) (D : Cell) (fV fC : Field) (b : Addr) (A : Cell) (z : Int32) (htab : tab.before sargs s = true) (hfr : 4 ≤ R.frames) (hlo : W + 65 ≤ R.locals) :
    Back l R p e below s sargs yN len W (fun A₁ a₁ => A₁.cells + 1 ≤ R.cells ∧ A₁.slots + A.slots.size ≤ R.slots ∧ P a D fV fC b A z a₁ A₁.U) (fun A₁ _ v₁ B₁ => E a D fV fC A v₁ A₁.U B₁.U ∧ B₁.locs = A₁.locs ++ [⟨a, fC.slot⟩, ⟨a, fV.slot⟩] ∧ B₁.cells = A₁.cells + 1 ∧ B₁.slots = A₁.slots + A.slots.size) :=
  (law l a D fV fC b A z).pays htab hfr (by omega)
end New1
end StrChars
namespace StrChars.Road
open Jvm Sem ClassFile Op Lib Jvm.Stand Jvm.Free Jvm.Free.XT
open Jvm.Lib.Cold (StaticIs)
abbrev ST : String := "java/lang/String"
/-- every table word that New1's law asks, flat -/
abbrev words : List Jvm.Cond := [.code New1.yN New1.yB 2 none, .initialized ST, .methodLink ST 27 New4.yN, .instanceMethod New4.yN,
  .code New4.yN New4.yB 6 none, .fieldLink ST 38 ST "COMPACT_STRINGS" "Z", .laysFinal ST ST "value" "[B", .fieldLink ST 9 ST "value" "[B", .laysFinal ST ST "coder" "B", .fieldLink ST 15 ST "coder" "B",
  .methodLink ST 1 Lib.objectInit, .instanceMethod Lib.objectInit, .code Lib.objectInit ⟨#[0xb1]⟩ 1 none, .methodLink ST 177 Cmp3.yN, .static Cmp3.yN, .methodLink ST 47 CodL.yN, .static CodL.yN,
  .code Cmp3.yN Cmp3.yB 6 (some (.array .byte)), .initialized U16, .arrayClass .byte, .methodLink U16 115 Cmp5.yN, .static Cmp5.yN, .code Cmp5.yN Cmp5.yB 7 (some .int), .code CodL.yN CodL.yB 2 (some .byte)]
theorem tab_of {a : Array Value} {s : State} (h : ∀ w ∈ words, w.before a s = true) : New1.tab.before a s = true := by
  have h5 : Cmp5.tab.before a s = true := unparts (wk h (.code Cmp5.yN Cmp5.yB 7 (some .int))) (wks h (.initialized Cmp5.yN.cls :: Cmp5.site))
  have hc : CodL.tab.before a s = true := unparts (wk h (.code CodL.yN CodL.yB 2 (some .byte))) (wks h (.initialized CodL.yN.cls :: CodL.site))
  have q5 : ∀ w ∈ Cmp5.tab :: words, w.before a s = true := fun w hw => (List.mem_cons.mp hw).elim (fun e => e ▸ h5) (h w)
  have h3 : Cmp3.tab.before a s = true := unparts (wk q5 (.code Cmp3.yN Cmp3.yB 6 (some (.array .byte)))) (wks q5 (.initialized Cmp3.yN.cls :: Cmp3.site))
  have q3 : ∀ w ∈ Cmp3.tab :: CodL.tab :: words, w.before a s = true := fun w hw => (List.mem_cons.mp hw).elim (fun e => e ▸ h3) fun hw => (List.mem_cons.mp hw).elim (fun e => e ▸ hc) (h w)
  have h4 : New4.tab.before a s = true := unparts (wk q3 (.code New4.yN New4.yB 6 none)) (wks q3 (.initialized New4.yN.cls :: New4.site))
  have q4 : ∀ w ∈ New4.tab :: words, w.before a s = true := fun w hw => (List.mem_cons.mp hw).elim (fun e => e ▸ h4) (h w)
  exact unparts (wk q4 (.code New1.yN New1.yB 2 none)) (wks q4 (.initialized New1.yN.cls :: New1.site))
/-- the words ride from the start Z to the walk's own state -/
theorem moved {Z s : State} {a0 args : Array Value} (hZ : Z.Warmed39 s.vm) (hw : ∀ d ∈ words, d.before a0 Z = true) : ∀ d ∈ words, d.before args s = true := fun d hd => by
  have q := hw d hd
  have t : ∀ d ∈ words, d = .arrayClass .byte ∨ (d.onTables && d.keepsFace) = true := by decide +kernel
  rcases t d hd with rfl | t
  · exact RoadKit.mvA hZ q
  · exact RoadKit.mv hZ q t
/-- WHAT COMES BACK, over the tables of the start Z: h the heap at the call, h' behind it -/
def Q (Z : State) (x : Addr) (A : Cell) (h : Heap) (v : Option Value) (h' : Heap) (L : List Loc) : Prop := v = none ∧ (∀ y ∈ L, y.base = x) ∧ RoadKit.Keep h h' [x] ∧ h'.size = h.size + 1 ∧ RoadKit.Exa Z h' x ST ∧ RoadKit.Fld Z h' x ST "value" "[B" (.ref h.size) ∧ RoadKit.Fld Z h' x ST "coder" "B" (.int 0) ∧
  (∃ V : Cell, RoadKit.Arr Z h' h.size V .byte ∧ V.vm = .none ∧ Z.vm.findClass "[B" = some V.cls ∧ V.slots.size = A.slots.size ∧ ∀ j, j < A.slots.size → V.slots[j]? = some (.int (lo8 (cv A j)))) ∧
  ∀ (O n d : String) (w : Value), RoadKit.Fld Z h x O n d w → RoadKit.slotOf Z O n d ≠ RoadKit.slotOf Z ST "value" "[B" → RoadKit.slotOf Z O n d ≠ RoadKit.slotOf Z ST "coder" "B" → RoadKit.Fld Z h' x O n d w
/-- **new String(chars) AT A CALL, IN THE ROAD'S FORM**: for specialBack behind newO: x the fresh String, b the char[] with the cell A -/
theorem back {p : Program} {l : Launch} {e : Env} {R : Room} {s : State} {args : Array Value} {below : List Frame} {len W : Nat} {Z : State} {a0 : Array Value} {h : Heap} (hZ : Z.Warmed39 s.vm) (hw : ∀ d ∈ words, d.before a0 Z = true) {kI : Nat} (wi : (Jvm.Cond.instantiable ST kI).before a0 Z = true)
    {x b : Addr} {A : Cell} {z : Int32} {v0 c0 : Value} (E : RoadKit.Exa Z h x ST) (V : RoadKit.Fld Z h x ST "value" "[B" v0) (C : RoadKit.Fld Z h x ST "coder" "B" c0) (K : RoadKit.Arr Z h b A .char) (hty : Typed .char A) (S : RoadKit.Sta Z h ST "COMPACT_STRINGS" "Z" (.int z)) (hz : ¬ z = 0)
    (l0 : 0 < A.slots.size) (l2 : A.slots.size ≤ 536870912) (hp : ∀ i, i < A.slots.size → ¬ 255 < cv A i) (hfr : 4 ≤ R.frames) (hlo : W + 65 ≤ R.locals) :
    Back l R p e below s args New1.yN len W (fun P a => a = #[.ref x, .ref b] ∧ P.U.heap = h ∧ P.cells + 1 ≤ R.cells ∧ P.slots + A.slots.size ≤ R.slots)
      (fun P _ v B => ∃ L, Q Z x A h v B.U.heap L ∧ B.locs = P.locs ++ L ∧ B.cells = P.cells + 1 ∧ B.slots = P.slots + A.slots.size) := by
  intro m meth c P g ig mk a X hg hsize hdg hW hn hp'
  obtain ⟨rfl, rfl, r1, r2⟩ := hp'
  have al : Z.vm.Alike P.U.vm := hZ.alike.trans X.warmed.alike
  obtain ⟨D, cfV, kV, iV, fV, hD, gV, stV, knV, obV, asV, slV⟩ := id V
  obtain ⟨D', cfC, kC, iC, fC, hD', gC, stC, -, -, asC, slC⟩ := id C
  cases hD.symm.trans hD'
  obtain ⟨D2, kD, e1, e2, e3, e4, e5⟩ := id E
  cases hD.symm.trans e1
  obtain ⟨c2, k2, i1, i2, i3, -⟩ := Cond.instantiable_spec wi
  cases e2.symm.trans i1
  cases e3.symm.trans i2
  obtain ⟨kU, u1, u2⟩ := al.2.2 _ _ e3
  have hB : Blank ST x D P.U := ⟨hD, ⟨knV, fun q hq => by rw [hq] at obV; cases obV⟩, by rw [al.findClass]; exact e2, kU, u1, by rw [u2]; exact i3, by rw [u2]; exact e5 i3⟩
  have F1 : Found ST "value" "[B" fV P.U := ⟨SBG.found_only al ⟨cfV, kV, iV, gV⟩, stV⟩
  have F2 : Found ST "coder" "B" fC P.U := ⟨SBG.found_only al ⟨cfC, kC, iC, gC⟩, stC⟩
  have hA : Ch b A P.U := ⟨⟨K.1, State.isArrayOf_alike al K.2.1, K.2.2, by omega⟩, hty⟩
  have hS : StaticIs P.U ST "COMPACT_STRINGS" "Z" (.int z) := by
    obtain ⟨cfS, iS, kS, fS, st, cS, t1, t2, t3, t4, t5, t6, t7⟩ := S
    exact StaticIs.there (s := { Z with heap := P.U.heap }) ⟨cfS, iS, kS, fS, st, cS, t1, t2, t3, t4, t5, (fun q => by rw [q] at t6; cases t6), t7⟩ al rfl
  obtain ⟨v, B, X', ⟨⟨hv, E', V', q1, q2, q3, q4, q5, q6, q7, q8, q9, q10, q11⟩, hl, hc, hs⟩, st⟩ := New1.pays x D fV fC b A z (tab_of (moved hZ hw)) hfr hlo m meth c P g ig mk _ X hg hsize hdg hW hn ⟨r1, r2, rfl, hB, F1, F2, hA, hS, hz, l0, l2, hp⟩
  have al' : Z.vm.Alike B.U.vm := hZ.alike.trans X'.warmed.alike
  have hsz : E'.slots.size = D.slots.size := by
    obtain ⟨-, -, -, kB, w1, w2, w3⟩ := q1
    obtain ⟨kB', y1, y2⟩ := al'.2.2 _ _ e3
    rw [q2.2.1] at w1
    cases w1.symm.trans y1
    rw [w3, e5 i3, y2]
  refine ⟨v, B, X', ⟨_, ⟨hv, ?_, ⟨by omega, fun y cy hy hn' => q10 y cy (by simpa using hn') hy, fun y cy hy => ?_⟩, q11, ⟨E', _, q1.1, by rw [q2.2.1]; exact e2, by rw [q2.2.1]; exact e3, by rw [q2.1]; exact obV, fun _ => by rw [hsz]; exact e5 i3⟩,
    ⟨E', cfV, kV, iV, fV, q1.1, gV, stV, by rw [q2.1]; exact knV, by rw [q2.1]; exact obV, by rw [q2.2.1]; exact asV, q3⟩, ⟨E', cfC, kC, iC, fC, q1.1, gC, stC, by rw [q2.1]; exact knV, by rw [q2.1]; exact obV, by rw [q2.2.1]; exact asC, q4⟩,
    ⟨V', ⟨q5.1, State.isArrayOf_alike al'.symm q5.2.1, q5.2.2.1⟩, q6, by rw [← al'.findClass]; exact q7, q8, fun j hj => by have := q9 j hj; rwa [Nat.zero_add] at this⟩, fun O n d w F n1 n2 => ?_⟩, hl, hc, hs⟩, st⟩
  · intro y hy
    simp only [List.mem_cons, List.not_mem_nil, or_false] at hy
    rcases hy with rfl | rfl <;> rfl
  · by_cases q : y = x
    · subst q
      cases hD.symm.trans hy
      exact ⟨E', q1.1, q2.2.1, q2.1, hsz⟩
    · exact ⟨cy, q10 y cy q hy, rfl, rfl, rfl⟩
  · obtain ⟨D3, cf, k, i, f, g1, g2, g3, g4, g5, g6, g7⟩ := F
    cases hD.symm.trans g1
    simp only [RoadKit.slotOf, g2, gV, gC, Option.map_some, Option.getD_some] at n1 n2
    exact ⟨E', cf, k, i, f, q1.1, g2, g3, by rw [q2.1]; exact g4, by rw [q2.1]; exact g5, by rw [q2.2.1]; exact g6, by rw [q2.2.2 f.slot (by simp [n1, n2])]; exact g7⟩
end StrChars.Road
namespace StrChars.Road
open Jvm Sem ClassFile Op Lib Jvm.Stand Jvm.Free Jvm.Free.XT
/-- WHAT COMES BACK, the byte[] as a list of values -/
def QA (Z : State) (x : Addr) (zn : Int32) (cs : List Int32) (h : Heap) (v : Option Value) (h' : Heap) (L : List Loc) : Prop := v = none ∧ (∀ y ∈ L, y.base = x) ∧ RoadKit.Keep h h' [x] ∧ h'.size = h.size + 1 ∧ RoadKit.Exa Z h' x ST ∧ RoadKit.Fld Z h' x ST "value" "[B" (.ref h.size) ∧ RoadKit.Fld Z h' x ST "coder" "B" (.int 0) ∧
  (∃ kb, Z.vm.findClass "[B" = some kb ∧ RoadKit.Arv Z h' h.size kb .byte zn (cs.map fun c => .int (lo8 c)) (.int 0)) ∧
  ∀ (O n d : String) (w : Value), RoadKit.Fld Z h x O n d w → RoadKit.slotOf Z O n d ≠ RoadKit.slotOf Z ST "value" "[B" → RoadKit.slotOf Z O n d ≠ RoadKit.slotOf Z ST "coder" "B" → RoadKit.Fld Z h' x O n d w
/-- **new String(chars) AT A CALL, THE ARRAYS AS LISTS**: the char[] at b holds cs, not empty, no char above 255 -/
theorem backArv {p : Program} {l : Launch} {e : Env} {R : Room} {s : State} {args : Array Value} {below : List Frame} {len W : Nat} {Z : State} {a0 : Array Value} {h : Heap} (hZ : Z.Warmed39 s.vm) (hw : ∀ d ∈ words, d.before a0 Z = true) {kI : Nat} (wi : (Jvm.Cond.instantiable ST kI).before a0 Z = true)
    {x b : Addr} {k : ClassId} {zn z : Int32} {cs : List Int32} {dv v0 c0 : Value} (E : RoadKit.Exa Z h x ST) (V : RoadKit.Fld Z h x ST "value" "[B" v0) (C : RoadKit.Fld Z h x ST "coder" "B" c0) (K : RoadKit.Arv Z h b k .char zn (cs.map Value.int) dv) (S : RoadKit.Sta Z h ST "COMPACT_STRINGS" "Z" (.int z)) (hz : ¬ z = 0)
    (hlen : zn.toNatClampNeg = cs.length) (h0 : 0 < cs.length) (hbig : cs.length ≤ 536870912) (hall : ∀ c ∈ cs, ¬ 255 < c) (hfr : 4 ≤ R.frames) (hlo : W + 65 ≤ R.locals) :
    Back l R p e below s args New1.yN len W (fun P a => a = #[.ref x, .ref b] ∧ P.U.heap = h ∧ P.cells + 1 ≤ R.cells ∧ P.slots + cs.length ≤ R.slots)
      (fun P _ v B => ∃ L, QA Z x zn cs h v B.U.heap L ∧ B.locs = P.locs ++ L ∧ B.cells = P.cells + 1 ∧ B.slots = P.slots + cs.length) := by
  obtain ⟨A, K1, K2, K3, K4, K5, K6⟩ := K
  have e : A.slots.size = cs.length := K3.trans hlen
  have hat : ∀ (i : Nat) (hi : i < cs.length), A.slots[i]? = some (.int cs[i]) := fun i hi => by rw [K5 i (by omega)]; simp [List.getD_eq_getElem?_getD, hi]
  have hcv : ∀ (i : Nat) (hi : i < cs.length), cv A i = cs[i] := fun i hi => by unfold cv; rw [hat i hi]
  have hty : Typed .char A := fun i v hv => by
    have hi : i < A.slots.size := (Array.getElem?_eq_some_iff.mp hv).1
    have q := K5 i hi
    rw [hv] at q
    rw [Option.some.inj q]
    exact K6 i hi
  refine Back.mono (back hZ hw wi E V C K1 hty S hz (by omega) (by omega) (fun i hi => by rw [hcv i (by omega)]; exact hall _ (List.getElem_mem _)) hfr hlo) (fun P a hp => ⟨hp.1, hp.2.1, hp.2.2.1, by rw [e]; exact hp.2.2.2⟩) (fun P a v B hp hq => ?_)
  obtain ⟨L, ⟨q1, q2, q3, q4, q5, q6, q7, ⟨V', v1, v2, v3, v4, v5⟩, q9⟩, hl, hc, hs⟩ := hq
  refine ⟨L, ⟨q1, q2, q3, q4, q5, q6, q7, ⟨V'.cls, v3, V', v1, rfl, by rw [v4, e, hlen], K4, fun i hi => ?_, fun i hi => ?_⟩, q9⟩, hl, hc, by rw [hs, e]⟩
  · have hi' : i < cs.length := by omega
    rw [v5 i (by omega), hcv i hi']; simp [List.getD_eq_getElem?_getD, hi']
  · have hi' : i < cs.length := by omega
    simp only [List.getD_eq_getElem?_getD, List.getElem?_map, List.getElem?_eq_getElem hi', Option.map_some, Option.getD_some]
    exact fits_lo8 _
end StrChars.Road
namespace StrChars.Road
open Jvm Sem ClassFile Op Lib Jvm.Stand Jvm.Free Jvm.Free.XT
/-- WHAT COMES BACK, in the writer's own shape -/
def QV (Z : State) (x : Addr) (N : Int32) (bs : List Int32) (h : Heap) (n0 : Nat) (v : Option Value) (h' : Heap) (L : List Loc) : Prop := v = none ∧ RoadKit.Fr n0 L ∧ RoadKit.Keep h h' [x] ∧ RoadKit.Exa Z h' x ST ∧ RoadKit.Fld Z h' x ST "coder" "B" (.int 0) ∧
  ∃ (t : Addr) (kb : ClassId), n0 ≤ t ∧ h.size ≤ t ∧ ¬ t = x ∧ RoadKit.Fld Z h' x ST "value" "[B" (.ref t) ∧ RoadKit.Arv Z h' t kb .byte N (bs.map Value.int) (.int 0)
/-- **new String(chars) AT A CALL, FOR THE WRITER**: a char[] of n known ints, each 0 to 255 -/
theorem backV {p : Program} {l : Launch} {e : Env} {R : Room} {s : State} {args : Array Value} {below : List Frame} {len W : Nat} {Z : State} {a0 : Array Value} {h : Heap} (hZ : Z.Warmed39 s.vm) (hw : ∀ d ∈ words, d.before a0 Z = true) {kI : Nat} (wi : (Jvm.Cond.instantiable ST kI).before a0 Z = true)
    {x b : Addr} {kC : ClassId} {cs bs : List Int32} {d v0 c0 : Value} {z N : Int32} {n n0 : Nat} (hx0 : n0 ≤ x) (hh0 : n0 ≤ h.size) (E : RoadKit.Exa Z h x ST) (V : RoadKit.Fld Z h x ST "value" "[B" v0) (C : RoadKit.Fld Z h x ST "coder" "B" c0) (K : RoadKit.Arv Z h b kC .char N (cs.map Value.int) d) (S : RoadKit.Sta Z h ST "COMPACT_STRINGS" "Z" (.int z)) (hz : ¬ z = 0)
    (hn : cs.length = n) (hN : N = Int32.ofNat n) (l0 : 0 < n) (l2 : n ≤ 4000) (hp : ∀ c ∈ cs, ¬ c < 0 ∧ ¬ (255 : Int32) < c) (hb : bs = cs.map (fun c => c.toInt8.toInt32)) (hfr : 4 ≤ R.frames) (hlo : W + 65 ≤ R.locals) :
    Back l R p e below s args (⟨"java/lang/String", "<init>", "([C)V"⟩ : MethodName) len W (fun P a => a = #[.ref x, .ref b] ∧ P.U.heap = h ∧ P.cells + 1 ≤ R.cells ∧ P.slots + n ≤ R.slots)
      (fun P _ v B => ∃ L, QV Z x N bs h n0 v B.U.heap L ∧ B.locs = P.locs ++ L ∧ B.cells = P.cells + 1 ∧ B.slots = P.slots + n) := by
  subst hn hN hb
  refine Back.mono (backArv hZ hw wi E V C K S hz (n32 (by omega)) l0 (by omega) (fun c hc => (hp c hc).2) hfr hlo) (fun P a hp => hp) (fun P a v B hp hq => ?_)
  obtain ⟨L, ⟨q1, q2, q3, q4, q5, q6, q7, ⟨kb, v1, v2⟩, q9⟩, hl, hc, hs⟩ := hq
  exact ⟨L, ⟨q1, fun y hy => by rw [q2 y hy]; exact hx0, q3, q5, q7, h.size, kb, hh0, Nat.le_refl _, Nat.ne_of_gt E.lt, q6, by rw [List.map_map]; exact v2⟩, hl, hc, hs⟩
end StrChars.Road
end Jvm.Pilot.@@N@@

namespace Jvm.Pilot.@@N@@
open Jvm Jvm.ClassFile Sem Op Lib Jvm.Free Jvm.Stand Jvm.LawKit Jvm.RoadKit Bundle Jvm.Pilot.@@N@@.Jvm.D
section OwnKit
variable {p : Program} {l : Launch} {e : Env} {R : Room} {s : State} {m : MethodId} {args : Array Value} {below : List Frame} {meth : Method} {c : Code} {T T' : State} {locs : List Loc} {cells slots : Nat} {Z : State} {a0 : Array Value} {h h0 : Heap} {Q : Option Value → Heap → List Loc → Prop} {kc ks : Nat} {f f' : JFrame}
/-- from T with the frame f on top the run ends as Q says -/
def own_Ends (p : Program) (e : Env) (below : List Frame) (s : State) (Q : Option Value → Heap → List Loc → Prop) (kc ks : Nat) (T : State) (f : JFrame) : Prop :=
  ∃ s₂ o, Steps p.tables e below (T.setTop f) s₂ ∧ s₂.status = .running ∧ Ended s₂ below o ∧ ∃ v L, o = .returned v ∧ Q v s₂.heap L ∧ FrameEnd s o s₂ L kc ks
theorem own_go (st : ∀ target, Steps p.tables e below (T'.setTop f') target → Steps p.tables e below (T.setTop f) target) (k : own_Ends p e below s Q kc ks T' f') : own_Ends p e below s Q kc ks T f := by
  obtain ⟨s₂, o, h1, r⟩ := k
  exact ⟨s₂, o, st _ h1, r⟩
theorem own_fin (X : Stand p l e R s m args below meth c T locs cells slots) (v : Option Value) (hlk : meth.locks = false) (hv : meth.sig.returnType = none → v = none)
    (st : ∀ fs, (∀ (f : JFrame) (acts : List Action), f.method = m → f.locked = none → f.entered = [] → (doReturn e (T.setTop f) acts v).1 = T.setFrames fs) → Steps p.tables e below (T.setTop f) (T.setFrames fs))
    (eT : T.heap = h) (hQ : Q v h locs) (hc : cells ≤ kc) (hs : slots ≤ ks) : own_Ends p e below s Q kc ks T f := by
  subst eT
  obtain ⟨fs, hr, hrun, hended, hW, hsame⟩ := X.leave (v := v) hv hlk
  exact ⟨_, _, st fs hr, hrun, hended, v, locs, rfl, hQ, ⟨_, rfl⟩, hW, hsame.mono hc hs⟩
theorem own_retN (X : Stand p l e R s m args below meth c T locs cells slots) (hx : p.tables.exec = Jvm.exec) (hlk : meth.locks = false) {pc : Nat} {Ls : Array Slot} {z : Int32} {t : FieldType} {rest : List Value} (hret : meth.sig.returnType = some t) (ht : t = .boolean ∨ t = .byte ∨ t = .char ∨ t = .short)
    (hd : decode c.code pc = .ok (.ireturn, 1)) (eT : T.heap = h) (hc : cells ≤ kc) (hs : slots ≤ ks) (hQ : Q (some (.int (nar t z))) h locs) : own_Ends p e below s Q kc ks T (mkF m pc Ls (.int z :: rest)) :=
  own_fin X _ hlk (fun q => by rw [hret] at q; cases q) (fun fs hr => Jvm.RoadKit.retN X hx hret ht hd hr) eT hQ hc hs
theorem own_retI (X : Stand p l e R s m args below meth c T locs cells slots) (hx : p.tables.exec = Jvm.exec) (hlk : meth.locks = false) {pc : Nat} {Ls : Array Slot} {z : Int32} {rest : List Value} (hret : meth.sig.returnType = some .int)
    (hd : decode c.code pc = .ok (.ireturn, 1)) (eT : T.heap = h) (hc : cells ≤ kc) (hs : slots ≤ ks) (hQ : Q (some (.int z)) h locs) : own_Ends p e below s Q kc ks T (mkF m pc Ls (.int z :: rest)) :=
  own_fin X _ hlk (fun q => by rw [hret] at q; cases q) (fun fs hr => Jvm.RoadKit.retOut X hx hret rfl (Or.inl ⟨rfl, Or.inl rfl, _, rfl⟩) hd hr) eT hQ hc hs
theorem own_retJ (X : Stand p l e R s m args below meth c T locs cells slots) (hx : p.tables.exec = Jvm.exec) (hlk : meth.locks = false) {pc : Nat} {Ls : Array Slot} {z : Int64} {rest : List Value} (hret : meth.sig.returnType = some .long)
    (hd : decode c.code pc = .ok (.lreturn, 1)) (eT : T.heap = h) (hc : cells ≤ kc) (hs : slots ≤ ks) (hQ : Q (some (.long z)) h locs) : own_Ends p e below s Q kc ks T (mkF m pc Ls (.long z :: rest)) :=
  own_fin X _ hlk (fun q => by rw [hret] at q; cases q) (fun fs hr => Jvm.RoadKit.retOut X hx hret rfl (Or.inr (Or.inl ⟨rfl, rfl, _, rfl⟩)) hd hr) eT hQ hc hs
theorem own_retD (X : Stand p l e R s m args below meth c T locs cells slots) (hx : p.tables.exec = Jvm.exec) (hlk : meth.locks = false) {pc : Nat} {Ls : Array Slot} {z : UInt64} {rest : List Value} (hret : meth.sig.returnType = some .double)
    (hd : decode c.code pc = .ok (.dreturn, 1)) (eT : T.heap = h) (hc : cells ≤ kc) (hs : slots ≤ ks) (hQ : Q (some (.double z)) h locs) : own_Ends p e below s Q kc ks T (mkF m pc Ls (.double z :: rest)) :=
  own_fin X _ hlk (fun q => by rw [hret] at q; cases q) (fun fs hr => Jvm.RoadKit.retOut X hx hret rfl (Or.inr (Or.inr (Or.inl ⟨rfl, rfl, _, rfl⟩))) hd hr) eT hQ hc hs
theorem own_narR {t : FieldType} {v : Value} (ht : t.isReference = true) : narrow t v = v := by cases t <;> first | (cases ht; done) | (cases v <;> rfl)
theorem own_retR (X : Stand p l e R s m args below meth c T locs cells slots) (hx : p.tables.exec = Jvm.exec) (hlk : meth.locks = false) {pc : Nat} {Ls : Array Slot} {v : Value} {t : FieldType} {rest : List Value} (hret : meth.sig.returnType = some t) (ht : t.isReference = true) (hv : v.isRef = true)
    (hd : decode c.code pc = .ok (.areturn, 1)) (eT : T.heap = h) (hc : cells ≤ kc) (hs : slots ≤ ks) (hQ : Q (some v) h locs) : own_Ends p e below s Q kc ks T (mkF m pc Ls (v :: rest)) :=
  own_fin X _ hlk (fun q => by rw [hret] at q; cases q) (fun fs hr => Jvm.RoadKit.retOut X hx hret (own_narR ht) (Or.inr (Or.inr (Or.inr (Or.inr ⟨rfl, ht, hv⟩)))) hd hr) eT hQ hc hs
theorem own_retV (X : Stand p l e R s m args below meth c T locs cells slots) (hx : p.tables.exec = Jvm.exec) (hlk : meth.locks = false) {pc : Nat} {Ls : Array Slot} (hret : meth.sig.returnType = none)
    (hd : decode c.code pc = .ok (.return_, 1)) (eT : T.heap = h) (hc : cells ≤ kc) (hs : slots ≤ ks) (hQ : Q none h locs) : own_Ends p e below s Q kc ks T (mkF m pc Ls []) :=
  own_fin X none hlk (fun _ => rfl) (fun fs hr => X.returnOut hx hret hd hr) eT hQ hc hs
/-- a body's contract: called with the arguments as' on the heap h0, over tables warmer than Z's, it returns as Q says -/
abbrev own_Met (l : Launch) (y : MethodName) (bytes : ByteArray) (maxL : Nat) (ret : Option FieldType) (rm : Room) (ws : List Jvm.Cond) (as' : Array Value) (Z : State) (h0 : Heap) (Q : Option Value → Heap → List Loc → Prop) : Prop :=
  MetFree l y (head1 (Jvm.Cond.code y bytes maxL ret :: ws) rm) (fun a U => a = as' ∧ Z.Warmed39 U.vm ∧ U.heap = h0) (fun _ _ _ _ _ => True) (fun _ U o U' => ∃ v L, o = .returned v ∧ Q v U'.heap L ∧ FrameEnd U o U' L rm.cells rm.slots)
theorem own_met {y : MethodName} {bytes : ByteArray} {maxL : Nat} {ret : Option FieldType} {rm : Room} {ws : List Jvm.Cond} {as' : Array Value} (hy : plainFor y = true)
    (body : ∀ (p : Program) (e : Env) (s : State) (m : MethodId) (below : List Frame) (meth : Method) (c : Code) (s₁ : State), p.tables.exec = Jvm.exec → Stand p l e rm s m as' below meth c s₁ [] 0 0 → Z.Warmed39 s.vm → s₁.heap = h0 → c.code = bytes → c.maxLocals = maxL →
      s.vm.findClass y.cls = some m.cls → meth.name = y.name → meth.sig.returnType = ret → meth.locks = false → own_Ends p e below s Q rm.cells rm.slots s₁ (entryFrame m as' maxL)) :
    own_Met l y bytes maxL ret rm ws as' Z h0 Q := by
  refine MetFree.of_bodySF hy hisR ?_
  intro p e s m args below meth c s₁ Bd hml0 hP hK
  obtain ⟨rfl, hZ, hh⟩ := hP
  exact body p e s m below meth c s₁ Bd.exec (Stand.of_body Bd) hZ (by rw [← hh, Bd.state]; rfl) Bd.bytes hml0 (findClass_of_methodNamed Bd.named) (name_of_methodNamed Bd.named Bd.method).1 Bd.returns Bd.notSynchronized
theorem own_at {f f' : JFrame} (q : f = f') (k : own_Ends p e below s Q kc ks T f') : own_Ends p e below s Q kc ks T f := q ▸ k
/-- a static call -/
theorem own_callS (X : Stand p l e R s m args below meth c T locs cells slots) (hx : p.tables.exec = Jvm.exec) (hZ : Z.Warmed39 s.vm) {own : String} {index : Nat} {y : MethodName} {bytes : ByteArray} {maxL : Nat} {ret : Option FieldType} {rm : Room} {as' : Array Value} {Q' : Option Value → Heap → List Loc → Prop}
    (hown : s.vm.findClass own = some m.cls) (w1 : (Jvm.Cond.methodLink own index y).before a0 Z = true) (w2 : (Jvm.Cond.static y).before a0 Z = true) (w3 : (Jvm.Cond.initialized y.cls).before a0 Z = true) (w4 : (Jvm.Cond.code y bytes maxL ret).before a0 Z = true)
    (hy : y.cls ≠ "java/lang/invoke/MethodHandle" ∧ y.cls ≠ "java/lang/invoke/VarHandle") (hM : own_Met l y bytes maxL ret rm [] as' Z h Q') (eT : T.heap = h) {g : JFrame} (hg : g.method = m) (hsize : g.locals.size = c.maxLocals) (argsL rest : List Value) (has : argsL.toArray = as')
    (hlen : ∀ sig, parseMethodDescriptor y.desc = some sig → argsL.length = sig.parameters.length) (hstack : g.stack = argsL.reverse ++ rest) (W : Nat) (hW : 2 * g.monitorRoom + (rest.map fun v => v.category).sum ≤ W) (hdg : decode c.code g.pc = .ok (.invokestatic index, 3))
    (hf : rm.frames + 1 ≤ R.frames) (hl : W + (maxL + 11) + rm.locals ≤ R.locals) (hc : cells + rm.cells ≤ R.cells) (hs : slots + rm.slots ≤ R.slots) :
    ∃ (T' : State) (v : Option Value) (L : List Loc), Stand p l e R s m args below meth c T' (locs ++ L) (cells + rm.cells) (slots + rm.slots) ∧ Q' v T'.heap L ∧ ∀ target, Steps p.tables e below (T'.setTop { g with pc := g.pc + 3, stack := v.toList ++ rest }) target → Steps p.tables e below (T.setTop g) target := by
  obtain ⟨v, vm1, ⟨T1, L1, k1, n1⟩, -, X1, ⟨Lc, hQ, l1, y1, z1⟩, st⟩ := Jvm.LawKit.callS X hx hown (mvT hZ w1) (mvT hZ w2) (mvT hZ w3) (mvT hZ w4) hy (backOf (W := W) hM hZ w4 w3 hf hl) hg hsize hlen hstack hW hdg (fun _ _ => ⟨has, eT, hc, hs⟩)
  dsimp only [Pt.U, Pt.locs, Pt.cells, Pt.slots] at X1 l1 y1 z1 st hQ
  subst l1 y1 z1
  exact ⟨T1, v, Lc, X1, hQ, st⟩
/-- a constructor -/
theorem own_callN (X : Stand p l e R s m args below meth c T locs cells slots) (hx : p.tables.exec = Jvm.exec) (hZ : Z.Warmed39 s.vm) {own : String} {index : Nat} {y : MethodName} {bytes : ByteArray} {maxL : Nat} {rm : Room} {as' : Array Value} {Q' : Option Value → Heap → List Loc → Prop}
    (hy1 : y.name = "<init>") (hown : s.vm.findClass own = some m.cls) (w1 : (Jvm.Cond.methodLink own index y).before a0 Z = true) (w2 : (Jvm.Cond.instanceMethod y).before a0 Z = true) (w3 : (Jvm.Cond.initialized y.cls).before a0 Z = true) (w4 : (Jvm.Cond.code y bytes maxL none).before a0 Z = true)
    (hy : y.cls ≠ "java/lang/invoke/MethodHandle" ∧ y.cls ≠ "java/lang/invoke/VarHandle") (hM : own_Met l y bytes maxL none rm [] as' Z h Q') (eT : T.heap = h) {g : JFrame} (hg : g.method = m) (hsize : g.locals.size = c.maxLocals) (b : Addr) (argsL rest : List Value) (has : (.ref b :: argsL).toArray = as')
    (hlen : ∀ sig, parseMethodDescriptor y.desc = some sig → argsL.length = sig.parameters.length) (hstack : g.stack = argsL.reverse ++ .ref b :: rest) (W : Nat) (hW : 2 * g.monitorRoom + (rest.map fun v => v.category).sum ≤ W) (hdg : decode c.code g.pc = .ok (.invokespecial index, 3))
    (hf : rm.frames + 1 ≤ R.frames) (hl : W + (maxL + 11) + rm.locals ≤ R.locals) (hc : cells + rm.cells ≤ R.cells) (hs : slots + rm.slots ≤ R.slots) :
    ∃ (T' : State) (v : Option Value) (L : List Loc), Stand p l e R s m args below meth c T' (locs ++ L) (cells + rm.cells) (slots + rm.slots) ∧ Q' v T'.heap L ∧ ∀ target, Steps p.tables e below (T'.setTop { g with pc := g.pc + 3, stack := v.toList ++ rest }) target → Steps p.tables e below (T.setTop g) target := by
  obtain ⟨v, vm1, ⟨T1, L1, k1, n1⟩, -, X1, ⟨Lc, hQ, l1, y1, z1⟩, st⟩ := X.specialBack hx hy1 hown (mvT hZ w1) (mvT hZ w2) (mvT hZ w4) hy (backOf (W := W) hM hZ w4 w3 hf hl) hg hsize (Steps.refl _) (a := b) hlen hstack hW hdg (fun _ _ => ⟨has, eT, hc, hs⟩)
  dsimp only [Pt.U, Pt.locs, Pt.cells, Pt.slots] at X1 l1 y1 z1 st hQ
  subst l1 y1 z1
  exact ⟨T1, v, Lc, X1, hQ, fun t k => st.trans k⟩
/-- a virtual call: y resolved, z selected by the class C -/
theorem own_callV (X : Stand p l e R s m args below meth c T locs cells slots) (hx : p.tables.exec = Jvm.exec) (hZ : Z.Warmed39 s.vm) {own C : String} {index : Nat} {y z : MethodName} {bytes : ByteArray} {maxL : Nat} {ret : Option FieldType} {rm : Room} {as' : Array Value} {Q' : Option Value → Heap → List Loc → Prop}
    (hown : s.vm.findClass own = some m.cls) (w1 : (Jvm.Cond.methodLink own index y).before a0 Z = true) (w2 : (Jvm.Cond.declares y).before a0 Z = true) (hnf : NotFace s y) (w5 : (Jvm.Cond.selects C y z).before a0 Z = true) (w6 : (Jvm.Cond.instanceMethod z).before a0 Z = true)
    (w3 : (Jvm.Cond.initialized z.cls).before a0 Z = true) (w4 : (Jvm.Cond.code z bytes maxL ret).before a0 Z = true)
    (hy : y.cls ≠ "java/lang/invoke/MethodHandle" ∧ y.cls ≠ "java/lang/invoke/VarHandle") (hM : own_Met l z bytes maxL ret rm [] as' Z h Q') (eT : T.heap = h) {g : JFrame} (hg : g.method = m) (hsize : g.locals.size = c.maxLocals) (b : Addr) (hE : Exa Z h b C) (argsL rest : List Value) (has : (.ref b :: argsL).toArray = as')
    (hlen : ∀ sig, parseMethodDescriptor y.desc = some sig → argsL.length = sig.parameters.length) (hstack : g.stack = argsL.reverse ++ .ref b :: rest) (W : Nat) (hW : 2 * g.monitorRoom + (rest.map fun v => v.category).sum ≤ W) (hdg : decode c.code g.pc = .ok (.invokevirtual index, 3))
    (hf : rm.frames + 1 ≤ R.frames) (hl : W + (maxL + 11) + rm.locals ≤ R.locals) (hc : cells + rm.cells ≤ R.cells) (hs : slots + rm.slots ≤ R.slots) :
    ∃ (T' : State) (v : Option Value) (L : List Loc), Stand p l e R s m args below meth c T' (locs ++ L) (cells + rm.cells) (slots + rm.slots) ∧ Q' v T'.heap L ∧ ∀ target, Steps p.tables e below (T'.setTop { g with pc := g.pc + 3, stack := v.toList ++ rest }) target → Steps p.tables e below (T.setTop g) target := by
  obtain ⟨cq, kq, qa, qb, qc⟩ := isOf hZ eT hE
  obtain ⟨v, vm1, ⟨T1, L1, k1, n1⟩, -, X1, ⟨Lc, hQ, l1, y1, z1⟩, st⟩ := X.virtualBack hx hown (mvT hZ w1) (mvT hZ w2) hnf (mvT hZ w5) (mvT hZ w6) hy (backOf (W := W) hM hZ w4 w3 hf hl) qa qc hg hsize (Steps.refl _) hlen hstack hW hdg (fun _ _ => ⟨has, eT, hc, hs⟩)
  dsimp only [Pt.U, Pt.locs, Pt.cells, Pt.slots] at X1 l1 y1 z1 st hQ
  subst l1 y1 z1
  exact ⟨T1, v, Lc, X1, hQ, fun t k => st.trans k⟩
/-- a virtual call whose method is declared further up, by the class 'owner' -/
theorem own_callVU (X : Stand p l e R s m args below meth c T locs cells slots) (hx : p.tables.exec = Jvm.exec) (hZ : Z.Warmed39 s.vm) {own C owner : String} {index : Nat} {y z : MethodName} {bytes : ByteArray} {maxL : Nat} {ret : Option FieldType} {rm : Room} {as' : Array Value} {Q' : Option Value → Heap → List Loc → Prop}
    (hown : s.vm.findClass own = some m.cls) (w1 : (Jvm.Cond.methodLink own index y).before a0 Z = true) (w2 : (Jvm.Cond.sameMethod y.cls owner y.name y.desc).before a0 Z = true) (w7 : (Jvm.Cond.declares ⟨owner, y.name, y.desc⟩).before a0 Z = true) (w5 : (Jvm.Cond.selects C y z).before a0 Z = true) (w6 : (Jvm.Cond.instanceMethod z).before a0 Z = true)
    (w3 : (Jvm.Cond.initialized z.cls).before a0 Z = true) (w4 : (Jvm.Cond.code z bytes maxL ret).before a0 Z = true)
    (hy : owner ≠ "java/lang/invoke/MethodHandle" ∧ owner ≠ "java/lang/invoke/VarHandle") (hM : own_Met l z bytes maxL ret rm [] as' Z h Q') (eT : T.heap = h) {g : JFrame} (hg : g.method = m) (hsize : g.locals.size = c.maxLocals) (b : Addr) (hE : Exa Z h b C) (argsL rest : List Value) (has : (.ref b :: argsL).toArray = as')
    (hlen : ∀ sig, parseMethodDescriptor y.desc = some sig → argsL.length = sig.parameters.length) (hstack : g.stack = argsL.reverse ++ .ref b :: rest) (W : Nat) (hW : 2 * g.monitorRoom + (rest.map fun v => v.category).sum ≤ W) (hdg : decode c.code g.pc = .ok (.invokevirtual index, 3))
    (hf : rm.frames + 1 ≤ R.frames) (hl : W + (maxL + 11) + rm.locals ≤ R.locals) (hc : cells + rm.cells ≤ R.cells) (hs : slots + rm.slots ≤ R.slots) :
    ∃ (T' : State) (v : Option Value) (L : List Loc), Stand p l e R s m args below meth c T' (locs ++ L) (cells + rm.cells) (slots + rm.slots) ∧ Q' v T'.heap L ∧ ∀ target, Steps p.tables e below (T'.setTop { g with pc := g.pc + 3, stack := v.toList ++ rest }) target → Steps p.tables e below (T.setTop g) target := by
  obtain ⟨cq, kq, qa, qb, qc⟩ := isOf hZ eT hE
  obtain ⟨v, vm1, ⟨T1, L1, k1, n1⟩, -, X1, ⟨Lc, hQ, l1, y1, z1⟩, st⟩ := X.virtualBackUp hx hown (mvT hZ w1) (mvT hZ w2) (mvT hZ w7) hy (mvT hZ w5) (mvT hZ w6) (backOf (W := W) hM hZ w4 w3 hf hl) qa qc hg hsize (Steps.refl _) hlen hstack hW hdg (fun _ _ => ⟨has, eT, hc, hs⟩)
  dsimp only [Pt.U, Pt.locs, Pt.cells, Pt.slots] at X1 l1 y1 z1 st hQ
  subst l1 y1 z1
  exact ⟨T1, v, Lc, X1, hQ, fun t k => st.trans k⟩
/-- calls by a 'Back' -/
theorem own_callNB (X : Stand p l e R s m args below meth c T locs cells slots) (hx : p.tables.exec = Jvm.exec) (hZ : Z.Warmed39 s.vm) {own : String} {index : Nat} {y : MethodName} {bytes : ByteArray} {maxL : Nat} {as' : Array Value} {Q' : Option Value → Heap → List Loc → Prop} {W rc rs : Nat}
    (hy1 : y.name = "<init>") (hown : s.vm.findClass own = some m.cls) (w1 : (Jvm.Cond.methodLink own index y).before a0 Z = true) (w2 : (Jvm.Cond.instanceMethod y).before a0 Z = true) (w4 : (Jvm.Cond.code y bytes maxL none).before a0 Z = true)
    (hy : y.cls ≠ "java/lang/invoke/MethodHandle" ∧ y.cls ≠ "java/lang/invoke/VarHandle")
    (hK : Back l R p e below s args y 3 W (fun A a => a = as' ∧ A.U.heap = h ∧ A.cells + rc ≤ R.cells ∧ A.slots + rs ≤ R.slots) (fun A _ v B => ∃ L, Q' v B.U.heap L ∧ B.locs = A.locs ++ L ∧ B.cells = A.cells + rc ∧ B.slots = A.slots + rs))
    (eT : T.heap = h) {g : JFrame} (hg : g.method = m) (hsize : g.locals.size = c.maxLocals) (b : Addr) (argsL rest : List Value) (has : (.ref b :: argsL).toArray = as')
    (hlen : ∀ sig, parseMethodDescriptor y.desc = some sig → argsL.length = sig.parameters.length) (hstack : g.stack = argsL.reverse ++ .ref b :: rest) (hW : 2 * g.monitorRoom + (rest.map fun v => v.category).sum ≤ W) (hdg : decode c.code g.pc = .ok (.invokespecial index, 3))
    (hc : cells + rc ≤ R.cells) (hs : slots + rs ≤ R.slots) :
    ∃ (T' : State) (v : Option Value) (L : List Loc), Stand p l e R s m args below meth c T' (locs ++ L) (cells + rc) (slots + rs) ∧ Q' v T'.heap L ∧ ∀ target, Steps p.tables e below (T'.setTop { g with pc := g.pc + 3, stack := v.toList ++ rest }) target → Steps p.tables e below (T.setTop g) target := by
  obtain ⟨v, vm1, ⟨T1, L1, k1, n1⟩, -, X1, ⟨Lc, hQ, l1, y1, z1⟩, st⟩ := X.specialBack hx hy1 hown (mvT hZ w1) (mvT hZ w2) (mvT hZ w4) hy hK hg hsize (Steps.refl _) (a := b) hlen hstack hW hdg (fun _ _ => ⟨has, eT, hc, hs⟩)
  dsimp only [Pt.U, Pt.locs, Pt.cells, Pt.slots] at X1 l1 y1 z1 st hQ
  subst l1 y1 z1
  exact ⟨T1, v, Lc, X1, hQ, fun t k => st.trans k⟩
theorem own_fldI {t : Jvm.Term} {a : Addr} {C n d : String} {k : Int32} (ev : t.eval args s none [] s = some (.ref a)) (hq : (Jvm.Cond.eq (Jvm.Term.field t C n d) (Jvm.Term.int k)).value args s none s [] = some true) : Fld s s.heap a C n d (.int k) := by
  obtain ⟨x, y, e1, e2, k1, -⟩ := cmp_v (Or.inl hq)
  have e2' : y = .int k := by have := e2; simp only [Jvm.Term.eval] at this; exact (Option.some.inj this).symm
  subst e2'
  have hx : x = .int k := by
    simp only [Jvm.Cond.value, e1, e2] at hq
    cases x <;> simp_all [Kin, Value.isRef]
  subst hx
  exact Fld.start ((fld_at ev).symm.trans e1)
theorem own_irem {g : JFrame} {target : State} (X : Stand p l e R s m args below meth c T locs cells slots) (hx : p.tables.exec = Jvm.exec) (hg : g.method = m) {x y : Int32} {rest : List Value} (hd : decode c.code g.pc = .ok (.irem, 1)) (hs : g.stack = .int y :: .int x :: rest) (hy : y ≠ 0)
    (hr : Steps p.tables e below (T.setTop { g with pc := g.pc + 1, stack := .int (x % y) :: rest }) target) : Steps p.tables e below (T.setTop g) target := iremM X hx hg hd hs hy hr
theorem own_fitR {t : FieldType} {v : Value} (hv : v.isRef = true) (ht : t.isReference = true) : fits t v = true := by cases t <;> first | (cases ht; done) | (cases v <;> first | rfl | (cases hv; done))
theorem own_staK {C n d : String} {v : Value} {h' : Heap} {ws : List Addr} (F : Sta Z h C n d v) (K : Keep h h' ws) (q : ∀ x ∈ ws, ∀ cell : Cell, h[x]? = some cell → cell.vm.isStatics = false) : Sta Z h' C n d v := by
  obtain ⟨cf, i, k, f, st, cell, h1, h2, h3, h4, h5, h6, h7⟩ := F
  exact ⟨cf, i, k, f, st, cell, h1, h2, h3, h4, K.2.1 _ _ h5 (fun hm => by rw [q st hm cell h5] at h6; cases h6), h6, h7⟩
end OwnKit
theorem d8_0 : decode jdk_30_method_1_code 0 = .ok (.aload_n 0, 1) := by decide +kernel
theorem d8_1 : decode jdk_30_method_1_code 1 = .ok (.invokespecial 1, 3) := by decide +kernel
theorem d8_4 : decode jdk_30_method_1_code 4 = .ok (.return_, 1) := by decide +kernel
theorem pn8 : plainFor (⟨"java/lang/Record", "<init>", "()V"⟩ : MethodName) = true := plainFor_of_name (by first | (simp [plainName, overriddenIn]; done) | decide +kernel)
set_option maxRecDepth 65536 in
set_option maxHeartbeats 40000000 in
theorem rm8 (l : Launch) (Z : State) (a0 : Array Value) (hw : ∀ d ∈ tables_1, d.before a0 Z = true) (ws : List Jvm.Cond)  (t : Addr) (h0 : Heap) (n0 : Nat) (Z0 : n0 ≤ h0.size)  :
    own_Met l (⟨"java/lang/Record", "<init>", "()V"⟩ : MethodName) jdk_30_method_1_code 1 none ({ frames := 1, cells := 0, slots := 0, locals := 12 } : Room) ws #[(.ref t)] Z h0 (fun v h L => v = none ∧ Fr n0 L ∧ h = h0) := by
  refine own_met pn8 ?_
  intro p e s m below meth c s₁ hx X0 hZ e0 hby hml hown hnm hret hlk
  have N0 := Fr.nil n0
  refine own_at (f' := mkF m 0 #[.val (.ref t)] []) (by first | rfl | (simp [entryFrame, mkF, argsToLocals, Value.category]; done)) ?_
  show own_Ends _ _ _ _ _ _ _ s₁ (mkF m 0 #[.val (.ref t)] [])
  refine own_go (fun t_ k_ => XS.aloadN X0.here hx rfl (hb hby d8_0) rfl rfl  k_) ?_
  show own_Ends _ _ _ _ _ _ _ s₁ (mkF m 1 #[.val (.ref t)] [(.ref t)])
  obtain ⟨T1, X1, e1, st1⟩ := initO X0 hx hZ hown (hw _ (List.mem_of_getElem? (i := 45) rfl)) (hw _ (List.mem_of_getElem? (i := 16) rfl)) (hw _ (List.mem_of_getElem? (i := 17) rfl)) e0 (g := (mkF m 1 #[.val (.ref t)] [(.ref t)])) rfl (by rw [hml]; rfl) rfl (hb hby d8_1) (by decide) (W := 0) (by show 2 * 0 + _ ≤ _; exact Nat.le_of_eq rfl) (by decide)
  refine own_go st1 ?_
  show own_Ends _ _ _ _ _ _ _ T1 (mkF m 4 #[.val (.ref t)] [])
  refine own_retV X1 hx hlk hret (hb hby d8_4) e1 (by decide) (by decide) ?_
  exact ⟨rfl, N0, rfl⟩
theorem d7_0 : decode prog_17_method_1_code 0 = .ok (.aload_n 0, 1) := by decide +kernel
theorem d7_1 : decode prog_17_method_1_code 1 = .ok (.invokespecial 3, 3) := by decide +kernel
theorem pd___V : parseMethodDescriptor "()V" = some ⟨[], none⟩ := by decide +kernel
theorem d7_4 : decode prog_17_method_1_code 4 = .ok (.aload_n 0, 1) := by decide +kernel
theorem d7_5 : decode prog_17_method_1_code 5 = .ok (.iload_n 1, 1) := by decide +kernel
theorem d7_6 : decode prog_17_method_1_code 6 = .ok (.putfield 9, 3) := by decide +kernel
theorem d7_9 : decode prog_17_method_1_code 9 = .ok (.aload_n 0, 1) := by decide +kernel
theorem d7_10 : decode prog_17_method_1_code 10 = .ok (.aload_n 2, 1) := by decide +kernel
theorem d7_11 : decode prog_17_method_1_code 11 = .ok (.putfield 15, 3) := by decide +kernel
theorem d7_14 : decode prog_17_method_1_code 14 = .ok (.aload_n 0, 1) := by decide +kernel
theorem d7_15 : decode prog_17_method_1_code 15 = .ok (.lload_n 3, 1) := by decide +kernel
theorem d7_16 : decode prog_17_method_1_code 16 = .ok (.putfield 19, 3) := by decide +kernel
theorem d7_19 : decode prog_17_method_1_code 19 = .ok (.aload_n 0, 1) := by decide +kernel
theorem d7_20 : decode prog_17_method_1_code 20 = .ok (.iload 5, 2) := by decide +kernel
theorem d7_22 : decode prog_17_method_1_code 22 = .ok (.putfield 23, 3) := by decide +kernel
theorem d7_25 : decode prog_17_method_1_code 25 = .ok (.aload_n 0, 1) := by decide +kernel
theorem d7_26 : decode prog_17_method_1_code 26 = .ok (.aload 6, 2) := by decide +kernel
theorem d7_28 : decode prog_17_method_1_code 28 = .ok (.putfield 27, 3) := by decide +kernel
theorem d7_31 : decode prog_17_method_1_code 31 = .ok (.return_, 1) := by decide +kernel
theorem pn7 : plainFor (⟨"com/example/quayside/quayside/RedeliverySchedule$Step", "<init>", "(ILcom/example/quayside/quayside/RedeliverySchedule$Action;JZLjava/lang/String;)V"⟩ : MethodName) = true := plainFor_of_name (by first | (simp [plainName, overriddenIn]; done) | decide +kernel)
set_option maxRecDepth 65536 in
set_option maxHeartbeats 40000000 in
theorem rm7 (l : Launch) (Z : State) (a0 : Array Value) (hw : ∀ d ∈ tables_1, d.before a0 Z = true) (ws : List Jvm.Cond)  (t : Addr) (p1 : Int32) (ac : Addr) (q3 : Int64) (p4 : Int32) (dv : Value) (h0 : Heap) (n0 : Nat) (Z0 : n0 ≤ h0.size) (hdv : dv.isRef = true) (Et : Exa Z h0 t "com/example/quayside/quayside/RedeliverySchedule$Step") (F_from : Fld Z h0 t "com/example/quayside/quayside/RedeliverySchedule$Step" "from" "I" (.int (0 : Int32))) (F_action : Fld Z h0 t "com/example/quayside/quayside/RedeliverySchedule$Step" "action" "Lcom/example/quayside/quayside/RedeliverySchedule$Action;" .null) (F_delayMs : Fld Z h0 t "com/example/quayside/quayside/RedeliverySchedule$Step" "delayMs" "J" (.long (0 : Int64))) (F_topic : Fld Z h0 t "com/example/quayside/quayside/RedeliverySchedule$Step" "topic" "Z" (.int (0 : Int32))) (F_destination : Fld Z h0 t "com/example/quayside/quayside/RedeliverySchedule$Step" "destination" "Ljava/lang/String;" .null) (g_t : n0 ≤ t) :
    own_Met l (⟨"com/example/quayside/quayside/RedeliverySchedule$Step", "<init>", "(ILcom/example/quayside/quayside/RedeliverySchedule$Action;JZLjava/lang/String;)V"⟩ : MethodName) prog_17_method_1_code 7 none ({ frames := 2, cells := 0, slots := 0, locals := 24 } : Room) ws #[(.ref t), (.int p1), (.ref ac), (.long q3), (.int p4), dv] Z h0 (fun v h L => v = none ∧ Fr n0 L ∧ Keep h0 h [t] ∧ Exa Z h t "com/example/quayside/quayside/RedeliverySchedule$Step" ∧ Fld Z h t "com/example/quayside/quayside/RedeliverySchedule$Step" "action" "Lcom/example/quayside/quayside/RedeliverySchedule$Action;" (.ref ac)) := by
  refine own_met pn7 ?_
  intro p e s m below meth c s₁ hx X0 hZ e0 hby hml hown hnm hret hlk
  have N0 := Fr.nil n0
  refine own_at (f' := mkF m 0 #[.val (.ref t), .val (.int p1), .val (.ref ac), .val (.long q3), .second, .val (.int p4), .val dv] []) (by rcases ref_cases hdv with rfl | ⟨z_, rfl⟩ <;> first | rfl | (simp [entryFrame, mkF, argsToLocals, Value.category]; done)) ?_
  show own_Ends _ _ _ _ _ _ _ s₁ (mkF m 0 #[.val (.ref t), .val (.int p1), .val (.ref ac), .val (.long q3), .second, .val (.int p4), .val dv] [])
  refine own_go (fun t_ k_ => XS.aloadN X0.here hx rfl (hb hby d7_0) rfl rfl  k_) ?_
  show own_Ends _ _ _ _ _ _ _ s₁ (mkF m 1 #[.val (.ref t), .val (.int p1), .val (.ref ac), .val (.long q3), .second, .val (.int p4), .val dv] [(.ref t)])
  obtain ⟨T1, v1, L1, X1, hQ1, st1⟩ := own_callN X0 hx hZ (y := (⟨"java/lang/Record", "<init>", "()V"⟩ : MethodName)) rfl hown (hw _ (List.mem_of_getElem? (i := 40) rfl)) (hw _ (List.mem_of_getElem? (i := 41) rfl)) (hw _ (List.mem_of_getElem? (i := 43) rfl)) (hw _ (List.mem_of_getElem? (i := 44) rfl)) (by decide) (rm8 l Z a0 hw [] t h0 n0 Z0) e0 (g := (mkF m 1 #[.val (.ref t), .val (.int p1), .val (.ref ac), .val (.long q3), .second, .val (.int p4), .val dv] [(.ref t)])) rfl (by rw [hml]; rfl) t [] [] rfl (lenOf pd___V rfl) rfl 0 (by show 2 * 0 + _ ≤ _; exact Nat.le_of_eq rfl) (hb hby d7_1) (by decide) (by decide) (by decide) (by decide)
  obtain ⟨rfl, N1q, e1⟩ := hQ1
  refine own_go st1 ?_
  have N1 := Fr.app N0 N1q
  show own_Ends _ _ _ _ _ _ _ T1 (mkF m 4 #[.val (.ref t), .val (.int p1), .val (.ref ac), .val (.long q3), .second, .val (.int p4), .val dv] [])
  refine own_go (fun t_ k_ => XS.aloadN X1.here hx rfl (hb hby d7_4) rfl rfl  k_) ?_
  show own_Ends _ _ _ _ _ _ _ T1 (mkF m 5 #[.val (.ref t), .val (.int p1), .val (.ref ac), .val (.long q3), .second, .val (.int p4), .val dv] [(.ref t)])
  refine own_go (fun t_ k_ => XS.iloadN X1.here hx rfl (hb hby d7_5) rfl  k_) ?_
  show own_Ends _ _ _ _ _ _ _ T1 (mkF m 6 #[.val (.ref t), .val (.int p1), .val (.ref ac), .val (.long q3), .second, .val (.int p4), .val dv] [(.int p1), (.ref t)])
  obtain ⟨T3, h3, X3, e3, W3, st3⟩ := putF X1 hx hZ hown (host := "") (Or.inl (hw _ (List.mem_of_getElem? (i := 46) rfl))) Via.refl e1 F_from Et (Or.inr ⟨(hw _ (List.mem_of_getElem? (i := 47) rfl)), rfl, hnm⟩) (hw _ (List.mem_of_getElem? (i := 35) rfl)) (ty := .int) (by decide) rfl rfl (g := (mkF m 6 #[.val (.ref t), .val (.int p1), .val (.ref ac), .val (.long q3), .second, .val (.int p4), .val dv] [(.int p1), (.ref t)])) rfl rfl (hb hby d7_6)
  refine own_go st3 ?_
  have Fw3 := Fld.same W3 F_from
  have N3 := Fr.snoc X3 N1 g_t
  have K3 := Keep.wr (Keep.refl h0 [t]) W3 (Or.inl (List.mem_of_getElem? (i := 0) rfl))
  show own_Ends _ _ _ _ _ _ _ T3 (mkF m 9 #[.val (.ref t), .val (.int p1), .val (.ref ac), .val (.long q3), .second, .val (.int p4), .val dv] [])
  refine own_go (fun t_ k_ => XS.aloadN X3.here hx rfl (hb hby d7_9) rfl rfl  k_) ?_
  show own_Ends _ _ _ _ _ _ _ T3 (mkF m 10 #[.val (.ref t), .val (.int p1), .val (.ref ac), .val (.long q3), .second, .val (.int p4), .val dv] [(.ref t)])
  refine own_go (fun t_ k_ => XS.aloadN X3.here hx rfl (hb hby d7_10) rfl rfl  k_) ?_
  show own_Ends _ _ _ _ _ _ _ T3 (mkF m 11 #[.val (.ref t), .val (.int p1), .val (.ref ac), .val (.long q3), .second, .val (.int p4), .val dv] [(.ref ac), (.ref t)])
  obtain ⟨T5, h5, X5, e5, W5, st5⟩ := putF X3 hx hZ hown (host := "") (Or.inl (hw _ (List.mem_of_getElem? (i := 48) rfl))) Via.refl e3 (F_action.other W3 (Or.inr (slot_ne (Or.inr (hw _ (List.mem_of_getElem? (i := 49) rfl))) (Or.inr (hw _ (List.mem_of_getElem? (i := 47) rfl))) (by decide) (t := (.object "com/example/quayside/quayside/RedeliverySchedule$Action")) (t' := .int) (by decide) (by decide)))) (Et.wr W3) (Or.inr ⟨(hw _ (List.mem_of_getElem? (i := 49) rfl)), rfl, hnm⟩) (hw _ (List.mem_of_getElem? (i := 35) rfl)) (ty := (.object "com/example/quayside/quayside/RedeliverySchedule$Action")) (by decide) rfl rfl (g := (mkF m 11 #[.val (.ref t), .val (.int p1), .val (.ref ac), .val (.long q3), .second, .val (.int p4), .val dv] [(.ref ac), (.ref t)])) rfl rfl (hb hby d7_11)
  refine own_go st5 ?_
  have Fw5 := Fld.same W5 (F_action.other W3 (Or.inr (slot_ne (Or.inr (hw _ (List.mem_of_getElem? (i := 49) rfl))) (Or.inr (hw _ (List.mem_of_getElem? (i := 47) rfl))) (by decide) (t := (.object "com/example/quayside/quayside/RedeliverySchedule$Action")) (t' := .int) (by decide) (by decide))))
  have N5 := Fr.snoc X5 N3 g_t
  have K5 := Keep.wr K3 W5 (Or.inl (List.mem_of_getElem? (i := 0) rfl))
  show own_Ends _ _ _ _ _ _ _ T5 (mkF m 14 #[.val (.ref t), .val (.int p1), .val (.ref ac), .val (.long q3), .second, .val (.int p4), .val dv] [])
  refine own_go (fun t_ k_ => XS.aloadN X5.here hx rfl (hb hby d7_14) rfl rfl  k_) ?_
  show own_Ends _ _ _ _ _ _ _ T5 (mkF m 15 #[.val (.ref t), .val (.int p1), .val (.ref ac), .val (.long q3), .second, .val (.int p4), .val dv] [(.ref t)])
  refine own_go (fun t_ k_ => XT.lloadN X5.here hx rfl (hb hby d7_15) rfl k_) ?_
  show own_Ends _ _ _ _ _ _ _ T5 (mkF m 16 #[.val (.ref t), .val (.int p1), .val (.ref ac), .val (.long q3), .second, .val (.int p4), .val dv] [(.long q3), (.ref t)])
  obtain ⟨T7, h7, X7, e7, W7, st7⟩ := putF X5 hx hZ hown (host := "") (Or.inl (hw _ (List.mem_of_getElem? (i := 50) rfl))) Via.refl e5 ((F_delayMs.other W3 (Or.inr (slot_ne (Or.inr (hw _ (List.mem_of_getElem? (i := 51) rfl))) (Or.inr (hw _ (List.mem_of_getElem? (i := 47) rfl))) (by decide) (t := .long) (t' := .int) (by decide) (by decide)))).other W5 (Or.inr (slot_ne (Or.inr (hw _ (List.mem_of_getElem? (i := 51) rfl))) (Or.inr (hw _ (List.mem_of_getElem? (i := 49) rfl))) (by decide) (t := .long) (t' := (.object "com/example/quayside/quayside/RedeliverySchedule$Action")) (by decide) (by decide)))) ((Et.wr W3).wr W5) (Or.inr ⟨(hw _ (List.mem_of_getElem? (i := 51) rfl)), rfl, hnm⟩) (hw _ (List.mem_of_getElem? (i := 35) rfl)) (ty := .long) (by decide) rfl rfl (g := (mkF m 16 #[.val (.ref t), .val (.int p1), .val (.ref ac), .val (.long q3), .second, .val (.int p4), .val dv] [(.long q3), (.ref t)])) rfl rfl (hb hby d7_16)
  refine own_go st7 ?_
  have Fw7 := Fld.same W7 ((F_delayMs.other W3 (Or.inr (slot_ne (Or.inr (hw _ (List.mem_of_getElem? (i := 51) rfl))) (Or.inr (hw _ (List.mem_of_getElem? (i := 47) rfl))) (by decide) (t := .long) (t' := .int) (by decide) (by decide)))).other W5 (Or.inr (slot_ne (Or.inr (hw _ (List.mem_of_getElem? (i := 51) rfl))) (Or.inr (hw _ (List.mem_of_getElem? (i := 49) rfl))) (by decide) (t := .long) (t' := (.object "com/example/quayside/quayside/RedeliverySchedule$Action")) (by decide) (by decide))))
  have N7 := Fr.snoc X7 N5 g_t
  have K7 := Keep.wr K5 W7 (Or.inl (List.mem_of_getElem? (i := 0) rfl))
  show own_Ends _ _ _ _ _ _ _ T7 (mkF m 19 #[.val (.ref t), .val (.int p1), .val (.ref ac), .val (.long q3), .second, .val (.int p4), .val dv] [])
  refine own_go (fun t_ k_ => XS.aloadN X7.here hx rfl (hb hby d7_19) rfl rfl  k_) ?_
  show own_Ends _ _ _ _ _ _ _ T7 (mkF m 20 #[.val (.ref t), .val (.int p1), .val (.ref ac), .val (.long q3), .second, .val (.int p4), .val dv] [(.ref t)])
  refine own_go (fun t_ k_ => XS.iload X7.here hx rfl (hb hby d7_20) rfl  k_) ?_
  show own_Ends _ _ _ _ _ _ _ T7 (mkF m 22 #[.val (.ref t), .val (.int p1), .val (.ref ac), .val (.long q3), .second, .val (.int p4), .val dv] [(.int p4), (.ref t)])
  obtain ⟨T9, h9, X9, e9, W9, st9⟩ := putFN X7 hx hZ hown (hw _ (List.mem_of_getElem? (i := 52) rfl)) Via.refl e7 (((F_topic.other W3 (Or.inr (slot_ne (Or.inr (hw _ (List.mem_of_getElem? (i := 53) rfl))) (Or.inr (hw _ (List.mem_of_getElem? (i := 47) rfl))) (by decide) (t := .boolean) (t' := .int) (by decide) (by decide)))).other W5 (Or.inr (slot_ne (Or.inr (hw _ (List.mem_of_getElem? (i := 53) rfl))) (Or.inr (hw _ (List.mem_of_getElem? (i := 49) rfl))) (by decide) (t := .boolean) (t' := (.object "com/example/quayside/quayside/RedeliverySchedule$Action")) (by decide) (by decide)))).other W7 (Or.inr (slot_ne (Or.inr (hw _ (List.mem_of_getElem? (i := 53) rfl))) (Or.inr (hw _ (List.mem_of_getElem? (i := 51) rfl))) (by decide) (t := .boolean) (t' := .long) (by decide) (by decide)))) (((Et.wr W3).wr W5).wr W7) (Or.inr ⟨(hw _ (List.mem_of_getElem? (i := 53) rfl)), rfl, hnm⟩) (hw _ (List.mem_of_getElem? (i := 35) rfl)) (ty := .boolean) (v' := (.int (nar .boolean p4))) (by decide) rfl (fits_nar_bool _) (g := (mkF m 22 #[.val (.ref t), .val (.int p1), .val (.ref ac), .val (.long q3), .second, .val (.int p4), .val dv] [(.int p4), (.ref t)])) rfl rfl (hb hby d7_22)
  refine own_go st9 ?_
  have Fw9 := Fld.same W9 (((F_topic.other W3 (Or.inr (slot_ne (Or.inr (hw _ (List.mem_of_getElem? (i := 53) rfl))) (Or.inr (hw _ (List.mem_of_getElem? (i := 47) rfl))) (by decide) (t := .boolean) (t' := .int) (by decide) (by decide)))).other W5 (Or.inr (slot_ne (Or.inr (hw _ (List.mem_of_getElem? (i := 53) rfl))) (Or.inr (hw _ (List.mem_of_getElem? (i := 49) rfl))) (by decide) (t := .boolean) (t' := (.object "com/example/quayside/quayside/RedeliverySchedule$Action")) (by decide) (by decide)))).other W7 (Or.inr (slot_ne (Or.inr (hw _ (List.mem_of_getElem? (i := 53) rfl))) (Or.inr (hw _ (List.mem_of_getElem? (i := 51) rfl))) (by decide) (t := .boolean) (t' := .long) (by decide) (by decide))))
  have N9 := Fr.snoc X9 N7 g_t
  have K9 := Keep.wr K7 W9 (Or.inl (List.mem_of_getElem? (i := 0) rfl))
  show own_Ends _ _ _ _ _ _ _ T9 (mkF m 25 #[.val (.ref t), .val (.int p1), .val (.ref ac), .val (.long q3), .second, .val (.int p4), .val dv] [])
  refine own_go (fun t_ k_ => XS.aloadN X9.here hx rfl (hb hby d7_25) rfl rfl  k_) ?_
  show own_Ends _ _ _ _ _ _ _ T9 (mkF m 26 #[.val (.ref t), .val (.int p1), .val (.ref ac), .val (.long q3), .second, .val (.int p4), .val dv] [(.ref t)])
  refine own_go (fun t_ k_ => XS.aload X9.here hx rfl (hb hby d7_26) rfl hdv  k_) ?_
  show own_Ends _ _ _ _ _ _ _ T9 (mkF m 28 #[.val (.ref t), .val (.int p1), .val (.ref ac), .val (.long q3), .second, .val (.int p4), .val dv] [dv, (.ref t)])
  obtain ⟨T11, h11, X11, e11, W11, st11⟩ := putF X9 hx hZ hown (host := "") (Or.inl (hw _ (List.mem_of_getElem? (i := 54) rfl))) Via.refl e9 ((((F_destination.other W3 (Or.inr (slot_ne (Or.inr (hw _ (List.mem_of_getElem? (i := 55) rfl))) (Or.inr (hw _ (List.mem_of_getElem? (i := 47) rfl))) (by decide) (t := (.object "java/lang/String")) (t' := .int) (by decide) (by decide)))).other W5 (Or.inr (slot_ne (Or.inr (hw _ (List.mem_of_getElem? (i := 55) rfl))) (Or.inr (hw _ (List.mem_of_getElem? (i := 49) rfl))) (by decide) (t := (.object "java/lang/String")) (t' := (.object "com/example/quayside/quayside/RedeliverySchedule$Action")) (by decide) (by decide)))).other W7 (Or.inr (slot_ne (Or.inr (hw _ (List.mem_of_getElem? (i := 55) rfl))) (Or.inr (hw _ (List.mem_of_getElem? (i := 51) rfl))) (by decide) (t := (.object "java/lang/String")) (t' := .long) (by decide) (by decide)))).other W9 (Or.inr (slot_ne (Or.inr (hw _ (List.mem_of_getElem? (i := 55) rfl))) (Or.inr (hw _ (List.mem_of_getElem? (i := 53) rfl))) (by decide) (t := (.object "java/lang/String")) (t' := .boolean) (by decide) (by decide)))) ((((Et.wr W3).wr W5).wr W7).wr W9) (Or.inr ⟨(hw _ (List.mem_of_getElem? (i := 55) rfl)), rfl, hnm⟩) (hw _ (List.mem_of_getElem? (i := 35) rfl)) (ty := (.object "java/lang/String")) (by decide) (own_narR rfl) (own_fitR hdv rfl) (g := (mkF m 28 #[.val (.ref t), .val (.int p1), .val (.ref ac), .val (.long q3), .second, .val (.int p4), .val dv] [dv, (.ref t)])) rfl rfl (hb hby d7_28)
  refine own_go st11 ?_
  have Fw11 := Fld.same W11 ((((F_destination.other W3 (Or.inr (slot_ne (Or.inr (hw _ (List.mem_of_getElem? (i := 55) rfl))) (Or.inr (hw _ (List.mem_of_getElem? (i := 47) rfl))) (by decide) (t := (.object "java/lang/String")) (t' := .int) (by decide) (by decide)))).other W5 (Or.inr (slot_ne (Or.inr (hw _ (List.mem_of_getElem? (i := 55) rfl))) (Or.inr (hw _ (List.mem_of_getElem? (i := 49) rfl))) (by decide) (t := (.object "java/lang/String")) (t' := (.object "com/example/quayside/quayside/RedeliverySchedule$Action")) (by decide) (by decide)))).other W7 (Or.inr (slot_ne (Or.inr (hw _ (List.mem_of_getElem? (i := 55) rfl))) (Or.inr (hw _ (List.mem_of_getElem? (i := 51) rfl))) (by decide) (t := (.object "java/lang/String")) (t' := .long) (by decide) (by decide)))).other W9 (Or.inr (slot_ne (Or.inr (hw _ (List.mem_of_getElem? (i := 55) rfl))) (Or.inr (hw _ (List.mem_of_getElem? (i := 53) rfl))) (by decide) (t := (.object "java/lang/String")) (t' := .boolean) (by decide) (by decide))))
  have N11 := Fr.snoc X11 N9 g_t
  have K11 := Keep.wr K9 W11 (Or.inl (List.mem_of_getElem? (i := 0) rfl))
  show own_Ends _ _ _ _ _ _ _ T11 (mkF m 31 #[.val (.ref t), .val (.int p1), .val (.ref ac), .val (.long q3), .second, .val (.int p4), .val dv] [])
  refine own_retV X11 hx hlk hret (hb hby d7_31) e11 (by decide) (by decide) ?_
  exact ⟨rfl, N11, K11, (((((Et.wr W3).wr W5).wr W7).wr W9).wr W11), (((Fw5.other W7 (Or.inr (slot_ne (Or.inr (hw _ (List.mem_of_getElem? (i := 49) rfl))) (Or.inr (hw _ (List.mem_of_getElem? (i := 51) rfl))) (by decide) (t := (.object "com/example/quayside/quayside/RedeliverySchedule$Action")) (t' := .long) (by decide) (by decide)))).other W9 (Or.inr (slot_ne (Or.inr (hw _ (List.mem_of_getElem? (i := 49) rfl))) (Or.inr (hw _ (List.mem_of_getElem? (i := 53) rfl))) (by decide) (t := (.object "com/example/quayside/quayside/RedeliverySchedule$Action")) (t' := .boolean) (by decide) (by decide)))).other W11 (Or.inr (slot_ne (Or.inr (hw _ (List.mem_of_getElem? (i := 49) rfl))) (Or.inr (hw _ (List.mem_of_getElem? (i := 55) rfl))) (by decide) (t := (.object "com/example/quayside/quayside/RedeliverySchedule$Action")) (t' := (.object "java/lang/String")) (by decide) (by decide))))⟩
theorem d9_0 : decode prog_17_method_2_code 0 = .ok (.aload_n 0, 1) := by decide +kernel
theorem d9_1 : decode prog_17_method_2_code 1 = .ok (.getfield 15, 3) := by decide +kernel
theorem d9_4 : decode prog_17_method_2_code 4 = .ok (.getstatic 31, 3) := by decide +kernel
theorem d9_7 : decode prog_17_method_2_code 7 = .ok (.if_acmp .eq 7, 3) := by decide +kernel
theorem d9_14 : decode prog_17_method_2_code 14 = .ok (.iconst 0, 1) := by decide +kernel
theorem d9_15 : decode prog_17_method_2_code 15 = .ok (.ireturn, 1) := by decide +kernel
theorem d9_10 : decode prog_17_method_2_code 10 = .ok (.iconst 1, 1) := by decide +kernel
theorem d9_11 : decode prog_17_method_2_code 11 = .ok (.goto 4, 3) := by decide +kernel
theorem pn9 : plainFor (⟨"com/example/quayside/quayside/RedeliverySchedule$Step", "removes", "()Z"⟩ : MethodName) = true := plainFor_of_name (by first | (simp [plainName, overriddenIn]; done) | decide +kernel)
set_option maxRecDepth 65536 in
set_option maxHeartbeats 40000000 in
theorem rm9 (l : Launch) (Z : State) (a0 : Array Value) (hw : ∀ d ∈ tables_1, d.before a0 Z = true) (ws : List Jvm.Cond)  (t ac wD : Addr) (h0 : Heap) (n0 : Nat) (Z0 : n0 ≤ h0.size) (F_ac : Fld Z h0 t "com/example/quayside/quayside/RedeliverySchedule$Step" "action" "Lcom/example/quayside/quayside/RedeliverySchedule$Action;" (.ref ac)) (SD : Sta Z h0 "com/example/quayside/quayside/RedeliverySchedule$Action" "DELAY" "Lcom/example/quayside/quayside/RedeliverySchedule$Action;" (.ref wD)) :
    own_Met l (⟨"com/example/quayside/quayside/RedeliverySchedule$Step", "removes", "()Z"⟩ : MethodName) prog_17_method_2_code 1 (some .boolean) ({ frames := 0, cells := 0, slots := 0, locals := 0 } : Room) ws #[(.ref t)] Z h0 (fun v h L => v = some (.int (if ac = wD then 0 else 1)) ∧ Fr n0 L ∧ h = h0) := by
  refine own_met pn9 ?_
  intro p e s m below meth c s₁ hx X0 hZ e0 hby hml hown hnm hret hlk
  have N0 := Fr.nil n0
  refine own_at (f' := mkF m 0 #[.val (.ref t)] []) (by first | rfl | (simp [entryFrame, mkF, argsToLocals, Value.category]; done)) ?_
  show own_Ends _ _ _ _ _ _ _ s₁ (mkF m 0 #[.val (.ref t)] [])
  refine own_go (fun t_ k_ => XS.aloadN X0.here hx rfl (hb hby d9_0) rfl rfl  k_) ?_
  show own_Ends _ _ _ _ _ _ _ s₁ (mkF m 1 #[.val (.ref t)] [(.ref t)])
  obtain ⟨T1, X1, e1, st1⟩ := getF X0 hx hZ hown (host := "") (Or.inl (hw _ (List.mem_of_getElem? (i := 48) rfl))) Via.refl e0 F_ac (g := (mkF m 1 #[.val (.ref t)] [(.ref t)])) rfl rfl (hb hby d9_1)
  refine own_go st1 ?_
  show own_Ends _ _ _ _ _ _ _ T1 (mkF m 4 #[.val (.ref t)] [(.ref ac)])
  obtain ⟨T2, X2, e2, st2⟩ := getS2 X1 hx hZ hown (host := "") (Or.inl (hw _ (List.mem_of_getElem? (i := 61) rfl))) Via.refl e1 SD (g := (mkF m 4 #[.val (.ref t)] [(.ref ac)])) rfl (hb hby d9_4)
  refine own_go st2 ?_
  show own_Ends _ _ _ _ _ _ _ T2 (mkF m 7 #[.val (.ref t)] [(.ref wD), (.ref ac)])
  by_cases hc3 : ac = wD
  · refine own_go (fun t_ k_ => XT.acmpYes X2.here hx rfl (pc0 := 7) (pc' := 14) rfl (hb hby d9_7) rfl rfl rfl (XT.aa_eq_t (congrArg Value.ref hc3)) (by decide) (by decide) k_) ?_
    show own_Ends _ _ _ _ _ _ _ T2 (mkF m 14 #[.val (.ref t)] [])
    refine own_go (fun t_ k_ => XS.iconst X2.here hx rfl (hb hby d9_14) k_) ?_
    show own_Ends _ _ _ _ _ _ _ T2 (mkF m 15 #[.val (.ref t)] [(.int (0 : Int32))])
    refine own_retN X2 hx hlk (t := .boolean) hret (by simp) (hb hby d9_15) e2 (by decide) (by decide) ?_
    exact ⟨by simp [nar, hc3], N0, rfl⟩
  · refine own_go (fun t_ k_ => XT.acmpNo X2.here hx rfl (hb hby d9_7) rfl rfl rfl (XT.aa_eq_f (fun q => hc3 (Value.ref.inj q))) k_) ?_
    show own_Ends _ _ _ _ _ _ _ T2 (mkF m 10 #[.val (.ref t)] [])
    refine own_go (fun t_ k_ => XS.iconst X2.here hx rfl (hb hby d9_10) k_) ?_
    show own_Ends _ _ _ _ _ _ _ T2 (mkF m 11 #[.val (.ref t)] [(.int (1 : Int32))])
    refine own_go (fun t_ k_ => XS.goto X2.here hx rfl (pc0 := 11) (pc' := 15) rfl (hb hby d9_11) (by decide) (by decide) k_) ?_
    show own_Ends _ _ _ _ _ _ _ T2 (mkF m 15 #[.val (.ref t)] [(.int (1 : Int32))])
    refine own_retN X2 hx hlk (t := .boolean) hret (by simp) (hb hby d9_15) e2 (by decide) (by decide) ?_
    exact ⟨by simp [nar, hc3], N0, rfl⟩
theorem own_two (x : Int32) (h0 : ¬ (x &&& (2147483647 : Int32)) % (3 : Int32) = 0) (h1 : ¬ (x &&& (2147483647 : Int32)) % (3 : Int32) = 1) : (x &&& (2147483647 : Int32)) % (3 : Int32) = 2 := by
  have a1 := c_and x 2147483647 (by decide)
  have a2 := (c_iremV (x &&& 2147483647) 3).1 a1.1 (by decide)
  have a3 : (3 : Int32).toInt = 3 := rfl
  rw [← Int32.toInt_inj] at h0 h1 ⊢
  have a4 : (0 : Int32).toInt = 0 := rfl
  have a5 : (1 : Int32).toInt = 1 := rfl
  have a6 : (2 : Int32).toInt = 2 := rfl
  omega
theorem own_lat1 (x : Int32) : ∀ c ∈ [nar .char ((x &&& (255 : Int32)).toUInt32.toUInt16.toUInt32.toInt32)], ¬ c < 0 ∧ ¬ (255 : Int32) < c := by
  intro c hc
  obtain rfl := List.mem_singleton.mp hc
  show ¬ ((x &&& 255).toUInt32.toUInt16.toUInt32.toInt32).toUInt32.toUInt16.toUInt32.toInt32 < 0 ∧ ¬ (255 : Int32) < ((x &&& 255).toUInt32.toUInt16.toUInt32.toInt32).toUInt32.toUInt16.toUInt32.toInt32
  have a1 := c_and x 255 (by decide)
  have a2 := c_i2c (x &&& 255)
  have a3 := c_i2c ((x &&& 255).toUInt32.toUInt16.toUInt32.toInt32)
  have a4 : (255 : Int32).toInt = 255 := rfl
  have a5 : (0 : Int32).toInt = 0 := rfl
  rw [Int32.lt_iff_toInt_lt, Int32.lt_iff_toInt_lt]
  omega
theorem own_sub : ∀ d ∈ StrChars.Road.words, d ∈ tables_1 := by
  have q : StrChars.Road.words.all (fun d => decide (d ∈ tables_1)) = true := by decide +kernel
  intro d hd
  exact of_decide_eq_true (List.all_eq_true.mp q d hd)
theorem own_nz {args : Array Value} {s : State} {t : Jvm.Term} {z : Int32} (ev : t.eval args s none [] s = some (.int z)) (h : (Jvm.Cond.not (Jvm.Cond.eq t (Jvm.Term.int 0))).value args s none s [] = some true) : ¬ z = 0 := by
  have h1 := not_v h
  intro e
  subst e
  simp [Jvm.Cond.value, ev, Jvm.Term.eval] at h1
theorem pd___C_V : parseMethodDescriptor "([C)V" = some ⟨[(.array .char)], none⟩ := by decide +kernel
theorem pd__ILcom_example_quayside_quayside_RedeliverySchedule_Action_JZLjava_lang_String__V : parseMethodDescriptor "(ILcom/example/quayside/quayside/RedeliverySchedule$Action;JZLjava/lang/String;)V" = some ⟨[.int, (.object "com/example/quayside/quayside/RedeliverySchedule$Action"), .long, .boolean, (.object "java/lang/String")], none⟩ := by decide +kernel
theorem pd___Z : parseMethodDescriptor "()Z" = some ⟨[], some .boolean⟩ := by decide +kernel
theorem pn0 : plainFor (⟨"com/example/quayside/quayside/StepRemovesPinLaw", "law", "(IIJII)Z"⟩ : MethodName) = true := plainFor_of_name (by first | (simp [plainName, overriddenIn]; done) | decide +kernel)
set_option maxRecDepth 65536 in
set_option maxHeartbeats 40000000 in
theorem rm0 (l : Launch) (Z : State) (a0 : Array Value) (hw : ∀ d ∈ tables_1, d.before a0 Z = true) (ws : List Jvm.Cond) (p0 : Int32) (p1 : Int32) (q2 : Int64) (p3 : Int32) (p4 : Int32) (wD wX wM : Addr) (zc : Int32) (h0 : Heap) (n0 : Nat) (Z0 : n0 ≤ h0.size) (SD : Sta Z h0 "com/example/quayside/quayside/RedeliverySchedule$Action" "DELAY" "Lcom/example/quayside/quayside/RedeliverySchedule$Action;" (.ref wD)) (SX : Sta Z h0 "com/example/quayside/quayside/RedeliverySchedule$Action" "DELETE" "Lcom/example/quayside/quayside/RedeliverySchedule$Action;" (.ref wX)) (SM : Sta Z h0 "com/example/quayside/quayside/RedeliverySchedule$Action" "MOVE" "Lcom/example/quayside/quayside/RedeliverySchedule$Action;" (.ref wM)) (SC : Sta Z h0 "java/lang/String" "COMPACT_STRINGS" "Z" (.int zc)) (hzc : ¬ zc = 0) (hXD : ¬ wX = wD) (hMD : ¬ wM = wD) :
    own_Met l x code maxLocals ret room_1 ws #[(.int p0), (.int p1), (.long q2), (.int p3), (.int p4)] Z h0 (fun v h L => v = some (.int 1) ∧ Fr n0 L) := by
  refine own_met pn0 ?_
  intro p e s m below meth c s₁ hx X0 hZ e0 hby hml hown hnm hret hlk
  have N0 := Fr.nil n0
  refine own_at (f' := mkF m 0 #[.val (.int p0), .val (.int p1), .val (.long q2), .second, .val (.int p3), .val (.int p4), .unset, .unset, .unset, .unset, .unset, .unset] []) (by first | rfl | (simp [entryFrame, mkF, argsToLocals, Value.category, maxLocals]; done)) ?_
  show own_Ends _ _ _ _ _ _ _ s₁ (mkF m 0 #[.val (.int p0), .val (.int p1), .val (.long q2), .second, .val (.int p3), .val (.int p4), .unset, .unset, .unset, .unset, .unset, .unset] [])
  refine own_go (fun t_ k_ => XS.iloadN X0.here hx rfl (hb hby at_0) rfl  k_) ?_
  show own_Ends _ _ _ _ _ _ _ s₁ (mkF m 1 #[.val (.int p0), .val (.int p1), .val (.long q2), .second, .val (.int p3), .val (.int p4), .unset, .unset, .unset, .unset, .unset, .unset] [(.int p1)])
  refine own_go (X0.ldcInt hx hown (mvT hZ (hw _ (List.mem_of_getElem? (i := 0) rfl))) (g := (mkF m 1 #[.val (.int p0), .val (.int p1), .val (.long q2), .second, .val (.int p3), .val (.int p4), .unset, .unset, .unset, .unset, .unset, .unset] [(.int p1)])) rfl (hb hby at_1)) ?_
  show own_Ends _ _ _ _ _ _ _ s₁ (mkF m 3 #[.val (.int p0), .val (.int p1), .val (.long q2), .second, .val (.int p3), .val (.int p4), .unset, .unset, .unset, .unset, .unset, .unset] [(.int (2147483647 : Int32)), (.int p1)])
  refine own_go (fun t_ k_ => XS.iand X0.here hx rfl (hb hby at_3) rfl k_) ?_
  show own_Ends _ _ _ _ _ _ _ s₁ (mkF m 4 #[.val (.int p0), .val (.int p1), .val (.long q2), .second, .val (.int p3), .val (.int p4), .unset, .unset, .unset, .unset, .unset, .unset] [(.int (p1 &&& (2147483647 : Int32)))])
  refine own_go (fun t_ k_ => XS.iconst X0.here hx rfl (hb hby at_4) k_) ?_
  show own_Ends _ _ _ _ _ _ _ s₁ (mkF m 5 #[.val (.int p0), .val (.int p1), .val (.long q2), .second, .val (.int p3), .val (.int p4), .unset, .unset, .unset, .unset, .unset, .unset] [(.int (3 : Int32)), (.int (p1 &&& (2147483647 : Int32)))])
  refine own_go (fun t_ k_ => own_irem X0 hx rfl (hb hby at_5) rfl (by decide) k_) ?_
  show own_Ends _ _ _ _ _ _ _ s₁ (mkF m 6 #[.val (.int p0), .val (.int p1), .val (.long q2), .second, .val (.int p3), .val (.int p4), .unset, .unset, .unset, .unset, .unset, .unset] [(.int ((p1 &&& (2147483647 : Int32)) % (3 : Int32)))])
  refine own_go (fun t_ k_ => XS.istore X0.here hx rfl (hb hby at_6) rfl (l' := #[.val (.int p0), .val (.int p1), .val (.long q2), .second, .val (.int p3), .val (.int p4), .val (.int ((p1 &&& (2147483647 : Int32)) % (3 : Int32))), .unset, .unset, .unset, .unset, .unset]) rfl k_) ?_
  show own_Ends _ _ _ _ _ _ _ s₁ (mkF m 8 #[.val (.int p0), .val (.int p1), .val (.long q2), .second, .val (.int p3), .val (.int p4), .val (.int ((p1 &&& (2147483647 : Int32)) % (3 : Int32))), .unset, .unset, .unset, .unset, .unset] [])
  refine own_go (fun t_ k_ => XS.iload X0.here hx rfl (hb hby at_8) rfl  k_) ?_
  show own_Ends _ _ _ _ _ _ _ s₁ (mkF m 10 #[.val (.int p0), .val (.int p1), .val (.long q2), .second, .val (.int p3), .val (.int p4), .val (.int ((p1 &&& (2147483647 : Int32)) % (3 : Int32))), .unset, .unset, .unset, .unset, .unset] [(.int ((p1 &&& (2147483647 : Int32)) % (3 : Int32)))])
  by_cases hc1 : ((p1 &&& (2147483647 : Int32)) % (3 : Int32)) = (0 : Int32)
  · refine own_go (fun t_ k_ => XS.ifNo X0.here hx rfl (hb hby at_10) rfl ((if0 _ _).trans (teq hc1).2) k_) ?_
    show own_Ends _ _ _ _ _ _ _ s₁ (mkF m 13 #[.val (.int p0), .val (.int p1), .val (.long q2), .second, .val (.int p3), .val (.int p4), .val (.int ((p1 &&& (2147483647 : Int32)) % (3 : Int32))), .unset, .unset, .unset, .unset, .unset] [])
    obtain ⟨T2, X2, e2, st2⟩ := getS2 X0 hx hZ hown (host := "") (Or.inl (hw _ (List.mem_of_getElem? (i := 1) rfl))) Via.refl e0 SD (g := (mkF m 13 #[.val (.int p0), .val (.int p1), .val (.long q2), .second, .val (.int p3), .val (.int p4), .val (.int ((p1 &&& (2147483647 : Int32)) % (3 : Int32))), .unset, .unset, .unset, .unset, .unset] [])) rfl (hb hby at_13)
    refine own_go st2 ?_
    show own_Ends _ _ _ _ _ _ _ T2 (mkF m 16 #[.val (.int p0), .val (.int p1), .val (.long q2), .second, .val (.int p3), .val (.int p4), .val (.int ((p1 &&& (2147483647 : Int32)) % (3 : Int32))), .unset, .unset, .unset, .unset, .unset] [(.ref wD)])
    refine own_go (fun t_ k_ => XS.astore X2.here hx rfl (hb hby at_16) rfl rfl (l' := #[.val (.int p0), .val (.int p1), .val (.long q2), .second, .val (.int p3), .val (.int p4), .val (.int ((p1 &&& (2147483647 : Int32)) % (3 : Int32))), .val (.ref wD), .unset, .unset, .unset, .unset]) rfl k_) ?_
    show own_Ends _ _ _ _ _ _ _ T2 (mkF m 18 #[.val (.int p0), .val (.int p1), .val (.long q2), .second, .val (.int p3), .val (.int p4), .val (.int ((p1 &&& (2147483647 : Int32)) % (3 : Int32))), .val (.ref wD), .unset, .unset, .unset, .unset] [])
    refine own_go (fun t_ k_ => XS.goto X2.here hx rfl (pc0 := 18) (pc' := 40) rfl (hb hby at_18) (by decide) (by decide) k_) ?_
    show own_Ends _ _ _ _ _ _ _ T2 (mkF m 40 #[.val (.int p0), .val (.int p1), .val (.long q2), .second, .val (.int p3), .val (.int p4), .val (.int ((p1 &&& (2147483647 : Int32)) % (3 : Int32))), .val (.ref wD), .unset, .unset, .unset, .unset] [])
    refine own_go (fun t_ k_ => XS.iload X2.here hx rfl (hb hby at_40) rfl  k_) ?_
    show own_Ends _ _ _ _ _ _ _ T2 (mkF m 42 #[.val (.int p0), .val (.int p1), .val (.long q2), .second, .val (.int p3), .val (.int p4), .val (.int ((p1 &&& (2147483647 : Int32)) % (3 : Int32))), .val (.ref wD), .unset, .unset, .unset, .unset] [(.int p3)])
    refine own_go (fun t_ k_ => XS.iconst X2.here hx rfl (hb hby at_42) k_) ?_
    show own_Ends _ _ _ _ _ _ _ T2 (mkF m 43 #[.val (.int p0), .val (.int p1), .val (.long q2), .second, .val (.int p3), .val (.int p4), .val (.int ((p1 &&& (2147483647 : Int32)) % (3 : Int32))), .val (.ref wD), .unset, .unset, .unset, .unset] [(.int (1 : Int32)), (.int p3)])
    refine own_go (fun t_ k_ => XS.iand X2.here hx rfl (hb hby at_43) rfl k_) ?_
    show own_Ends _ _ _ _ _ _ _ T2 (mkF m 44 #[.val (.int p0), .val (.int p1), .val (.long q2), .second, .val (.int p3), .val (.int p4), .val (.int ((p1 &&& (2147483647 : Int32)) % (3 : Int32))), .val (.ref wD), .unset, .unset, .unset, .unset] [(.int (p3 &&& (1 : Int32)))])
    by_cases hc3 : (p3 &&& (1 : Int32)) = (0 : Int32)
    · refine own_go (fun t_ k_ => XS.ifYes X2.here hx rfl (pc0 := 44) (pc' := 51) rfl (hb hby at_44) rfl ((if0 _ _).trans (teq hc3).1) (by decide) (by decide) k_) ?_
      show own_Ends _ _ _ _ _ _ _ T2 (mkF m 51 #[.val (.int p0), .val (.int p1), .val (.long q2), .second, .val (.int p3), .val (.int p4), .val (.int ((p1 &&& (2147483647 : Int32)) % (3 : Int32))), .val (.ref wD), .unset, .unset, .unset, .unset] [])
      refine own_go (fun t_ k_ => XS.iconst X2.here hx rfl (hb hby at_51) k_) ?_
      show own_Ends _ _ _ _ _ _ _ T2 (mkF m 52 #[.val (.int p0), .val (.int p1), .val (.long q2), .second, .val (.int p3), .val (.int p4), .val (.int ((p1 &&& (2147483647 : Int32)) % (3 : Int32))), .val (.ref wD), .unset, .unset, .unset, .unset] [(.int (0 : Int32))])
      refine own_go (fun t_ k_ => XS.istore X2.here hx rfl (hb hby at_52) rfl (l' := #[.val (.int p0), .val (.int p1), .val (.long q2), .second, .val (.int p3), .val (.int p4), .val (.int ((p1 &&& (2147483647 : Int32)) % (3 : Int32))), .val (.ref wD), .val (.int (0 : Int32)), .unset, .unset, .unset]) rfl k_) ?_
      show own_Ends _ _ _ _ _ _ _ T2 (mkF m 54 #[.val (.int p0), .val (.int p1), .val (.long q2), .second, .val (.int p3), .val (.int p4), .val (.int ((p1 &&& (2147483647 : Int32)) % (3 : Int32))), .val (.ref wD), .val (.int (0 : Int32)), .unset, .unset, .unset] [])
      refine own_go (fun t_ k_ => XS.iload X2.here hx rfl (hb hby at_54) rfl  k_) ?_
      show own_Ends _ _ _ _ _ _ _ T2 (mkF m 56 #[.val (.int p0), .val (.int p1), .val (.long q2), .second, .val (.int p3), .val (.int p4), .val (.int ((p1 &&& (2147483647 : Int32)) % (3 : Int32))), .val (.ref wD), .val (.int (0 : Int32)), .unset, .unset, .unset] [(.int p3)])
      refine own_go (fun t_ k_ => XS.iconst X2.here hx rfl (hb hby at_56) k_) ?_
      show own_Ends _ _ _ _ _ _ _ T2 (mkF m 57 #[.val (.int p0), .val (.int p1), .val (.long q2), .second, .val (.int p3), .val (.int p4), .val (.int ((p1 &&& (2147483647 : Int32)) % (3 : Int32))), .val (.ref wD), .val (.int (0 : Int32)), .unset, .unset, .unset] [(.int (2 : Int32)), (.int p3)])
      refine own_go (fun t_ k_ => XS.iand X2.here hx rfl (hb hby at_57) rfl k_) ?_
      show own_Ends _ _ _ _ _ _ _ T2 (mkF m 58 #[.val (.int p0), .val (.int p1), .val (.long q2), .second, .val (.int p3), .val (.int p4), .val (.int ((p1 &&& (2147483647 : Int32)) % (3 : Int32))), .val (.ref wD), .val (.int (0 : Int32)), .unset, .unset, .unset] [(.int (p3 &&& (2 : Int32)))])
      by_cases hc4 : (p3 &&& (2 : Int32)) = (0 : Int32)
      · refine own_go (fun t_ k_ => XS.ifYes X2.here hx rfl (pc0 := 58) (pc' := 67) rfl (hb hby at_58) rfl ((if0 _ _).trans (teq hc4).1) (by decide) (by decide) k_) ?_
        show own_Ends _ _ _ _ _ _ _ T2 (mkF m 67 #[.val (.int p0), .val (.int p1), .val (.long q2), .second, .val (.int p3), .val (.int p4), .val (.int ((p1 &&& (2147483647 : Int32)) % (3 : Int32))), .val (.ref wD), .val (.int (0 : Int32)), .unset, .unset, .unset] [])
        refine own_go (fun t_ k_ => XS.iconst X2.here hx rfl (hb hby at_67) k_) ?_
        show own_Ends _ _ _ _ _ _ _ T2 (mkF m 68 #[.val (.int p0), .val (.int p1), .val (.long q2), .second, .val (.int p3), .val (.int p4), .val (.int ((p1 &&& (2147483647 : Int32)) % (3 : Int32))), .val (.ref wD), .val (.int (0 : Int32)), .unset, .unset, .unset] [(.int (1 : Int32))])
        obtain ⟨T5, h5, k5, X5, e5, E5, A5, st5⟩ := newP X2 hx hZ (hw _ (List.mem_of_getElem? (i := 4) rfl)) e2 (g := (mkF m 68 #[.val (.int p0), .val (.int p1), .val (.long q2), .second, .val (.int p3), .val (.int p4), .val (.int ((p1 &&& (2147483647 : Int32)) % (3 : Int32))), .val (.ref wD), .val (.int (0 : Int32)), .unset, .unset, .unset] [(.int (1 : Int32))])) rfl (hb hby at_68) rfl (by decide) (cap := 1) (by decide) (by decide) (by decide) (by decide)
        obtain ⟨b5, g5⟩ : ∃ z, z = h0.size := ⟨_, rfl⟩
        rw [← g5] at A5 st5
        refine own_go st5 ?_
        have V5 : Arv Z h5 b5 k5 .char (1 : Int32) [(.int (0 : Int32))] (.int (0 : Int32)) := (Arv.new A5 (by decide)).pad (pad_rep [] (.int (0 : Int32)) 1)
        have g_b5 : n0 ≤ b5 := Nat.le_trans Z0 (Nat.le_of_eq g5.symm)
        show own_Ends _ _ _ _ _ _ _ T5 (mkF m 70 #[.val (.int p0), .val (.int p1), .val (.long q2), .second, .val (.int p3), .val (.int p4), .val (.int ((p1 &&& (2147483647 : Int32)) % (3 : Int32))), .val (.ref wD), .val (.int (0 : Int32)), .unset, .unset, .unset] [(.ref b5)])
        refine own_go (fun t_ k_ => XS.astore X5.here hx rfl (hb hby at_70) rfl rfl (l' := #[.val (.int p0), .val (.int p1), .val (.long q2), .second, .val (.int p3), .val (.int p4), .val (.int ((p1 &&& (2147483647 : Int32)) % (3 : Int32))), .val (.ref wD), .val (.int (0 : Int32)), .unset, .val (.ref b5), .unset]) rfl k_) ?_
        show own_Ends _ _ _ _ _ _ _ T5 (mkF m 72 #[.val (.int p0), .val (.int p1), .val (.long q2), .second, .val (.int p3), .val (.int p4), .val (.int ((p1 &&& (2147483647 : Int32)) % (3 : Int32))), .val (.ref wD), .val (.int (0 : Int32)), .unset, .val (.ref b5), .unset] [])
        refine own_go (fun t_ k_ => XS.aload X5.here hx rfl (hb hby at_72) rfl rfl  k_) ?_
        show own_Ends _ _ _ _ _ _ _ T5 (mkF m 74 #[.val (.int p0), .val (.int p1), .val (.long q2), .second, .val (.int p3), .val (.int p4), .val (.int ((p1 &&& (2147483647 : Int32)) % (3 : Int32))), .val (.ref wD), .val (.int (0 : Int32)), .unset, .val (.ref b5), .unset] [(.ref b5)])
        refine own_go (fun t_ k_ => XS.iconst X5.here hx rfl (hb hby at_74) k_) ?_
        show own_Ends _ _ _ _ _ _ _ T5 (mkF m 75 #[.val (.int p0), .val (.int p1), .val (.long q2), .second, .val (.int p3), .val (.int p4), .val (.int ((p1 &&& (2147483647 : Int32)) % (3 : Int32))), .val (.ref wD), .val (.int (0 : Int32)), .unset, .val (.ref b5), .unset] [(.int (0 : Int32)), (.ref b5)])
        refine own_go (fun t_ k_ => XS.iload X5.here hx rfl (hb hby at_75) rfl  k_) ?_
        show own_Ends _ _ _ _ _ _ _ T5 (mkF m 77 #[.val (.int p0), .val (.int p1), .val (.long q2), .second, .val (.int p3), .val (.int p4), .val (.int ((p1 &&& (2147483647 : Int32)) % (3 : Int32))), .val (.ref wD), .val (.int (0 : Int32)), .unset, .val (.ref b5), .unset] [(.int p4), (.int (0 : Int32)), (.ref b5)])
        refine own_go (fun t_ k_ => XS.sipush X5.here hx rfl (hb hby at_77) k_) ?_
        show own_Ends _ _ _ _ _ _ _ T5 (mkF m 80 #[.val (.int p0), .val (.int p1), .val (.long q2), .second, .val (.int p3), .val (.int p4), .val (.int ((p1 &&& (2147483647 : Int32)) % (3 : Int32))), .val (.ref wD), .val (.int (0 : Int32)), .unset, .val (.ref b5), .unset] [(.int (255 : Int32)), (.int p4), (.int (0 : Int32)), (.ref b5)])
        refine own_go (fun t_ k_ => XS.iand X5.here hx rfl (hb hby at_80) rfl k_) ?_
        show own_Ends _ _ _ _ _ _ _ T5 (mkF m 81 #[.val (.int p0), .val (.int p1), .val (.long q2), .second, .val (.int p3), .val (.int p4), .val (.int ((p1 &&& (2147483647 : Int32)) % (3 : Int32))), .val (.ref wD), .val (.int (0 : Int32)), .unset, .val (.ref b5), .unset] [(.int (p4 &&& (255 : Int32))), (.int (0 : Int32)), (.ref b5)])
        refine own_go (fun t_ k_ => XT.i2c X5.here hx rfl (hb hby at_81) rfl k_) ?_
        show own_Ends _ _ _ _ _ _ _ T5 (mkF m 82 #[.val (.int p0), .val (.int p1), .val (.long q2), .second, .val (.int p3), .val (.int p4), .val (.int ((p1 &&& (2147483647 : Int32)) % (3 : Int32))), .val (.ref wD), .val (.int (0 : Int32)), .unset, .val (.ref b5), .unset] [(.int ((p4 &&& (255 : Int32)).toUInt32.toUInt16.toUInt32.toInt32)), (.int (0 : Int32)), (.ref b5)])
        obtain ⟨cl7, Ar7, q7, S7, Ng7, Hs7, G7⟩ := (id V5)
        obtain ⟨T8, h8, X8, e8, W8, st8⟩ := stC X5 hx hZ e5 Ar7 (j := (0 : Int32)) (inb_of S7 ⟨by decide, by decide⟩) (g := (mkF m 82 #[.val (.int p0), .val (.int p1), .val (.long q2), .second, .val (.int p3), .val (.int p4), .val (.int ((p1 &&& (2147483647 : Int32)) % (3 : Int32))), .val (.ref wD), .val (.int (0 : Int32)), .unset, .val (.ref b5), .unset] [(.int ((p4 &&& (255 : Int32)).toUInt32.toUInt16.toUInt32.toInt32)), (.int (0 : Int32)), (.ref b5)])) rfl rfl (hb hby at_82)
        refine own_go st8 ?_
        have V8 : Arv Z h8 b5 k5 .char (1 : Int32) [(.int (nar .char ((p4 &&& (255 : Int32)).toUInt32.toUInt16.toUInt32.toInt32)))] (.int (0 : Int32)) := Arv.set Ar7 q7 S7 Ng7 Hs7 G7 (fits_nar_char _) W8 0 rfl (Nat.le_of_ble_eq_true rfl)
        have N8 := Fr.snoc X8 N0 g_b5
        show own_Ends _ _ _ _ _ _ _ T8 (mkF m 83 #[.val (.int p0), .val (.int p1), .val (.long q2), .second, .val (.int p3), .val (.int p4), .val (.int ((p1 &&& (2147483647 : Int32)) % (3 : Int32))), .val (.ref wD), .val (.int (0 : Int32)), .unset, .val (.ref b5), .unset] [])
        obtain ⟨T9, h9, X9, e9, E9, A9, D9, -, st9⟩ := newO X8 hx hZ hown (hw _ (List.mem_of_getElem? (i := 5) rfl)) (hw _ (List.mem_of_getElem? (i := 6) rfl)) (hw _ (List.mem_of_getElem? (i := 7) rfl)) e8 (g := (mkF m 83 #[.val (.int p0), .val (.int p1), .val (.long q2), .second, .val (.int p3), .val (.int p4), .val (.int ((p1 &&& (2147483647 : Int32)) % (3 : Int32))), .val (.ref wD), .val (.int (0 : Int32)), .unset, .val (.ref b5), .unset] [])) rfl (hb hby at_83) (by decide) (by decide)
        obtain ⟨b9, g9⟩ : ∃ z, z = h8.size := ⟨_, rfl⟩
        rw [← g9] at A9 D9 st9
        refine own_go st9 ?_
        have g_b9 : n0 ≤ b9 := Nat.le_trans (Nat.le_trans (Nat.le_trans Z0 E5.1) (Keep.of_wr W8).1) (Nat.le_of_eq g9.symm)
        have F9_coder : Fld Z h9 b9 "java/lang/String" "coder" "B" (.int (0 : Int32)) := D9 (Or.inr (hw _ (List.mem_of_getElem? (i := 31) rfl))) (ty := .byte) (by decide)
        have F9_value : Fld Z h9 b9 "java/lang/String" "value" "[B" .null := D9 (Or.inr (hw _ (List.mem_of_getElem? (i := 33) rfl))) (ty := (.array .byte)) (by decide)
        show own_Ends _ _ _ _ _ _ _ T9 (mkF m 86 #[.val (.int p0), .val (.int p1), .val (.long q2), .second, .val (.int p3), .val (.int p4), .val (.int ((p1 &&& (2147483647 : Int32)) % (3 : Int32))), .val (.ref wD), .val (.int (0 : Int32)), .unset, .val (.ref b5), .unset] [(.ref b9)])
        refine own_go (fun t_ k_ => XS.dup X9.here hx rfl (hb hby at_86) rfl rfl k_) ?_
        show own_Ends _ _ _ _ _ _ _ T9 (mkF m 87 #[.val (.int p0), .val (.int p1), .val (.long q2), .second, .val (.int p3), .val (.int p4), .val (.int ((p1 &&& (2147483647 : Int32)) % (3 : Int32))), .val (.ref wD), .val (.int (0 : Int32)), .unset, .val (.ref b5), .unset] [(.ref b9), (.ref b9)])
        refine own_go (fun t_ k_ => XS.aload X9.here hx rfl (hb hby at_87) rfl rfl  k_) ?_
        show own_Ends _ _ _ _ _ _ _ T9 (mkF m 89 #[.val (.int p0), .val (.int p1), .val (.long q2), .second, .val (.int p3), .val (.int p4), .val (.int ((p1 &&& (2147483647 : Int32)) % (3 : Int32))), .val (.ref wD), .val (.int (0 : Int32)), .unset, .val (.ref b5), .unset] [(.ref b5), (.ref b9), (.ref b9)])
        have hlat : ∀ c ∈ [(nar .char ((p4 &&& (255 : Int32)).toUInt32.toUInt16.toUInt32.toInt32))], ¬ c < 0 ∧ ¬ (255 : Int32) < c := own_lat1 _
        have Nsk10 : ∀ x ∈ ([b9] : List Addr), ∀ cell : Cell, h9[x]? = some cell → cell.vm.isStatics = false := (nsS (Exa.nostat A9) ns0)
        obtain ⟨T11, v11, L11, X11, hQ11, st11⟩ := own_callNB X9 hx hZ (y := (⟨"java/lang/String", "<init>", "([C)V"⟩ : MethodName)) (rc := 1) (rs := 1) rfl hown (hw _ (List.mem_of_getElem? (i := 8) rfl)) (hw _ (List.mem_of_getElem? (i := 9) rfl)) (hw _ (List.mem_of_getElem? (i := 10) rfl)) (by decide) (StrChars.Road.backV (W := 1) hZ (fun d hd => hw d (own_sub d hd)) (kI := 4) (hw _ (List.mem_of_getElem? (i := 6) rfl)) (cs := [(nar .char ((p4 &&& (255 : Int32)).toUInt32.toUInt16.toUInt32.toInt32))]) (bs := [((nar .char ((p4 &&& (255 : Int32)).toUInt32.toUInt16.toUInt32.toInt32))).toInt8.toInt32]) (n := 1) g_b9 (Nat.le_trans (Nat.le_trans (Nat.le_trans Z0 E5.1) (Keep.of_wr W8).1) E9.1) A9 F9_value F9_coder (V8.ext E9) (((SC.ext E5).wr W8).ext E9) hzc rfl rfl (by decide) (by decide) hlat rfl (by decide) (by decide)) e9 (g := (mkF m 89 #[.val (.int p0), .val (.int p1), .val (.long q2), .second, .val (.int p3), .val (.int p4), .val (.int ((p1 &&& (2147483647 : Int32)) % (3 : Int32))), .val (.ref wD), .val (.int (0 : Int32)), .unset, .val (.ref b5), .unset] [(.ref b5), (.ref b9), (.ref b9)])) rfl (by rw [hml]; rfl) b9 [(.ref b5)] [(.ref b9)] rfl (lenOf pd___C_V rfl) rfl (by show 2 * 0 + _ ≤ _; exact Nat.le_of_eq rfl) (hb hby at_89) (by decide) (by decide)
        obtain ⟨rfl, N11q, Kq11, Eq11, Cq11, t11, kb11, -, -, -, -, -⟩ := hQ11
        refine own_go st11 ?_
        have N11 := Fr.app N8 N11q
        show own_Ends _ _ _ _ _ _ _ T11 (mkF m 92 #[.val (.int p0), .val (.int p1), .val (.long q2), .second, .val (.int p3), .val (.int p4), .val (.int ((p1 &&& (2147483647 : Int32)) % (3 : Int32))), .val (.ref wD), .val (.int (0 : Int32)), .unset, .val (.ref b5), .unset] [(.ref b9)])
        refine own_go (fun t_ k_ => XS.astore X11.here hx rfl (hb hby at_92) rfl rfl (l' := #[.val (.int p0), .val (.int p1), .val (.long q2), .second, .val (.int p3), .val (.int p4), .val (.int ((p1 &&& (2147483647 : Int32)) % (3 : Int32))), .val (.ref wD), .val (.int (0 : Int32)), .val (.ref b9), .val (.ref b5), .unset]) rfl k_) ?_
        show own_Ends _ _ _ _ _ _ _ T11 (mkF m 94 #[.val (.int p0), .val (.int p1), .val (.long q2), .second, .val (.int p3), .val (.int p4), .val (.int ((p1 &&& (2147483647 : Int32)) % (3 : Int32))), .val (.ref wD), .val (.int (0 : Int32)), .val (.ref b9), .val (.ref b5), .unset] [])
        obtain ⟨T12, h12, X12, e12, E12, A12, D12, -, st12⟩ := newO X11 hx hZ hown (hw _ (List.mem_of_getElem? (i := 34) rfl)) (hw _ (List.mem_of_getElem? (i := 35) rfl)) (hw _ (List.mem_of_getElem? (i := 36) rfl)) rfl (g := (mkF m 94 #[.val (.int p0), .val (.int p1), .val (.long q2), .second, .val (.int p3), .val (.int p4), .val (.int ((p1 &&& (2147483647 : Int32)) % (3 : Int32))), .val (.ref wD), .val (.int (0 : Int32)), .val (.ref b9), .val (.ref b5), .unset] [])) rfl (hb hby at_94) (by decide) (by decide)
        obtain ⟨b12, g12⟩ : ∃ z, z = T11.heap.size := ⟨_, rfl⟩
        rw [← g12] at A12 D12 st12
        refine own_go st12 ?_
        have g_b12 : n0 ≤ b12 := Nat.le_trans (Nat.le_trans (Nat.le_trans (Nat.le_trans (Nat.le_trans Z0 E5.1) (Keep.of_wr W8).1) E9.1) Kq11.1) (Nat.le_of_eq g12.symm)
        have F12_from : Fld Z h12 b12 "com/example/quayside/quayside/RedeliverySchedule$Step" "from" "I" (.int (0 : Int32)) := D12 (Or.inr (hw _ (List.mem_of_getElem? (i := 47) rfl))) (ty := .int) (by decide)
        have F12_action : Fld Z h12 b12 "com/example/quayside/quayside/RedeliverySchedule$Step" "action" "Lcom/example/quayside/quayside/RedeliverySchedule$Action;" .null := D12 (Or.inr (hw _ (List.mem_of_getElem? (i := 49) rfl))) (ty := (.object "com/example/quayside/quayside/RedeliverySchedule$Action")) (by decide)
        have F12_delayMs : Fld Z h12 b12 "com/example/quayside/quayside/RedeliverySchedule$Step" "delayMs" "J" (.long (0 : Int64)) := D12 (Or.inr (hw _ (List.mem_of_getElem? (i := 51) rfl))) (ty := .long) (by decide)
        have F12_topic : Fld Z h12 b12 "com/example/quayside/quayside/RedeliverySchedule$Step" "topic" "Z" (.int (0 : Int32)) := D12 (Or.inr (hw _ (List.mem_of_getElem? (i := 53) rfl))) (ty := .boolean) (by decide)
        have F12_destination : Fld Z h12 b12 "com/example/quayside/quayside/RedeliverySchedule$Step" "destination" "Ljava/lang/String;" .null := D12 (Or.inr (hw _ (List.mem_of_getElem? (i := 55) rfl))) (ty := (.object "java/lang/String")) (by decide)
        show own_Ends _ _ _ _ _ _ _ T12 (mkF m 97 #[.val (.int p0), .val (.int p1), .val (.long q2), .second, .val (.int p3), .val (.int p4), .val (.int ((p1 &&& (2147483647 : Int32)) % (3 : Int32))), .val (.ref wD), .val (.int (0 : Int32)), .val (.ref b9), .val (.ref b5), .unset] [(.ref b12)])
        refine own_go (fun t_ k_ => XS.dup X12.here hx rfl (hb hby at_97) rfl rfl k_) ?_
        show own_Ends _ _ _ _ _ _ _ T12 (mkF m 98 #[.val (.int p0), .val (.int p1), .val (.long q2), .second, .val (.int p3), .val (.int p4), .val (.int ((p1 &&& (2147483647 : Int32)) % (3 : Int32))), .val (.ref wD), .val (.int (0 : Int32)), .val (.ref b9), .val (.ref b5), .unset] [(.ref b12), (.ref b12)])
        refine own_go (fun t_ k_ => XS.iloadN X12.here hx rfl (hb hby at_98) rfl  k_) ?_
        show own_Ends _ _ _ _ _ _ _ T12 (mkF m 99 #[.val (.int p0), .val (.int p1), .val (.long q2), .second, .val (.int p3), .val (.int p4), .val (.int ((p1 &&& (2147483647 : Int32)) % (3 : Int32))), .val (.ref wD), .val (.int (0 : Int32)), .val (.ref b9), .val (.ref b5), .unset] [(.int p0), (.ref b12), (.ref b12)])
        refine own_go (fun t_ k_ => XS.aload X12.here hx rfl (hb hby at_99) rfl rfl  k_) ?_
        show own_Ends _ _ _ _ _ _ _ T12 (mkF m 101 #[.val (.int p0), .val (.int p1), .val (.long q2), .second, .val (.int p3), .val (.int p4), .val (.int ((p1 &&& (2147483647 : Int32)) % (3 : Int32))), .val (.ref wD), .val (.int (0 : Int32)), .val (.ref b9), .val (.ref b5), .unset] [(.ref wD), (.int p0), (.ref b12), (.ref b12)])
        refine own_go (fun t_ k_ => XT.lloadN X12.here hx rfl (hb hby at_101) rfl k_) ?_
        show own_Ends _ _ _ _ _ _ _ T12 (mkF m 102 #[.val (.int p0), .val (.int p1), .val (.long q2), .second, .val (.int p3), .val (.int p4), .val (.int ((p1 &&& (2147483647 : Int32)) % (3 : Int32))), .val (.ref wD), .val (.int (0 : Int32)), .val (.ref b9), .val (.ref b5), .unset] [(.long q2), (.ref wD), (.int p0), (.ref b12), (.ref b12)])
        refine own_go (fun t_ k_ => XS.iload X12.here hx rfl (hb hby at_102) rfl  k_) ?_
        show own_Ends _ _ _ _ _ _ _ T12 (mkF m 104 #[.val (.int p0), .val (.int p1), .val (.long q2), .second, .val (.int p3), .val (.int p4), .val (.int ((p1 &&& (2147483647 : Int32)) % (3 : Int32))), .val (.ref wD), .val (.int (0 : Int32)), .val (.ref b9), .val (.ref b5), .unset] [(.int (0 : Int32)), (.long q2), (.ref wD), (.int p0), (.ref b12), (.ref b12)])
        refine own_go (fun t_ k_ => XS.aload X12.here hx rfl (hb hby at_104) rfl rfl  k_) ?_
        show own_Ends _ _ _ _ _ _ _ T12 (mkF m 106 #[.val (.int p0), .val (.int p1), .val (.long q2), .second, .val (.int p3), .val (.int p4), .val (.int ((p1 &&& (2147483647 : Int32)) % (3 : Int32))), .val (.ref wD), .val (.int (0 : Int32)), .val (.ref b9), .val (.ref b5), .unset] [(.ref b9), (.int (0 : Int32)), (.long q2), (.ref wD), (.int p0), (.ref b12), (.ref b12)])
        have Nsk13 : ∀ x ∈ ([b12] : List Addr), ∀ cell : Cell, h12[x]? = some cell → cell.vm.isStatics = false := (nsS (Exa.nostat A12) ns0)
        obtain ⟨T14, v14, L14, X14, hQ14, st14⟩ := own_callN X12 hx hZ (y := (⟨"com/example/quayside/quayside/RedeliverySchedule$Step", "<init>", "(ILcom/example/quayside/quayside/RedeliverySchedule$Action;JZLjava/lang/String;)V"⟩ : MethodName)) rfl hown (hw _ (List.mem_of_getElem? (i := 37) rfl)) (hw _ (List.mem_of_getElem? (i := 38) rfl)) (hw _ (List.mem_of_getElem? (i := 36) rfl)) (hw _ (List.mem_of_getElem? (i := 39) rfl)) (by decide) (rm7 l Z a0 hw [] b12 p0 wD q2 (0 : Int32) (.ref b9) h12 n0 (Nat.le_trans (Nat.le_trans (Nat.le_trans (Nat.le_trans (Nat.le_trans Z0 E5.1) (Keep.of_wr W8).1) E9.1) Kq11.1) E12.1) rfl A12 F12_from F12_action F12_delayMs F12_topic F12_destination g_b12) e12 (g := (mkF m 106 #[.val (.int p0), .val (.int p1), .val (.long q2), .second, .val (.int p3), .val (.int p4), .val (.int ((p1 &&& (2147483647 : Int32)) % (3 : Int32))), .val (.ref wD), .val (.int (0 : Int32)), .val (.ref b9), .val (.ref b5), .unset] [(.ref b9), (.int (0 : Int32)), (.long q2), (.ref wD), (.int p0), (.ref b12), (.ref b12)])) rfl (by rw [hml]; rfl) b12 [(.int p0), (.ref wD), (.long q2), (.int (0 : Int32)), (.ref b9)] [(.ref b12)] rfl (lenOf pd__ILcom_example_quayside_quayside_RedeliverySchedule_Action_JZLjava_lang_String__V rfl) rfl 1 (by show 2 * 0 + _ ≤ _; exact Nat.le_of_eq rfl) (hb hby at_106) (by decide) (by decide) (by decide) (by decide)
        obtain ⟨rfl, N14q, Kq14, Eq14, Fq14⟩ := hQ14
        refine own_go st14 ?_
        have N14 := Fr.app N11 N14q
        show own_Ends _ _ _ _ _ _ _ T14 (mkF m 109 #[.val (.int p0), .val (.int p1), .val (.long q2), .second, .val (.int p3), .val (.int p4), .val (.int ((p1 &&& (2147483647 : Int32)) % (3 : Int32))), .val (.ref wD), .val (.int (0 : Int32)), .val (.ref b9), .val (.ref b5), .unset] [(.ref b12)])
        refine own_go (fun t_ k_ => XS.astore X14.here hx rfl (hb hby at_109) rfl rfl (l' := #[.val (.int p0), .val (.int p1), .val (.long q2), .second, .val (.int p3), .val (.int p4), .val (.int ((p1 &&& (2147483647 : Int32)) % (3 : Int32))), .val (.ref wD), .val (.int (0 : Int32)), .val (.ref b9), .val (.ref b12), .unset]) rfl k_) ?_
        show own_Ends _ _ _ _ _ _ _ T14 (mkF m 111 #[.val (.int p0), .val (.int p1), .val (.long q2), .second, .val (.int p3), .val (.int p4), .val (.int ((p1 &&& (2147483647 : Int32)) % (3 : Int32))), .val (.ref wD), .val (.int (0 : Int32)), .val (.ref b9), .val (.ref b12), .unset] [])
        refine own_go (fun t_ k_ => XS.iload X14.here hx rfl (hb hby at_111) rfl  k_) ?_
        show own_Ends _ _ _ _ _ _ _ T14 (mkF m 113 #[.val (.int p0), .val (.int p1), .val (.long q2), .second, .val (.int p3), .val (.int p4), .val (.int ((p1 &&& (2147483647 : Int32)) % (3 : Int32))), .val (.ref wD), .val (.int (0 : Int32)), .val (.ref b9), .val (.ref b12), .unset] [(.int ((p1 &&& (2147483647 : Int32)) % (3 : Int32)))])
        refine own_go (fun t_ k_ => XS.iconst X14.here hx rfl (hb hby at_113) k_) ?_
        show own_Ends _ _ _ _ _ _ _ T14 (mkF m 114 #[.val (.int p0), .val (.int p1), .val (.long q2), .second, .val (.int p3), .val (.int p4), .val (.int ((p1 &&& (2147483647 : Int32)) % (3 : Int32))), .val (.ref wD), .val (.int (0 : Int32)), .val (.ref b9), .val (.ref b12), .unset] [(.int (1 : Int32)), (.int ((p1 &&& (2147483647 : Int32)) % (3 : Int32)))])
        refine own_go (fun t_ k_ => XS.icmpYes X14.here hx rfl (pc0 := 114) (pc' := 123) rfl (hb hby at_114) rfl (feq (by rw [hc1]; decide)).2 (by decide) (by decide) k_) ?_
        show own_Ends _ _ _ _ _ _ _ T14 (mkF m 123 #[.val (.int p0), .val (.int p1), .val (.long q2), .second, .val (.int p3), .val (.int p4), .val (.int ((p1 &&& (2147483647 : Int32)) % (3 : Int32))), .val (.ref wD), .val (.int (0 : Int32)), .val (.ref b9), .val (.ref b12), .unset] [])
        refine own_go (fun t_ k_ => XS.iload X14.here hx rfl (hb hby at_123) rfl  k_) ?_
        show own_Ends _ _ _ _ _ _ _ T14 (mkF m 125 #[.val (.int p0), .val (.int p1), .val (.long q2), .second, .val (.int p3), .val (.int p4), .val (.int ((p1 &&& (2147483647 : Int32)) % (3 : Int32))), .val (.ref wD), .val (.int (0 : Int32)), .val (.ref b9), .val (.ref b12), .unset] [(.int ((p1 &&& (2147483647 : Int32)) % (3 : Int32)))])
        refine own_go (fun t_ k_ => XS.iconst X14.here hx rfl (hb hby at_125) k_) ?_
        show own_Ends _ _ _ _ _ _ _ T14 (mkF m 126 #[.val (.int p0), .val (.int p1), .val (.long q2), .second, .val (.int p3), .val (.int p4), .val (.int ((p1 &&& (2147483647 : Int32)) % (3 : Int32))), .val (.ref wD), .val (.int (0 : Int32)), .val (.ref b9), .val (.ref b12), .unset] [(.int (2 : Int32)), (.int ((p1 &&& (2147483647 : Int32)) % (3 : Int32)))])
        refine own_go (fun t_ k_ => XS.icmpYes X14.here hx rfl (pc0 := 126) (pc' := 135) rfl (hb hby at_126) rfl (feq (by rw [hc1]; decide)).2 (by decide) (by decide) k_) ?_
        show own_Ends _ _ _ _ _ _ _ T14 (mkF m 135 #[.val (.int p0), .val (.int p1), .val (.long q2), .second, .val (.int p3), .val (.int p4), .val (.int ((p1 &&& (2147483647 : Int32)) % (3 : Int32))), .val (.ref wD), .val (.int (0 : Int32)), .val (.ref b9), .val (.ref b12), .unset] [])
        refine own_go (fun t_ k_ => XS.iconst X14.here hx rfl (hb hby at_135) k_) ?_
        show own_Ends _ _ _ _ _ _ _ T14 (mkF m 136 #[.val (.int p0), .val (.int p1), .val (.long q2), .second, .val (.int p3), .val (.int p4), .val (.int ((p1 &&& (2147483647 : Int32)) % (3 : Int32))), .val (.ref wD), .val (.int (0 : Int32)), .val (.ref b9), .val (.ref b12), .unset] [(.int (0 : Int32))])
        refine own_go (fun t_ k_ => XS.istore X14.here hx rfl (hb hby at_136) rfl (l' := #[.val (.int p0), .val (.int p1), .val (.long q2), .second, .val (.int p3), .val (.int p4), .val (.int ((p1 &&& (2147483647 : Int32)) % (3 : Int32))), .val (.ref wD), .val (.int (0 : Int32)), .val (.ref b9), .val (.ref b12), .val (.int (0 : Int32))]) rfl k_) ?_
        show own_Ends _ _ _ _ _ _ _ T14 (mkF m 138 #[.val (.int p0), .val (.int p1), .val (.long q2), .second, .val (.int p3), .val (.int p4), .val (.int ((p1 &&& (2147483647 : Int32)) % (3 : Int32))), .val (.ref wD), .val (.int (0 : Int32)), .val (.ref b9), .val (.ref b12), .val (.int (0 : Int32))] [])
        refine own_go (fun t_ k_ => XS.aload X14.here hx rfl (hb hby at_138) rfl rfl  k_) ?_
        show own_Ends _ _ _ _ _ _ _ T14 (mkF m 140 #[.val (.int p0), .val (.int p1), .val (.long q2), .second, .val (.int p3), .val (.int p4), .val (.int ((p1 &&& (2147483647 : Int32)) % (3 : Int32))), .val (.ref wD), .val (.int (0 : Int32)), .val (.ref b9), .val (.ref b12), .val (.int (0 : Int32))] [(.ref b12)])
        obtain ⟨T15, v15, L15, X15, hQ15, st15⟩ := own_callV X14 hx hZ (y := (⟨"com/example/quayside/quayside/RedeliverySchedule$Step", "removes", "()Z"⟩ : MethodName)) (z := (⟨"com/example/quayside/quayside/RedeliverySchedule$Step", "removes", "()Z"⟩ : MethodName)) hown (hw _ (List.mem_of_getElem? (i := 56) rfl)) (hw _ (List.mem_of_getElem? (i := 57) rfl)) (notFace_of_selects (args := #[]) (mvT hZ (hw _ (List.mem_of_getElem? (i := 59) rfl)))) (hw _ (List.mem_of_getElem? (i := 59) rfl)) (hw _ (List.mem_of_getElem? (i := 58) rfl)) (hw _ (List.mem_of_getElem? (i := 36) rfl)) (hw _ (List.mem_of_getElem? (i := 60) rfl)) (by decide) (rm9 l Z a0 hw [] b12 wD wD T14.heap n0 (Nat.le_trans (Nat.le_trans (Nat.le_trans (Nat.le_trans (Nat.le_trans (Nat.le_trans Z0 E5.1) (Keep.of_wr W8).1) E9.1) Kq11.1) E12.1) Kq14.1) Fq14 (own_staK ((own_staK (((SD.ext E5).wr W8).ext E9) Kq11 Nsk10).ext E12) Kq14 Nsk13)) rfl (g := (mkF m 140 #[.val (.int p0), .val (.int p1), .val (.long q2), .second, .val (.int p3), .val (.int p4), .val (.int ((p1 &&& (2147483647 : Int32)) % (3 : Int32))), .val (.ref wD), .val (.int (0 : Int32)), .val (.ref b9), .val (.ref b12), .val (.int (0 : Int32))] [(.ref b12)])) rfl (by rw [hml]; rfl) b12 (A12.keep Kq14) [] [] rfl (lenOf pd___Z rfl) rfl 0 (by show 2 * 0 + _ ≤ _; exact Nat.le_of_eq rfl) (hb hby at_140) (by decide) (by decide) (by decide) (by decide)
        obtain ⟨hv15, N15q, e15⟩ := hQ15
        rw [if_pos rfl] at hv15
        subst hv15
        refine own_go st15 ?_
        have N15 := Fr.app N14 N15q
        show own_Ends _ _ _ _ _ _ _ T15 (mkF m 143 #[.val (.int p0), .val (.int p1), .val (.long q2), .second, .val (.int p3), .val (.int p4), .val (.int ((p1 &&& (2147483647 : Int32)) % (3 : Int32))), .val (.ref wD), .val (.int (0 : Int32)), .val (.ref b9), .val (.ref b12), .val (.int (0 : Int32))] [(.int (0 : Int32))])
        refine own_go (fun t_ k_ => XS.iload X15.here hx rfl (hb hby at_143) rfl  k_) ?_
        show own_Ends _ _ _ _ _ _ _ T15 (mkF m 145 #[.val (.int p0), .val (.int p1), .val (.long q2), .second, .val (.int p3), .val (.int p4), .val (.int ((p1 &&& (2147483647 : Int32)) % (3 : Int32))), .val (.ref wD), .val (.int (0 : Int32)), .val (.ref b9), .val (.ref b12), .val (.int (0 : Int32))] [(.int (0 : Int32)), (.int (0 : Int32))])
        refine own_go (fun t_ k_ => XS.icmpNo X15.here hx rfl (hb hby at_145) rfl (teq (by decide : (0 : Int32) = (0 : Int32))).2 k_) ?_
        show own_Ends _ _ _ _ _ _ _ T15 (mkF m 148 #[.val (.int p0), .val (.int p1), .val (.long q2), .second, .val (.int p3), .val (.int p4), .val (.int ((p1 &&& (2147483647 : Int32)) % (3 : Int32))), .val (.ref wD), .val (.int (0 : Int32)), .val (.ref b9), .val (.ref b12), .val (.int (0 : Int32))] [])
        refine own_go (fun t_ k_ => XS.iconst X15.here hx rfl (hb hby at_148) k_) ?_
        show own_Ends _ _ _ _ _ _ _ T15 (mkF m 149 #[.val (.int p0), .val (.int p1), .val (.long q2), .second, .val (.int p3), .val (.int p4), .val (.int ((p1 &&& (2147483647 : Int32)) % (3 : Int32))), .val (.ref wD), .val (.int (0 : Int32)), .val (.ref b9), .val (.ref b12), .val (.int (0 : Int32))] [(.int (1 : Int32))])
        refine own_go (fun t_ k_ => XS.goto X15.here hx rfl (pc0 := 149) (pc' := 153) rfl (hb hby at_149) (by decide) (by decide) k_) ?_
        show own_Ends _ _ _ _ _ _ _ T15 (mkF m 153 #[.val (.int p0), .val (.int p1), .val (.long q2), .second, .val (.int p3), .val (.int p4), .val (.int ((p1 &&& (2147483647 : Int32)) % (3 : Int32))), .val (.ref wD), .val (.int (0 : Int32)), .val (.ref b9), .val (.ref b12), .val (.int (0 : Int32))] [(.int (1 : Int32))])
        refine own_retN X15 hx hlk (t := .boolean) hret (by simp) (hb hby at_153) e15 (by decide) (by decide) ?_
        exact ⟨rfl, N15⟩
      · refine own_go (fun t_ k_ => XS.ifNo X2.here hx rfl (hb hby at_58) rfl ((if0 _ _).trans (feq hc4).1) k_) ?_
        show own_Ends _ _ _ _ _ _ _ T2 (mkF m 61 #[.val (.int p0), .val (.int p1), .val (.long q2), .second, .val (.int p3), .val (.int p4), .val (.int ((p1 &&& (2147483647 : Int32)) % (3 : Int32))), .val (.ref wD), .val (.int (0 : Int32)), .unset, .unset, .unset] [])
        refine own_go (fun t_ k_ => XS.aconstNull X2.here hx rfl (hb hby at_61) k_) ?_
        show own_Ends _ _ _ _ _ _ _ T2 (mkF m 62 #[.val (.int p0), .val (.int p1), .val (.long q2), .second, .val (.int p3), .val (.int p4), .val (.int ((p1 &&& (2147483647 : Int32)) % (3 : Int32))), .val (.ref wD), .val (.int (0 : Int32)), .unset, .unset, .unset] [.null])
        refine own_go (fun t_ k_ => XS.astore X2.here hx rfl (hb hby at_62) rfl rfl (l' := #[.val (.int p0), .val (.int p1), .val (.long q2), .second, .val (.int p3), .val (.int p4), .val (.int ((p1 &&& (2147483647 : Int32)) % (3 : Int32))), .val (.ref wD), .val (.int (0 : Int32)), .val .null, .unset, .unset]) rfl k_) ?_
        show own_Ends _ _ _ _ _ _ _ T2 (mkF m 64 #[.val (.int p0), .val (.int p1), .val (.long q2), .second, .val (.int p3), .val (.int p4), .val (.int ((p1 &&& (2147483647 : Int32)) % (3 : Int32))), .val (.ref wD), .val (.int (0 : Int32)), .val .null, .unset, .unset] [])
        refine own_go (fun t_ k_ => XS.goto X2.here hx rfl (pc0 := 64) (pc' := 94) rfl (hb hby at_64) (by decide) (by decide) k_) ?_
        show own_Ends _ _ _ _ _ _ _ T2 (mkF m 94 #[.val (.int p0), .val (.int p1), .val (.long q2), .second, .val (.int p3), .val (.int p4), .val (.int ((p1 &&& (2147483647 : Int32)) % (3 : Int32))), .val (.ref wD), .val (.int (0 : Int32)), .val .null, .unset, .unset] [])
        obtain ⟨T16, h16, X16, e16, E16, A16, D16, -, st16⟩ := newO X2 hx hZ hown (hw _ (List.mem_of_getElem? (i := 34) rfl)) (hw _ (List.mem_of_getElem? (i := 35) rfl)) (hw _ (List.mem_of_getElem? (i := 36) rfl)) e2 (g := (mkF m 94 #[.val (.int p0), .val (.int p1), .val (.long q2), .second, .val (.int p3), .val (.int p4), .val (.int ((p1 &&& (2147483647 : Int32)) % (3 : Int32))), .val (.ref wD), .val (.int (0 : Int32)), .val .null, .unset, .unset] [])) rfl (hb hby at_94) (by decide) (by decide)
        obtain ⟨b16, g16⟩ : ∃ z, z = h0.size := ⟨_, rfl⟩
        rw [← g16] at A16 D16 st16
        refine own_go st16 ?_
        have g_b16 : n0 ≤ b16 := Nat.le_trans Z0 (Nat.le_of_eq g16.symm)
        have F16_from : Fld Z h16 b16 "com/example/quayside/quayside/RedeliverySchedule$Step" "from" "I" (.int (0 : Int32)) := D16 (Or.inr (hw _ (List.mem_of_getElem? (i := 47) rfl))) (ty := .int) (by decide)
        have F16_action : Fld Z h16 b16 "com/example/quayside/quayside/RedeliverySchedule$Step" "action" "Lcom/example/quayside/quayside/RedeliverySchedule$Action;" .null := D16 (Or.inr (hw _ (List.mem_of_getElem? (i := 49) rfl))) (ty := (.object "com/example/quayside/quayside/RedeliverySchedule$Action")) (by decide)
        have F16_delayMs : Fld Z h16 b16 "com/example/quayside/quayside/RedeliverySchedule$Step" "delayMs" "J" (.long (0 : Int64)) := D16 (Or.inr (hw _ (List.mem_of_getElem? (i := 51) rfl))) (ty := .long) (by decide)
        have F16_topic : Fld Z h16 b16 "com/example/quayside/quayside/RedeliverySchedule$Step" "topic" "Z" (.int (0 : Int32)) := D16 (Or.inr (hw _ (List.mem_of_getElem? (i := 53) rfl))) (ty := .boolean) (by decide)
        have F16_destination : Fld Z h16 b16 "com/example/quayside/quayside/RedeliverySchedule$Step" "destination" "Ljava/lang/String;" .null := D16 (Or.inr (hw _ (List.mem_of_getElem? (i := 55) rfl))) (ty := (.object "java/lang/String")) (by decide)
        show own_Ends _ _ _ _ _ _ _ T16 (mkF m 97 #[.val (.int p0), .val (.int p1), .val (.long q2), .second, .val (.int p3), .val (.int p4), .val (.int ((p1 &&& (2147483647 : Int32)) % (3 : Int32))), .val (.ref wD), .val (.int (0 : Int32)), .val .null, .unset, .unset] [(.ref b16)])
        refine own_go (fun t_ k_ => XS.dup X16.here hx rfl (hb hby at_97) rfl rfl k_) ?_
        show own_Ends _ _ _ _ _ _ _ T16 (mkF m 98 #[.val (.int p0), .val (.int p1), .val (.long q2), .second, .val (.int p3), .val (.int p4), .val (.int ((p1 &&& (2147483647 : Int32)) % (3 : Int32))), .val (.ref wD), .val (.int (0 : Int32)), .val .null, .unset, .unset] [(.ref b16), (.ref b16)])
        refine own_go (fun t_ k_ => XS.iloadN X16.here hx rfl (hb hby at_98) rfl  k_) ?_
        show own_Ends _ _ _ _ _ _ _ T16 (mkF m 99 #[.val (.int p0), .val (.int p1), .val (.long q2), .second, .val (.int p3), .val (.int p4), .val (.int ((p1 &&& (2147483647 : Int32)) % (3 : Int32))), .val (.ref wD), .val (.int (0 : Int32)), .val .null, .unset, .unset] [(.int p0), (.ref b16), (.ref b16)])
        refine own_go (fun t_ k_ => XS.aload X16.here hx rfl (hb hby at_99) rfl rfl  k_) ?_
        show own_Ends _ _ _ _ _ _ _ T16 (mkF m 101 #[.val (.int p0), .val (.int p1), .val (.long q2), .second, .val (.int p3), .val (.int p4), .val (.int ((p1 &&& (2147483647 : Int32)) % (3 : Int32))), .val (.ref wD), .val (.int (0 : Int32)), .val .null, .unset, .unset] [(.ref wD), (.int p0), (.ref b16), (.ref b16)])
        refine own_go (fun t_ k_ => XT.lloadN X16.here hx rfl (hb hby at_101) rfl k_) ?_
        show own_Ends _ _ _ _ _ _ _ T16 (mkF m 102 #[.val (.int p0), .val (.int p1), .val (.long q2), .second, .val (.int p3), .val (.int p4), .val (.int ((p1 &&& (2147483647 : Int32)) % (3 : Int32))), .val (.ref wD), .val (.int (0 : Int32)), .val .null, .unset, .unset] [(.long q2), (.ref wD), (.int p0), (.ref b16), (.ref b16)])
        refine own_go (fun t_ k_ => XS.iload X16.here hx rfl (hb hby at_102) rfl  k_) ?_
        show own_Ends _ _ _ _ _ _ _ T16 (mkF m 104 #[.val (.int p0), .val (.int p1), .val (.long q2), .second, .val (.int p3), .val (.int p4), .val (.int ((p1 &&& (2147483647 : Int32)) % (3 : Int32))), .val (.ref wD), .val (.int (0 : Int32)), .val .null, .unset, .unset] [(.int (0 : Int32)), (.long q2), (.ref wD), (.int p0), (.ref b16), (.ref b16)])
        refine own_go (fun t_ k_ => XS.aload X16.here hx rfl (hb hby at_104) rfl rfl  k_) ?_
        show own_Ends _ _ _ _ _ _ _ T16 (mkF m 106 #[.val (.int p0), .val (.int p1), .val (.long q2), .second, .val (.int p3), .val (.int p4), .val (.int ((p1 &&& (2147483647 : Int32)) % (3 : Int32))), .val (.ref wD), .val (.int (0 : Int32)), .val .null, .unset, .unset] [.null, (.int (0 : Int32)), (.long q2), (.ref wD), (.int p0), (.ref b16), (.ref b16)])
        have Nsk17 : ∀ x ∈ ([b16] : List Addr), ∀ cell : Cell, h16[x]? = some cell → cell.vm.isStatics = false := (nsS (Exa.nostat A16) ns0)
        obtain ⟨T18, v18, L18, X18, hQ18, st18⟩ := own_callN X16 hx hZ (y := (⟨"com/example/quayside/quayside/RedeliverySchedule$Step", "<init>", "(ILcom/example/quayside/quayside/RedeliverySchedule$Action;JZLjava/lang/String;)V"⟩ : MethodName)) rfl hown (hw _ (List.mem_of_getElem? (i := 37) rfl)) (hw _ (List.mem_of_getElem? (i := 38) rfl)) (hw _ (List.mem_of_getElem? (i := 36) rfl)) (hw _ (List.mem_of_getElem? (i := 39) rfl)) (by decide) (rm7 l Z a0 hw [] b16 p0 wD q2 (0 : Int32) .null h16 n0 (Nat.le_trans Z0 E16.1) rfl A16 F16_from F16_action F16_delayMs F16_topic F16_destination g_b16) e16 (g := (mkF m 106 #[.val (.int p0), .val (.int p1), .val (.long q2), .second, .val (.int p3), .val (.int p4), .val (.int ((p1 &&& (2147483647 : Int32)) % (3 : Int32))), .val (.ref wD), .val (.int (0 : Int32)), .val .null, .unset, .unset] [.null, (.int (0 : Int32)), (.long q2), (.ref wD), (.int p0), (.ref b16), (.ref b16)])) rfl (by rw [hml]; rfl) b16 [(.int p0), (.ref wD), (.long q2), (.int (0 : Int32)), .null] [(.ref b16)] rfl (lenOf pd__ILcom_example_quayside_quayside_RedeliverySchedule_Action_JZLjava_lang_String__V rfl) rfl 1 (by show 2 * 0 + _ ≤ _; exact Nat.le_of_eq rfl) (hb hby at_106) (by decide) (by decide) (by decide) (by decide)
        obtain ⟨rfl, N18q, Kq18, Eq18, Fq18⟩ := hQ18
        refine own_go st18 ?_
        have N18 := Fr.app N0 N18q
        show own_Ends _ _ _ _ _ _ _ T18 (mkF m 109 #[.val (.int p0), .val (.int p1), .val (.long q2), .second, .val (.int p3), .val (.int p4), .val (.int ((p1 &&& (2147483647 : Int32)) % (3 : Int32))), .val (.ref wD), .val (.int (0 : Int32)), .val .null, .unset, .unset] [(.ref b16)])
        refine own_go (fun t_ k_ => XS.astore X18.here hx rfl (hb hby at_109) rfl rfl (l' := #[.val (.int p0), .val (.int p1), .val (.long q2), .second, .val (.int p3), .val (.int p4), .val (.int ((p1 &&& (2147483647 : Int32)) % (3 : Int32))), .val (.ref wD), .val (.int (0 : Int32)), .val .null, .val (.ref b16), .unset]) rfl k_) ?_
        show own_Ends _ _ _ _ _ _ _ T18 (mkF m 111 #[.val (.int p0), .val (.int p1), .val (.long q2), .second, .val (.int p3), .val (.int p4), .val (.int ((p1 &&& (2147483647 : Int32)) % (3 : Int32))), .val (.ref wD), .val (.int (0 : Int32)), .val .null, .val (.ref b16), .unset] [])
        refine own_go (fun t_ k_ => XS.iload X18.here hx rfl (hb hby at_111) rfl  k_) ?_
        show own_Ends _ _ _ _ _ _ _ T18 (mkF m 113 #[.val (.int p0), .val (.int p1), .val (.long q2), .second, .val (.int p3), .val (.int p4), .val (.int ((p1 &&& (2147483647 : Int32)) % (3 : Int32))), .val (.ref wD), .val (.int (0 : Int32)), .val .null, .val (.ref b16), .unset] [(.int ((p1 &&& (2147483647 : Int32)) % (3 : Int32)))])
        refine own_go (fun t_ k_ => XS.iconst X18.here hx rfl (hb hby at_113) k_) ?_
        show own_Ends _ _ _ _ _ _ _ T18 (mkF m 114 #[.val (.int p0), .val (.int p1), .val (.long q2), .second, .val (.int p3), .val (.int p4), .val (.int ((p1 &&& (2147483647 : Int32)) % (3 : Int32))), .val (.ref wD), .val (.int (0 : Int32)), .val .null, .val (.ref b16), .unset] [(.int (1 : Int32)), (.int ((p1 &&& (2147483647 : Int32)) % (3 : Int32)))])
        refine own_go (fun t_ k_ => XS.icmpYes X18.here hx rfl (pc0 := 114) (pc' := 123) rfl (hb hby at_114) rfl (feq (by rw [hc1]; decide)).2 (by decide) (by decide) k_) ?_
        show own_Ends _ _ _ _ _ _ _ T18 (mkF m 123 #[.val (.int p0), .val (.int p1), .val (.long q2), .second, .val (.int p3), .val (.int p4), .val (.int ((p1 &&& (2147483647 : Int32)) % (3 : Int32))), .val (.ref wD), .val (.int (0 : Int32)), .val .null, .val (.ref b16), .unset] [])
        refine own_go (fun t_ k_ => XS.iload X18.here hx rfl (hb hby at_123) rfl  k_) ?_
        show own_Ends _ _ _ _ _ _ _ T18 (mkF m 125 #[.val (.int p0), .val (.int p1), .val (.long q2), .second, .val (.int p3), .val (.int p4), .val (.int ((p1 &&& (2147483647 : Int32)) % (3 : Int32))), .val (.ref wD), .val (.int (0 : Int32)), .val .null, .val (.ref b16), .unset] [(.int ((p1 &&& (2147483647 : Int32)) % (3 : Int32)))])
        refine own_go (fun t_ k_ => XS.iconst X18.here hx rfl (hb hby at_125) k_) ?_
        show own_Ends _ _ _ _ _ _ _ T18 (mkF m 126 #[.val (.int p0), .val (.int p1), .val (.long q2), .second, .val (.int p3), .val (.int p4), .val (.int ((p1 &&& (2147483647 : Int32)) % (3 : Int32))), .val (.ref wD), .val (.int (0 : Int32)), .val .null, .val (.ref b16), .unset] [(.int (2 : Int32)), (.int ((p1 &&& (2147483647 : Int32)) % (3 : Int32)))])
        refine own_go (fun t_ k_ => XS.icmpYes X18.here hx rfl (pc0 := 126) (pc' := 135) rfl (hb hby at_126) rfl (feq (by rw [hc1]; decide)).2 (by decide) (by decide) k_) ?_
        show own_Ends _ _ _ _ _ _ _ T18 (mkF m 135 #[.val (.int p0), .val (.int p1), .val (.long q2), .second, .val (.int p3), .val (.int p4), .val (.int ((p1 &&& (2147483647 : Int32)) % (3 : Int32))), .val (.ref wD), .val (.int (0 : Int32)), .val .null, .val (.ref b16), .unset] [])
        refine own_go (fun t_ k_ => XS.iconst X18.here hx rfl (hb hby at_135) k_) ?_
        show own_Ends _ _ _ _ _ _ _ T18 (mkF m 136 #[.val (.int p0), .val (.int p1), .val (.long q2), .second, .val (.int p3), .val (.int p4), .val (.int ((p1 &&& (2147483647 : Int32)) % (3 : Int32))), .val (.ref wD), .val (.int (0 : Int32)), .val .null, .val (.ref b16), .unset] [(.int (0 : Int32))])
        refine own_go (fun t_ k_ => XS.istore X18.here hx rfl (hb hby at_136) rfl (l' := #[.val (.int p0), .val (.int p1), .val (.long q2), .second, .val (.int p3), .val (.int p4), .val (.int ((p1 &&& (2147483647 : Int32)) % (3 : Int32))), .val (.ref wD), .val (.int (0 : Int32)), .val .null, .val (.ref b16), .val (.int (0 : Int32))]) rfl k_) ?_
        show own_Ends _ _ _ _ _ _ _ T18 (mkF m 138 #[.val (.int p0), .val (.int p1), .val (.long q2), .second, .val (.int p3), .val (.int p4), .val (.int ((p1 &&& (2147483647 : Int32)) % (3 : Int32))), .val (.ref wD), .val (.int (0 : Int32)), .val .null, .val (.ref b16), .val (.int (0 : Int32))] [])
        refine own_go (fun t_ k_ => XS.aload X18.here hx rfl (hb hby at_138) rfl rfl  k_) ?_
        show own_Ends _ _ _ _ _ _ _ T18 (mkF m 140 #[.val (.int p0), .val (.int p1), .val (.long q2), .second, .val (.int p3), .val (.int p4), .val (.int ((p1 &&& (2147483647 : Int32)) % (3 : Int32))), .val (.ref wD), .val (.int (0 : Int32)), .val .null, .val (.ref b16), .val (.int (0 : Int32))] [(.ref b16)])
        obtain ⟨T19, v19, L19, X19, hQ19, st19⟩ := own_callV X18 hx hZ (y := (⟨"com/example/quayside/quayside/RedeliverySchedule$Step", "removes", "()Z"⟩ : MethodName)) (z := (⟨"com/example/quayside/quayside/RedeliverySchedule$Step", "removes", "()Z"⟩ : MethodName)) hown (hw _ (List.mem_of_getElem? (i := 56) rfl)) (hw _ (List.mem_of_getElem? (i := 57) rfl)) (notFace_of_selects (args := #[]) (mvT hZ (hw _ (List.mem_of_getElem? (i := 59) rfl)))) (hw _ (List.mem_of_getElem? (i := 59) rfl)) (hw _ (List.mem_of_getElem? (i := 58) rfl)) (hw _ (List.mem_of_getElem? (i := 36) rfl)) (hw _ (List.mem_of_getElem? (i := 60) rfl)) (by decide) (rm9 l Z a0 hw [] b16 wD wD T18.heap n0 (Nat.le_trans (Nat.le_trans Z0 E16.1) Kq18.1) Fq18 (own_staK (SD.ext E16) Kq18 Nsk17)) rfl (g := (mkF m 140 #[.val (.int p0), .val (.int p1), .val (.long q2), .second, .val (.int p3), .val (.int p4), .val (.int ((p1 &&& (2147483647 : Int32)) % (3 : Int32))), .val (.ref wD), .val (.int (0 : Int32)), .val .null, .val (.ref b16), .val (.int (0 : Int32))] [(.ref b16)])) rfl (by rw [hml]; rfl) b16 (A16.keep Kq18) [] [] rfl (lenOf pd___Z rfl) rfl 0 (by show 2 * 0 + _ ≤ _; exact Nat.le_of_eq rfl) (hb hby at_140) (by decide) (by decide) (by decide) (by decide)
        obtain ⟨hv19, N19q, e19⟩ := hQ19
        rw [if_pos rfl] at hv19
        subst hv19
        refine own_go st19 ?_
        have N19 := Fr.app N18 N19q
        show own_Ends _ _ _ _ _ _ _ T19 (mkF m 143 #[.val (.int p0), .val (.int p1), .val (.long q2), .second, .val (.int p3), .val (.int p4), .val (.int ((p1 &&& (2147483647 : Int32)) % (3 : Int32))), .val (.ref wD), .val (.int (0 : Int32)), .val .null, .val (.ref b16), .val (.int (0 : Int32))] [(.int (0 : Int32))])
        refine own_go (fun t_ k_ => XS.iload X19.here hx rfl (hb hby at_143) rfl  k_) ?_
        show own_Ends _ _ _ _ _ _ _ T19 (mkF m 145 #[.val (.int p0), .val (.int p1), .val (.long q2), .second, .val (.int p3), .val (.int p4), .val (.int ((p1 &&& (2147483647 : Int32)) % (3 : Int32))), .val (.ref wD), .val (.int (0 : Int32)), .val .null, .val (.ref b16), .val (.int (0 : Int32))] [(.int (0 : Int32)), (.int (0 : Int32))])
        refine own_go (fun t_ k_ => XS.icmpNo X19.here hx rfl (hb hby at_145) rfl (teq (by decide : (0 : Int32) = (0 : Int32))).2 k_) ?_
        show own_Ends _ _ _ _ _ _ _ T19 (mkF m 148 #[.val (.int p0), .val (.int p1), .val (.long q2), .second, .val (.int p3), .val (.int p4), .val (.int ((p1 &&& (2147483647 : Int32)) % (3 : Int32))), .val (.ref wD), .val (.int (0 : Int32)), .val .null, .val (.ref b16), .val (.int (0 : Int32))] [])
        refine own_go (fun t_ k_ => XS.iconst X19.here hx rfl (hb hby at_148) k_) ?_
        show own_Ends _ _ _ _ _ _ _ T19 (mkF m 149 #[.val (.int p0), .val (.int p1), .val (.long q2), .second, .val (.int p3), .val (.int p4), .val (.int ((p1 &&& (2147483647 : Int32)) % (3 : Int32))), .val (.ref wD), .val (.int (0 : Int32)), .val .null, .val (.ref b16), .val (.int (0 : Int32))] [(.int (1 : Int32))])
        refine own_go (fun t_ k_ => XS.goto X19.here hx rfl (pc0 := 149) (pc' := 153) rfl (hb hby at_149) (by decide) (by decide) k_) ?_
        show own_Ends _ _ _ _ _ _ _ T19 (mkF m 153 #[.val (.int p0), .val (.int p1), .val (.long q2), .second, .val (.int p3), .val (.int p4), .val (.int ((p1 &&& (2147483647 : Int32)) % (3 : Int32))), .val (.ref wD), .val (.int (0 : Int32)), .val .null, .val (.ref b16), .val (.int (0 : Int32))] [(.int (1 : Int32))])
        refine own_retN X19 hx hlk (t := .boolean) hret (by simp) (hb hby at_153) e19 (by decide) (by decide) ?_
        exact ⟨rfl, N19⟩
    · refine own_go (fun t_ k_ => XS.ifNo X2.here hx rfl (hb hby at_44) rfl ((if0 _ _).trans (feq hc3).1) k_) ?_
      show own_Ends _ _ _ _ _ _ _ T2 (mkF m 47 #[.val (.int p0), .val (.int p1), .val (.long q2), .second, .val (.int p3), .val (.int p4), .val (.int ((p1 &&& (2147483647 : Int32)) % (3 : Int32))), .val (.ref wD), .unset, .unset, .unset, .unset] [])
      refine own_go (fun t_ k_ => XS.iconst X2.here hx rfl (hb hby at_47) k_) ?_
      show own_Ends _ _ _ _ _ _ _ T2 (mkF m 48 #[.val (.int p0), .val (.int p1), .val (.long q2), .second, .val (.int p3), .val (.int p4), .val (.int ((p1 &&& (2147483647 : Int32)) % (3 : Int32))), .val (.ref wD), .unset, .unset, .unset, .unset] [(.int (1 : Int32))])
      refine own_go (fun t_ k_ => XS.goto X2.here hx rfl (pc0 := 48) (pc' := 52) rfl (hb hby at_48) (by decide) (by decide) k_) ?_
      show own_Ends _ _ _ _ _ _ _ T2 (mkF m 52 #[.val (.int p0), .val (.int p1), .val (.long q2), .second, .val (.int p3), .val (.int p4), .val (.int ((p1 &&& (2147483647 : Int32)) % (3 : Int32))), .val (.ref wD), .unset, .unset, .unset, .unset] [(.int (1 : Int32))])
      refine own_go (fun t_ k_ => XS.istore X2.here hx rfl (hb hby at_52) rfl (l' := #[.val (.int p0), .val (.int p1), .val (.long q2), .second, .val (.int p3), .val (.int p4), .val (.int ((p1 &&& (2147483647 : Int32)) % (3 : Int32))), .val (.ref wD), .val (.int (1 : Int32)), .unset, .unset, .unset]) rfl k_) ?_
      show own_Ends _ _ _ _ _ _ _ T2 (mkF m 54 #[.val (.int p0), .val (.int p1), .val (.long q2), .second, .val (.int p3), .val (.int p4), .val (.int ((p1 &&& (2147483647 : Int32)) % (3 : Int32))), .val (.ref wD), .val (.int (1 : Int32)), .unset, .unset, .unset] [])
      refine own_go (fun t_ k_ => XS.iload X2.here hx rfl (hb hby at_54) rfl  k_) ?_
      show own_Ends _ _ _ _ _ _ _ T2 (mkF m 56 #[.val (.int p0), .val (.int p1), .val (.long q2), .second, .val (.int p3), .val (.int p4), .val (.int ((p1 &&& (2147483647 : Int32)) % (3 : Int32))), .val (.ref wD), .val (.int (1 : Int32)), .unset, .unset, .unset] [(.int p3)])
      refine own_go (fun t_ k_ => XS.iconst X2.here hx rfl (hb hby at_56) k_) ?_
      show own_Ends _ _ _ _ _ _ _ T2 (mkF m 57 #[.val (.int p0), .val (.int p1), .val (.long q2), .second, .val (.int p3), .val (.int p4), .val (.int ((p1 &&& (2147483647 : Int32)) % (3 : Int32))), .val (.ref wD), .val (.int (1 : Int32)), .unset, .unset, .unset] [(.int (2 : Int32)), (.int p3)])
      refine own_go (fun t_ k_ => XS.iand X2.here hx rfl (hb hby at_57) rfl k_) ?_
      show own_Ends _ _ _ _ _ _ _ T2 (mkF m 58 #[.val (.int p0), .val (.int p1), .val (.long q2), .second, .val (.int p3), .val (.int p4), .val (.int ((p1 &&& (2147483647 : Int32)) % (3 : Int32))), .val (.ref wD), .val (.int (1 : Int32)), .unset, .unset, .unset] [(.int (p3 &&& (2 : Int32)))])
      by_cases hc20 : (p3 &&& (2 : Int32)) = (0 : Int32)
      · refine own_go (fun t_ k_ => XS.ifYes X2.here hx rfl (pc0 := 58) (pc' := 67) rfl (hb hby at_58) rfl ((if0 _ _).trans (teq hc20).1) (by decide) (by decide) k_) ?_
        show own_Ends _ _ _ _ _ _ _ T2 (mkF m 67 #[.val (.int p0), .val (.int p1), .val (.long q2), .second, .val (.int p3), .val (.int p4), .val (.int ((p1 &&& (2147483647 : Int32)) % (3 : Int32))), .val (.ref wD), .val (.int (1 : Int32)), .unset, .unset, .unset] [])
        refine own_go (fun t_ k_ => XS.iconst X2.here hx rfl (hb hby at_67) k_) ?_
        show own_Ends _ _ _ _ _ _ _ T2 (mkF m 68 #[.val (.int p0), .val (.int p1), .val (.long q2), .second, .val (.int p3), .val (.int p4), .val (.int ((p1 &&& (2147483647 : Int32)) % (3 : Int32))), .val (.ref wD), .val (.int (1 : Int32)), .unset, .unset, .unset] [(.int (1 : Int32))])
        obtain ⟨T21, h21, k21, X21, e21, E21, A21, st21⟩ := newP X2 hx hZ (hw _ (List.mem_of_getElem? (i := 4) rfl)) e2 (g := (mkF m 68 #[.val (.int p0), .val (.int p1), .val (.long q2), .second, .val (.int p3), .val (.int p4), .val (.int ((p1 &&& (2147483647 : Int32)) % (3 : Int32))), .val (.ref wD), .val (.int (1 : Int32)), .unset, .unset, .unset] [(.int (1 : Int32))])) rfl (hb hby at_68) rfl (by decide) (cap := 1) (by decide) (by decide) (by decide) (by decide)
        obtain ⟨b21, g21⟩ : ∃ z, z = h0.size := ⟨_, rfl⟩
        rw [← g21] at A21 st21
        refine own_go st21 ?_
        have V21 : Arv Z h21 b21 k21 .char (1 : Int32) [(.int (0 : Int32))] (.int (0 : Int32)) := (Arv.new A21 (by decide)).pad (pad_rep [] (.int (0 : Int32)) 1)
        have g_b21 : n0 ≤ b21 := Nat.le_trans Z0 (Nat.le_of_eq g21.symm)
        show own_Ends _ _ _ _ _ _ _ T21 (mkF m 70 #[.val (.int p0), .val (.int p1), .val (.long q2), .second, .val (.int p3), .val (.int p4), .val (.int ((p1 &&& (2147483647 : Int32)) % (3 : Int32))), .val (.ref wD), .val (.int (1 : Int32)), .unset, .unset, .unset] [(.ref b21)])
        refine own_go (fun t_ k_ => XS.astore X21.here hx rfl (hb hby at_70) rfl rfl (l' := #[.val (.int p0), .val (.int p1), .val (.long q2), .second, .val (.int p3), .val (.int p4), .val (.int ((p1 &&& (2147483647 : Int32)) % (3 : Int32))), .val (.ref wD), .val (.int (1 : Int32)), .unset, .val (.ref b21), .unset]) rfl k_) ?_
        show own_Ends _ _ _ _ _ _ _ T21 (mkF m 72 #[.val (.int p0), .val (.int p1), .val (.long q2), .second, .val (.int p3), .val (.int p4), .val (.int ((p1 &&& (2147483647 : Int32)) % (3 : Int32))), .val (.ref wD), .val (.int (1 : Int32)), .unset, .val (.ref b21), .unset] [])
        refine own_go (fun t_ k_ => XS.aload X21.here hx rfl (hb hby at_72) rfl rfl  k_) ?_
        show own_Ends _ _ _ _ _ _ _ T21 (mkF m 74 #[.val (.int p0), .val (.int p1), .val (.long q2), .second, .val (.int p3), .val (.int p4), .val (.int ((p1 &&& (2147483647 : Int32)) % (3 : Int32))), .val (.ref wD), .val (.int (1 : Int32)), .unset, .val (.ref b21), .unset] [(.ref b21)])
        refine own_go (fun t_ k_ => XS.iconst X21.here hx rfl (hb hby at_74) k_) ?_
        show own_Ends _ _ _ _ _ _ _ T21 (mkF m 75 #[.val (.int p0), .val (.int p1), .val (.long q2), .second, .val (.int p3), .val (.int p4), .val (.int ((p1 &&& (2147483647 : Int32)) % (3 : Int32))), .val (.ref wD), .val (.int (1 : Int32)), .unset, .val (.ref b21), .unset] [(.int (0 : Int32)), (.ref b21)])
        refine own_go (fun t_ k_ => XS.iload X21.here hx rfl (hb hby at_75) rfl  k_) ?_
        show own_Ends _ _ _ _ _ _ _ T21 (mkF m 77 #[.val (.int p0), .val (.int p1), .val (.long q2), .second, .val (.int p3), .val (.int p4), .val (.int ((p1 &&& (2147483647 : Int32)) % (3 : Int32))), .val (.ref wD), .val (.int (1 : Int32)), .unset, .val (.ref b21), .unset] [(.int p4), (.int (0 : Int32)), (.ref b21)])
        refine own_go (fun t_ k_ => XS.sipush X21.here hx rfl (hb hby at_77) k_) ?_
        show own_Ends _ _ _ _ _ _ _ T21 (mkF m 80 #[.val (.int p0), .val (.int p1), .val (.long q2), .second, .val (.int p3), .val (.int p4), .val (.int ((p1 &&& (2147483647 : Int32)) % (3 : Int32))), .val (.ref wD), .val (.int (1 : Int32)), .unset, .val (.ref b21), .unset] [(.int (255 : Int32)), (.int p4), (.int (0 : Int32)), (.ref b21)])
        refine own_go (fun t_ k_ => XS.iand X21.here hx rfl (hb hby at_80) rfl k_) ?_
        show own_Ends _ _ _ _ _ _ _ T21 (mkF m 81 #[.val (.int p0), .val (.int p1), .val (.long q2), .second, .val (.int p3), .val (.int p4), .val (.int ((p1 &&& (2147483647 : Int32)) % (3 : Int32))), .val (.ref wD), .val (.int (1 : Int32)), .unset, .val (.ref b21), .unset] [(.int (p4 &&& (255 : Int32))), (.int (0 : Int32)), (.ref b21)])
        refine own_go (fun t_ k_ => XT.i2c X21.here hx rfl (hb hby at_81) rfl k_) ?_
        show own_Ends _ _ _ _ _ _ _ T21 (mkF m 82 #[.val (.int p0), .val (.int p1), .val (.long q2), .second, .val (.int p3), .val (.int p4), .val (.int ((p1 &&& (2147483647 : Int32)) % (3 : Int32))), .val (.ref wD), .val (.int (1 : Int32)), .unset, .val (.ref b21), .unset] [(.int ((p4 &&& (255 : Int32)).toUInt32.toUInt16.toUInt32.toInt32)), (.int (0 : Int32)), (.ref b21)])
        obtain ⟨cl23, Ar23, q23, S23, Ng23, Hs23, G23⟩ := (id V21)
        obtain ⟨T24, h24, X24, e24, W24, st24⟩ := stC X21 hx hZ e21 Ar23 (j := (0 : Int32)) (inb_of S23 ⟨by decide, by decide⟩) (g := (mkF m 82 #[.val (.int p0), .val (.int p1), .val (.long q2), .second, .val (.int p3), .val (.int p4), .val (.int ((p1 &&& (2147483647 : Int32)) % (3 : Int32))), .val (.ref wD), .val (.int (1 : Int32)), .unset, .val (.ref b21), .unset] [(.int ((p4 &&& (255 : Int32)).toUInt32.toUInt16.toUInt32.toInt32)), (.int (0 : Int32)), (.ref b21)])) rfl rfl (hb hby at_82)
        refine own_go st24 ?_
        have V24 : Arv Z h24 b21 k21 .char (1 : Int32) [(.int (nar .char ((p4 &&& (255 : Int32)).toUInt32.toUInt16.toUInt32.toInt32)))] (.int (0 : Int32)) := Arv.set Ar23 q23 S23 Ng23 Hs23 G23 (fits_nar_char _) W24 0 rfl (Nat.le_of_ble_eq_true rfl)
        have N24 := Fr.snoc X24 N0 g_b21
        show own_Ends _ _ _ _ _ _ _ T24 (mkF m 83 #[.val (.int p0), .val (.int p1), .val (.long q2), .second, .val (.int p3), .val (.int p4), .val (.int ((p1 &&& (2147483647 : Int32)) % (3 : Int32))), .val (.ref wD), .val (.int (1 : Int32)), .unset, .val (.ref b21), .unset] [])
        obtain ⟨T25, h25, X25, e25, E25, A25, D25, -, st25⟩ := newO X24 hx hZ hown (hw _ (List.mem_of_getElem? (i := 5) rfl)) (hw _ (List.mem_of_getElem? (i := 6) rfl)) (hw _ (List.mem_of_getElem? (i := 7) rfl)) e24 (g := (mkF m 83 #[.val (.int p0), .val (.int p1), .val (.long q2), .second, .val (.int p3), .val (.int p4), .val (.int ((p1 &&& (2147483647 : Int32)) % (3 : Int32))), .val (.ref wD), .val (.int (1 : Int32)), .unset, .val (.ref b21), .unset] [])) rfl (hb hby at_83) (by decide) (by decide)
        obtain ⟨b25, g25⟩ : ∃ z, z = h24.size := ⟨_, rfl⟩
        rw [← g25] at A25 D25 st25
        refine own_go st25 ?_
        have g_b25 : n0 ≤ b25 := Nat.le_trans (Nat.le_trans (Nat.le_trans Z0 E21.1) (Keep.of_wr W24).1) (Nat.le_of_eq g25.symm)
        have F25_coder : Fld Z h25 b25 "java/lang/String" "coder" "B" (.int (0 : Int32)) := D25 (Or.inr (hw _ (List.mem_of_getElem? (i := 31) rfl))) (ty := .byte) (by decide)
        have F25_value : Fld Z h25 b25 "java/lang/String" "value" "[B" .null := D25 (Or.inr (hw _ (List.mem_of_getElem? (i := 33) rfl))) (ty := (.array .byte)) (by decide)
        show own_Ends _ _ _ _ _ _ _ T25 (mkF m 86 #[.val (.int p0), .val (.int p1), .val (.long q2), .second, .val (.int p3), .val (.int p4), .val (.int ((p1 &&& (2147483647 : Int32)) % (3 : Int32))), .val (.ref wD), .val (.int (1 : Int32)), .unset, .val (.ref b21), .unset] [(.ref b25)])
        refine own_go (fun t_ k_ => XS.dup X25.here hx rfl (hb hby at_86) rfl rfl k_) ?_
        show own_Ends _ _ _ _ _ _ _ T25 (mkF m 87 #[.val (.int p0), .val (.int p1), .val (.long q2), .second, .val (.int p3), .val (.int p4), .val (.int ((p1 &&& (2147483647 : Int32)) % (3 : Int32))), .val (.ref wD), .val (.int (1 : Int32)), .unset, .val (.ref b21), .unset] [(.ref b25), (.ref b25)])
        refine own_go (fun t_ k_ => XS.aload X25.here hx rfl (hb hby at_87) rfl rfl  k_) ?_
        show own_Ends _ _ _ _ _ _ _ T25 (mkF m 89 #[.val (.int p0), .val (.int p1), .val (.long q2), .second, .val (.int p3), .val (.int p4), .val (.int ((p1 &&& (2147483647 : Int32)) % (3 : Int32))), .val (.ref wD), .val (.int (1 : Int32)), .unset, .val (.ref b21), .unset] [(.ref b21), (.ref b25), (.ref b25)])
        have hlat : ∀ c ∈ [(nar .char ((p4 &&& (255 : Int32)).toUInt32.toUInt16.toUInt32.toInt32))], ¬ c < 0 ∧ ¬ (255 : Int32) < c := own_lat1 _
        have Nsk26 : ∀ x ∈ ([b25] : List Addr), ∀ cell : Cell, h25[x]? = some cell → cell.vm.isStatics = false := (nsS (Exa.nostat A25) ns0)
        obtain ⟨T27, v27, L27, X27, hQ27, st27⟩ := own_callNB X25 hx hZ (y := (⟨"java/lang/String", "<init>", "([C)V"⟩ : MethodName)) (rc := 1) (rs := 1) rfl hown (hw _ (List.mem_of_getElem? (i := 8) rfl)) (hw _ (List.mem_of_getElem? (i := 9) rfl)) (hw _ (List.mem_of_getElem? (i := 10) rfl)) (by decide) (StrChars.Road.backV (W := 1) hZ (fun d hd => hw d (own_sub d hd)) (kI := 4) (hw _ (List.mem_of_getElem? (i := 6) rfl)) (cs := [(nar .char ((p4 &&& (255 : Int32)).toUInt32.toUInt16.toUInt32.toInt32))]) (bs := [((nar .char ((p4 &&& (255 : Int32)).toUInt32.toUInt16.toUInt32.toInt32))).toInt8.toInt32]) (n := 1) g_b25 (Nat.le_trans (Nat.le_trans (Nat.le_trans Z0 E21.1) (Keep.of_wr W24).1) E25.1) A25 F25_value F25_coder (V24.ext E25) (((SC.ext E21).wr W24).ext E25) hzc rfl rfl (by decide) (by decide) hlat rfl (by decide) (by decide)) e25 (g := (mkF m 89 #[.val (.int p0), .val (.int p1), .val (.long q2), .second, .val (.int p3), .val (.int p4), .val (.int ((p1 &&& (2147483647 : Int32)) % (3 : Int32))), .val (.ref wD), .val (.int (1 : Int32)), .unset, .val (.ref b21), .unset] [(.ref b21), (.ref b25), (.ref b25)])) rfl (by rw [hml]; rfl) b25 [(.ref b21)] [(.ref b25)] rfl (lenOf pd___C_V rfl) rfl (by show 2 * 0 + _ ≤ _; exact Nat.le_of_eq rfl) (hb hby at_89) (by decide) (by decide)
        obtain ⟨rfl, N27q, Kq27, Eq27, Cq27, t27, kb27, -, -, -, -, -⟩ := hQ27
        refine own_go st27 ?_
        have N27 := Fr.app N24 N27q
        show own_Ends _ _ _ _ _ _ _ T27 (mkF m 92 #[.val (.int p0), .val (.int p1), .val (.long q2), .second, .val (.int p3), .val (.int p4), .val (.int ((p1 &&& (2147483647 : Int32)) % (3 : Int32))), .val (.ref wD), .val (.int (1 : Int32)), .unset, .val (.ref b21), .unset] [(.ref b25)])
        refine own_go (fun t_ k_ => XS.astore X27.here hx rfl (hb hby at_92) rfl rfl (l' := #[.val (.int p0), .val (.int p1), .val (.long q2), .second, .val (.int p3), .val (.int p4), .val (.int ((p1 &&& (2147483647 : Int32)) % (3 : Int32))), .val (.ref wD), .val (.int (1 : Int32)), .val (.ref b25), .val (.ref b21), .unset]) rfl k_) ?_
        show own_Ends _ _ _ _ _ _ _ T27 (mkF m 94 #[.val (.int p0), .val (.int p1), .val (.long q2), .second, .val (.int p3), .val (.int p4), .val (.int ((p1 &&& (2147483647 : Int32)) % (3 : Int32))), .val (.ref wD), .val (.int (1 : Int32)), .val (.ref b25), .val (.ref b21), .unset] [])
        obtain ⟨T28, h28, X28, e28, E28, A28, D28, -, st28⟩ := newO X27 hx hZ hown (hw _ (List.mem_of_getElem? (i := 34) rfl)) (hw _ (List.mem_of_getElem? (i := 35) rfl)) (hw _ (List.mem_of_getElem? (i := 36) rfl)) rfl (g := (mkF m 94 #[.val (.int p0), .val (.int p1), .val (.long q2), .second, .val (.int p3), .val (.int p4), .val (.int ((p1 &&& (2147483647 : Int32)) % (3 : Int32))), .val (.ref wD), .val (.int (1 : Int32)), .val (.ref b25), .val (.ref b21), .unset] [])) rfl (hb hby at_94) (by decide) (by decide)
        obtain ⟨b28, g28⟩ : ∃ z, z = T27.heap.size := ⟨_, rfl⟩
        rw [← g28] at A28 D28 st28
        refine own_go st28 ?_
        have g_b28 : n0 ≤ b28 := Nat.le_trans (Nat.le_trans (Nat.le_trans (Nat.le_trans (Nat.le_trans Z0 E21.1) (Keep.of_wr W24).1) E25.1) Kq27.1) (Nat.le_of_eq g28.symm)
        have F28_from : Fld Z h28 b28 "com/example/quayside/quayside/RedeliverySchedule$Step" "from" "I" (.int (0 : Int32)) := D28 (Or.inr (hw _ (List.mem_of_getElem? (i := 47) rfl))) (ty := .int) (by decide)
        have F28_action : Fld Z h28 b28 "com/example/quayside/quayside/RedeliverySchedule$Step" "action" "Lcom/example/quayside/quayside/RedeliverySchedule$Action;" .null := D28 (Or.inr (hw _ (List.mem_of_getElem? (i := 49) rfl))) (ty := (.object "com/example/quayside/quayside/RedeliverySchedule$Action")) (by decide)
        have F28_delayMs : Fld Z h28 b28 "com/example/quayside/quayside/RedeliverySchedule$Step" "delayMs" "J" (.long (0 : Int64)) := D28 (Or.inr (hw _ (List.mem_of_getElem? (i := 51) rfl))) (ty := .long) (by decide)
        have F28_topic : Fld Z h28 b28 "com/example/quayside/quayside/RedeliverySchedule$Step" "topic" "Z" (.int (0 : Int32)) := D28 (Or.inr (hw _ (List.mem_of_getElem? (i := 53) rfl))) (ty := .boolean) (by decide)
        have F28_destination : Fld Z h28 b28 "com/example/quayside/quayside/RedeliverySchedule$Step" "destination" "Ljava/lang/String;" .null := D28 (Or.inr (hw _ (List.mem_of_getElem? (i := 55) rfl))) (ty := (.object "java/lang/String")) (by decide)
        show own_Ends _ _ _ _ _ _ _ T28 (mkF m 97 #[.val (.int p0), .val (.int p1), .val (.long q2), .second, .val (.int p3), .val (.int p4), .val (.int ((p1 &&& (2147483647 : Int32)) % (3 : Int32))), .val (.ref wD), .val (.int (1 : Int32)), .val (.ref b25), .val (.ref b21), .unset] [(.ref b28)])
        refine own_go (fun t_ k_ => XS.dup X28.here hx rfl (hb hby at_97) rfl rfl k_) ?_
        show own_Ends _ _ _ _ _ _ _ T28 (mkF m 98 #[.val (.int p0), .val (.int p1), .val (.long q2), .second, .val (.int p3), .val (.int p4), .val (.int ((p1 &&& (2147483647 : Int32)) % (3 : Int32))), .val (.ref wD), .val (.int (1 : Int32)), .val (.ref b25), .val (.ref b21), .unset] [(.ref b28), (.ref b28)])
        refine own_go (fun t_ k_ => XS.iloadN X28.here hx rfl (hb hby at_98) rfl  k_) ?_
        show own_Ends _ _ _ _ _ _ _ T28 (mkF m 99 #[.val (.int p0), .val (.int p1), .val (.long q2), .second, .val (.int p3), .val (.int p4), .val (.int ((p1 &&& (2147483647 : Int32)) % (3 : Int32))), .val (.ref wD), .val (.int (1 : Int32)), .val (.ref b25), .val (.ref b21), .unset] [(.int p0), (.ref b28), (.ref b28)])
        refine own_go (fun t_ k_ => XS.aload X28.here hx rfl (hb hby at_99) rfl rfl  k_) ?_
        show own_Ends _ _ _ _ _ _ _ T28 (mkF m 101 #[.val (.int p0), .val (.int p1), .val (.long q2), .second, .val (.int p3), .val (.int p4), .val (.int ((p1 &&& (2147483647 : Int32)) % (3 : Int32))), .val (.ref wD), .val (.int (1 : Int32)), .val (.ref b25), .val (.ref b21), .unset] [(.ref wD), (.int p0), (.ref b28), (.ref b28)])
        refine own_go (fun t_ k_ => XT.lloadN X28.here hx rfl (hb hby at_101) rfl k_) ?_
        show own_Ends _ _ _ _ _ _ _ T28 (mkF m 102 #[.val (.int p0), .val (.int p1), .val (.long q2), .second, .val (.int p3), .val (.int p4), .val (.int ((p1 &&& (2147483647 : Int32)) % (3 : Int32))), .val (.ref wD), .val (.int (1 : Int32)), .val (.ref b25), .val (.ref b21), .unset] [(.long q2), (.ref wD), (.int p0), (.ref b28), (.ref b28)])
        refine own_go (fun t_ k_ => XS.iload X28.here hx rfl (hb hby at_102) rfl  k_) ?_
        show own_Ends _ _ _ _ _ _ _ T28 (mkF m 104 #[.val (.int p0), .val (.int p1), .val (.long q2), .second, .val (.int p3), .val (.int p4), .val (.int ((p1 &&& (2147483647 : Int32)) % (3 : Int32))), .val (.ref wD), .val (.int (1 : Int32)), .val (.ref b25), .val (.ref b21), .unset] [(.int (1 : Int32)), (.long q2), (.ref wD), (.int p0), (.ref b28), (.ref b28)])
        refine own_go (fun t_ k_ => XS.aload X28.here hx rfl (hb hby at_104) rfl rfl  k_) ?_
        show own_Ends _ _ _ _ _ _ _ T28 (mkF m 106 #[.val (.int p0), .val (.int p1), .val (.long q2), .second, .val (.int p3), .val (.int p4), .val (.int ((p1 &&& (2147483647 : Int32)) % (3 : Int32))), .val (.ref wD), .val (.int (1 : Int32)), .val (.ref b25), .val (.ref b21), .unset] [(.ref b25), (.int (1 : Int32)), (.long q2), (.ref wD), (.int p0), (.ref b28), (.ref b28)])
        have Nsk29 : ∀ x ∈ ([b28] : List Addr), ∀ cell : Cell, h28[x]? = some cell → cell.vm.isStatics = false := (nsS (Exa.nostat A28) ns0)
        obtain ⟨T30, v30, L30, X30, hQ30, st30⟩ := own_callN X28 hx hZ (y := (⟨"com/example/quayside/quayside/RedeliverySchedule$Step", "<init>", "(ILcom/example/quayside/quayside/RedeliverySchedule$Action;JZLjava/lang/String;)V"⟩ : MethodName)) rfl hown (hw _ (List.mem_of_getElem? (i := 37) rfl)) (hw _ (List.mem_of_getElem? (i := 38) rfl)) (hw _ (List.mem_of_getElem? (i := 36) rfl)) (hw _ (List.mem_of_getElem? (i := 39) rfl)) (by decide) (rm7 l Z a0 hw [] b28 p0 wD q2 (1 : Int32) (.ref b25) h28 n0 (Nat.le_trans (Nat.le_trans (Nat.le_trans (Nat.le_trans (Nat.le_trans Z0 E21.1) (Keep.of_wr W24).1) E25.1) Kq27.1) E28.1) rfl A28 F28_from F28_action F28_delayMs F28_topic F28_destination g_b28) e28 (g := (mkF m 106 #[.val (.int p0), .val (.int p1), .val (.long q2), .second, .val (.int p3), .val (.int p4), .val (.int ((p1 &&& (2147483647 : Int32)) % (3 : Int32))), .val (.ref wD), .val (.int (1 : Int32)), .val (.ref b25), .val (.ref b21), .unset] [(.ref b25), (.int (1 : Int32)), (.long q2), (.ref wD), (.int p0), (.ref b28), (.ref b28)])) rfl (by rw [hml]; rfl) b28 [(.int p0), (.ref wD), (.long q2), (.int (1 : Int32)), (.ref b25)] [(.ref b28)] rfl (lenOf pd__ILcom_example_quayside_quayside_RedeliverySchedule_Action_JZLjava_lang_String__V rfl) rfl 1 (by show 2 * 0 + _ ≤ _; exact Nat.le_of_eq rfl) (hb hby at_106) (by decide) (by decide) (by decide) (by decide)
        obtain ⟨rfl, N30q, Kq30, Eq30, Fq30⟩ := hQ30
        refine own_go st30 ?_
        have N30 := Fr.app N27 N30q
        show own_Ends _ _ _ _ _ _ _ T30 (mkF m 109 #[.val (.int p0), .val (.int p1), .val (.long q2), .second, .val (.int p3), .val (.int p4), .val (.int ((p1 &&& (2147483647 : Int32)) % (3 : Int32))), .val (.ref wD), .val (.int (1 : Int32)), .val (.ref b25), .val (.ref b21), .unset] [(.ref b28)])
        refine own_go (fun t_ k_ => XS.astore X30.here hx rfl (hb hby at_109) rfl rfl (l' := #[.val (.int p0), .val (.int p1), .val (.long q2), .second, .val (.int p3), .val (.int p4), .val (.int ((p1 &&& (2147483647 : Int32)) % (3 : Int32))), .val (.ref wD), .val (.int (1 : Int32)), .val (.ref b25), .val (.ref b28), .unset]) rfl k_) ?_
        show own_Ends _ _ _ _ _ _ _ T30 (mkF m 111 #[.val (.int p0), .val (.int p1), .val (.long q2), .second, .val (.int p3), .val (.int p4), .val (.int ((p1 &&& (2147483647 : Int32)) % (3 : Int32))), .val (.ref wD), .val (.int (1 : Int32)), .val (.ref b25), .val (.ref b28), .unset] [])
        refine own_go (fun t_ k_ => XS.iload X30.here hx rfl (hb hby at_111) rfl  k_) ?_
        show own_Ends _ _ _ _ _ _ _ T30 (mkF m 113 #[.val (.int p0), .val (.int p1), .val (.long q2), .second, .val (.int p3), .val (.int p4), .val (.int ((p1 &&& (2147483647 : Int32)) % (3 : Int32))), .val (.ref wD), .val (.int (1 : Int32)), .val (.ref b25), .val (.ref b28), .unset] [(.int ((p1 &&& (2147483647 : Int32)) % (3 : Int32)))])
        refine own_go (fun t_ k_ => XS.iconst X30.here hx rfl (hb hby at_113) k_) ?_
        show own_Ends _ _ _ _ _ _ _ T30 (mkF m 114 #[.val (.int p0), .val (.int p1), .val (.long q2), .second, .val (.int p3), .val (.int p4), .val (.int ((p1 &&& (2147483647 : Int32)) % (3 : Int32))), .val (.ref wD), .val (.int (1 : Int32)), .val (.ref b25), .val (.ref b28), .unset] [(.int (1 : Int32)), (.int ((p1 &&& (2147483647 : Int32)) % (3 : Int32)))])
        refine own_go (fun t_ k_ => XS.icmpYes X30.here hx rfl (pc0 := 114) (pc' := 123) rfl (hb hby at_114) rfl (feq (by rw [hc1]; decide)).2 (by decide) (by decide) k_) ?_
        show own_Ends _ _ _ _ _ _ _ T30 (mkF m 123 #[.val (.int p0), .val (.int p1), .val (.long q2), .second, .val (.int p3), .val (.int p4), .val (.int ((p1 &&& (2147483647 : Int32)) % (3 : Int32))), .val (.ref wD), .val (.int (1 : Int32)), .val (.ref b25), .val (.ref b28), .unset] [])
        refine own_go (fun t_ k_ => XS.iload X30.here hx rfl (hb hby at_123) rfl  k_) ?_
        show own_Ends _ _ _ _ _ _ _ T30 (mkF m 125 #[.val (.int p0), .val (.int p1), .val (.long q2), .second, .val (.int p3), .val (.int p4), .val (.int ((p1 &&& (2147483647 : Int32)) % (3 : Int32))), .val (.ref wD), .val (.int (1 : Int32)), .val (.ref b25), .val (.ref b28), .unset] [(.int ((p1 &&& (2147483647 : Int32)) % (3 : Int32)))])
        refine own_go (fun t_ k_ => XS.iconst X30.here hx rfl (hb hby at_125) k_) ?_
        show own_Ends _ _ _ _ _ _ _ T30 (mkF m 126 #[.val (.int p0), .val (.int p1), .val (.long q2), .second, .val (.int p3), .val (.int p4), .val (.int ((p1 &&& (2147483647 : Int32)) % (3 : Int32))), .val (.ref wD), .val (.int (1 : Int32)), .val (.ref b25), .val (.ref b28), .unset] [(.int (2 : Int32)), (.int ((p1 &&& (2147483647 : Int32)) % (3 : Int32)))])
        refine own_go (fun t_ k_ => XS.icmpYes X30.here hx rfl (pc0 := 126) (pc' := 135) rfl (hb hby at_126) rfl (feq (by rw [hc1]; decide)).2 (by decide) (by decide) k_) ?_
        show own_Ends _ _ _ _ _ _ _ T30 (mkF m 135 #[.val (.int p0), .val (.int p1), .val (.long q2), .second, .val (.int p3), .val (.int p4), .val (.int ((p1 &&& (2147483647 : Int32)) % (3 : Int32))), .val (.ref wD), .val (.int (1 : Int32)), .val (.ref b25), .val (.ref b28), .unset] [])
        refine own_go (fun t_ k_ => XS.iconst X30.here hx rfl (hb hby at_135) k_) ?_
        show own_Ends _ _ _ _ _ _ _ T30 (mkF m 136 #[.val (.int p0), .val (.int p1), .val (.long q2), .second, .val (.int p3), .val (.int p4), .val (.int ((p1 &&& (2147483647 : Int32)) % (3 : Int32))), .val (.ref wD), .val (.int (1 : Int32)), .val (.ref b25), .val (.ref b28), .unset] [(.int (0 : Int32))])
        refine own_go (fun t_ k_ => XS.istore X30.here hx rfl (hb hby at_136) rfl (l' := #[.val (.int p0), .val (.int p1), .val (.long q2), .second, .val (.int p3), .val (.int p4), .val (.int ((p1 &&& (2147483647 : Int32)) % (3 : Int32))), .val (.ref wD), .val (.int (1 : Int32)), .val (.ref b25), .val (.ref b28), .val (.int (0 : Int32))]) rfl k_) ?_
        show own_Ends _ _ _ _ _ _ _ T30 (mkF m 138 #[.val (.int p0), .val (.int p1), .val (.long q2), .second, .val (.int p3), .val (.int p4), .val (.int ((p1 &&& (2147483647 : Int32)) % (3 : Int32))), .val (.ref wD), .val (.int (1 : Int32)), .val (.ref b25), .val (.ref b28), .val (.int (0 : Int32))] [])
        refine own_go (fun t_ k_ => XS.aload X30.here hx rfl (hb hby at_138) rfl rfl  k_) ?_
        show own_Ends _ _ _ _ _ _ _ T30 (mkF m 140 #[.val (.int p0), .val (.int p1), .val (.long q2), .second, .val (.int p3), .val (.int p4), .val (.int ((p1 &&& (2147483647 : Int32)) % (3 : Int32))), .val (.ref wD), .val (.int (1 : Int32)), .val (.ref b25), .val (.ref b28), .val (.int (0 : Int32))] [(.ref b28)])
        obtain ⟨T31, v31, L31, X31, hQ31, st31⟩ := own_callV X30 hx hZ (y := (⟨"com/example/quayside/quayside/RedeliverySchedule$Step", "removes", "()Z"⟩ : MethodName)) (z := (⟨"com/example/quayside/quayside/RedeliverySchedule$Step", "removes", "()Z"⟩ : MethodName)) hown (hw _ (List.mem_of_getElem? (i := 56) rfl)) (hw _ (List.mem_of_getElem? (i := 57) rfl)) (notFace_of_selects (args := #[]) (mvT hZ (hw _ (List.mem_of_getElem? (i := 59) rfl)))) (hw _ (List.mem_of_getElem? (i := 59) rfl)) (hw _ (List.mem_of_getElem? (i := 58) rfl)) (hw _ (List.mem_of_getElem? (i := 36) rfl)) (hw _ (List.mem_of_getElem? (i := 60) rfl)) (by decide) (rm9 l Z a0 hw [] b28 wD wD T30.heap n0 (Nat.le_trans (Nat.le_trans (Nat.le_trans (Nat.le_trans (Nat.le_trans (Nat.le_trans Z0 E21.1) (Keep.of_wr W24).1) E25.1) Kq27.1) E28.1) Kq30.1) Fq30 (own_staK ((own_staK (((SD.ext E21).wr W24).ext E25) Kq27 Nsk26).ext E28) Kq30 Nsk29)) rfl (g := (mkF m 140 #[.val (.int p0), .val (.int p1), .val (.long q2), .second, .val (.int p3), .val (.int p4), .val (.int ((p1 &&& (2147483647 : Int32)) % (3 : Int32))), .val (.ref wD), .val (.int (1 : Int32)), .val (.ref b25), .val (.ref b28), .val (.int (0 : Int32))] [(.ref b28)])) rfl (by rw [hml]; rfl) b28 (A28.keep Kq30) [] [] rfl (lenOf pd___Z rfl) rfl 0 (by show 2 * 0 + _ ≤ _; exact Nat.le_of_eq rfl) (hb hby at_140) (by decide) (by decide) (by decide) (by decide)
        obtain ⟨hv31, N31q, e31⟩ := hQ31
        rw [if_pos rfl] at hv31
        subst hv31
        refine own_go st31 ?_
        have N31 := Fr.app N30 N31q
        show own_Ends _ _ _ _ _ _ _ T31 (mkF m 143 #[.val (.int p0), .val (.int p1), .val (.long q2), .second, .val (.int p3), .val (.int p4), .val (.int ((p1 &&& (2147483647 : Int32)) % (3 : Int32))), .val (.ref wD), .val (.int (1 : Int32)), .val (.ref b25), .val (.ref b28), .val (.int (0 : Int32))] [(.int (0 : Int32))])
        refine own_go (fun t_ k_ => XS.iload X31.here hx rfl (hb hby at_143) rfl  k_) ?_
        show own_Ends _ _ _ _ _ _ _ T31 (mkF m 145 #[.val (.int p0), .val (.int p1), .val (.long q2), .second, .val (.int p3), .val (.int p4), .val (.int ((p1 &&& (2147483647 : Int32)) % (3 : Int32))), .val (.ref wD), .val (.int (1 : Int32)), .val (.ref b25), .val (.ref b28), .val (.int (0 : Int32))] [(.int (0 : Int32)), (.int (0 : Int32))])
        refine own_go (fun t_ k_ => XS.icmpNo X31.here hx rfl (hb hby at_145) rfl (teq (by decide : (0 : Int32) = (0 : Int32))).2 k_) ?_
        show own_Ends _ _ _ _ _ _ _ T31 (mkF m 148 #[.val (.int p0), .val (.int p1), .val (.long q2), .second, .val (.int p3), .val (.int p4), .val (.int ((p1 &&& (2147483647 : Int32)) % (3 : Int32))), .val (.ref wD), .val (.int (1 : Int32)), .val (.ref b25), .val (.ref b28), .val (.int (0 : Int32))] [])
        refine own_go (fun t_ k_ => XS.iconst X31.here hx rfl (hb hby at_148) k_) ?_
        show own_Ends _ _ _ _ _ _ _ T31 (mkF m 149 #[.val (.int p0), .val (.int p1), .val (.long q2), .second, .val (.int p3), .val (.int p4), .val (.int ((p1 &&& (2147483647 : Int32)) % (3 : Int32))), .val (.ref wD), .val (.int (1 : Int32)), .val (.ref b25), .val (.ref b28), .val (.int (0 : Int32))] [(.int (1 : Int32))])
        refine own_go (fun t_ k_ => XS.goto X31.here hx rfl (pc0 := 149) (pc' := 153) rfl (hb hby at_149) (by decide) (by decide) k_) ?_
        show own_Ends _ _ _ _ _ _ _ T31 (mkF m 153 #[.val (.int p0), .val (.int p1), .val (.long q2), .second, .val (.int p3), .val (.int p4), .val (.int ((p1 &&& (2147483647 : Int32)) % (3 : Int32))), .val (.ref wD), .val (.int (1 : Int32)), .val (.ref b25), .val (.ref b28), .val (.int (0 : Int32))] [(.int (1 : Int32))])
        refine own_retN X31 hx hlk (t := .boolean) hret (by simp) (hb hby at_153) e31 (by decide) (by decide) ?_
        exact ⟨rfl, N31⟩
      · refine own_go (fun t_ k_ => XS.ifNo X2.here hx rfl (hb hby at_58) rfl ((if0 _ _).trans (feq hc20).1) k_) ?_
        show own_Ends _ _ _ _ _ _ _ T2 (mkF m 61 #[.val (.int p0), .val (.int p1), .val (.long q2), .second, .val (.int p3), .val (.int p4), .val (.int ((p1 &&& (2147483647 : Int32)) % (3 : Int32))), .val (.ref wD), .val (.int (1 : Int32)), .unset, .unset, .unset] [])
        refine own_go (fun t_ k_ => XS.aconstNull X2.here hx rfl (hb hby at_61) k_) ?_
        show own_Ends _ _ _ _ _ _ _ T2 (mkF m 62 #[.val (.int p0), .val (.int p1), .val (.long q2), .second, .val (.int p3), .val (.int p4), .val (.int ((p1 &&& (2147483647 : Int32)) % (3 : Int32))), .val (.ref wD), .val (.int (1 : Int32)), .unset, .unset, .unset] [.null])
        refine own_go (fun t_ k_ => XS.astore X2.here hx rfl (hb hby at_62) rfl rfl (l' := #[.val (.int p0), .val (.int p1), .val (.long q2), .second, .val (.int p3), .val (.int p4), .val (.int ((p1 &&& (2147483647 : Int32)) % (3 : Int32))), .val (.ref wD), .val (.int (1 : Int32)), .val .null, .unset, .unset]) rfl k_) ?_
        show own_Ends _ _ _ _ _ _ _ T2 (mkF m 64 #[.val (.int p0), .val (.int p1), .val (.long q2), .second, .val (.int p3), .val (.int p4), .val (.int ((p1 &&& (2147483647 : Int32)) % (3 : Int32))), .val (.ref wD), .val (.int (1 : Int32)), .val .null, .unset, .unset] [])
        refine own_go (fun t_ k_ => XS.goto X2.here hx rfl (pc0 := 64) (pc' := 94) rfl (hb hby at_64) (by decide) (by decide) k_) ?_
        show own_Ends _ _ _ _ _ _ _ T2 (mkF m 94 #[.val (.int p0), .val (.int p1), .val (.long q2), .second, .val (.int p3), .val (.int p4), .val (.int ((p1 &&& (2147483647 : Int32)) % (3 : Int32))), .val (.ref wD), .val (.int (1 : Int32)), .val .null, .unset, .unset] [])
        obtain ⟨T32, h32, X32, e32, E32, A32, D32, -, st32⟩ := newO X2 hx hZ hown (hw _ (List.mem_of_getElem? (i := 34) rfl)) (hw _ (List.mem_of_getElem? (i := 35) rfl)) (hw _ (List.mem_of_getElem? (i := 36) rfl)) e2 (g := (mkF m 94 #[.val (.int p0), .val (.int p1), .val (.long q2), .second, .val (.int p3), .val (.int p4), .val (.int ((p1 &&& (2147483647 : Int32)) % (3 : Int32))), .val (.ref wD), .val (.int (1 : Int32)), .val .null, .unset, .unset] [])) rfl (hb hby at_94) (by decide) (by decide)
        obtain ⟨b32, g32⟩ : ∃ z, z = h0.size := ⟨_, rfl⟩
        rw [← g32] at A32 D32 st32
        refine own_go st32 ?_
        have g_b32 : n0 ≤ b32 := Nat.le_trans Z0 (Nat.le_of_eq g32.symm)
        have F32_from : Fld Z h32 b32 "com/example/quayside/quayside/RedeliverySchedule$Step" "from" "I" (.int (0 : Int32)) := D32 (Or.inr (hw _ (List.mem_of_getElem? (i := 47) rfl))) (ty := .int) (by decide)
        have F32_action : Fld Z h32 b32 "com/example/quayside/quayside/RedeliverySchedule$Step" "action" "Lcom/example/quayside/quayside/RedeliverySchedule$Action;" .null := D32 (Or.inr (hw _ (List.mem_of_getElem? (i := 49) rfl))) (ty := (.object "com/example/quayside/quayside/RedeliverySchedule$Action")) (by decide)
        have F32_delayMs : Fld Z h32 b32 "com/example/quayside/quayside/RedeliverySchedule$Step" "delayMs" "J" (.long (0 : Int64)) := D32 (Or.inr (hw _ (List.mem_of_getElem? (i := 51) rfl))) (ty := .long) (by decide)
        have F32_topic : Fld Z h32 b32 "com/example/quayside/quayside/RedeliverySchedule$Step" "topic" "Z" (.int (0 : Int32)) := D32 (Or.inr (hw _ (List.mem_of_getElem? (i := 53) rfl))) (ty := .boolean) (by decide)
        have F32_destination : Fld Z h32 b32 "com/example/quayside/quayside/RedeliverySchedule$Step" "destination" "Ljava/lang/String;" .null := D32 (Or.inr (hw _ (List.mem_of_getElem? (i := 55) rfl))) (ty := (.object "java/lang/String")) (by decide)
        show own_Ends _ _ _ _ _ _ _ T32 (mkF m 97 #[.val (.int p0), .val (.int p1), .val (.long q2), .second, .val (.int p3), .val (.int p4), .val (.int ((p1 &&& (2147483647 : Int32)) % (3 : Int32))), .val (.ref wD), .val (.int (1 : Int32)), .val .null, .unset, .unset] [(.ref b32)])
        refine own_go (fun t_ k_ => XS.dup X32.here hx rfl (hb hby at_97) rfl rfl k_) ?_
        show own_Ends _ _ _ _ _ _ _ T32 (mkF m 98 #[.val (.int p0), .val (.int p1), .val (.long q2), .second, .val (.int p3), .val (.int p4), .val (.int ((p1 &&& (2147483647 : Int32)) % (3 : Int32))), .val (.ref wD), .val (.int (1 : Int32)), .val .null, .unset, .unset] [(.ref b32), (.ref b32)])
        refine own_go (fun t_ k_ => XS.iloadN X32.here hx rfl (hb hby at_98) rfl  k_) ?_
        show own_Ends _ _ _ _ _ _ _ T32 (mkF m 99 #[.val (.int p0), .val (.int p1), .val (.long q2), .second, .val (.int p3), .val (.int p4), .val (.int ((p1 &&& (2147483647 : Int32)) % (3 : Int32))), .val (.ref wD), .val (.int (1 : Int32)), .val .null, .unset, .unset] [(.int p0), (.ref b32), (.ref b32)])
        refine own_go (fun t_ k_ => XS.aload X32.here hx rfl (hb hby at_99) rfl rfl  k_) ?_
        show own_Ends _ _ _ _ _ _ _ T32 (mkF m 101 #[.val (.int p0), .val (.int p1), .val (.long q2), .second, .val (.int p3), .val (.int p4), .val (.int ((p1 &&& (2147483647 : Int32)) % (3 : Int32))), .val (.ref wD), .val (.int (1 : Int32)), .val .null, .unset, .unset] [(.ref wD), (.int p0), (.ref b32), (.ref b32)])
        refine own_go (fun t_ k_ => XT.lloadN X32.here hx rfl (hb hby at_101) rfl k_) ?_
        show own_Ends _ _ _ _ _ _ _ T32 (mkF m 102 #[.val (.int p0), .val (.int p1), .val (.long q2), .second, .val (.int p3), .val (.int p4), .val (.int ((p1 &&& (2147483647 : Int32)) % (3 : Int32))), .val (.ref wD), .val (.int (1 : Int32)), .val .null, .unset, .unset] [(.long q2), (.ref wD), (.int p0), (.ref b32), (.ref b32)])
        refine own_go (fun t_ k_ => XS.iload X32.here hx rfl (hb hby at_102) rfl  k_) ?_
        show own_Ends _ _ _ _ _ _ _ T32 (mkF m 104 #[.val (.int p0), .val (.int p1), .val (.long q2), .second, .val (.int p3), .val (.int p4), .val (.int ((p1 &&& (2147483647 : Int32)) % (3 : Int32))), .val (.ref wD), .val (.int (1 : Int32)), .val .null, .unset, .unset] [(.int (1 : Int32)), (.long q2), (.ref wD), (.int p0), (.ref b32), (.ref b32)])
        refine own_go (fun t_ k_ => XS.aload X32.here hx rfl (hb hby at_104) rfl rfl  k_) ?_
        show own_Ends _ _ _ _ _ _ _ T32 (mkF m 106 #[.val (.int p0), .val (.int p1), .val (.long q2), .second, .val (.int p3), .val (.int p4), .val (.int ((p1 &&& (2147483647 : Int32)) % (3 : Int32))), .val (.ref wD), .val (.int (1 : Int32)), .val .null, .unset, .unset] [.null, (.int (1 : Int32)), (.long q2), (.ref wD), (.int p0), (.ref b32), (.ref b32)])
        have Nsk33 : ∀ x ∈ ([b32] : List Addr), ∀ cell : Cell, h32[x]? = some cell → cell.vm.isStatics = false := (nsS (Exa.nostat A32) ns0)
        obtain ⟨T34, v34, L34, X34, hQ34, st34⟩ := own_callN X32 hx hZ (y := (⟨"com/example/quayside/quayside/RedeliverySchedule$Step", "<init>", "(ILcom/example/quayside/quayside/RedeliverySchedule$Action;JZLjava/lang/String;)V"⟩ : MethodName)) rfl hown (hw _ (List.mem_of_getElem? (i := 37) rfl)) (hw _ (List.mem_of_getElem? (i := 38) rfl)) (hw _ (List.mem_of_getElem? (i := 36) rfl)) (hw _ (List.mem_of_getElem? (i := 39) rfl)) (by decide) (rm7 l Z a0 hw [] b32 p0 wD q2 (1 : Int32) .null h32 n0 (Nat.le_trans Z0 E32.1) rfl A32 F32_from F32_action F32_delayMs F32_topic F32_destination g_b32) e32 (g := (mkF m 106 #[.val (.int p0), .val (.int p1), .val (.long q2), .second, .val (.int p3), .val (.int p4), .val (.int ((p1 &&& (2147483647 : Int32)) % (3 : Int32))), .val (.ref wD), .val (.int (1 : Int32)), .val .null, .unset, .unset] [.null, (.int (1 : Int32)), (.long q2), (.ref wD), (.int p0), (.ref b32), (.ref b32)])) rfl (by rw [hml]; rfl) b32 [(.int p0), (.ref wD), (.long q2), (.int (1 : Int32)), .null] [(.ref b32)] rfl (lenOf pd__ILcom_example_quayside_quayside_RedeliverySchedule_Action_JZLjava_lang_String__V rfl) rfl 1 (by show 2 * 0 + _ ≤ _; exact Nat.le_of_eq rfl) (hb hby at_106) (by decide) (by decide) (by decide) (by decide)
        obtain ⟨rfl, N34q, Kq34, Eq34, Fq34⟩ := hQ34
        refine own_go st34 ?_
        have N34 := Fr.app N0 N34q
        show own_Ends _ _ _ _ _ _ _ T34 (mkF m 109 #[.val (.int p0), .val (.int p1), .val (.long q2), .second, .val (.int p3), .val (.int p4), .val (.int ((p1 &&& (2147483647 : Int32)) % (3 : Int32))), .val (.ref wD), .val (.int (1 : Int32)), .val .null, .unset, .unset] [(.ref b32)])
        refine own_go (fun t_ k_ => XS.astore X34.here hx rfl (hb hby at_109) rfl rfl (l' := #[.val (.int p0), .val (.int p1), .val (.long q2), .second, .val (.int p3), .val (.int p4), .val (.int ((p1 &&& (2147483647 : Int32)) % (3 : Int32))), .val (.ref wD), .val (.int (1 : Int32)), .val .null, .val (.ref b32), .unset]) rfl k_) ?_
        show own_Ends _ _ _ _ _ _ _ T34 (mkF m 111 #[.val (.int p0), .val (.int p1), .val (.long q2), .second, .val (.int p3), .val (.int p4), .val (.int ((p1 &&& (2147483647 : Int32)) % (3 : Int32))), .val (.ref wD), .val (.int (1 : Int32)), .val .null, .val (.ref b32), .unset] [])
        refine own_go (fun t_ k_ => XS.iload X34.here hx rfl (hb hby at_111) rfl  k_) ?_
        show own_Ends _ _ _ _ _ _ _ T34 (mkF m 113 #[.val (.int p0), .val (.int p1), .val (.long q2), .second, .val (.int p3), .val (.int p4), .val (.int ((p1 &&& (2147483647 : Int32)) % (3 : Int32))), .val (.ref wD), .val (.int (1 : Int32)), .val .null, .val (.ref b32), .unset] [(.int ((p1 &&& (2147483647 : Int32)) % (3 : Int32)))])
        refine own_go (fun t_ k_ => XS.iconst X34.here hx rfl (hb hby at_113) k_) ?_
        show own_Ends _ _ _ _ _ _ _ T34 (mkF m 114 #[.val (.int p0), .val (.int p1), .val (.long q2), .second, .val (.int p3), .val (.int p4), .val (.int ((p1 &&& (2147483647 : Int32)) % (3 : Int32))), .val (.ref wD), .val (.int (1 : Int32)), .val .null, .val (.ref b32), .unset] [(.int (1 : Int32)), (.int ((p1 &&& (2147483647 : Int32)) % (3 : Int32)))])
        refine own_go (fun t_ k_ => XS.icmpYes X34.here hx rfl (pc0 := 114) (pc' := 123) rfl (hb hby at_114) rfl (feq (by rw [hc1]; decide)).2 (by decide) (by decide) k_) ?_
        show own_Ends _ _ _ _ _ _ _ T34 (mkF m 123 #[.val (.int p0), .val (.int p1), .val (.long q2), .second, .val (.int p3), .val (.int p4), .val (.int ((p1 &&& (2147483647 : Int32)) % (3 : Int32))), .val (.ref wD), .val (.int (1 : Int32)), .val .null, .val (.ref b32), .unset] [])
        refine own_go (fun t_ k_ => XS.iload X34.here hx rfl (hb hby at_123) rfl  k_) ?_
        show own_Ends _ _ _ _ _ _ _ T34 (mkF m 125 #[.val (.int p0), .val (.int p1), .val (.long q2), .second, .val (.int p3), .val (.int p4), .val (.int ((p1 &&& (2147483647 : Int32)) % (3 : Int32))), .val (.ref wD), .val (.int (1 : Int32)), .val .null, .val (.ref b32), .unset] [(.int ((p1 &&& (2147483647 : Int32)) % (3 : Int32)))])
        refine own_go (fun t_ k_ => XS.iconst X34.here hx rfl (hb hby at_125) k_) ?_
        show own_Ends _ _ _ _ _ _ _ T34 (mkF m 126 #[.val (.int p0), .val (.int p1), .val (.long q2), .second, .val (.int p3), .val (.int p4), .val (.int ((p1 &&& (2147483647 : Int32)) % (3 : Int32))), .val (.ref wD), .val (.int (1 : Int32)), .val .null, .val (.ref b32), .unset] [(.int (2 : Int32)), (.int ((p1 &&& (2147483647 : Int32)) % (3 : Int32)))])
        refine own_go (fun t_ k_ => XS.icmpYes X34.here hx rfl (pc0 := 126) (pc' := 135) rfl (hb hby at_126) rfl (feq (by rw [hc1]; decide)).2 (by decide) (by decide) k_) ?_
        show own_Ends _ _ _ _ _ _ _ T34 (mkF m 135 #[.val (.int p0), .val (.int p1), .val (.long q2), .second, .val (.int p3), .val (.int p4), .val (.int ((p1 &&& (2147483647 : Int32)) % (3 : Int32))), .val (.ref wD), .val (.int (1 : Int32)), .val .null, .val (.ref b32), .unset] [])
        refine own_go (fun t_ k_ => XS.iconst X34.here hx rfl (hb hby at_135) k_) ?_
        show own_Ends _ _ _ _ _ _ _ T34 (mkF m 136 #[.val (.int p0), .val (.int p1), .val (.long q2), .second, .val (.int p3), .val (.int p4), .val (.int ((p1 &&& (2147483647 : Int32)) % (3 : Int32))), .val (.ref wD), .val (.int (1 : Int32)), .val .null, .val (.ref b32), .unset] [(.int (0 : Int32))])
        refine own_go (fun t_ k_ => XS.istore X34.here hx rfl (hb hby at_136) rfl (l' := #[.val (.int p0), .val (.int p1), .val (.long q2), .second, .val (.int p3), .val (.int p4), .val (.int ((p1 &&& (2147483647 : Int32)) % (3 : Int32))), .val (.ref wD), .val (.int (1 : Int32)), .val .null, .val (.ref b32), .val (.int (0 : Int32))]) rfl k_) ?_
        show own_Ends _ _ _ _ _ _ _ T34 (mkF m 138 #[.val (.int p0), .val (.int p1), .val (.long q2), .second, .val (.int p3), .val (.int p4), .val (.int ((p1 &&& (2147483647 : Int32)) % (3 : Int32))), .val (.ref wD), .val (.int (1 : Int32)), .val .null, .val (.ref b32), .val (.int (0 : Int32))] [])
        refine own_go (fun t_ k_ => XS.aload X34.here hx rfl (hb hby at_138) rfl rfl  k_) ?_
        show own_Ends _ _ _ _ _ _ _ T34 (mkF m 140 #[.val (.int p0), .val (.int p1), .val (.long q2), .second, .val (.int p3), .val (.int p4), .val (.int ((p1 &&& (2147483647 : Int32)) % (3 : Int32))), .val (.ref wD), .val (.int (1 : Int32)), .val .null, .val (.ref b32), .val (.int (0 : Int32))] [(.ref b32)])
        obtain ⟨T35, v35, L35, X35, hQ35, st35⟩ := own_callV X34 hx hZ (y := (⟨"com/example/quayside/quayside/RedeliverySchedule$Step", "removes", "()Z"⟩ : MethodName)) (z := (⟨"com/example/quayside/quayside/RedeliverySchedule$Step", "removes", "()Z"⟩ : MethodName)) hown (hw _ (List.mem_of_getElem? (i := 56) rfl)) (hw _ (List.mem_of_getElem? (i := 57) rfl)) (notFace_of_selects (args := #[]) (mvT hZ (hw _ (List.mem_of_getElem? (i := 59) rfl)))) (hw _ (List.mem_of_getElem? (i := 59) rfl)) (hw _ (List.mem_of_getElem? (i := 58) rfl)) (hw _ (List.mem_of_getElem? (i := 36) rfl)) (hw _ (List.mem_of_getElem? (i := 60) rfl)) (by decide) (rm9 l Z a0 hw [] b32 wD wD T34.heap n0 (Nat.le_trans (Nat.le_trans Z0 E32.1) Kq34.1) Fq34 (own_staK (SD.ext E32) Kq34 Nsk33)) rfl (g := (mkF m 140 #[.val (.int p0), .val (.int p1), .val (.long q2), .second, .val (.int p3), .val (.int p4), .val (.int ((p1 &&& (2147483647 : Int32)) % (3 : Int32))), .val (.ref wD), .val (.int (1 : Int32)), .val .null, .val (.ref b32), .val (.int (0 : Int32))] [(.ref b32)])) rfl (by rw [hml]; rfl) b32 (A32.keep Kq34) [] [] rfl (lenOf pd___Z rfl) rfl 0 (by show 2 * 0 + _ ≤ _; exact Nat.le_of_eq rfl) (hb hby at_140) (by decide) (by decide) (by decide) (by decide)
        obtain ⟨hv35, N35q, e35⟩ := hQ35
        rw [if_pos rfl] at hv35
        subst hv35
        refine own_go st35 ?_
        have N35 := Fr.app N34 N35q
        show own_Ends _ _ _ _ _ _ _ T35 (mkF m 143 #[.val (.int p0), .val (.int p1), .val (.long q2), .second, .val (.int p3), .val (.int p4), .val (.int ((p1 &&& (2147483647 : Int32)) % (3 : Int32))), .val (.ref wD), .val (.int (1 : Int32)), .val .null, .val (.ref b32), .val (.int (0 : Int32))] [(.int (0 : Int32))])
        refine own_go (fun t_ k_ => XS.iload X35.here hx rfl (hb hby at_143) rfl  k_) ?_
        show own_Ends _ _ _ _ _ _ _ T35 (mkF m 145 #[.val (.int p0), .val (.int p1), .val (.long q2), .second, .val (.int p3), .val (.int p4), .val (.int ((p1 &&& (2147483647 : Int32)) % (3 : Int32))), .val (.ref wD), .val (.int (1 : Int32)), .val .null, .val (.ref b32), .val (.int (0 : Int32))] [(.int (0 : Int32)), (.int (0 : Int32))])
        refine own_go (fun t_ k_ => XS.icmpNo X35.here hx rfl (hb hby at_145) rfl (teq (by decide : (0 : Int32) = (0 : Int32))).2 k_) ?_
        show own_Ends _ _ _ _ _ _ _ T35 (mkF m 148 #[.val (.int p0), .val (.int p1), .val (.long q2), .second, .val (.int p3), .val (.int p4), .val (.int ((p1 &&& (2147483647 : Int32)) % (3 : Int32))), .val (.ref wD), .val (.int (1 : Int32)), .val .null, .val (.ref b32), .val (.int (0 : Int32))] [])
        refine own_go (fun t_ k_ => XS.iconst X35.here hx rfl (hb hby at_148) k_) ?_
        show own_Ends _ _ _ _ _ _ _ T35 (mkF m 149 #[.val (.int p0), .val (.int p1), .val (.long q2), .second, .val (.int p3), .val (.int p4), .val (.int ((p1 &&& (2147483647 : Int32)) % (3 : Int32))), .val (.ref wD), .val (.int (1 : Int32)), .val .null, .val (.ref b32), .val (.int (0 : Int32))] [(.int (1 : Int32))])
        refine own_go (fun t_ k_ => XS.goto X35.here hx rfl (pc0 := 149) (pc' := 153) rfl (hb hby at_149) (by decide) (by decide) k_) ?_
        show own_Ends _ _ _ _ _ _ _ T35 (mkF m 153 #[.val (.int p0), .val (.int p1), .val (.long q2), .second, .val (.int p3), .val (.int p4), .val (.int ((p1 &&& (2147483647 : Int32)) % (3 : Int32))), .val (.ref wD), .val (.int (1 : Int32)), .val .null, .val (.ref b32), .val (.int (0 : Int32))] [(.int (1 : Int32))])
        refine own_retN X35 hx hlk (t := .boolean) hret (by simp) (hb hby at_153) e35 (by decide) (by decide) ?_
        exact ⟨rfl, N35⟩
  · refine own_go (fun t_ k_ => XS.ifYes X0.here hx rfl (pc0 := 10) (pc' := 21) rfl (hb hby at_10) rfl ((if0 _ _).trans (feq hc1).2) (by decide) (by decide) k_) ?_
    show own_Ends _ _ _ _ _ _ _ s₁ (mkF m 21 #[.val (.int p0), .val (.int p1), .val (.long q2), .second, .val (.int p3), .val (.int p4), .val (.int ((p1 &&& (2147483647 : Int32)) % (3 : Int32))), .unset, .unset, .unset, .unset, .unset] [])
    refine own_go (fun t_ k_ => XS.iload X0.here hx rfl (hb hby at_21) rfl  k_) ?_
    show own_Ends _ _ _ _ _ _ _ s₁ (mkF m 23 #[.val (.int p0), .val (.int p1), .val (.long q2), .second, .val (.int p3), .val (.int p4), .val (.int ((p1 &&& (2147483647 : Int32)) % (3 : Int32))), .unset, .unset, .unset, .unset, .unset] [(.int ((p1 &&& (2147483647 : Int32)) % (3 : Int32)))])
    refine own_go (fun t_ k_ => XS.iconst X0.here hx rfl (hb hby at_23) k_) ?_
    show own_Ends _ _ _ _ _ _ _ s₁ (mkF m 24 #[.val (.int p0), .val (.int p1), .val (.long q2), .second, .val (.int p3), .val (.int p4), .val (.int ((p1 &&& (2147483647 : Int32)) % (3 : Int32))), .unset, .unset, .unset, .unset, .unset] [(.int (1 : Int32)), (.int ((p1 &&& (2147483647 : Int32)) % (3 : Int32)))])
    by_cases hc36 : ((p1 &&& (2147483647 : Int32)) % (3 : Int32)) = (1 : Int32)
    · refine own_go (fun t_ k_ => XS.icmpNo X0.here hx rfl (hb hby at_24) rfl (teq hc36).2 k_) ?_
      show own_Ends _ _ _ _ _ _ _ s₁ (mkF m 27 #[.val (.int p0), .val (.int p1), .val (.long q2), .second, .val (.int p3), .val (.int p4), .val (.int ((p1 &&& (2147483647 : Int32)) % (3 : Int32))), .unset, .unset, .unset, .unset, .unset] [])
      obtain ⟨T37, X37, e37, st37⟩ := getS2 X0 hx hZ hown (host := "") (Or.inl (hw _ (List.mem_of_getElem? (i := 62) rfl))) Via.refl e0 SX (g := (mkF m 27 #[.val (.int p0), .val (.int p1), .val (.long q2), .second, .val (.int p3), .val (.int p4), .val (.int ((p1 &&& (2147483647 : Int32)) % (3 : Int32))), .unset, .unset, .unset, .unset, .unset] [])) rfl (hb hby at_27)
      refine own_go st37 ?_
      show own_Ends _ _ _ _ _ _ _ T37 (mkF m 30 #[.val (.int p0), .val (.int p1), .val (.long q2), .second, .val (.int p3), .val (.int p4), .val (.int ((p1 &&& (2147483647 : Int32)) % (3 : Int32))), .unset, .unset, .unset, .unset, .unset] [(.ref wX)])
      refine own_go (fun t_ k_ => XS.astore X37.here hx rfl (hb hby at_30) rfl rfl (l' := #[.val (.int p0), .val (.int p1), .val (.long q2), .second, .val (.int p3), .val (.int p4), .val (.int ((p1 &&& (2147483647 : Int32)) % (3 : Int32))), .val (.ref wX), .unset, .unset, .unset, .unset]) rfl k_) ?_
      show own_Ends _ _ _ _ _ _ _ T37 (mkF m 32 #[.val (.int p0), .val (.int p1), .val (.long q2), .second, .val (.int p3), .val (.int p4), .val (.int ((p1 &&& (2147483647 : Int32)) % (3 : Int32))), .val (.ref wX), .unset, .unset, .unset, .unset] [])
      refine own_go (fun t_ k_ => XS.goto X37.here hx rfl (pc0 := 32) (pc' := 40) rfl (hb hby at_32) (by decide) (by decide) k_) ?_
      show own_Ends _ _ _ _ _ _ _ T37 (mkF m 40 #[.val (.int p0), .val (.int p1), .val (.long q2), .second, .val (.int p3), .val (.int p4), .val (.int ((p1 &&& (2147483647 : Int32)) % (3 : Int32))), .val (.ref wX), .unset, .unset, .unset, .unset] [])
      refine own_go (fun t_ k_ => XS.iload X37.here hx rfl (hb hby at_40) rfl  k_) ?_
      show own_Ends _ _ _ _ _ _ _ T37 (mkF m 42 #[.val (.int p0), .val (.int p1), .val (.long q2), .second, .val (.int p3), .val (.int p4), .val (.int ((p1 &&& (2147483647 : Int32)) % (3 : Int32))), .val (.ref wX), .unset, .unset, .unset, .unset] [(.int p3)])
      refine own_go (fun t_ k_ => XS.iconst X37.here hx rfl (hb hby at_42) k_) ?_
      show own_Ends _ _ _ _ _ _ _ T37 (mkF m 43 #[.val (.int p0), .val (.int p1), .val (.long q2), .second, .val (.int p3), .val (.int p4), .val (.int ((p1 &&& (2147483647 : Int32)) % (3 : Int32))), .val (.ref wX), .unset, .unset, .unset, .unset] [(.int (1 : Int32)), (.int p3)])
      refine own_go (fun t_ k_ => XS.iand X37.here hx rfl (hb hby at_43) rfl k_) ?_
      show own_Ends _ _ _ _ _ _ _ T37 (mkF m 44 #[.val (.int p0), .val (.int p1), .val (.long q2), .second, .val (.int p3), .val (.int p4), .val (.int ((p1 &&& (2147483647 : Int32)) % (3 : Int32))), .val (.ref wX), .unset, .unset, .unset, .unset] [(.int (p3 &&& (1 : Int32)))])
      by_cases hc38 : (p3 &&& (1 : Int32)) = (0 : Int32)
      · refine own_go (fun t_ k_ => XS.ifYes X37.here hx rfl (pc0 := 44) (pc' := 51) rfl (hb hby at_44) rfl ((if0 _ _).trans (teq hc38).1) (by decide) (by decide) k_) ?_
        show own_Ends _ _ _ _ _ _ _ T37 (mkF m 51 #[.val (.int p0), .val (.int p1), .val (.long q2), .second, .val (.int p3), .val (.int p4), .val (.int ((p1 &&& (2147483647 : Int32)) % (3 : Int32))), .val (.ref wX), .unset, .unset, .unset, .unset] [])
        refine own_go (fun t_ k_ => XS.iconst X37.here hx rfl (hb hby at_51) k_) ?_
        show own_Ends _ _ _ _ _ _ _ T37 (mkF m 52 #[.val (.int p0), .val (.int p1), .val (.long q2), .second, .val (.int p3), .val (.int p4), .val (.int ((p1 &&& (2147483647 : Int32)) % (3 : Int32))), .val (.ref wX), .unset, .unset, .unset, .unset] [(.int (0 : Int32))])
        refine own_go (fun t_ k_ => XS.istore X37.here hx rfl (hb hby at_52) rfl (l' := #[.val (.int p0), .val (.int p1), .val (.long q2), .second, .val (.int p3), .val (.int p4), .val (.int ((p1 &&& (2147483647 : Int32)) % (3 : Int32))), .val (.ref wX), .val (.int (0 : Int32)), .unset, .unset, .unset]) rfl k_) ?_
        show own_Ends _ _ _ _ _ _ _ T37 (mkF m 54 #[.val (.int p0), .val (.int p1), .val (.long q2), .second, .val (.int p3), .val (.int p4), .val (.int ((p1 &&& (2147483647 : Int32)) % (3 : Int32))), .val (.ref wX), .val (.int (0 : Int32)), .unset, .unset, .unset] [])
        refine own_go (fun t_ k_ => XS.iload X37.here hx rfl (hb hby at_54) rfl  k_) ?_
        show own_Ends _ _ _ _ _ _ _ T37 (mkF m 56 #[.val (.int p0), .val (.int p1), .val (.long q2), .second, .val (.int p3), .val (.int p4), .val (.int ((p1 &&& (2147483647 : Int32)) % (3 : Int32))), .val (.ref wX), .val (.int (0 : Int32)), .unset, .unset, .unset] [(.int p3)])
        refine own_go (fun t_ k_ => XS.iconst X37.here hx rfl (hb hby at_56) k_) ?_
        show own_Ends _ _ _ _ _ _ _ T37 (mkF m 57 #[.val (.int p0), .val (.int p1), .val (.long q2), .second, .val (.int p3), .val (.int p4), .val (.int ((p1 &&& (2147483647 : Int32)) % (3 : Int32))), .val (.ref wX), .val (.int (0 : Int32)), .unset, .unset, .unset] [(.int (2 : Int32)), (.int p3)])
        refine own_go (fun t_ k_ => XS.iand X37.here hx rfl (hb hby at_57) rfl k_) ?_
        show own_Ends _ _ _ _ _ _ _ T37 (mkF m 58 #[.val (.int p0), .val (.int p1), .val (.long q2), .second, .val (.int p3), .val (.int p4), .val (.int ((p1 &&& (2147483647 : Int32)) % (3 : Int32))), .val (.ref wX), .val (.int (0 : Int32)), .unset, .unset, .unset] [(.int (p3 &&& (2 : Int32)))])
        by_cases hc39 : (p3 &&& (2 : Int32)) = (0 : Int32)
        · refine own_go (fun t_ k_ => XS.ifYes X37.here hx rfl (pc0 := 58) (pc' := 67) rfl (hb hby at_58) rfl ((if0 _ _).trans (teq hc39).1) (by decide) (by decide) k_) ?_
          show own_Ends _ _ _ _ _ _ _ T37 (mkF m 67 #[.val (.int p0), .val (.int p1), .val (.long q2), .second, .val (.int p3), .val (.int p4), .val (.int ((p1 &&& (2147483647 : Int32)) % (3 : Int32))), .val (.ref wX), .val (.int (0 : Int32)), .unset, .unset, .unset] [])
          refine own_go (fun t_ k_ => XS.iconst X37.here hx rfl (hb hby at_67) k_) ?_
          show own_Ends _ _ _ _ _ _ _ T37 (mkF m 68 #[.val (.int p0), .val (.int p1), .val (.long q2), .second, .val (.int p3), .val (.int p4), .val (.int ((p1 &&& (2147483647 : Int32)) % (3 : Int32))), .val (.ref wX), .val (.int (0 : Int32)), .unset, .unset, .unset] [(.int (1 : Int32))])
          obtain ⟨T40, h40, k40, X40, e40, E40, A40, st40⟩ := newP X37 hx hZ (hw _ (List.mem_of_getElem? (i := 4) rfl)) e37 (g := (mkF m 68 #[.val (.int p0), .val (.int p1), .val (.long q2), .second, .val (.int p3), .val (.int p4), .val (.int ((p1 &&& (2147483647 : Int32)) % (3 : Int32))), .val (.ref wX), .val (.int (0 : Int32)), .unset, .unset, .unset] [(.int (1 : Int32))])) rfl (hb hby at_68) rfl (by decide) (cap := 1) (by decide) (by decide) (by decide) (by decide)
          obtain ⟨b40, g40⟩ : ∃ z, z = h0.size := ⟨_, rfl⟩
          rw [← g40] at A40 st40
          refine own_go st40 ?_
          have V40 : Arv Z h40 b40 k40 .char (1 : Int32) [(.int (0 : Int32))] (.int (0 : Int32)) := (Arv.new A40 (by decide)).pad (pad_rep [] (.int (0 : Int32)) 1)
          have g_b40 : n0 ≤ b40 := Nat.le_trans Z0 (Nat.le_of_eq g40.symm)
          show own_Ends _ _ _ _ _ _ _ T40 (mkF m 70 #[.val (.int p0), .val (.int p1), .val (.long q2), .second, .val (.int p3), .val (.int p4), .val (.int ((p1 &&& (2147483647 : Int32)) % (3 : Int32))), .val (.ref wX), .val (.int (0 : Int32)), .unset, .unset, .unset] [(.ref b40)])
          refine own_go (fun t_ k_ => XS.astore X40.here hx rfl (hb hby at_70) rfl rfl (l' := #[.val (.int p0), .val (.int p1), .val (.long q2), .second, .val (.int p3), .val (.int p4), .val (.int ((p1 &&& (2147483647 : Int32)) % (3 : Int32))), .val (.ref wX), .val (.int (0 : Int32)), .unset, .val (.ref b40), .unset]) rfl k_) ?_
          show own_Ends _ _ _ _ _ _ _ T40 (mkF m 72 #[.val (.int p0), .val (.int p1), .val (.long q2), .second, .val (.int p3), .val (.int p4), .val (.int ((p1 &&& (2147483647 : Int32)) % (3 : Int32))), .val (.ref wX), .val (.int (0 : Int32)), .unset, .val (.ref b40), .unset] [])
          refine own_go (fun t_ k_ => XS.aload X40.here hx rfl (hb hby at_72) rfl rfl  k_) ?_
          show own_Ends _ _ _ _ _ _ _ T40 (mkF m 74 #[.val (.int p0), .val (.int p1), .val (.long q2), .second, .val (.int p3), .val (.int p4), .val (.int ((p1 &&& (2147483647 : Int32)) % (3 : Int32))), .val (.ref wX), .val (.int (0 : Int32)), .unset, .val (.ref b40), .unset] [(.ref b40)])
          refine own_go (fun t_ k_ => XS.iconst X40.here hx rfl (hb hby at_74) k_) ?_
          show own_Ends _ _ _ _ _ _ _ T40 (mkF m 75 #[.val (.int p0), .val (.int p1), .val (.long q2), .second, .val (.int p3), .val (.int p4), .val (.int ((p1 &&& (2147483647 : Int32)) % (3 : Int32))), .val (.ref wX), .val (.int (0 : Int32)), .unset, .val (.ref b40), .unset] [(.int (0 : Int32)), (.ref b40)])
          refine own_go (fun t_ k_ => XS.iload X40.here hx rfl (hb hby at_75) rfl  k_) ?_
          show own_Ends _ _ _ _ _ _ _ T40 (mkF m 77 #[.val (.int p0), .val (.int p1), .val (.long q2), .second, .val (.int p3), .val (.int p4), .val (.int ((p1 &&& (2147483647 : Int32)) % (3 : Int32))), .val (.ref wX), .val (.int (0 : Int32)), .unset, .val (.ref b40), .unset] [(.int p4), (.int (0 : Int32)), (.ref b40)])
          refine own_go (fun t_ k_ => XS.sipush X40.here hx rfl (hb hby at_77) k_) ?_
          show own_Ends _ _ _ _ _ _ _ T40 (mkF m 80 #[.val (.int p0), .val (.int p1), .val (.long q2), .second, .val (.int p3), .val (.int p4), .val (.int ((p1 &&& (2147483647 : Int32)) % (3 : Int32))), .val (.ref wX), .val (.int (0 : Int32)), .unset, .val (.ref b40), .unset] [(.int (255 : Int32)), (.int p4), (.int (0 : Int32)), (.ref b40)])
          refine own_go (fun t_ k_ => XS.iand X40.here hx rfl (hb hby at_80) rfl k_) ?_
          show own_Ends _ _ _ _ _ _ _ T40 (mkF m 81 #[.val (.int p0), .val (.int p1), .val (.long q2), .second, .val (.int p3), .val (.int p4), .val (.int ((p1 &&& (2147483647 : Int32)) % (3 : Int32))), .val (.ref wX), .val (.int (0 : Int32)), .unset, .val (.ref b40), .unset] [(.int (p4 &&& (255 : Int32))), (.int (0 : Int32)), (.ref b40)])
          refine own_go (fun t_ k_ => XT.i2c X40.here hx rfl (hb hby at_81) rfl k_) ?_
          show own_Ends _ _ _ _ _ _ _ T40 (mkF m 82 #[.val (.int p0), .val (.int p1), .val (.long q2), .second, .val (.int p3), .val (.int p4), .val (.int ((p1 &&& (2147483647 : Int32)) % (3 : Int32))), .val (.ref wX), .val (.int (0 : Int32)), .unset, .val (.ref b40), .unset] [(.int ((p4 &&& (255 : Int32)).toUInt32.toUInt16.toUInt32.toInt32)), (.int (0 : Int32)), (.ref b40)])
          obtain ⟨cl42, Ar42, q42, S42, Ng42, Hs42, G42⟩ := (id V40)
          obtain ⟨T43, h43, X43, e43, W43, st43⟩ := stC X40 hx hZ e40 Ar42 (j := (0 : Int32)) (inb_of S42 ⟨by decide, by decide⟩) (g := (mkF m 82 #[.val (.int p0), .val (.int p1), .val (.long q2), .second, .val (.int p3), .val (.int p4), .val (.int ((p1 &&& (2147483647 : Int32)) % (3 : Int32))), .val (.ref wX), .val (.int (0 : Int32)), .unset, .val (.ref b40), .unset] [(.int ((p4 &&& (255 : Int32)).toUInt32.toUInt16.toUInt32.toInt32)), (.int (0 : Int32)), (.ref b40)])) rfl rfl (hb hby at_82)
          refine own_go st43 ?_
          have V43 : Arv Z h43 b40 k40 .char (1 : Int32) [(.int (nar .char ((p4 &&& (255 : Int32)).toUInt32.toUInt16.toUInt32.toInt32)))] (.int (0 : Int32)) := Arv.set Ar42 q42 S42 Ng42 Hs42 G42 (fits_nar_char _) W43 0 rfl (Nat.le_of_ble_eq_true rfl)
          have N43 := Fr.snoc X43 N0 g_b40
          show own_Ends _ _ _ _ _ _ _ T43 (mkF m 83 #[.val (.int p0), .val (.int p1), .val (.long q2), .second, .val (.int p3), .val (.int p4), .val (.int ((p1 &&& (2147483647 : Int32)) % (3 : Int32))), .val (.ref wX), .val (.int (0 : Int32)), .unset, .val (.ref b40), .unset] [])
          obtain ⟨T44, h44, X44, e44, E44, A44, D44, -, st44⟩ := newO X43 hx hZ hown (hw _ (List.mem_of_getElem? (i := 5) rfl)) (hw _ (List.mem_of_getElem? (i := 6) rfl)) (hw _ (List.mem_of_getElem? (i := 7) rfl)) e43 (g := (mkF m 83 #[.val (.int p0), .val (.int p1), .val (.long q2), .second, .val (.int p3), .val (.int p4), .val (.int ((p1 &&& (2147483647 : Int32)) % (3 : Int32))), .val (.ref wX), .val (.int (0 : Int32)), .unset, .val (.ref b40), .unset] [])) rfl (hb hby at_83) (by decide) (by decide)
          obtain ⟨b44, g44⟩ : ∃ z, z = h43.size := ⟨_, rfl⟩
          rw [← g44] at A44 D44 st44
          refine own_go st44 ?_
          have g_b44 : n0 ≤ b44 := Nat.le_trans (Nat.le_trans (Nat.le_trans Z0 E40.1) (Keep.of_wr W43).1) (Nat.le_of_eq g44.symm)
          have F44_coder : Fld Z h44 b44 "java/lang/String" "coder" "B" (.int (0 : Int32)) := D44 (Or.inr (hw _ (List.mem_of_getElem? (i := 31) rfl))) (ty := .byte) (by decide)
          have F44_value : Fld Z h44 b44 "java/lang/String" "value" "[B" .null := D44 (Or.inr (hw _ (List.mem_of_getElem? (i := 33) rfl))) (ty := (.array .byte)) (by decide)
          show own_Ends _ _ _ _ _ _ _ T44 (mkF m 86 #[.val (.int p0), .val (.int p1), .val (.long q2), .second, .val (.int p3), .val (.int p4), .val (.int ((p1 &&& (2147483647 : Int32)) % (3 : Int32))), .val (.ref wX), .val (.int (0 : Int32)), .unset, .val (.ref b40), .unset] [(.ref b44)])
          refine own_go (fun t_ k_ => XS.dup X44.here hx rfl (hb hby at_86) rfl rfl k_) ?_
          show own_Ends _ _ _ _ _ _ _ T44 (mkF m 87 #[.val (.int p0), .val (.int p1), .val (.long q2), .second, .val (.int p3), .val (.int p4), .val (.int ((p1 &&& (2147483647 : Int32)) % (3 : Int32))), .val (.ref wX), .val (.int (0 : Int32)), .unset, .val (.ref b40), .unset] [(.ref b44), (.ref b44)])
          refine own_go (fun t_ k_ => XS.aload X44.here hx rfl (hb hby at_87) rfl rfl  k_) ?_
          show own_Ends _ _ _ _ _ _ _ T44 (mkF m 89 #[.val (.int p0), .val (.int p1), .val (.long q2), .second, .val (.int p3), .val (.int p4), .val (.int ((p1 &&& (2147483647 : Int32)) % (3 : Int32))), .val (.ref wX), .val (.int (0 : Int32)), .unset, .val (.ref b40), .unset] [(.ref b40), (.ref b44), (.ref b44)])
          have hlat : ∀ c ∈ [(nar .char ((p4 &&& (255 : Int32)).toUInt32.toUInt16.toUInt32.toInt32))], ¬ c < 0 ∧ ¬ (255 : Int32) < c := own_lat1 _
          have Nsk45 : ∀ x ∈ ([b44] : List Addr), ∀ cell : Cell, h44[x]? = some cell → cell.vm.isStatics = false := (nsS (Exa.nostat A44) ns0)
          obtain ⟨T46, v46, L46, X46, hQ46, st46⟩ := own_callNB X44 hx hZ (y := (⟨"java/lang/String", "<init>", "([C)V"⟩ : MethodName)) (rc := 1) (rs := 1) rfl hown (hw _ (List.mem_of_getElem? (i := 8) rfl)) (hw _ (List.mem_of_getElem? (i := 9) rfl)) (hw _ (List.mem_of_getElem? (i := 10) rfl)) (by decide) (StrChars.Road.backV (W := 1) hZ (fun d hd => hw d (own_sub d hd)) (kI := 4) (hw _ (List.mem_of_getElem? (i := 6) rfl)) (cs := [(nar .char ((p4 &&& (255 : Int32)).toUInt32.toUInt16.toUInt32.toInt32))]) (bs := [((nar .char ((p4 &&& (255 : Int32)).toUInt32.toUInt16.toUInt32.toInt32))).toInt8.toInt32]) (n := 1) g_b44 (Nat.le_trans (Nat.le_trans (Nat.le_trans Z0 E40.1) (Keep.of_wr W43).1) E44.1) A44 F44_value F44_coder (V43.ext E44) (((SC.ext E40).wr W43).ext E44) hzc rfl rfl (by decide) (by decide) hlat rfl (by decide) (by decide)) e44 (g := (mkF m 89 #[.val (.int p0), .val (.int p1), .val (.long q2), .second, .val (.int p3), .val (.int p4), .val (.int ((p1 &&& (2147483647 : Int32)) % (3 : Int32))), .val (.ref wX), .val (.int (0 : Int32)), .unset, .val (.ref b40), .unset] [(.ref b40), (.ref b44), (.ref b44)])) rfl (by rw [hml]; rfl) b44 [(.ref b40)] [(.ref b44)] rfl (lenOf pd___C_V rfl) rfl (by show 2 * 0 + _ ≤ _; exact Nat.le_of_eq rfl) (hb hby at_89) (by decide) (by decide)
          obtain ⟨rfl, N46q, Kq46, Eq46, Cq46, t46, kb46, -, -, -, -, -⟩ := hQ46
          refine own_go st46 ?_
          have N46 := Fr.app N43 N46q
          show own_Ends _ _ _ _ _ _ _ T46 (mkF m 92 #[.val (.int p0), .val (.int p1), .val (.long q2), .second, .val (.int p3), .val (.int p4), .val (.int ((p1 &&& (2147483647 : Int32)) % (3 : Int32))), .val (.ref wX), .val (.int (0 : Int32)), .unset, .val (.ref b40), .unset] [(.ref b44)])
          refine own_go (fun t_ k_ => XS.astore X46.here hx rfl (hb hby at_92) rfl rfl (l' := #[.val (.int p0), .val (.int p1), .val (.long q2), .second, .val (.int p3), .val (.int p4), .val (.int ((p1 &&& (2147483647 : Int32)) % (3 : Int32))), .val (.ref wX), .val (.int (0 : Int32)), .val (.ref b44), .val (.ref b40), .unset]) rfl k_) ?_
          show own_Ends _ _ _ _ _ _ _ T46 (mkF m 94 #[.val (.int p0), .val (.int p1), .val (.long q2), .second, .val (.int p3), .val (.int p4), .val (.int ((p1 &&& (2147483647 : Int32)) % (3 : Int32))), .val (.ref wX), .val (.int (0 : Int32)), .val (.ref b44), .val (.ref b40), .unset] [])
          obtain ⟨T47, h47, X47, e47, E47, A47, D47, -, st47⟩ := newO X46 hx hZ hown (hw _ (List.mem_of_getElem? (i := 34) rfl)) (hw _ (List.mem_of_getElem? (i := 35) rfl)) (hw _ (List.mem_of_getElem? (i := 36) rfl)) rfl (g := (mkF m 94 #[.val (.int p0), .val (.int p1), .val (.long q2), .second, .val (.int p3), .val (.int p4), .val (.int ((p1 &&& (2147483647 : Int32)) % (3 : Int32))), .val (.ref wX), .val (.int (0 : Int32)), .val (.ref b44), .val (.ref b40), .unset] [])) rfl (hb hby at_94) (by decide) (by decide)
          obtain ⟨b47, g47⟩ : ∃ z, z = T46.heap.size := ⟨_, rfl⟩
          rw [← g47] at A47 D47 st47
          refine own_go st47 ?_
          have g_b47 : n0 ≤ b47 := Nat.le_trans (Nat.le_trans (Nat.le_trans (Nat.le_trans (Nat.le_trans Z0 E40.1) (Keep.of_wr W43).1) E44.1) Kq46.1) (Nat.le_of_eq g47.symm)
          have F47_from : Fld Z h47 b47 "com/example/quayside/quayside/RedeliverySchedule$Step" "from" "I" (.int (0 : Int32)) := D47 (Or.inr (hw _ (List.mem_of_getElem? (i := 47) rfl))) (ty := .int) (by decide)
          have F47_action : Fld Z h47 b47 "com/example/quayside/quayside/RedeliverySchedule$Step" "action" "Lcom/example/quayside/quayside/RedeliverySchedule$Action;" .null := D47 (Or.inr (hw _ (List.mem_of_getElem? (i := 49) rfl))) (ty := (.object "com/example/quayside/quayside/RedeliverySchedule$Action")) (by decide)
          have F47_delayMs : Fld Z h47 b47 "com/example/quayside/quayside/RedeliverySchedule$Step" "delayMs" "J" (.long (0 : Int64)) := D47 (Or.inr (hw _ (List.mem_of_getElem? (i := 51) rfl))) (ty := .long) (by decide)
          have F47_topic : Fld Z h47 b47 "com/example/quayside/quayside/RedeliverySchedule$Step" "topic" "Z" (.int (0 : Int32)) := D47 (Or.inr (hw _ (List.mem_of_getElem? (i := 53) rfl))) (ty := .boolean) (by decide)
          have F47_destination : Fld Z h47 b47 "com/example/quayside/quayside/RedeliverySchedule$Step" "destination" "Ljava/lang/String;" .null := D47 (Or.inr (hw _ (List.mem_of_getElem? (i := 55) rfl))) (ty := (.object "java/lang/String")) (by decide)
          show own_Ends _ _ _ _ _ _ _ T47 (mkF m 97 #[.val (.int p0), .val (.int p1), .val (.long q2), .second, .val (.int p3), .val (.int p4), .val (.int ((p1 &&& (2147483647 : Int32)) % (3 : Int32))), .val (.ref wX), .val (.int (0 : Int32)), .val (.ref b44), .val (.ref b40), .unset] [(.ref b47)])
          refine own_go (fun t_ k_ => XS.dup X47.here hx rfl (hb hby at_97) rfl rfl k_) ?_
          show own_Ends _ _ _ _ _ _ _ T47 (mkF m 98 #[.val (.int p0), .val (.int p1), .val (.long q2), .second, .val (.int p3), .val (.int p4), .val (.int ((p1 &&& (2147483647 : Int32)) % (3 : Int32))), .val (.ref wX), .val (.int (0 : Int32)), .val (.ref b44), .val (.ref b40), .unset] [(.ref b47), (.ref b47)])
          refine own_go (fun t_ k_ => XS.iloadN X47.here hx rfl (hb hby at_98) rfl  k_) ?_
          show own_Ends _ _ _ _ _ _ _ T47 (mkF m 99 #[.val (.int p0), .val (.int p1), .val (.long q2), .second, .val (.int p3), .val (.int p4), .val (.int ((p1 &&& (2147483647 : Int32)) % (3 : Int32))), .val (.ref wX), .val (.int (0 : Int32)), .val (.ref b44), .val (.ref b40), .unset] [(.int p0), (.ref b47), (.ref b47)])
          refine own_go (fun t_ k_ => XS.aload X47.here hx rfl (hb hby at_99) rfl rfl  k_) ?_
          show own_Ends _ _ _ _ _ _ _ T47 (mkF m 101 #[.val (.int p0), .val (.int p1), .val (.long q2), .second, .val (.int p3), .val (.int p4), .val (.int ((p1 &&& (2147483647 : Int32)) % (3 : Int32))), .val (.ref wX), .val (.int (0 : Int32)), .val (.ref b44), .val (.ref b40), .unset] [(.ref wX), (.int p0), (.ref b47), (.ref b47)])
          refine own_go (fun t_ k_ => XT.lloadN X47.here hx rfl (hb hby at_101) rfl k_) ?_
          show own_Ends _ _ _ _ _ _ _ T47 (mkF m 102 #[.val (.int p0), .val (.int p1), .val (.long q2), .second, .val (.int p3), .val (.int p4), .val (.int ((p1 &&& (2147483647 : Int32)) % (3 : Int32))), .val (.ref wX), .val (.int (0 : Int32)), .val (.ref b44), .val (.ref b40), .unset] [(.long q2), (.ref wX), (.int p0), (.ref b47), (.ref b47)])
          refine own_go (fun t_ k_ => XS.iload X47.here hx rfl (hb hby at_102) rfl  k_) ?_
          show own_Ends _ _ _ _ _ _ _ T47 (mkF m 104 #[.val (.int p0), .val (.int p1), .val (.long q2), .second, .val (.int p3), .val (.int p4), .val (.int ((p1 &&& (2147483647 : Int32)) % (3 : Int32))), .val (.ref wX), .val (.int (0 : Int32)), .val (.ref b44), .val (.ref b40), .unset] [(.int (0 : Int32)), (.long q2), (.ref wX), (.int p0), (.ref b47), (.ref b47)])
          refine own_go (fun t_ k_ => XS.aload X47.here hx rfl (hb hby at_104) rfl rfl  k_) ?_
          show own_Ends _ _ _ _ _ _ _ T47 (mkF m 106 #[.val (.int p0), .val (.int p1), .val (.long q2), .second, .val (.int p3), .val (.int p4), .val (.int ((p1 &&& (2147483647 : Int32)) % (3 : Int32))), .val (.ref wX), .val (.int (0 : Int32)), .val (.ref b44), .val (.ref b40), .unset] [(.ref b44), (.int (0 : Int32)), (.long q2), (.ref wX), (.int p0), (.ref b47), (.ref b47)])
          have Nsk48 : ∀ x ∈ ([b47] : List Addr), ∀ cell : Cell, h47[x]? = some cell → cell.vm.isStatics = false := (nsS (Exa.nostat A47) ns0)
          obtain ⟨T49, v49, L49, X49, hQ49, st49⟩ := own_callN X47 hx hZ (y := (⟨"com/example/quayside/quayside/RedeliverySchedule$Step", "<init>", "(ILcom/example/quayside/quayside/RedeliverySchedule$Action;JZLjava/lang/String;)V"⟩ : MethodName)) rfl hown (hw _ (List.mem_of_getElem? (i := 37) rfl)) (hw _ (List.mem_of_getElem? (i := 38) rfl)) (hw _ (List.mem_of_getElem? (i := 36) rfl)) (hw _ (List.mem_of_getElem? (i := 39) rfl)) (by decide) (rm7 l Z a0 hw [] b47 p0 wX q2 (0 : Int32) (.ref b44) h47 n0 (Nat.le_trans (Nat.le_trans (Nat.le_trans (Nat.le_trans (Nat.le_trans Z0 E40.1) (Keep.of_wr W43).1) E44.1) Kq46.1) E47.1) rfl A47 F47_from F47_action F47_delayMs F47_topic F47_destination g_b47) e47 (g := (mkF m 106 #[.val (.int p0), .val (.int p1), .val (.long q2), .second, .val (.int p3), .val (.int p4), .val (.int ((p1 &&& (2147483647 : Int32)) % (3 : Int32))), .val (.ref wX), .val (.int (0 : Int32)), .val (.ref b44), .val (.ref b40), .unset] [(.ref b44), (.int (0 : Int32)), (.long q2), (.ref wX), (.int p0), (.ref b47), (.ref b47)])) rfl (by rw [hml]; rfl) b47 [(.int p0), (.ref wX), (.long q2), (.int (0 : Int32)), (.ref b44)] [(.ref b47)] rfl (lenOf pd__ILcom_example_quayside_quayside_RedeliverySchedule_Action_JZLjava_lang_String__V rfl) rfl 1 (by show 2 * 0 + _ ≤ _; exact Nat.le_of_eq rfl) (hb hby at_106) (by decide) (by decide) (by decide) (by decide)
          obtain ⟨rfl, N49q, Kq49, Eq49, Fq49⟩ := hQ49
          refine own_go st49 ?_
          have N49 := Fr.app N46 N49q
          show own_Ends _ _ _ _ _ _ _ T49 (mkF m 109 #[.val (.int p0), .val (.int p1), .val (.long q2), .second, .val (.int p3), .val (.int p4), .val (.int ((p1 &&& (2147483647 : Int32)) % (3 : Int32))), .val (.ref wX), .val (.int (0 : Int32)), .val (.ref b44), .val (.ref b40), .unset] [(.ref b47)])
          refine own_go (fun t_ k_ => XS.astore X49.here hx rfl (hb hby at_109) rfl rfl (l' := #[.val (.int p0), .val (.int p1), .val (.long q2), .second, .val (.int p3), .val (.int p4), .val (.int ((p1 &&& (2147483647 : Int32)) % (3 : Int32))), .val (.ref wX), .val (.int (0 : Int32)), .val (.ref b44), .val (.ref b47), .unset]) rfl k_) ?_
          show own_Ends _ _ _ _ _ _ _ T49 (mkF m 111 #[.val (.int p0), .val (.int p1), .val (.long q2), .second, .val (.int p3), .val (.int p4), .val (.int ((p1 &&& (2147483647 : Int32)) % (3 : Int32))), .val (.ref wX), .val (.int (0 : Int32)), .val (.ref b44), .val (.ref b47), .unset] [])
          refine own_go (fun t_ k_ => XS.iload X49.here hx rfl (hb hby at_111) rfl  k_) ?_
          show own_Ends _ _ _ _ _ _ _ T49 (mkF m 113 #[.val (.int p0), .val (.int p1), .val (.long q2), .second, .val (.int p3), .val (.int p4), .val (.int ((p1 &&& (2147483647 : Int32)) % (3 : Int32))), .val (.ref wX), .val (.int (0 : Int32)), .val (.ref b44), .val (.ref b47), .unset] [(.int ((p1 &&& (2147483647 : Int32)) % (3 : Int32)))])
          refine own_go (fun t_ k_ => XS.iconst X49.here hx rfl (hb hby at_113) k_) ?_
          show own_Ends _ _ _ _ _ _ _ T49 (mkF m 114 #[.val (.int p0), .val (.int p1), .val (.long q2), .second, .val (.int p3), .val (.int p4), .val (.int ((p1 &&& (2147483647 : Int32)) % (3 : Int32))), .val (.ref wX), .val (.int (0 : Int32)), .val (.ref b44), .val (.ref b47), .unset] [(.int (1 : Int32)), (.int ((p1 &&& (2147483647 : Int32)) % (3 : Int32)))])
          refine own_go (fun t_ k_ => XS.icmpNo X49.here hx rfl (hb hby at_114) rfl (teq hc36).2 k_) ?_
          show own_Ends _ _ _ _ _ _ _ T49 (mkF m 117 #[.val (.int p0), .val (.int p1), .val (.long q2), .second, .val (.int p3), .val (.int p4), .val (.int ((p1 &&& (2147483647 : Int32)) % (3 : Int32))), .val (.ref wX), .val (.int (0 : Int32)), .val (.ref b44), .val (.ref b47), .unset] [])
          refine own_go (fun t_ k_ => XS.iconst X49.here hx rfl (hb hby at_117) k_) ?_
          show own_Ends _ _ _ _ _ _ _ T49 (mkF m 118 #[.val (.int p0), .val (.int p1), .val (.long q2), .second, .val (.int p3), .val (.int p4), .val (.int ((p1 &&& (2147483647 : Int32)) % (3 : Int32))), .val (.ref wX), .val (.int (0 : Int32)), .val (.ref b44), .val (.ref b47), .unset] [(.int (1 : Int32))])
          refine own_go (fun t_ k_ => XS.istore X49.here hx rfl (hb hby at_118) rfl (l' := #[.val (.int p0), .val (.int p1), .val (.long q2), .second, .val (.int p3), .val (.int p4), .val (.int ((p1 &&& (2147483647 : Int32)) % (3 : Int32))), .val (.ref wX), .val (.int (0 : Int32)), .val (.ref b44), .val (.ref b47), .val (.int (1 : Int32))]) rfl k_) ?_
          show own_Ends _ _ _ _ _ _ _ T49 (mkF m 120 #[.val (.int p0), .val (.int p1), .val (.long q2), .second, .val (.int p3), .val (.int p4), .val (.int ((p1 &&& (2147483647 : Int32)) % (3 : Int32))), .val (.ref wX), .val (.int (0 : Int32)), .val (.ref b44), .val (.ref b47), .val (.int (1 : Int32))] [])
          refine own_go (fun t_ k_ => XS.goto X49.here hx rfl (pc0 := 120) (pc' := 138) rfl (hb hby at_120) (by decide) (by decide) k_) ?_
          show own_Ends _ _ _ _ _ _ _ T49 (mkF m 138 #[.val (.int p0), .val (.int p1), .val (.long q2), .second, .val (.int p3), .val (.int p4), .val (.int ((p1 &&& (2147483647 : Int32)) % (3 : Int32))), .val (.ref wX), .val (.int (0 : Int32)), .val (.ref b44), .val (.ref b47), .val (.int (1 : Int32))] [])
          refine own_go (fun t_ k_ => XS.aload X49.here hx rfl (hb hby at_138) rfl rfl  k_) ?_
          show own_Ends _ _ _ _ _ _ _ T49 (mkF m 140 #[.val (.int p0), .val (.int p1), .val (.long q2), .second, .val (.int p3), .val (.int p4), .val (.int ((p1 &&& (2147483647 : Int32)) % (3 : Int32))), .val (.ref wX), .val (.int (0 : Int32)), .val (.ref b44), .val (.ref b47), .val (.int (1 : Int32))] [(.ref b47)])
          obtain ⟨T50, v50, L50, X50, hQ50, st50⟩ := own_callV X49 hx hZ (y := (⟨"com/example/quayside/quayside/RedeliverySchedule$Step", "removes", "()Z"⟩ : MethodName)) (z := (⟨"com/example/quayside/quayside/RedeliverySchedule$Step", "removes", "()Z"⟩ : MethodName)) hown (hw _ (List.mem_of_getElem? (i := 56) rfl)) (hw _ (List.mem_of_getElem? (i := 57) rfl)) (notFace_of_selects (args := #[]) (mvT hZ (hw _ (List.mem_of_getElem? (i := 59) rfl)))) (hw _ (List.mem_of_getElem? (i := 59) rfl)) (hw _ (List.mem_of_getElem? (i := 58) rfl)) (hw _ (List.mem_of_getElem? (i := 36) rfl)) (hw _ (List.mem_of_getElem? (i := 60) rfl)) (by decide) (rm9 l Z a0 hw [] b47 wX wD T49.heap n0 (Nat.le_trans (Nat.le_trans (Nat.le_trans (Nat.le_trans (Nat.le_trans (Nat.le_trans Z0 E40.1) (Keep.of_wr W43).1) E44.1) Kq46.1) E47.1) Kq49.1) Fq49 (own_staK ((own_staK (((SD.ext E40).wr W43).ext E44) Kq46 Nsk45).ext E47) Kq49 Nsk48)) rfl (g := (mkF m 140 #[.val (.int p0), .val (.int p1), .val (.long q2), .second, .val (.int p3), .val (.int p4), .val (.int ((p1 &&& (2147483647 : Int32)) % (3 : Int32))), .val (.ref wX), .val (.int (0 : Int32)), .val (.ref b44), .val (.ref b47), .val (.int (1 : Int32))] [(.ref b47)])) rfl (by rw [hml]; rfl) b47 (A47.keep Kq49) [] [] rfl (lenOf pd___Z rfl) rfl 0 (by show 2 * 0 + _ ≤ _; exact Nat.le_of_eq rfl) (hb hby at_140) (by decide) (by decide) (by decide) (by decide)
          obtain ⟨hv50, N50q, e50⟩ := hQ50
          rw [if_neg hXD] at hv50
          subst hv50
          refine own_go st50 ?_
          have N50 := Fr.app N49 N50q
          show own_Ends _ _ _ _ _ _ _ T50 (mkF m 143 #[.val (.int p0), .val (.int p1), .val (.long q2), .second, .val (.int p3), .val (.int p4), .val (.int ((p1 &&& (2147483647 : Int32)) % (3 : Int32))), .val (.ref wX), .val (.int (0 : Int32)), .val (.ref b44), .val (.ref b47), .val (.int (1 : Int32))] [(.int (1 : Int32))])
          refine own_go (fun t_ k_ => XS.iload X50.here hx rfl (hb hby at_143) rfl  k_) ?_
          show own_Ends _ _ _ _ _ _ _ T50 (mkF m 145 #[.val (.int p0), .val (.int p1), .val (.long q2), .second, .val (.int p3), .val (.int p4), .val (.int ((p1 &&& (2147483647 : Int32)) % (3 : Int32))), .val (.ref wX), .val (.int (0 : Int32)), .val (.ref b44), .val (.ref b47), .val (.int (1 : Int32))] [(.int (1 : Int32)), (.int (1 : Int32))])
          refine own_go (fun t_ k_ => XS.icmpNo X50.here hx rfl (hb hby at_145) rfl (teq (by decide : (1 : Int32) = (1 : Int32))).2 k_) ?_
          show own_Ends _ _ _ _ _ _ _ T50 (mkF m 148 #[.val (.int p0), .val (.int p1), .val (.long q2), .second, .val (.int p3), .val (.int p4), .val (.int ((p1 &&& (2147483647 : Int32)) % (3 : Int32))), .val (.ref wX), .val (.int (0 : Int32)), .val (.ref b44), .val (.ref b47), .val (.int (1 : Int32))] [])
          refine own_go (fun t_ k_ => XS.iconst X50.here hx rfl (hb hby at_148) k_) ?_
          show own_Ends _ _ _ _ _ _ _ T50 (mkF m 149 #[.val (.int p0), .val (.int p1), .val (.long q2), .second, .val (.int p3), .val (.int p4), .val (.int ((p1 &&& (2147483647 : Int32)) % (3 : Int32))), .val (.ref wX), .val (.int (0 : Int32)), .val (.ref b44), .val (.ref b47), .val (.int (1 : Int32))] [(.int (1 : Int32))])
          refine own_go (fun t_ k_ => XS.goto X50.here hx rfl (pc0 := 149) (pc' := 153) rfl (hb hby at_149) (by decide) (by decide) k_) ?_
          show own_Ends _ _ _ _ _ _ _ T50 (mkF m 153 #[.val (.int p0), .val (.int p1), .val (.long q2), .second, .val (.int p3), .val (.int p4), .val (.int ((p1 &&& (2147483647 : Int32)) % (3 : Int32))), .val (.ref wX), .val (.int (0 : Int32)), .val (.ref b44), .val (.ref b47), .val (.int (1 : Int32))] [(.int (1 : Int32))])
          refine own_retN X50 hx hlk (t := .boolean) hret (by simp) (hb hby at_153) e50 (by decide) (by decide) ?_
          exact ⟨rfl, N50⟩
        · refine own_go (fun t_ k_ => XS.ifNo X37.here hx rfl (hb hby at_58) rfl ((if0 _ _).trans (feq hc39).1) k_) ?_
          show own_Ends _ _ _ _ _ _ _ T37 (mkF m 61 #[.val (.int p0), .val (.int p1), .val (.long q2), .second, .val (.int p3), .val (.int p4), .val (.int ((p1 &&& (2147483647 : Int32)) % (3 : Int32))), .val (.ref wX), .val (.int (0 : Int32)), .unset, .unset, .unset] [])
          refine own_go (fun t_ k_ => XS.aconstNull X37.here hx rfl (hb hby at_61) k_) ?_
          show own_Ends _ _ _ _ _ _ _ T37 (mkF m 62 #[.val (.int p0), .val (.int p1), .val (.long q2), .second, .val (.int p3), .val (.int p4), .val (.int ((p1 &&& (2147483647 : Int32)) % (3 : Int32))), .val (.ref wX), .val (.int (0 : Int32)), .unset, .unset, .unset] [.null])
          refine own_go (fun t_ k_ => XS.astore X37.here hx rfl (hb hby at_62) rfl rfl (l' := #[.val (.int p0), .val (.int p1), .val (.long q2), .second, .val (.int p3), .val (.int p4), .val (.int ((p1 &&& (2147483647 : Int32)) % (3 : Int32))), .val (.ref wX), .val (.int (0 : Int32)), .val .null, .unset, .unset]) rfl k_) ?_
          show own_Ends _ _ _ _ _ _ _ T37 (mkF m 64 #[.val (.int p0), .val (.int p1), .val (.long q2), .second, .val (.int p3), .val (.int p4), .val (.int ((p1 &&& (2147483647 : Int32)) % (3 : Int32))), .val (.ref wX), .val (.int (0 : Int32)), .val .null, .unset, .unset] [])
          refine own_go (fun t_ k_ => XS.goto X37.here hx rfl (pc0 := 64) (pc' := 94) rfl (hb hby at_64) (by decide) (by decide) k_) ?_
          show own_Ends _ _ _ _ _ _ _ T37 (mkF m 94 #[.val (.int p0), .val (.int p1), .val (.long q2), .second, .val (.int p3), .val (.int p4), .val (.int ((p1 &&& (2147483647 : Int32)) % (3 : Int32))), .val (.ref wX), .val (.int (0 : Int32)), .val .null, .unset, .unset] [])
          obtain ⟨T51, h51, X51, e51, E51, A51, D51, -, st51⟩ := newO X37 hx hZ hown (hw _ (List.mem_of_getElem? (i := 34) rfl)) (hw _ (List.mem_of_getElem? (i := 35) rfl)) (hw _ (List.mem_of_getElem? (i := 36) rfl)) e37 (g := (mkF m 94 #[.val (.int p0), .val (.int p1), .val (.long q2), .second, .val (.int p3), .val (.int p4), .val (.int ((p1 &&& (2147483647 : Int32)) % (3 : Int32))), .val (.ref wX), .val (.int (0 : Int32)), .val .null, .unset, .unset] [])) rfl (hb hby at_94) (by decide) (by decide)
          obtain ⟨b51, g51⟩ : ∃ z, z = h0.size := ⟨_, rfl⟩
          rw [← g51] at A51 D51 st51
          refine own_go st51 ?_
          have g_b51 : n0 ≤ b51 := Nat.le_trans Z0 (Nat.le_of_eq g51.symm)
          have F51_from : Fld Z h51 b51 "com/example/quayside/quayside/RedeliverySchedule$Step" "from" "I" (.int (0 : Int32)) := D51 (Or.inr (hw _ (List.mem_of_getElem? (i := 47) rfl))) (ty := .int) (by decide)
          have F51_action : Fld Z h51 b51 "com/example/quayside/quayside/RedeliverySchedule$Step" "action" "Lcom/example/quayside/quayside/RedeliverySchedule$Action;" .null := D51 (Or.inr (hw _ (List.mem_of_getElem? (i := 49) rfl))) (ty := (.object "com/example/quayside/quayside/RedeliverySchedule$Action")) (by decide)
          have F51_delayMs : Fld Z h51 b51 "com/example/quayside/quayside/RedeliverySchedule$Step" "delayMs" "J" (.long (0 : Int64)) := D51 (Or.inr (hw _ (List.mem_of_getElem? (i := 51) rfl))) (ty := .long) (by decide)
          have F51_topic : Fld Z h51 b51 "com/example/quayside/quayside/RedeliverySchedule$Step" "topic" "Z" (.int (0 : Int32)) := D51 (Or.inr (hw _ (List.mem_of_getElem? (i := 53) rfl))) (ty := .boolean) (by decide)
          have F51_destination : Fld Z h51 b51 "com/example/quayside/quayside/RedeliverySchedule$Step" "destination" "Ljava/lang/String;" .null := D51 (Or.inr (hw _ (List.mem_of_getElem? (i := 55) rfl))) (ty := (.object "java/lang/String")) (by decide)
          show own_Ends _ _ _ _ _ _ _ T51 (mkF m 97 #[.val (.int p0), .val (.int p1), .val (.long q2), .second, .val (.int p3), .val (.int p4), .val (.int ((p1 &&& (2147483647 : Int32)) % (3 : Int32))), .val (.ref wX), .val (.int (0 : Int32)), .val .null, .unset, .unset] [(.ref b51)])
          refine own_go (fun t_ k_ => XS.dup X51.here hx rfl (hb hby at_97) rfl rfl k_) ?_
          show own_Ends _ _ _ _ _ _ _ T51 (mkF m 98 #[.val (.int p0), .val (.int p1), .val (.long q2), .second, .val (.int p3), .val (.int p4), .val (.int ((p1 &&& (2147483647 : Int32)) % (3 : Int32))), .val (.ref wX), .val (.int (0 : Int32)), .val .null, .unset, .unset] [(.ref b51), (.ref b51)])
          refine own_go (fun t_ k_ => XS.iloadN X51.here hx rfl (hb hby at_98) rfl  k_) ?_
          show own_Ends _ _ _ _ _ _ _ T51 (mkF m 99 #[.val (.int p0), .val (.int p1), .val (.long q2), .second, .val (.int p3), .val (.int p4), .val (.int ((p1 &&& (2147483647 : Int32)) % (3 : Int32))), .val (.ref wX), .val (.int (0 : Int32)), .val .null, .unset, .unset] [(.int p0), (.ref b51), (.ref b51)])
          refine own_go (fun t_ k_ => XS.aload X51.here hx rfl (hb hby at_99) rfl rfl  k_) ?_
          show own_Ends _ _ _ _ _ _ _ T51 (mkF m 101 #[.val (.int p0), .val (.int p1), .val (.long q2), .second, .val (.int p3), .val (.int p4), .val (.int ((p1 &&& (2147483647 : Int32)) % (3 : Int32))), .val (.ref wX), .val (.int (0 : Int32)), .val .null, .unset, .unset] [(.ref wX), (.int p0), (.ref b51), (.ref b51)])
          refine own_go (fun t_ k_ => XT.lloadN X51.here hx rfl (hb hby at_101) rfl k_) ?_
          show own_Ends _ _ _ _ _ _ _ T51 (mkF m 102 #[.val (.int p0), .val (.int p1), .val (.long q2), .second, .val (.int p3), .val (.int p4), .val (.int ((p1 &&& (2147483647 : Int32)) % (3 : Int32))), .val (.ref wX), .val (.int (0 : Int32)), .val .null, .unset, .unset] [(.long q2), (.ref wX), (.int p0), (.ref b51), (.ref b51)])
          refine own_go (fun t_ k_ => XS.iload X51.here hx rfl (hb hby at_102) rfl  k_) ?_
          show own_Ends _ _ _ _ _ _ _ T51 (mkF m 104 #[.val (.int p0), .val (.int p1), .val (.long q2), .second, .val (.int p3), .val (.int p4), .val (.int ((p1 &&& (2147483647 : Int32)) % (3 : Int32))), .val (.ref wX), .val (.int (0 : Int32)), .val .null, .unset, .unset] [(.int (0 : Int32)), (.long q2), (.ref wX), (.int p0), (.ref b51), (.ref b51)])
          refine own_go (fun t_ k_ => XS.aload X51.here hx rfl (hb hby at_104) rfl rfl  k_) ?_
          show own_Ends _ _ _ _ _ _ _ T51 (mkF m 106 #[.val (.int p0), .val (.int p1), .val (.long q2), .second, .val (.int p3), .val (.int p4), .val (.int ((p1 &&& (2147483647 : Int32)) % (3 : Int32))), .val (.ref wX), .val (.int (0 : Int32)), .val .null, .unset, .unset] [.null, (.int (0 : Int32)), (.long q2), (.ref wX), (.int p0), (.ref b51), (.ref b51)])
          have Nsk52 : ∀ x ∈ ([b51] : List Addr), ∀ cell : Cell, h51[x]? = some cell → cell.vm.isStatics = false := (nsS (Exa.nostat A51) ns0)
          obtain ⟨T53, v53, L53, X53, hQ53, st53⟩ := own_callN X51 hx hZ (y := (⟨"com/example/quayside/quayside/RedeliverySchedule$Step", "<init>", "(ILcom/example/quayside/quayside/RedeliverySchedule$Action;JZLjava/lang/String;)V"⟩ : MethodName)) rfl hown (hw _ (List.mem_of_getElem? (i := 37) rfl)) (hw _ (List.mem_of_getElem? (i := 38) rfl)) (hw _ (List.mem_of_getElem? (i := 36) rfl)) (hw _ (List.mem_of_getElem? (i := 39) rfl)) (by decide) (rm7 l Z a0 hw [] b51 p0 wX q2 (0 : Int32) .null h51 n0 (Nat.le_trans Z0 E51.1) rfl A51 F51_from F51_action F51_delayMs F51_topic F51_destination g_b51) e51 (g := (mkF m 106 #[.val (.int p0), .val (.int p1), .val (.long q2), .second, .val (.int p3), .val (.int p4), .val (.int ((p1 &&& (2147483647 : Int32)) % (3 : Int32))), .val (.ref wX), .val (.int (0 : Int32)), .val .null, .unset, .unset] [.null, (.int (0 : Int32)), (.long q2), (.ref wX), (.int p0), (.ref b51), (.ref b51)])) rfl (by rw [hml]; rfl) b51 [(.int p0), (.ref wX), (.long q2), (.int (0 : Int32)), .null] [(.ref b51)] rfl (lenOf pd__ILcom_example_quayside_quayside_RedeliverySchedule_Action_JZLjava_lang_String__V rfl) rfl 1 (by show 2 * 0 + _ ≤ _; exact Nat.le_of_eq rfl) (hb hby at_106) (by decide) (by decide) (by decide) (by decide)
          obtain ⟨rfl, N53q, Kq53, Eq53, Fq53⟩ := hQ53
          refine own_go st53 ?_
          have N53 := Fr.app N0 N53q
          show own_Ends _ _ _ _ _ _ _ T53 (mkF m 109 #[.val (.int p0), .val (.int p1), .val (.long q2), .second, .val (.int p3), .val (.int p4), .val (.int ((p1 &&& (2147483647 : Int32)) % (3 : Int32))), .val (.ref wX), .val (.int (0 : Int32)), .val .null, .unset, .unset] [(.ref b51)])
          refine own_go (fun t_ k_ => XS.astore X53.here hx rfl (hb hby at_109) rfl rfl (l' := #[.val (.int p0), .val (.int p1), .val (.long q2), .second, .val (.int p3), .val (.int p4), .val (.int ((p1 &&& (2147483647 : Int32)) % (3 : Int32))), .val (.ref wX), .val (.int (0 : Int32)), .val .null, .val (.ref b51), .unset]) rfl k_) ?_
          show own_Ends _ _ _ _ _ _ _ T53 (mkF m 111 #[.val (.int p0), .val (.int p1), .val (.long q2), .second, .val (.int p3), .val (.int p4), .val (.int ((p1 &&& (2147483647 : Int32)) % (3 : Int32))), .val (.ref wX), .val (.int (0 : Int32)), .val .null, .val (.ref b51), .unset] [])
          refine own_go (fun t_ k_ => XS.iload X53.here hx rfl (hb hby at_111) rfl  k_) ?_
          show own_Ends _ _ _ _ _ _ _ T53 (mkF m 113 #[.val (.int p0), .val (.int p1), .val (.long q2), .second, .val (.int p3), .val (.int p4), .val (.int ((p1 &&& (2147483647 : Int32)) % (3 : Int32))), .val (.ref wX), .val (.int (0 : Int32)), .val .null, .val (.ref b51), .unset] [(.int ((p1 &&& (2147483647 : Int32)) % (3 : Int32)))])
          refine own_go (fun t_ k_ => XS.iconst X53.here hx rfl (hb hby at_113) k_) ?_
          show own_Ends _ _ _ _ _ _ _ T53 (mkF m 114 #[.val (.int p0), .val (.int p1), .val (.long q2), .second, .val (.int p3), .val (.int p4), .val (.int ((p1 &&& (2147483647 : Int32)) % (3 : Int32))), .val (.ref wX), .val (.int (0 : Int32)), .val .null, .val (.ref b51), .unset] [(.int (1 : Int32)), (.int ((p1 &&& (2147483647 : Int32)) % (3 : Int32)))])
          refine own_go (fun t_ k_ => XS.icmpNo X53.here hx rfl (hb hby at_114) rfl (teq hc36).2 k_) ?_
          show own_Ends _ _ _ _ _ _ _ T53 (mkF m 117 #[.val (.int p0), .val (.int p1), .val (.long q2), .second, .val (.int p3), .val (.int p4), .val (.int ((p1 &&& (2147483647 : Int32)) % (3 : Int32))), .val (.ref wX), .val (.int (0 : Int32)), .val .null, .val (.ref b51), .unset] [])
          refine own_go (fun t_ k_ => XS.iconst X53.here hx rfl (hb hby at_117) k_) ?_
          show own_Ends _ _ _ _ _ _ _ T53 (mkF m 118 #[.val (.int p0), .val (.int p1), .val (.long q2), .second, .val (.int p3), .val (.int p4), .val (.int ((p1 &&& (2147483647 : Int32)) % (3 : Int32))), .val (.ref wX), .val (.int (0 : Int32)), .val .null, .val (.ref b51), .unset] [(.int (1 : Int32))])
          refine own_go (fun t_ k_ => XS.istore X53.here hx rfl (hb hby at_118) rfl (l' := #[.val (.int p0), .val (.int p1), .val (.long q2), .second, .val (.int p3), .val (.int p4), .val (.int ((p1 &&& (2147483647 : Int32)) % (3 : Int32))), .val (.ref wX), .val (.int (0 : Int32)), .val .null, .val (.ref b51), .val (.int (1 : Int32))]) rfl k_) ?_
          show own_Ends _ _ _ _ _ _ _ T53 (mkF m 120 #[.val (.int p0), .val (.int p1), .val (.long q2), .second, .val (.int p3), .val (.int p4), .val (.int ((p1 &&& (2147483647 : Int32)) % (3 : Int32))), .val (.ref wX), .val (.int (0 : Int32)), .val .null, .val (.ref b51), .val (.int (1 : Int32))] [])
          refine own_go (fun t_ k_ => XS.goto X53.here hx rfl (pc0 := 120) (pc' := 138) rfl (hb hby at_120) (by decide) (by decide) k_) ?_
          show own_Ends _ _ _ _ _ _ _ T53 (mkF m 138 #[.val (.int p0), .val (.int p1), .val (.long q2), .second, .val (.int p3), .val (.int p4), .val (.int ((p1 &&& (2147483647 : Int32)) % (3 : Int32))), .val (.ref wX), .val (.int (0 : Int32)), .val .null, .val (.ref b51), .val (.int (1 : Int32))] [])
          refine own_go (fun t_ k_ => XS.aload X53.here hx rfl (hb hby at_138) rfl rfl  k_) ?_
          show own_Ends _ _ _ _ _ _ _ T53 (mkF m 140 #[.val (.int p0), .val (.int p1), .val (.long q2), .second, .val (.int p3), .val (.int p4), .val (.int ((p1 &&& (2147483647 : Int32)) % (3 : Int32))), .val (.ref wX), .val (.int (0 : Int32)), .val .null, .val (.ref b51), .val (.int (1 : Int32))] [(.ref b51)])
          obtain ⟨T54, v54, L54, X54, hQ54, st54⟩ := own_callV X53 hx hZ (y := (⟨"com/example/quayside/quayside/RedeliverySchedule$Step", "removes", "()Z"⟩ : MethodName)) (z := (⟨"com/example/quayside/quayside/RedeliverySchedule$Step", "removes", "()Z"⟩ : MethodName)) hown (hw _ (List.mem_of_getElem? (i := 56) rfl)) (hw _ (List.mem_of_getElem? (i := 57) rfl)) (notFace_of_selects (args := #[]) (mvT hZ (hw _ (List.mem_of_getElem? (i := 59) rfl)))) (hw _ (List.mem_of_getElem? (i := 59) rfl)) (hw _ (List.mem_of_getElem? (i := 58) rfl)) (hw _ (List.mem_of_getElem? (i := 36) rfl)) (hw _ (List.mem_of_getElem? (i := 60) rfl)) (by decide) (rm9 l Z a0 hw [] b51 wX wD T53.heap n0 (Nat.le_trans (Nat.le_trans Z0 E51.1) Kq53.1) Fq53 (own_staK (SD.ext E51) Kq53 Nsk52)) rfl (g := (mkF m 140 #[.val (.int p0), .val (.int p1), .val (.long q2), .second, .val (.int p3), .val (.int p4), .val (.int ((p1 &&& (2147483647 : Int32)) % (3 : Int32))), .val (.ref wX), .val (.int (0 : Int32)), .val .null, .val (.ref b51), .val (.int (1 : Int32))] [(.ref b51)])) rfl (by rw [hml]; rfl) b51 (A51.keep Kq53) [] [] rfl (lenOf pd___Z rfl) rfl 0 (by show 2 * 0 + _ ≤ _; exact Nat.le_of_eq rfl) (hb hby at_140) (by decide) (by decide) (by decide) (by decide)
          obtain ⟨hv54, N54q, e54⟩ := hQ54
          rw [if_neg hXD] at hv54
          subst hv54
          refine own_go st54 ?_
          have N54 := Fr.app N53 N54q
          show own_Ends _ _ _ _ _ _ _ T54 (mkF m 143 #[.val (.int p0), .val (.int p1), .val (.long q2), .second, .val (.int p3), .val (.int p4), .val (.int ((p1 &&& (2147483647 : Int32)) % (3 : Int32))), .val (.ref wX), .val (.int (0 : Int32)), .val .null, .val (.ref b51), .val (.int (1 : Int32))] [(.int (1 : Int32))])
          refine own_go (fun t_ k_ => XS.iload X54.here hx rfl (hb hby at_143) rfl  k_) ?_
          show own_Ends _ _ _ _ _ _ _ T54 (mkF m 145 #[.val (.int p0), .val (.int p1), .val (.long q2), .second, .val (.int p3), .val (.int p4), .val (.int ((p1 &&& (2147483647 : Int32)) % (3 : Int32))), .val (.ref wX), .val (.int (0 : Int32)), .val .null, .val (.ref b51), .val (.int (1 : Int32))] [(.int (1 : Int32)), (.int (1 : Int32))])
          refine own_go (fun t_ k_ => XS.icmpNo X54.here hx rfl (hb hby at_145) rfl (teq (by decide : (1 : Int32) = (1 : Int32))).2 k_) ?_
          show own_Ends _ _ _ _ _ _ _ T54 (mkF m 148 #[.val (.int p0), .val (.int p1), .val (.long q2), .second, .val (.int p3), .val (.int p4), .val (.int ((p1 &&& (2147483647 : Int32)) % (3 : Int32))), .val (.ref wX), .val (.int (0 : Int32)), .val .null, .val (.ref b51), .val (.int (1 : Int32))] [])
          refine own_go (fun t_ k_ => XS.iconst X54.here hx rfl (hb hby at_148) k_) ?_
          show own_Ends _ _ _ _ _ _ _ T54 (mkF m 149 #[.val (.int p0), .val (.int p1), .val (.long q2), .second, .val (.int p3), .val (.int p4), .val (.int ((p1 &&& (2147483647 : Int32)) % (3 : Int32))), .val (.ref wX), .val (.int (0 : Int32)), .val .null, .val (.ref b51), .val (.int (1 : Int32))] [(.int (1 : Int32))])
          refine own_go (fun t_ k_ => XS.goto X54.here hx rfl (pc0 := 149) (pc' := 153) rfl (hb hby at_149) (by decide) (by decide) k_) ?_
          show own_Ends _ _ _ _ _ _ _ T54 (mkF m 153 #[.val (.int p0), .val (.int p1), .val (.long q2), .second, .val (.int p3), .val (.int p4), .val (.int ((p1 &&& (2147483647 : Int32)) % (3 : Int32))), .val (.ref wX), .val (.int (0 : Int32)), .val .null, .val (.ref b51), .val (.int (1 : Int32))] [(.int (1 : Int32))])
          refine own_retN X54 hx hlk (t := .boolean) hret (by simp) (hb hby at_153) e54 (by decide) (by decide) ?_
          exact ⟨rfl, N54⟩
      · refine own_go (fun t_ k_ => XS.ifNo X37.here hx rfl (hb hby at_44) rfl ((if0 _ _).trans (feq hc38).1) k_) ?_
        show own_Ends _ _ _ _ _ _ _ T37 (mkF m 47 #[.val (.int p0), .val (.int p1), .val (.long q2), .second, .val (.int p3), .val (.int p4), .val (.int ((p1 &&& (2147483647 : Int32)) % (3 : Int32))), .val (.ref wX), .unset, .unset, .unset, .unset] [])
        refine own_go (fun t_ k_ => XS.iconst X37.here hx rfl (hb hby at_47) k_) ?_
        show own_Ends _ _ _ _ _ _ _ T37 (mkF m 48 #[.val (.int p0), .val (.int p1), .val (.long q2), .second, .val (.int p3), .val (.int p4), .val (.int ((p1 &&& (2147483647 : Int32)) % (3 : Int32))), .val (.ref wX), .unset, .unset, .unset, .unset] [(.int (1 : Int32))])
        refine own_go (fun t_ k_ => XS.goto X37.here hx rfl (pc0 := 48) (pc' := 52) rfl (hb hby at_48) (by decide) (by decide) k_) ?_
        show own_Ends _ _ _ _ _ _ _ T37 (mkF m 52 #[.val (.int p0), .val (.int p1), .val (.long q2), .second, .val (.int p3), .val (.int p4), .val (.int ((p1 &&& (2147483647 : Int32)) % (3 : Int32))), .val (.ref wX), .unset, .unset, .unset, .unset] [(.int (1 : Int32))])
        refine own_go (fun t_ k_ => XS.istore X37.here hx rfl (hb hby at_52) rfl (l' := #[.val (.int p0), .val (.int p1), .val (.long q2), .second, .val (.int p3), .val (.int p4), .val (.int ((p1 &&& (2147483647 : Int32)) % (3 : Int32))), .val (.ref wX), .val (.int (1 : Int32)), .unset, .unset, .unset]) rfl k_) ?_
        show own_Ends _ _ _ _ _ _ _ T37 (mkF m 54 #[.val (.int p0), .val (.int p1), .val (.long q2), .second, .val (.int p3), .val (.int p4), .val (.int ((p1 &&& (2147483647 : Int32)) % (3 : Int32))), .val (.ref wX), .val (.int (1 : Int32)), .unset, .unset, .unset] [])
        refine own_go (fun t_ k_ => XS.iload X37.here hx rfl (hb hby at_54) rfl  k_) ?_
        show own_Ends _ _ _ _ _ _ _ T37 (mkF m 56 #[.val (.int p0), .val (.int p1), .val (.long q2), .second, .val (.int p3), .val (.int p4), .val (.int ((p1 &&& (2147483647 : Int32)) % (3 : Int32))), .val (.ref wX), .val (.int (1 : Int32)), .unset, .unset, .unset] [(.int p3)])
        refine own_go (fun t_ k_ => XS.iconst X37.here hx rfl (hb hby at_56) k_) ?_
        show own_Ends _ _ _ _ _ _ _ T37 (mkF m 57 #[.val (.int p0), .val (.int p1), .val (.long q2), .second, .val (.int p3), .val (.int p4), .val (.int ((p1 &&& (2147483647 : Int32)) % (3 : Int32))), .val (.ref wX), .val (.int (1 : Int32)), .unset, .unset, .unset] [(.int (2 : Int32)), (.int p3)])
        refine own_go (fun t_ k_ => XS.iand X37.here hx rfl (hb hby at_57) rfl k_) ?_
        show own_Ends _ _ _ _ _ _ _ T37 (mkF m 58 #[.val (.int p0), .val (.int p1), .val (.long q2), .second, .val (.int p3), .val (.int p4), .val (.int ((p1 &&& (2147483647 : Int32)) % (3 : Int32))), .val (.ref wX), .val (.int (1 : Int32)), .unset, .unset, .unset] [(.int (p3 &&& (2 : Int32)))])
        by_cases hc55 : (p3 &&& (2 : Int32)) = (0 : Int32)
        · refine own_go (fun t_ k_ => XS.ifYes X37.here hx rfl (pc0 := 58) (pc' := 67) rfl (hb hby at_58) rfl ((if0 _ _).trans (teq hc55).1) (by decide) (by decide) k_) ?_
          show own_Ends _ _ _ _ _ _ _ T37 (mkF m 67 #[.val (.int p0), .val (.int p1), .val (.long q2), .second, .val (.int p3), .val (.int p4), .val (.int ((p1 &&& (2147483647 : Int32)) % (3 : Int32))), .val (.ref wX), .val (.int (1 : Int32)), .unset, .unset, .unset] [])
          refine own_go (fun t_ k_ => XS.iconst X37.here hx rfl (hb hby at_67) k_) ?_
          show own_Ends _ _ _ _ _ _ _ T37 (mkF m 68 #[.val (.int p0), .val (.int p1), .val (.long q2), .second, .val (.int p3), .val (.int p4), .val (.int ((p1 &&& (2147483647 : Int32)) % (3 : Int32))), .val (.ref wX), .val (.int (1 : Int32)), .unset, .unset, .unset] [(.int (1 : Int32))])
          obtain ⟨T56, h56, k56, X56, e56, E56, A56, st56⟩ := newP X37 hx hZ (hw _ (List.mem_of_getElem? (i := 4) rfl)) e37 (g := (mkF m 68 #[.val (.int p0), .val (.int p1), .val (.long q2), .second, .val (.int p3), .val (.int p4), .val (.int ((p1 &&& (2147483647 : Int32)) % (3 : Int32))), .val (.ref wX), .val (.int (1 : Int32)), .unset, .unset, .unset] [(.int (1 : Int32))])) rfl (hb hby at_68) rfl (by decide) (cap := 1) (by decide) (by decide) (by decide) (by decide)
          obtain ⟨b56, g56⟩ : ∃ z, z = h0.size := ⟨_, rfl⟩
          rw [← g56] at A56 st56
          refine own_go st56 ?_
          have V56 : Arv Z h56 b56 k56 .char (1 : Int32) [(.int (0 : Int32))] (.int (0 : Int32)) := (Arv.new A56 (by decide)).pad (pad_rep [] (.int (0 : Int32)) 1)
          have g_b56 : n0 ≤ b56 := Nat.le_trans Z0 (Nat.le_of_eq g56.symm)
          show own_Ends _ _ _ _ _ _ _ T56 (mkF m 70 #[.val (.int p0), .val (.int p1), .val (.long q2), .second, .val (.int p3), .val (.int p4), .val (.int ((p1 &&& (2147483647 : Int32)) % (3 : Int32))), .val (.ref wX), .val (.int (1 : Int32)), .unset, .unset, .unset] [(.ref b56)])
          refine own_go (fun t_ k_ => XS.astore X56.here hx rfl (hb hby at_70) rfl rfl (l' := #[.val (.int p0), .val (.int p1), .val (.long q2), .second, .val (.int p3), .val (.int p4), .val (.int ((p1 &&& (2147483647 : Int32)) % (3 : Int32))), .val (.ref wX), .val (.int (1 : Int32)), .unset, .val (.ref b56), .unset]) rfl k_) ?_
          show own_Ends _ _ _ _ _ _ _ T56 (mkF m 72 #[.val (.int p0), .val (.int p1), .val (.long q2), .second, .val (.int p3), .val (.int p4), .val (.int ((p1 &&& (2147483647 : Int32)) % (3 : Int32))), .val (.ref wX), .val (.int (1 : Int32)), .unset, .val (.ref b56), .unset] [])
          refine own_go (fun t_ k_ => XS.aload X56.here hx rfl (hb hby at_72) rfl rfl  k_) ?_
          show own_Ends _ _ _ _ _ _ _ T56 (mkF m 74 #[.val (.int p0), .val (.int p1), .val (.long q2), .second, .val (.int p3), .val (.int p4), .val (.int ((p1 &&& (2147483647 : Int32)) % (3 : Int32))), .val (.ref wX), .val (.int (1 : Int32)), .unset, .val (.ref b56), .unset] [(.ref b56)])
          refine own_go (fun t_ k_ => XS.iconst X56.here hx rfl (hb hby at_74) k_) ?_
          show own_Ends _ _ _ _ _ _ _ T56 (mkF m 75 #[.val (.int p0), .val (.int p1), .val (.long q2), .second, .val (.int p3), .val (.int p4), .val (.int ((p1 &&& (2147483647 : Int32)) % (3 : Int32))), .val (.ref wX), .val (.int (1 : Int32)), .unset, .val (.ref b56), .unset] [(.int (0 : Int32)), (.ref b56)])
          refine own_go (fun t_ k_ => XS.iload X56.here hx rfl (hb hby at_75) rfl  k_) ?_
          show own_Ends _ _ _ _ _ _ _ T56 (mkF m 77 #[.val (.int p0), .val (.int p1), .val (.long q2), .second, .val (.int p3), .val (.int p4), .val (.int ((p1 &&& (2147483647 : Int32)) % (3 : Int32))), .val (.ref wX), .val (.int (1 : Int32)), .unset, .val (.ref b56), .unset] [(.int p4), (.int (0 : Int32)), (.ref b56)])
          refine own_go (fun t_ k_ => XS.sipush X56.here hx rfl (hb hby at_77) k_) ?_
          show own_Ends _ _ _ _ _ _ _ T56 (mkF m 80 #[.val (.int p0), .val (.int p1), .val (.long q2), .second, .val (.int p3), .val (.int p4), .val (.int ((p1 &&& (2147483647 : Int32)) % (3 : Int32))), .val (.ref wX), .val (.int (1 : Int32)), .unset, .val (.ref b56), .unset] [(.int (255 : Int32)), (.int p4), (.int (0 : Int32)), (.ref b56)])
          refine own_go (fun t_ k_ => XS.iand X56.here hx rfl (hb hby at_80) rfl k_) ?_
          show own_Ends _ _ _ _ _ _ _ T56 (mkF m 81 #[.val (.int p0), .val (.int p1), .val (.long q2), .second, .val (.int p3), .val (.int p4), .val (.int ((p1 &&& (2147483647 : Int32)) % (3 : Int32))), .val (.ref wX), .val (.int (1 : Int32)), .unset, .val (.ref b56), .unset] [(.int (p4 &&& (255 : Int32))), (.int (0 : Int32)), (.ref b56)])
          refine own_go (fun t_ k_ => XT.i2c X56.here hx rfl (hb hby at_81) rfl k_) ?_
          show own_Ends _ _ _ _ _ _ _ T56 (mkF m 82 #[.val (.int p0), .val (.int p1), .val (.long q2), .second, .val (.int p3), .val (.int p4), .val (.int ((p1 &&& (2147483647 : Int32)) % (3 : Int32))), .val (.ref wX), .val (.int (1 : Int32)), .unset, .val (.ref b56), .unset] [(.int ((p4 &&& (255 : Int32)).toUInt32.toUInt16.toUInt32.toInt32)), (.int (0 : Int32)), (.ref b56)])
          obtain ⟨cl58, Ar58, q58, S58, Ng58, Hs58, G58⟩ := (id V56)
          obtain ⟨T59, h59, X59, e59, W59, st59⟩ := stC X56 hx hZ e56 Ar58 (j := (0 : Int32)) (inb_of S58 ⟨by decide, by decide⟩) (g := (mkF m 82 #[.val (.int p0), .val (.int p1), .val (.long q2), .second, .val (.int p3), .val (.int p4), .val (.int ((p1 &&& (2147483647 : Int32)) % (3 : Int32))), .val (.ref wX), .val (.int (1 : Int32)), .unset, .val (.ref b56), .unset] [(.int ((p4 &&& (255 : Int32)).toUInt32.toUInt16.toUInt32.toInt32)), (.int (0 : Int32)), (.ref b56)])) rfl rfl (hb hby at_82)
          refine own_go st59 ?_
          have V59 : Arv Z h59 b56 k56 .char (1 : Int32) [(.int (nar .char ((p4 &&& (255 : Int32)).toUInt32.toUInt16.toUInt32.toInt32)))] (.int (0 : Int32)) := Arv.set Ar58 q58 S58 Ng58 Hs58 G58 (fits_nar_char _) W59 0 rfl (Nat.le_of_ble_eq_true rfl)
          have N59 := Fr.snoc X59 N0 g_b56
          show own_Ends _ _ _ _ _ _ _ T59 (mkF m 83 #[.val (.int p0), .val (.int p1), .val (.long q2), .second, .val (.int p3), .val (.int p4), .val (.int ((p1 &&& (2147483647 : Int32)) % (3 : Int32))), .val (.ref wX), .val (.int (1 : Int32)), .unset, .val (.ref b56), .unset] [])
          obtain ⟨T60, h60, X60, e60, E60, A60, D60, -, st60⟩ := newO X59 hx hZ hown (hw _ (List.mem_of_getElem? (i := 5) rfl)) (hw _ (List.mem_of_getElem? (i := 6) rfl)) (hw _ (List.mem_of_getElem? (i := 7) rfl)) e59 (g := (mkF m 83 #[.val (.int p0), .val (.int p1), .val (.long q2), .second, .val (.int p3), .val (.int p4), .val (.int ((p1 &&& (2147483647 : Int32)) % (3 : Int32))), .val (.ref wX), .val (.int (1 : Int32)), .unset, .val (.ref b56), .unset] [])) rfl (hb hby at_83) (by decide) (by decide)
          obtain ⟨b60, g60⟩ : ∃ z, z = h59.size := ⟨_, rfl⟩
          rw [← g60] at A60 D60 st60
          refine own_go st60 ?_
          have g_b60 : n0 ≤ b60 := Nat.le_trans (Nat.le_trans (Nat.le_trans Z0 E56.1) (Keep.of_wr W59).1) (Nat.le_of_eq g60.symm)
          have F60_coder : Fld Z h60 b60 "java/lang/String" "coder" "B" (.int (0 : Int32)) := D60 (Or.inr (hw _ (List.mem_of_getElem? (i := 31) rfl))) (ty := .byte) (by decide)
          have F60_value : Fld Z h60 b60 "java/lang/String" "value" "[B" .null := D60 (Or.inr (hw _ (List.mem_of_getElem? (i := 33) rfl))) (ty := (.array .byte)) (by decide)
          show own_Ends _ _ _ _ _ _ _ T60 (mkF m 86 #[.val (.int p0), .val (.int p1), .val (.long q2), .second, .val (.int p3), .val (.int p4), .val (.int ((p1 &&& (2147483647 : Int32)) % (3 : Int32))), .val (.ref wX), .val (.int (1 : Int32)), .unset, .val (.ref b56), .unset] [(.ref b60)])
          refine own_go (fun t_ k_ => XS.dup X60.here hx rfl (hb hby at_86) rfl rfl k_) ?_
          show own_Ends _ _ _ _ _ _ _ T60 (mkF m 87 #[.val (.int p0), .val (.int p1), .val (.long q2), .second, .val (.int p3), .val (.int p4), .val (.int ((p1 &&& (2147483647 : Int32)) % (3 : Int32))), .val (.ref wX), .val (.int (1 : Int32)), .unset, .val (.ref b56), .unset] [(.ref b60), (.ref b60)])
          refine own_go (fun t_ k_ => XS.aload X60.here hx rfl (hb hby at_87) rfl rfl  k_) ?_
          show own_Ends _ _ _ _ _ _ _ T60 (mkF m 89 #[.val (.int p0), .val (.int p1), .val (.long q2), .second, .val (.int p3), .val (.int p4), .val (.int ((p1 &&& (2147483647 : Int32)) % (3 : Int32))), .val (.ref wX), .val (.int (1 : Int32)), .unset, .val (.ref b56), .unset] [(.ref b56), (.ref b60), (.ref b60)])
          have hlat : ∀ c ∈ [(nar .char ((p4 &&& (255 : Int32)).toUInt32.toUInt16.toUInt32.toInt32))], ¬ c < 0 ∧ ¬ (255 : Int32) < c := own_lat1 _
          have Nsk61 : ∀ x ∈ ([b60] : List Addr), ∀ cell : Cell, h60[x]? = some cell → cell.vm.isStatics = false := (nsS (Exa.nostat A60) ns0)
          obtain ⟨T62, v62, L62, X62, hQ62, st62⟩ := own_callNB X60 hx hZ (y := (⟨"java/lang/String", "<init>", "([C)V"⟩ : MethodName)) (rc := 1) (rs := 1) rfl hown (hw _ (List.mem_of_getElem? (i := 8) rfl)) (hw _ (List.mem_of_getElem? (i := 9) rfl)) (hw _ (List.mem_of_getElem? (i := 10) rfl)) (by decide) (StrChars.Road.backV (W := 1) hZ (fun d hd => hw d (own_sub d hd)) (kI := 4) (hw _ (List.mem_of_getElem? (i := 6) rfl)) (cs := [(nar .char ((p4 &&& (255 : Int32)).toUInt32.toUInt16.toUInt32.toInt32))]) (bs := [((nar .char ((p4 &&& (255 : Int32)).toUInt32.toUInt16.toUInt32.toInt32))).toInt8.toInt32]) (n := 1) g_b60 (Nat.le_trans (Nat.le_trans (Nat.le_trans Z0 E56.1) (Keep.of_wr W59).1) E60.1) A60 F60_value F60_coder (V59.ext E60) (((SC.ext E56).wr W59).ext E60) hzc rfl rfl (by decide) (by decide) hlat rfl (by decide) (by decide)) e60 (g := (mkF m 89 #[.val (.int p0), .val (.int p1), .val (.long q2), .second, .val (.int p3), .val (.int p4), .val (.int ((p1 &&& (2147483647 : Int32)) % (3 : Int32))), .val (.ref wX), .val (.int (1 : Int32)), .unset, .val (.ref b56), .unset] [(.ref b56), (.ref b60), (.ref b60)])) rfl (by rw [hml]; rfl) b60 [(.ref b56)] [(.ref b60)] rfl (lenOf pd___C_V rfl) rfl (by show 2 * 0 + _ ≤ _; exact Nat.le_of_eq rfl) (hb hby at_89) (by decide) (by decide)
          obtain ⟨rfl, N62q, Kq62, Eq62, Cq62, t62, kb62, -, -, -, -, -⟩ := hQ62
          refine own_go st62 ?_
          have N62 := Fr.app N59 N62q
          show own_Ends _ _ _ _ _ _ _ T62 (mkF m 92 #[.val (.int p0), .val (.int p1), .val (.long q2), .second, .val (.int p3), .val (.int p4), .val (.int ((p1 &&& (2147483647 : Int32)) % (3 : Int32))), .val (.ref wX), .val (.int (1 : Int32)), .unset, .val (.ref b56), .unset] [(.ref b60)])
          refine own_go (fun t_ k_ => XS.astore X62.here hx rfl (hb hby at_92) rfl rfl (l' := #[.val (.int p0), .val (.int p1), .val (.long q2), .second, .val (.int p3), .val (.int p4), .val (.int ((p1 &&& (2147483647 : Int32)) % (3 : Int32))), .val (.ref wX), .val (.int (1 : Int32)), .val (.ref b60), .val (.ref b56), .unset]) rfl k_) ?_
          show own_Ends _ _ _ _ _ _ _ T62 (mkF m 94 #[.val (.int p0), .val (.int p1), .val (.long q2), .second, .val (.int p3), .val (.int p4), .val (.int ((p1 &&& (2147483647 : Int32)) % (3 : Int32))), .val (.ref wX), .val (.int (1 : Int32)), .val (.ref b60), .val (.ref b56), .unset] [])
          obtain ⟨T63, h63, X63, e63, E63, A63, D63, -, st63⟩ := newO X62 hx hZ hown (hw _ (List.mem_of_getElem? (i := 34) rfl)) (hw _ (List.mem_of_getElem? (i := 35) rfl)) (hw _ (List.mem_of_getElem? (i := 36) rfl)) rfl (g := (mkF m 94 #[.val (.int p0), .val (.int p1), .val (.long q2), .second, .val (.int p3), .val (.int p4), .val (.int ((p1 &&& (2147483647 : Int32)) % (3 : Int32))), .val (.ref wX), .val (.int (1 : Int32)), .val (.ref b60), .val (.ref b56), .unset] [])) rfl (hb hby at_94) (by decide) (by decide)
          obtain ⟨b63, g63⟩ : ∃ z, z = T62.heap.size := ⟨_, rfl⟩
          rw [← g63] at A63 D63 st63
          refine own_go st63 ?_
          have g_b63 : n0 ≤ b63 := Nat.le_trans (Nat.le_trans (Nat.le_trans (Nat.le_trans (Nat.le_trans Z0 E56.1) (Keep.of_wr W59).1) E60.1) Kq62.1) (Nat.le_of_eq g63.symm)
          have F63_from : Fld Z h63 b63 "com/example/quayside/quayside/RedeliverySchedule$Step" "from" "I" (.int (0 : Int32)) := D63 (Or.inr (hw _ (List.mem_of_getElem? (i := 47) rfl))) (ty := .int) (by decide)
          have F63_action : Fld Z h63 b63 "com/example/quayside/quayside/RedeliverySchedule$Step" "action" "Lcom/example/quayside/quayside/RedeliverySchedule$Action;" .null := D63 (Or.inr (hw _ (List.mem_of_getElem? (i := 49) rfl))) (ty := (.object "com/example/quayside/quayside/RedeliverySchedule$Action")) (by decide)
          have F63_delayMs : Fld Z h63 b63 "com/example/quayside/quayside/RedeliverySchedule$Step" "delayMs" "J" (.long (0 : Int64)) := D63 (Or.inr (hw _ (List.mem_of_getElem? (i := 51) rfl))) (ty := .long) (by decide)
          have F63_topic : Fld Z h63 b63 "com/example/quayside/quayside/RedeliverySchedule$Step" "topic" "Z" (.int (0 : Int32)) := D63 (Or.inr (hw _ (List.mem_of_getElem? (i := 53) rfl))) (ty := .boolean) (by decide)
          have F63_destination : Fld Z h63 b63 "com/example/quayside/quayside/RedeliverySchedule$Step" "destination" "Ljava/lang/String;" .null := D63 (Or.inr (hw _ (List.mem_of_getElem? (i := 55) rfl))) (ty := (.object "java/lang/String")) (by decide)
          show own_Ends _ _ _ _ _ _ _ T63 (mkF m 97 #[.val (.int p0), .val (.int p1), .val (.long q2), .second, .val (.int p3), .val (.int p4), .val (.int ((p1 &&& (2147483647 : Int32)) % (3 : Int32))), .val (.ref wX), .val (.int (1 : Int32)), .val (.ref b60), .val (.ref b56), .unset] [(.ref b63)])
          refine own_go (fun t_ k_ => XS.dup X63.here hx rfl (hb hby at_97) rfl rfl k_) ?_
          show own_Ends _ _ _ _ _ _ _ T63 (mkF m 98 #[.val (.int p0), .val (.int p1), .val (.long q2), .second, .val (.int p3), .val (.int p4), .val (.int ((p1 &&& (2147483647 : Int32)) % (3 : Int32))), .val (.ref wX), .val (.int (1 : Int32)), .val (.ref b60), .val (.ref b56), .unset] [(.ref b63), (.ref b63)])
          refine own_go (fun t_ k_ => XS.iloadN X63.here hx rfl (hb hby at_98) rfl  k_) ?_
          show own_Ends _ _ _ _ _ _ _ T63 (mkF m 99 #[.val (.int p0), .val (.int p1), .val (.long q2), .second, .val (.int p3), .val (.int p4), .val (.int ((p1 &&& (2147483647 : Int32)) % (3 : Int32))), .val (.ref wX), .val (.int (1 : Int32)), .val (.ref b60), .val (.ref b56), .unset] [(.int p0), (.ref b63), (.ref b63)])
          refine own_go (fun t_ k_ => XS.aload X63.here hx rfl (hb hby at_99) rfl rfl  k_) ?_
          show own_Ends _ _ _ _ _ _ _ T63 (mkF m 101 #[.val (.int p0), .val (.int p1), .val (.long q2), .second, .val (.int p3), .val (.int p4), .val (.int ((p1 &&& (2147483647 : Int32)) % (3 : Int32))), .val (.ref wX), .val (.int (1 : Int32)), .val (.ref b60), .val (.ref b56), .unset] [(.ref wX), (.int p0), (.ref b63), (.ref b63)])
          refine own_go (fun t_ k_ => XT.lloadN X63.here hx rfl (hb hby at_101) rfl k_) ?_
          show own_Ends _ _ _ _ _ _ _ T63 (mkF m 102 #[.val (.int p0), .val (.int p1), .val (.long q2), .second, .val (.int p3), .val (.int p4), .val (.int ((p1 &&& (2147483647 : Int32)) % (3 : Int32))), .val (.ref wX), .val (.int (1 : Int32)), .val (.ref b60), .val (.ref b56), .unset] [(.long q2), (.ref wX), (.int p0), (.ref b63), (.ref b63)])
          refine own_go (fun t_ k_ => XS.iload X63.here hx rfl (hb hby at_102) rfl  k_) ?_
          show own_Ends _ _ _ _ _ _ _ T63 (mkF m 104 #[.val (.int p0), .val (.int p1), .val (.long q2), .second, .val (.int p3), .val (.int p4), .val (.int ((p1 &&& (2147483647 : Int32)) % (3 : Int32))), .val (.ref wX), .val (.int (1 : Int32)), .val (.ref b60), .val (.ref b56), .unset] [(.int (1 : Int32)), (.long q2), (.ref wX), (.int p0), (.ref b63), (.ref b63)])
          refine own_go (fun t_ k_ => XS.aload X63.here hx rfl (hb hby at_104) rfl rfl  k_) ?_
          show own_Ends _ _ _ _ _ _ _ T63 (mkF m 106 #[.val (.int p0), .val (.int p1), .val (.long q2), .second, .val (.int p3), .val (.int p4), .val (.int ((p1 &&& (2147483647 : Int32)) % (3 : Int32))), .val (.ref wX), .val (.int (1 : Int32)), .val (.ref b60), .val (.ref b56), .unset] [(.ref b60), (.int (1 : Int32)), (.long q2), (.ref wX), (.int p0), (.ref b63), (.ref b63)])
          have Nsk64 : ∀ x ∈ ([b63] : List Addr), ∀ cell : Cell, h63[x]? = some cell → cell.vm.isStatics = false := (nsS (Exa.nostat A63) ns0)
          obtain ⟨T65, v65, L65, X65, hQ65, st65⟩ := own_callN X63 hx hZ (y := (⟨"com/example/quayside/quayside/RedeliverySchedule$Step", "<init>", "(ILcom/example/quayside/quayside/RedeliverySchedule$Action;JZLjava/lang/String;)V"⟩ : MethodName)) rfl hown (hw _ (List.mem_of_getElem? (i := 37) rfl)) (hw _ (List.mem_of_getElem? (i := 38) rfl)) (hw _ (List.mem_of_getElem? (i := 36) rfl)) (hw _ (List.mem_of_getElem? (i := 39) rfl)) (by decide) (rm7 l Z a0 hw [] b63 p0 wX q2 (1 : Int32) (.ref b60) h63 n0 (Nat.le_trans (Nat.le_trans (Nat.le_trans (Nat.le_trans (Nat.le_trans Z0 E56.1) (Keep.of_wr W59).1) E60.1) Kq62.1) E63.1) rfl A63 F63_from F63_action F63_delayMs F63_topic F63_destination g_b63) e63 (g := (mkF m 106 #[.val (.int p0), .val (.int p1), .val (.long q2), .second, .val (.int p3), .val (.int p4), .val (.int ((p1 &&& (2147483647 : Int32)) % (3 : Int32))), .val (.ref wX), .val (.int (1 : Int32)), .val (.ref b60), .val (.ref b56), .unset] [(.ref b60), (.int (1 : Int32)), (.long q2), (.ref wX), (.int p0), (.ref b63), (.ref b63)])) rfl (by rw [hml]; rfl) b63 [(.int p0), (.ref wX), (.long q2), (.int (1 : Int32)), (.ref b60)] [(.ref b63)] rfl (lenOf pd__ILcom_example_quayside_quayside_RedeliverySchedule_Action_JZLjava_lang_String__V rfl) rfl 1 (by show 2 * 0 + _ ≤ _; exact Nat.le_of_eq rfl) (hb hby at_106) (by decide) (by decide) (by decide) (by decide)
          obtain ⟨rfl, N65q, Kq65, Eq65, Fq65⟩ := hQ65
          refine own_go st65 ?_
          have N65 := Fr.app N62 N65q
          show own_Ends _ _ _ _ _ _ _ T65 (mkF m 109 #[.val (.int p0), .val (.int p1), .val (.long q2), .second, .val (.int p3), .val (.int p4), .val (.int ((p1 &&& (2147483647 : Int32)) % (3 : Int32))), .val (.ref wX), .val (.int (1 : Int32)), .val (.ref b60), .val (.ref b56), .unset] [(.ref b63)])
          refine own_go (fun t_ k_ => XS.astore X65.here hx rfl (hb hby at_109) rfl rfl (l' := #[.val (.int p0), .val (.int p1), .val (.long q2), .second, .val (.int p3), .val (.int p4), .val (.int ((p1 &&& (2147483647 : Int32)) % (3 : Int32))), .val (.ref wX), .val (.int (1 : Int32)), .val (.ref b60), .val (.ref b63), .unset]) rfl k_) ?_
          show own_Ends _ _ _ _ _ _ _ T65 (mkF m 111 #[.val (.int p0), .val (.int p1), .val (.long q2), .second, .val (.int p3), .val (.int p4), .val (.int ((p1 &&& (2147483647 : Int32)) % (3 : Int32))), .val (.ref wX), .val (.int (1 : Int32)), .val (.ref b60), .val (.ref b63), .unset] [])
          refine own_go (fun t_ k_ => XS.iload X65.here hx rfl (hb hby at_111) rfl  k_) ?_
          show own_Ends _ _ _ _ _ _ _ T65 (mkF m 113 #[.val (.int p0), .val (.int p1), .val (.long q2), .second, .val (.int p3), .val (.int p4), .val (.int ((p1 &&& (2147483647 : Int32)) % (3 : Int32))), .val (.ref wX), .val (.int (1 : Int32)), .val (.ref b60), .val (.ref b63), .unset] [(.int ((p1 &&& (2147483647 : Int32)) % (3 : Int32)))])
          refine own_go (fun t_ k_ => XS.iconst X65.here hx rfl (hb hby at_113) k_) ?_
          show own_Ends _ _ _ _ _ _ _ T65 (mkF m 114 #[.val (.int p0), .val (.int p1), .val (.long q2), .second, .val (.int p3), .val (.int p4), .val (.int ((p1 &&& (2147483647 : Int32)) % (3 : Int32))), .val (.ref wX), .val (.int (1 : Int32)), .val (.ref b60), .val (.ref b63), .unset] [(.int (1 : Int32)), (.int ((p1 &&& (2147483647 : Int32)) % (3 : Int32)))])
          refine own_go (fun t_ k_ => XS.icmpNo X65.here hx rfl (hb hby at_114) rfl (teq hc36).2 k_) ?_
          show own_Ends _ _ _ _ _ _ _ T65 (mkF m 117 #[.val (.int p0), .val (.int p1), .val (.long q2), .second, .val (.int p3), .val (.int p4), .val (.int ((p1 &&& (2147483647 : Int32)) % (3 : Int32))), .val (.ref wX), .val (.int (1 : Int32)), .val (.ref b60), .val (.ref b63), .unset] [])
          refine own_go (fun t_ k_ => XS.iconst X65.here hx rfl (hb hby at_117) k_) ?_
          show own_Ends _ _ _ _ _ _ _ T65 (mkF m 118 #[.val (.int p0), .val (.int p1), .val (.long q2), .second, .val (.int p3), .val (.int p4), .val (.int ((p1 &&& (2147483647 : Int32)) % (3 : Int32))), .val (.ref wX), .val (.int (1 : Int32)), .val (.ref b60), .val (.ref b63), .unset] [(.int (1 : Int32))])
          refine own_go (fun t_ k_ => XS.istore X65.here hx rfl (hb hby at_118) rfl (l' := #[.val (.int p0), .val (.int p1), .val (.long q2), .second, .val (.int p3), .val (.int p4), .val (.int ((p1 &&& (2147483647 : Int32)) % (3 : Int32))), .val (.ref wX), .val (.int (1 : Int32)), .val (.ref b60), .val (.ref b63), .val (.int (1 : Int32))]) rfl k_) ?_
          show own_Ends _ _ _ _ _ _ _ T65 (mkF m 120 #[.val (.int p0), .val (.int p1), .val (.long q2), .second, .val (.int p3), .val (.int p4), .val (.int ((p1 &&& (2147483647 : Int32)) % (3 : Int32))), .val (.ref wX), .val (.int (1 : Int32)), .val (.ref b60), .val (.ref b63), .val (.int (1 : Int32))] [])
          refine own_go (fun t_ k_ => XS.goto X65.here hx rfl (pc0 := 120) (pc' := 138) rfl (hb hby at_120) (by decide) (by decide) k_) ?_
          show own_Ends _ _ _ _ _ _ _ T65 (mkF m 138 #[.val (.int p0), .val (.int p1), .val (.long q2), .second, .val (.int p3), .val (.int p4), .val (.int ((p1 &&& (2147483647 : Int32)) % (3 : Int32))), .val (.ref wX), .val (.int (1 : Int32)), .val (.ref b60), .val (.ref b63), .val (.int (1 : Int32))] [])
          refine own_go (fun t_ k_ => XS.aload X65.here hx rfl (hb hby at_138) rfl rfl  k_) ?_
          show own_Ends _ _ _ _ _ _ _ T65 (mkF m 140 #[.val (.int p0), .val (.int p1), .val (.long q2), .second, .val (.int p3), .val (.int p4), .val (.int ((p1 &&& (2147483647 : Int32)) % (3 : Int32))), .val (.ref wX), .val (.int (1 : Int32)), .val (.ref b60), .val (.ref b63), .val (.int (1 : Int32))] [(.ref b63)])
          obtain ⟨T66, v66, L66, X66, hQ66, st66⟩ := own_callV X65 hx hZ (y := (⟨"com/example/quayside/quayside/RedeliverySchedule$Step", "removes", "()Z"⟩ : MethodName)) (z := (⟨"com/example/quayside/quayside/RedeliverySchedule$Step", "removes", "()Z"⟩ : MethodName)) hown (hw _ (List.mem_of_getElem? (i := 56) rfl)) (hw _ (List.mem_of_getElem? (i := 57) rfl)) (notFace_of_selects (args := #[]) (mvT hZ (hw _ (List.mem_of_getElem? (i := 59) rfl)))) (hw _ (List.mem_of_getElem? (i := 59) rfl)) (hw _ (List.mem_of_getElem? (i := 58) rfl)) (hw _ (List.mem_of_getElem? (i := 36) rfl)) (hw _ (List.mem_of_getElem? (i := 60) rfl)) (by decide) (rm9 l Z a0 hw [] b63 wX wD T65.heap n0 (Nat.le_trans (Nat.le_trans (Nat.le_trans (Nat.le_trans (Nat.le_trans (Nat.le_trans Z0 E56.1) (Keep.of_wr W59).1) E60.1) Kq62.1) E63.1) Kq65.1) Fq65 (own_staK ((own_staK (((SD.ext E56).wr W59).ext E60) Kq62 Nsk61).ext E63) Kq65 Nsk64)) rfl (g := (mkF m 140 #[.val (.int p0), .val (.int p1), .val (.long q2), .second, .val (.int p3), .val (.int p4), .val (.int ((p1 &&& (2147483647 : Int32)) % (3 : Int32))), .val (.ref wX), .val (.int (1 : Int32)), .val (.ref b60), .val (.ref b63), .val (.int (1 : Int32))] [(.ref b63)])) rfl (by rw [hml]; rfl) b63 (A63.keep Kq65) [] [] rfl (lenOf pd___Z rfl) rfl 0 (by show 2 * 0 + _ ≤ _; exact Nat.le_of_eq rfl) (hb hby at_140) (by decide) (by decide) (by decide) (by decide)
          obtain ⟨hv66, N66q, e66⟩ := hQ66
          rw [if_neg hXD] at hv66
          subst hv66
          refine own_go st66 ?_
          have N66 := Fr.app N65 N66q
          show own_Ends _ _ _ _ _ _ _ T66 (mkF m 143 #[.val (.int p0), .val (.int p1), .val (.long q2), .second, .val (.int p3), .val (.int p4), .val (.int ((p1 &&& (2147483647 : Int32)) % (3 : Int32))), .val (.ref wX), .val (.int (1 : Int32)), .val (.ref b60), .val (.ref b63), .val (.int (1 : Int32))] [(.int (1 : Int32))])
          refine own_go (fun t_ k_ => XS.iload X66.here hx rfl (hb hby at_143) rfl  k_) ?_
          show own_Ends _ _ _ _ _ _ _ T66 (mkF m 145 #[.val (.int p0), .val (.int p1), .val (.long q2), .second, .val (.int p3), .val (.int p4), .val (.int ((p1 &&& (2147483647 : Int32)) % (3 : Int32))), .val (.ref wX), .val (.int (1 : Int32)), .val (.ref b60), .val (.ref b63), .val (.int (1 : Int32))] [(.int (1 : Int32)), (.int (1 : Int32))])
          refine own_go (fun t_ k_ => XS.icmpNo X66.here hx rfl (hb hby at_145) rfl (teq (by decide : (1 : Int32) = (1 : Int32))).2 k_) ?_
          show own_Ends _ _ _ _ _ _ _ T66 (mkF m 148 #[.val (.int p0), .val (.int p1), .val (.long q2), .second, .val (.int p3), .val (.int p4), .val (.int ((p1 &&& (2147483647 : Int32)) % (3 : Int32))), .val (.ref wX), .val (.int (1 : Int32)), .val (.ref b60), .val (.ref b63), .val (.int (1 : Int32))] [])
          refine own_go (fun t_ k_ => XS.iconst X66.here hx rfl (hb hby at_148) k_) ?_
          show own_Ends _ _ _ _ _ _ _ T66 (mkF m 149 #[.val (.int p0), .val (.int p1), .val (.long q2), .second, .val (.int p3), .val (.int p4), .val (.int ((p1 &&& (2147483647 : Int32)) % (3 : Int32))), .val (.ref wX), .val (.int (1 : Int32)), .val (.ref b60), .val (.ref b63), .val (.int (1 : Int32))] [(.int (1 : Int32))])
          refine own_go (fun t_ k_ => XS.goto X66.here hx rfl (pc0 := 149) (pc' := 153) rfl (hb hby at_149) (by decide) (by decide) k_) ?_
          show own_Ends _ _ _ _ _ _ _ T66 (mkF m 153 #[.val (.int p0), .val (.int p1), .val (.long q2), .second, .val (.int p3), .val (.int p4), .val (.int ((p1 &&& (2147483647 : Int32)) % (3 : Int32))), .val (.ref wX), .val (.int (1 : Int32)), .val (.ref b60), .val (.ref b63), .val (.int (1 : Int32))] [(.int (1 : Int32))])
          refine own_retN X66 hx hlk (t := .boolean) hret (by simp) (hb hby at_153) e66 (by decide) (by decide) ?_
          exact ⟨rfl, N66⟩
        · refine own_go (fun t_ k_ => XS.ifNo X37.here hx rfl (hb hby at_58) rfl ((if0 _ _).trans (feq hc55).1) k_) ?_
          show own_Ends _ _ _ _ _ _ _ T37 (mkF m 61 #[.val (.int p0), .val (.int p1), .val (.long q2), .second, .val (.int p3), .val (.int p4), .val (.int ((p1 &&& (2147483647 : Int32)) % (3 : Int32))), .val (.ref wX), .val (.int (1 : Int32)), .unset, .unset, .unset] [])
          refine own_go (fun t_ k_ => XS.aconstNull X37.here hx rfl (hb hby at_61) k_) ?_
          show own_Ends _ _ _ _ _ _ _ T37 (mkF m 62 #[.val (.int p0), .val (.int p1), .val (.long q2), .second, .val (.int p3), .val (.int p4), .val (.int ((p1 &&& (2147483647 : Int32)) % (3 : Int32))), .val (.ref wX), .val (.int (1 : Int32)), .unset, .unset, .unset] [.null])
          refine own_go (fun t_ k_ => XS.astore X37.here hx rfl (hb hby at_62) rfl rfl (l' := #[.val (.int p0), .val (.int p1), .val (.long q2), .second, .val (.int p3), .val (.int p4), .val (.int ((p1 &&& (2147483647 : Int32)) % (3 : Int32))), .val (.ref wX), .val (.int (1 : Int32)), .val .null, .unset, .unset]) rfl k_) ?_
          show own_Ends _ _ _ _ _ _ _ T37 (mkF m 64 #[.val (.int p0), .val (.int p1), .val (.long q2), .second, .val (.int p3), .val (.int p4), .val (.int ((p1 &&& (2147483647 : Int32)) % (3 : Int32))), .val (.ref wX), .val (.int (1 : Int32)), .val .null, .unset, .unset] [])
          refine own_go (fun t_ k_ => XS.goto X37.here hx rfl (pc0 := 64) (pc' := 94) rfl (hb hby at_64) (by decide) (by decide) k_) ?_
          show own_Ends _ _ _ _ _ _ _ T37 (mkF m 94 #[.val (.int p0), .val (.int p1), .val (.long q2), .second, .val (.int p3), .val (.int p4), .val (.int ((p1 &&& (2147483647 : Int32)) % (3 : Int32))), .val (.ref wX), .val (.int (1 : Int32)), .val .null, .unset, .unset] [])
          obtain ⟨T67, h67, X67, e67, E67, A67, D67, -, st67⟩ := newO X37 hx hZ hown (hw _ (List.mem_of_getElem? (i := 34) rfl)) (hw _ (List.mem_of_getElem? (i := 35) rfl)) (hw _ (List.mem_of_getElem? (i := 36) rfl)) e37 (g := (mkF m 94 #[.val (.int p0), .val (.int p1), .val (.long q2), .second, .val (.int p3), .val (.int p4), .val (.int ((p1 &&& (2147483647 : Int32)) % (3 : Int32))), .val (.ref wX), .val (.int (1 : Int32)), .val .null, .unset, .unset] [])) rfl (hb hby at_94) (by decide) (by decide)
          obtain ⟨b67, g67⟩ : ∃ z, z = h0.size := ⟨_, rfl⟩
          rw [← g67] at A67 D67 st67
          refine own_go st67 ?_
          have g_b67 : n0 ≤ b67 := Nat.le_trans Z0 (Nat.le_of_eq g67.symm)
          have F67_from : Fld Z h67 b67 "com/example/quayside/quayside/RedeliverySchedule$Step" "from" "I" (.int (0 : Int32)) := D67 (Or.inr (hw _ (List.mem_of_getElem? (i := 47) rfl))) (ty := .int) (by decide)
          have F67_action : Fld Z h67 b67 "com/example/quayside/quayside/RedeliverySchedule$Step" "action" "Lcom/example/quayside/quayside/RedeliverySchedule$Action;" .null := D67 (Or.inr (hw _ (List.mem_of_getElem? (i := 49) rfl))) (ty := (.object "com/example/quayside/quayside/RedeliverySchedule$Action")) (by decide)
          have F67_delayMs : Fld Z h67 b67 "com/example/quayside/quayside/RedeliverySchedule$Step" "delayMs" "J" (.long (0 : Int64)) := D67 (Or.inr (hw _ (List.mem_of_getElem? (i := 51) rfl))) (ty := .long) (by decide)
          have F67_topic : Fld Z h67 b67 "com/example/quayside/quayside/RedeliverySchedule$Step" "topic" "Z" (.int (0 : Int32)) := D67 (Or.inr (hw _ (List.mem_of_getElem? (i := 53) rfl))) (ty := .boolean) (by decide)
          have F67_destination : Fld Z h67 b67 "com/example/quayside/quayside/RedeliverySchedule$Step" "destination" "Ljava/lang/String;" .null := D67 (Or.inr (hw _ (List.mem_of_getElem? (i := 55) rfl))) (ty := (.object "java/lang/String")) (by decide)
          show own_Ends _ _ _ _ _ _ _ T67 (mkF m 97 #[.val (.int p0), .val (.int p1), .val (.long q2), .second, .val (.int p3), .val (.int p4), .val (.int ((p1 &&& (2147483647 : Int32)) % (3 : Int32))), .val (.ref wX), .val (.int (1 : Int32)), .val .null, .unset, .unset] [(.ref b67)])
          refine own_go (fun t_ k_ => XS.dup X67.here hx rfl (hb hby at_97) rfl rfl k_) ?_
          show own_Ends _ _ _ _ _ _ _ T67 (mkF m 98 #[.val (.int p0), .val (.int p1), .val (.long q2), .second, .val (.int p3), .val (.int p4), .val (.int ((p1 &&& (2147483647 : Int32)) % (3 : Int32))), .val (.ref wX), .val (.int (1 : Int32)), .val .null, .unset, .unset] [(.ref b67), (.ref b67)])
          refine own_go (fun t_ k_ => XS.iloadN X67.here hx rfl (hb hby at_98) rfl  k_) ?_
          show own_Ends _ _ _ _ _ _ _ T67 (mkF m 99 #[.val (.int p0), .val (.int p1), .val (.long q2), .second, .val (.int p3), .val (.int p4), .val (.int ((p1 &&& (2147483647 : Int32)) % (3 : Int32))), .val (.ref wX), .val (.int (1 : Int32)), .val .null, .unset, .unset] [(.int p0), (.ref b67), (.ref b67)])
          refine own_go (fun t_ k_ => XS.aload X67.here hx rfl (hb hby at_99) rfl rfl  k_) ?_
          show own_Ends _ _ _ _ _ _ _ T67 (mkF m 101 #[.val (.int p0), .val (.int p1), .val (.long q2), .second, .val (.int p3), .val (.int p4), .val (.int ((p1 &&& (2147483647 : Int32)) % (3 : Int32))), .val (.ref wX), .val (.int (1 : Int32)), .val .null, .unset, .unset] [(.ref wX), (.int p0), (.ref b67), (.ref b67)])
          refine own_go (fun t_ k_ => XT.lloadN X67.here hx rfl (hb hby at_101) rfl k_) ?_
          show own_Ends _ _ _ _ _ _ _ T67 (mkF m 102 #[.val (.int p0), .val (.int p1), .val (.long q2), .second, .val (.int p3), .val (.int p4), .val (.int ((p1 &&& (2147483647 : Int32)) % (3 : Int32))), .val (.ref wX), .val (.int (1 : Int32)), .val .null, .unset, .unset] [(.long q2), (.ref wX), (.int p0), (.ref b67), (.ref b67)])
          refine own_go (fun t_ k_ => XS.iload X67.here hx rfl (hb hby at_102) rfl  k_) ?_
          show own_Ends _ _ _ _ _ _ _ T67 (mkF m 104 #[.val (.int p0), .val (.int p1), .val (.long q2), .second, .val (.int p3), .val (.int p4), .val (.int ((p1 &&& (2147483647 : Int32)) % (3 : Int32))), .val (.ref wX), .val (.int (1 : Int32)), .val .null, .unset, .unset] [(.int (1 : Int32)), (.long q2), (.ref wX), (.int p0), (.ref b67), (.ref b67)])
          refine own_go (fun t_ k_ => XS.aload X67.here hx rfl (hb hby at_104) rfl rfl  k_) ?_
          show own_Ends _ _ _ _ _ _ _ T67 (mkF m 106 #[.val (.int p0), .val (.int p1), .val (.long q2), .second, .val (.int p3), .val (.int p4), .val (.int ((p1 &&& (2147483647 : Int32)) % (3 : Int32))), .val (.ref wX), .val (.int (1 : Int32)), .val .null, .unset, .unset] [.null, (.int (1 : Int32)), (.long q2), (.ref wX), (.int p0), (.ref b67), (.ref b67)])
          have Nsk68 : ∀ x ∈ ([b67] : List Addr), ∀ cell : Cell, h67[x]? = some cell → cell.vm.isStatics = false := (nsS (Exa.nostat A67) ns0)
          obtain ⟨T69, v69, L69, X69, hQ69, st69⟩ := own_callN X67 hx hZ (y := (⟨"com/example/quayside/quayside/RedeliverySchedule$Step", "<init>", "(ILcom/example/quayside/quayside/RedeliverySchedule$Action;JZLjava/lang/String;)V"⟩ : MethodName)) rfl hown (hw _ (List.mem_of_getElem? (i := 37) rfl)) (hw _ (List.mem_of_getElem? (i := 38) rfl)) (hw _ (List.mem_of_getElem? (i := 36) rfl)) (hw _ (List.mem_of_getElem? (i := 39) rfl)) (by decide) (rm7 l Z a0 hw [] b67 p0 wX q2 (1 : Int32) .null h67 n0 (Nat.le_trans Z0 E67.1) rfl A67 F67_from F67_action F67_delayMs F67_topic F67_destination g_b67) e67 (g := (mkF m 106 #[.val (.int p0), .val (.int p1), .val (.long q2), .second, .val (.int p3), .val (.int p4), .val (.int ((p1 &&& (2147483647 : Int32)) % (3 : Int32))), .val (.ref wX), .val (.int (1 : Int32)), .val .null, .unset, .unset] [.null, (.int (1 : Int32)), (.long q2), (.ref wX), (.int p0), (.ref b67), (.ref b67)])) rfl (by rw [hml]; rfl) b67 [(.int p0), (.ref wX), (.long q2), (.int (1 : Int32)), .null] [(.ref b67)] rfl (lenOf pd__ILcom_example_quayside_quayside_RedeliverySchedule_Action_JZLjava_lang_String__V rfl) rfl 1 (by show 2 * 0 + _ ≤ _; exact Nat.le_of_eq rfl) (hb hby at_106) (by decide) (by decide) (by decide) (by decide)
          obtain ⟨rfl, N69q, Kq69, Eq69, Fq69⟩ := hQ69
          refine own_go st69 ?_
          have N69 := Fr.app N0 N69q
          show own_Ends _ _ _ _ _ _ _ T69 (mkF m 109 #[.val (.int p0), .val (.int p1), .val (.long q2), .second, .val (.int p3), .val (.int p4), .val (.int ((p1 &&& (2147483647 : Int32)) % (3 : Int32))), .val (.ref wX), .val (.int (1 : Int32)), .val .null, .unset, .unset] [(.ref b67)])
          refine own_go (fun t_ k_ => XS.astore X69.here hx rfl (hb hby at_109) rfl rfl (l' := #[.val (.int p0), .val (.int p1), .val (.long q2), .second, .val (.int p3), .val (.int p4), .val (.int ((p1 &&& (2147483647 : Int32)) % (3 : Int32))), .val (.ref wX), .val (.int (1 : Int32)), .val .null, .val (.ref b67), .unset]) rfl k_) ?_
          show own_Ends _ _ _ _ _ _ _ T69 (mkF m 111 #[.val (.int p0), .val (.int p1), .val (.long q2), .second, .val (.int p3), .val (.int p4), .val (.int ((p1 &&& (2147483647 : Int32)) % (3 : Int32))), .val (.ref wX), .val (.int (1 : Int32)), .val .null, .val (.ref b67), .unset] [])
          refine own_go (fun t_ k_ => XS.iload X69.here hx rfl (hb hby at_111) rfl  k_) ?_
          show own_Ends _ _ _ _ _ _ _ T69 (mkF m 113 #[.val (.int p0), .val (.int p1), .val (.long q2), .second, .val (.int p3), .val (.int p4), .val (.int ((p1 &&& (2147483647 : Int32)) % (3 : Int32))), .val (.ref wX), .val (.int (1 : Int32)), .val .null, .val (.ref b67), .unset] [(.int ((p1 &&& (2147483647 : Int32)) % (3 : Int32)))])
          refine own_go (fun t_ k_ => XS.iconst X69.here hx rfl (hb hby at_113) k_) ?_
          show own_Ends _ _ _ _ _ _ _ T69 (mkF m 114 #[.val (.int p0), .val (.int p1), .val (.long q2), .second, .val (.int p3), .val (.int p4), .val (.int ((p1 &&& (2147483647 : Int32)) % (3 : Int32))), .val (.ref wX), .val (.int (1 : Int32)), .val .null, .val (.ref b67), .unset] [(.int (1 : Int32)), (.int ((p1 &&& (2147483647 : Int32)) % (3 : Int32)))])
          refine own_go (fun t_ k_ => XS.icmpNo X69.here hx rfl (hb hby at_114) rfl (teq hc36).2 k_) ?_
          show own_Ends _ _ _ _ _ _ _ T69 (mkF m 117 #[.val (.int p0), .val (.int p1), .val (.long q2), .second, .val (.int p3), .val (.int p4), .val (.int ((p1 &&& (2147483647 : Int32)) % (3 : Int32))), .val (.ref wX), .val (.int (1 : Int32)), .val .null, .val (.ref b67), .unset] [])
          refine own_go (fun t_ k_ => XS.iconst X69.here hx rfl (hb hby at_117) k_) ?_
          show own_Ends _ _ _ _ _ _ _ T69 (mkF m 118 #[.val (.int p0), .val (.int p1), .val (.long q2), .second, .val (.int p3), .val (.int p4), .val (.int ((p1 &&& (2147483647 : Int32)) % (3 : Int32))), .val (.ref wX), .val (.int (1 : Int32)), .val .null, .val (.ref b67), .unset] [(.int (1 : Int32))])
          refine own_go (fun t_ k_ => XS.istore X69.here hx rfl (hb hby at_118) rfl (l' := #[.val (.int p0), .val (.int p1), .val (.long q2), .second, .val (.int p3), .val (.int p4), .val (.int ((p1 &&& (2147483647 : Int32)) % (3 : Int32))), .val (.ref wX), .val (.int (1 : Int32)), .val .null, .val (.ref b67), .val (.int (1 : Int32))]) rfl k_) ?_
          show own_Ends _ _ _ _ _ _ _ T69 (mkF m 120 #[.val (.int p0), .val (.int p1), .val (.long q2), .second, .val (.int p3), .val (.int p4), .val (.int ((p1 &&& (2147483647 : Int32)) % (3 : Int32))), .val (.ref wX), .val (.int (1 : Int32)), .val .null, .val (.ref b67), .val (.int (1 : Int32))] [])
          refine own_go (fun t_ k_ => XS.goto X69.here hx rfl (pc0 := 120) (pc' := 138) rfl (hb hby at_120) (by decide) (by decide) k_) ?_
          show own_Ends _ _ _ _ _ _ _ T69 (mkF m 138 #[.val (.int p0), .val (.int p1), .val (.long q2), .second, .val (.int p3), .val (.int p4), .val (.int ((p1 &&& (2147483647 : Int32)) % (3 : Int32))), .val (.ref wX), .val (.int (1 : Int32)), .val .null, .val (.ref b67), .val (.int (1 : Int32))] [])
          refine own_go (fun t_ k_ => XS.aload X69.here hx rfl (hb hby at_138) rfl rfl  k_) ?_
          show own_Ends _ _ _ _ _ _ _ T69 (mkF m 140 #[.val (.int p0), .val (.int p1), .val (.long q2), .second, .val (.int p3), .val (.int p4), .val (.int ((p1 &&& (2147483647 : Int32)) % (3 : Int32))), .val (.ref wX), .val (.int (1 : Int32)), .val .null, .val (.ref b67), .val (.int (1 : Int32))] [(.ref b67)])
          obtain ⟨T70, v70, L70, X70, hQ70, st70⟩ := own_callV X69 hx hZ (y := (⟨"com/example/quayside/quayside/RedeliverySchedule$Step", "removes", "()Z"⟩ : MethodName)) (z := (⟨"com/example/quayside/quayside/RedeliverySchedule$Step", "removes", "()Z"⟩ : MethodName)) hown (hw _ (List.mem_of_getElem? (i := 56) rfl)) (hw _ (List.mem_of_getElem? (i := 57) rfl)) (notFace_of_selects (args := #[]) (mvT hZ (hw _ (List.mem_of_getElem? (i := 59) rfl)))) (hw _ (List.mem_of_getElem? (i := 59) rfl)) (hw _ (List.mem_of_getElem? (i := 58) rfl)) (hw _ (List.mem_of_getElem? (i := 36) rfl)) (hw _ (List.mem_of_getElem? (i := 60) rfl)) (by decide) (rm9 l Z a0 hw [] b67 wX wD T69.heap n0 (Nat.le_trans (Nat.le_trans Z0 E67.1) Kq69.1) Fq69 (own_staK (SD.ext E67) Kq69 Nsk68)) rfl (g := (mkF m 140 #[.val (.int p0), .val (.int p1), .val (.long q2), .second, .val (.int p3), .val (.int p4), .val (.int ((p1 &&& (2147483647 : Int32)) % (3 : Int32))), .val (.ref wX), .val (.int (1 : Int32)), .val .null, .val (.ref b67), .val (.int (1 : Int32))] [(.ref b67)])) rfl (by rw [hml]; rfl) b67 (A67.keep Kq69) [] [] rfl (lenOf pd___Z rfl) rfl 0 (by show 2 * 0 + _ ≤ _; exact Nat.le_of_eq rfl) (hb hby at_140) (by decide) (by decide) (by decide) (by decide)
          obtain ⟨hv70, N70q, e70⟩ := hQ70
          rw [if_neg hXD] at hv70
          subst hv70
          refine own_go st70 ?_
          have N70 := Fr.app N69 N70q
          show own_Ends _ _ _ _ _ _ _ T70 (mkF m 143 #[.val (.int p0), .val (.int p1), .val (.long q2), .second, .val (.int p3), .val (.int p4), .val (.int ((p1 &&& (2147483647 : Int32)) % (3 : Int32))), .val (.ref wX), .val (.int (1 : Int32)), .val .null, .val (.ref b67), .val (.int (1 : Int32))] [(.int (1 : Int32))])
          refine own_go (fun t_ k_ => XS.iload X70.here hx rfl (hb hby at_143) rfl  k_) ?_
          show own_Ends _ _ _ _ _ _ _ T70 (mkF m 145 #[.val (.int p0), .val (.int p1), .val (.long q2), .second, .val (.int p3), .val (.int p4), .val (.int ((p1 &&& (2147483647 : Int32)) % (3 : Int32))), .val (.ref wX), .val (.int (1 : Int32)), .val .null, .val (.ref b67), .val (.int (1 : Int32))] [(.int (1 : Int32)), (.int (1 : Int32))])
          refine own_go (fun t_ k_ => XS.icmpNo X70.here hx rfl (hb hby at_145) rfl (teq (by decide : (1 : Int32) = (1 : Int32))).2 k_) ?_
          show own_Ends _ _ _ _ _ _ _ T70 (mkF m 148 #[.val (.int p0), .val (.int p1), .val (.long q2), .second, .val (.int p3), .val (.int p4), .val (.int ((p1 &&& (2147483647 : Int32)) % (3 : Int32))), .val (.ref wX), .val (.int (1 : Int32)), .val .null, .val (.ref b67), .val (.int (1 : Int32))] [])
          refine own_go (fun t_ k_ => XS.iconst X70.here hx rfl (hb hby at_148) k_) ?_
          show own_Ends _ _ _ _ _ _ _ T70 (mkF m 149 #[.val (.int p0), .val (.int p1), .val (.long q2), .second, .val (.int p3), .val (.int p4), .val (.int ((p1 &&& (2147483647 : Int32)) % (3 : Int32))), .val (.ref wX), .val (.int (1 : Int32)), .val .null, .val (.ref b67), .val (.int (1 : Int32))] [(.int (1 : Int32))])
          refine own_go (fun t_ k_ => XS.goto X70.here hx rfl (pc0 := 149) (pc' := 153) rfl (hb hby at_149) (by decide) (by decide) k_) ?_
          show own_Ends _ _ _ _ _ _ _ T70 (mkF m 153 #[.val (.int p0), .val (.int p1), .val (.long q2), .second, .val (.int p3), .val (.int p4), .val (.int ((p1 &&& (2147483647 : Int32)) % (3 : Int32))), .val (.ref wX), .val (.int (1 : Int32)), .val .null, .val (.ref b67), .val (.int (1 : Int32))] [(.int (1 : Int32))])
          refine own_retN X70 hx hlk (t := .boolean) hret (by simp) (hb hby at_153) e70 (by decide) (by decide) ?_
          exact ⟨rfl, N70⟩
    · refine own_go (fun t_ k_ => XS.icmpYes X0.here hx rfl (pc0 := 24) (pc' := 35) rfl (hb hby at_24) rfl (feq hc36).2 (by decide) (by decide) k_) ?_
      show own_Ends _ _ _ _ _ _ _ s₁ (mkF m 35 #[.val (.int p0), .val (.int p1), .val (.long q2), .second, .val (.int p3), .val (.int p4), .val (.int ((p1 &&& (2147483647 : Int32)) % (3 : Int32))), .unset, .unset, .unset, .unset, .unset] [])
      obtain ⟨T71, X71, e71, st71⟩ := getS2 X0 hx hZ hown (host := "") (Or.inl (hw _ (List.mem_of_getElem? (i := 64) rfl))) Via.refl e0 SM (g := (mkF m 35 #[.val (.int p0), .val (.int p1), .val (.long q2), .second, .val (.int p3), .val (.int p4), .val (.int ((p1 &&& (2147483647 : Int32)) % (3 : Int32))), .unset, .unset, .unset, .unset, .unset] [])) rfl (hb hby at_35)
      refine own_go st71 ?_
      show own_Ends _ _ _ _ _ _ _ T71 (mkF m 38 #[.val (.int p0), .val (.int p1), .val (.long q2), .second, .val (.int p3), .val (.int p4), .val (.int ((p1 &&& (2147483647 : Int32)) % (3 : Int32))), .unset, .unset, .unset, .unset, .unset] [(.ref wM)])
      refine own_go (fun t_ k_ => XS.astore X71.here hx rfl (hb hby at_38) rfl rfl (l' := #[.val (.int p0), .val (.int p1), .val (.long q2), .second, .val (.int p3), .val (.int p4), .val (.int ((p1 &&& (2147483647 : Int32)) % (3 : Int32))), .val (.ref wM), .unset, .unset, .unset, .unset]) rfl k_) ?_
      show own_Ends _ _ _ _ _ _ _ T71 (mkF m 40 #[.val (.int p0), .val (.int p1), .val (.long q2), .second, .val (.int p3), .val (.int p4), .val (.int ((p1 &&& (2147483647 : Int32)) % (3 : Int32))), .val (.ref wM), .unset, .unset, .unset, .unset] [])
      refine own_go (fun t_ k_ => XS.iload X71.here hx rfl (hb hby at_40) rfl  k_) ?_
      show own_Ends _ _ _ _ _ _ _ T71 (mkF m 42 #[.val (.int p0), .val (.int p1), .val (.long q2), .second, .val (.int p3), .val (.int p4), .val (.int ((p1 &&& (2147483647 : Int32)) % (3 : Int32))), .val (.ref wM), .unset, .unset, .unset, .unset] [(.int p3)])
      refine own_go (fun t_ k_ => XS.iconst X71.here hx rfl (hb hby at_42) k_) ?_
      show own_Ends _ _ _ _ _ _ _ T71 (mkF m 43 #[.val (.int p0), .val (.int p1), .val (.long q2), .second, .val (.int p3), .val (.int p4), .val (.int ((p1 &&& (2147483647 : Int32)) % (3 : Int32))), .val (.ref wM), .unset, .unset, .unset, .unset] [(.int (1 : Int32)), (.int p3)])
      refine own_go (fun t_ k_ => XS.iand X71.here hx rfl (hb hby at_43) rfl k_) ?_
      show own_Ends _ _ _ _ _ _ _ T71 (mkF m 44 #[.val (.int p0), .val (.int p1), .val (.long q2), .second, .val (.int p3), .val (.int p4), .val (.int ((p1 &&& (2147483647 : Int32)) % (3 : Int32))), .val (.ref wM), .unset, .unset, .unset, .unset] [(.int (p3 &&& (1 : Int32)))])
      by_cases hc72 : (p3 &&& (1 : Int32)) = (0 : Int32)
      · refine own_go (fun t_ k_ => XS.ifYes X71.here hx rfl (pc0 := 44) (pc' := 51) rfl (hb hby at_44) rfl ((if0 _ _).trans (teq hc72).1) (by decide) (by decide) k_) ?_
        show own_Ends _ _ _ _ _ _ _ T71 (mkF m 51 #[.val (.int p0), .val (.int p1), .val (.long q2), .second, .val (.int p3), .val (.int p4), .val (.int ((p1 &&& (2147483647 : Int32)) % (3 : Int32))), .val (.ref wM), .unset, .unset, .unset, .unset] [])
        refine own_go (fun t_ k_ => XS.iconst X71.here hx rfl (hb hby at_51) k_) ?_
        show own_Ends _ _ _ _ _ _ _ T71 (mkF m 52 #[.val (.int p0), .val (.int p1), .val (.long q2), .second, .val (.int p3), .val (.int p4), .val (.int ((p1 &&& (2147483647 : Int32)) % (3 : Int32))), .val (.ref wM), .unset, .unset, .unset, .unset] [(.int (0 : Int32))])
        refine own_go (fun t_ k_ => XS.istore X71.here hx rfl (hb hby at_52) rfl (l' := #[.val (.int p0), .val (.int p1), .val (.long q2), .second, .val (.int p3), .val (.int p4), .val (.int ((p1 &&& (2147483647 : Int32)) % (3 : Int32))), .val (.ref wM), .val (.int (0 : Int32)), .unset, .unset, .unset]) rfl k_) ?_
        show own_Ends _ _ _ _ _ _ _ T71 (mkF m 54 #[.val (.int p0), .val (.int p1), .val (.long q2), .second, .val (.int p3), .val (.int p4), .val (.int ((p1 &&& (2147483647 : Int32)) % (3 : Int32))), .val (.ref wM), .val (.int (0 : Int32)), .unset, .unset, .unset] [])
        refine own_go (fun t_ k_ => XS.iload X71.here hx rfl (hb hby at_54) rfl  k_) ?_
        show own_Ends _ _ _ _ _ _ _ T71 (mkF m 56 #[.val (.int p0), .val (.int p1), .val (.long q2), .second, .val (.int p3), .val (.int p4), .val (.int ((p1 &&& (2147483647 : Int32)) % (3 : Int32))), .val (.ref wM), .val (.int (0 : Int32)), .unset, .unset, .unset] [(.int p3)])
        refine own_go (fun t_ k_ => XS.iconst X71.here hx rfl (hb hby at_56) k_) ?_
        show own_Ends _ _ _ _ _ _ _ T71 (mkF m 57 #[.val (.int p0), .val (.int p1), .val (.long q2), .second, .val (.int p3), .val (.int p4), .val (.int ((p1 &&& (2147483647 : Int32)) % (3 : Int32))), .val (.ref wM), .val (.int (0 : Int32)), .unset, .unset, .unset] [(.int (2 : Int32)), (.int p3)])
        refine own_go (fun t_ k_ => XS.iand X71.here hx rfl (hb hby at_57) rfl k_) ?_
        show own_Ends _ _ _ _ _ _ _ T71 (mkF m 58 #[.val (.int p0), .val (.int p1), .val (.long q2), .second, .val (.int p3), .val (.int p4), .val (.int ((p1 &&& (2147483647 : Int32)) % (3 : Int32))), .val (.ref wM), .val (.int (0 : Int32)), .unset, .unset, .unset] [(.int (p3 &&& (2 : Int32)))])
        by_cases hc73 : (p3 &&& (2 : Int32)) = (0 : Int32)
        · refine own_go (fun t_ k_ => XS.ifYes X71.here hx rfl (pc0 := 58) (pc' := 67) rfl (hb hby at_58) rfl ((if0 _ _).trans (teq hc73).1) (by decide) (by decide) k_) ?_
          show own_Ends _ _ _ _ _ _ _ T71 (mkF m 67 #[.val (.int p0), .val (.int p1), .val (.long q2), .second, .val (.int p3), .val (.int p4), .val (.int ((p1 &&& (2147483647 : Int32)) % (3 : Int32))), .val (.ref wM), .val (.int (0 : Int32)), .unset, .unset, .unset] [])
          refine own_go (fun t_ k_ => XS.iconst X71.here hx rfl (hb hby at_67) k_) ?_
          show own_Ends _ _ _ _ _ _ _ T71 (mkF m 68 #[.val (.int p0), .val (.int p1), .val (.long q2), .second, .val (.int p3), .val (.int p4), .val (.int ((p1 &&& (2147483647 : Int32)) % (3 : Int32))), .val (.ref wM), .val (.int (0 : Int32)), .unset, .unset, .unset] [(.int (1 : Int32))])
          obtain ⟨T74, h74, k74, X74, e74, E74, A74, st74⟩ := newP X71 hx hZ (hw _ (List.mem_of_getElem? (i := 4) rfl)) e71 (g := (mkF m 68 #[.val (.int p0), .val (.int p1), .val (.long q2), .second, .val (.int p3), .val (.int p4), .val (.int ((p1 &&& (2147483647 : Int32)) % (3 : Int32))), .val (.ref wM), .val (.int (0 : Int32)), .unset, .unset, .unset] [(.int (1 : Int32))])) rfl (hb hby at_68) rfl (by decide) (cap := 1) (by decide) (by decide) (by decide) (by decide)
          obtain ⟨b74, g74⟩ : ∃ z, z = h0.size := ⟨_, rfl⟩
          rw [← g74] at A74 st74
          refine own_go st74 ?_
          have V74 : Arv Z h74 b74 k74 .char (1 : Int32) [(.int (0 : Int32))] (.int (0 : Int32)) := (Arv.new A74 (by decide)).pad (pad_rep [] (.int (0 : Int32)) 1)
          have g_b74 : n0 ≤ b74 := Nat.le_trans Z0 (Nat.le_of_eq g74.symm)
          show own_Ends _ _ _ _ _ _ _ T74 (mkF m 70 #[.val (.int p0), .val (.int p1), .val (.long q2), .second, .val (.int p3), .val (.int p4), .val (.int ((p1 &&& (2147483647 : Int32)) % (3 : Int32))), .val (.ref wM), .val (.int (0 : Int32)), .unset, .unset, .unset] [(.ref b74)])
          refine own_go (fun t_ k_ => XS.astore X74.here hx rfl (hb hby at_70) rfl rfl (l' := #[.val (.int p0), .val (.int p1), .val (.long q2), .second, .val (.int p3), .val (.int p4), .val (.int ((p1 &&& (2147483647 : Int32)) % (3 : Int32))), .val (.ref wM), .val (.int (0 : Int32)), .unset, .val (.ref b74), .unset]) rfl k_) ?_
          show own_Ends _ _ _ _ _ _ _ T74 (mkF m 72 #[.val (.int p0), .val (.int p1), .val (.long q2), .second, .val (.int p3), .val (.int p4), .val (.int ((p1 &&& (2147483647 : Int32)) % (3 : Int32))), .val (.ref wM), .val (.int (0 : Int32)), .unset, .val (.ref b74), .unset] [])
          refine own_go (fun t_ k_ => XS.aload X74.here hx rfl (hb hby at_72) rfl rfl  k_) ?_
          show own_Ends _ _ _ _ _ _ _ T74 (mkF m 74 #[.val (.int p0), .val (.int p1), .val (.long q2), .second, .val (.int p3), .val (.int p4), .val (.int ((p1 &&& (2147483647 : Int32)) % (3 : Int32))), .val (.ref wM), .val (.int (0 : Int32)), .unset, .val (.ref b74), .unset] [(.ref b74)])
          refine own_go (fun t_ k_ => XS.iconst X74.here hx rfl (hb hby at_74) k_) ?_
          show own_Ends _ _ _ _ _ _ _ T74 (mkF m 75 #[.val (.int p0), .val (.int p1), .val (.long q2), .second, .val (.int p3), .val (.int p4), .val (.int ((p1 &&& (2147483647 : Int32)) % (3 : Int32))), .val (.ref wM), .val (.int (0 : Int32)), .unset, .val (.ref b74), .unset] [(.int (0 : Int32)), (.ref b74)])
          refine own_go (fun t_ k_ => XS.iload X74.here hx rfl (hb hby at_75) rfl  k_) ?_
          show own_Ends _ _ _ _ _ _ _ T74 (mkF m 77 #[.val (.int p0), .val (.int p1), .val (.long q2), .second, .val (.int p3), .val (.int p4), .val (.int ((p1 &&& (2147483647 : Int32)) % (3 : Int32))), .val (.ref wM), .val (.int (0 : Int32)), .unset, .val (.ref b74), .unset] [(.int p4), (.int (0 : Int32)), (.ref b74)])
          refine own_go (fun t_ k_ => XS.sipush X74.here hx rfl (hb hby at_77) k_) ?_
          show own_Ends _ _ _ _ _ _ _ T74 (mkF m 80 #[.val (.int p0), .val (.int p1), .val (.long q2), .second, .val (.int p3), .val (.int p4), .val (.int ((p1 &&& (2147483647 : Int32)) % (3 : Int32))), .val (.ref wM), .val (.int (0 : Int32)), .unset, .val (.ref b74), .unset] [(.int (255 : Int32)), (.int p4), (.int (0 : Int32)), (.ref b74)])
          refine own_go (fun t_ k_ => XS.iand X74.here hx rfl (hb hby at_80) rfl k_) ?_
          show own_Ends _ _ _ _ _ _ _ T74 (mkF m 81 #[.val (.int p0), .val (.int p1), .val (.long q2), .second, .val (.int p3), .val (.int p4), .val (.int ((p1 &&& (2147483647 : Int32)) % (3 : Int32))), .val (.ref wM), .val (.int (0 : Int32)), .unset, .val (.ref b74), .unset] [(.int (p4 &&& (255 : Int32))), (.int (0 : Int32)), (.ref b74)])
          refine own_go (fun t_ k_ => XT.i2c X74.here hx rfl (hb hby at_81) rfl k_) ?_
          show own_Ends _ _ _ _ _ _ _ T74 (mkF m 82 #[.val (.int p0), .val (.int p1), .val (.long q2), .second, .val (.int p3), .val (.int p4), .val (.int ((p1 &&& (2147483647 : Int32)) % (3 : Int32))), .val (.ref wM), .val (.int (0 : Int32)), .unset, .val (.ref b74), .unset] [(.int ((p4 &&& (255 : Int32)).toUInt32.toUInt16.toUInt32.toInt32)), (.int (0 : Int32)), (.ref b74)])
          obtain ⟨cl76, Ar76, q76, S76, Ng76, Hs76, G76⟩ := (id V74)
          obtain ⟨T77, h77, X77, e77, W77, st77⟩ := stC X74 hx hZ e74 Ar76 (j := (0 : Int32)) (inb_of S76 ⟨by decide, by decide⟩) (g := (mkF m 82 #[.val (.int p0), .val (.int p1), .val (.long q2), .second, .val (.int p3), .val (.int p4), .val (.int ((p1 &&& (2147483647 : Int32)) % (3 : Int32))), .val (.ref wM), .val (.int (0 : Int32)), .unset, .val (.ref b74), .unset] [(.int ((p4 &&& (255 : Int32)).toUInt32.toUInt16.toUInt32.toInt32)), (.int (0 : Int32)), (.ref b74)])) rfl rfl (hb hby at_82)
          refine own_go st77 ?_
          have V77 : Arv Z h77 b74 k74 .char (1 : Int32) [(.int (nar .char ((p4 &&& (255 : Int32)).toUInt32.toUInt16.toUInt32.toInt32)))] (.int (0 : Int32)) := Arv.set Ar76 q76 S76 Ng76 Hs76 G76 (fits_nar_char _) W77 0 rfl (Nat.le_of_ble_eq_true rfl)
          have N77 := Fr.snoc X77 N0 g_b74
          show own_Ends _ _ _ _ _ _ _ T77 (mkF m 83 #[.val (.int p0), .val (.int p1), .val (.long q2), .second, .val (.int p3), .val (.int p4), .val (.int ((p1 &&& (2147483647 : Int32)) % (3 : Int32))), .val (.ref wM), .val (.int (0 : Int32)), .unset, .val (.ref b74), .unset] [])
          obtain ⟨T78, h78, X78, e78, E78, A78, D78, -, st78⟩ := newO X77 hx hZ hown (hw _ (List.mem_of_getElem? (i := 5) rfl)) (hw _ (List.mem_of_getElem? (i := 6) rfl)) (hw _ (List.mem_of_getElem? (i := 7) rfl)) e77 (g := (mkF m 83 #[.val (.int p0), .val (.int p1), .val (.long q2), .second, .val (.int p3), .val (.int p4), .val (.int ((p1 &&& (2147483647 : Int32)) % (3 : Int32))), .val (.ref wM), .val (.int (0 : Int32)), .unset, .val (.ref b74), .unset] [])) rfl (hb hby at_83) (by decide) (by decide)
          obtain ⟨b78, g78⟩ : ∃ z, z = h77.size := ⟨_, rfl⟩
          rw [← g78] at A78 D78 st78
          refine own_go st78 ?_
          have g_b78 : n0 ≤ b78 := Nat.le_trans (Nat.le_trans (Nat.le_trans Z0 E74.1) (Keep.of_wr W77).1) (Nat.le_of_eq g78.symm)
          have F78_coder : Fld Z h78 b78 "java/lang/String" "coder" "B" (.int (0 : Int32)) := D78 (Or.inr (hw _ (List.mem_of_getElem? (i := 31) rfl))) (ty := .byte) (by decide)
          have F78_value : Fld Z h78 b78 "java/lang/String" "value" "[B" .null := D78 (Or.inr (hw _ (List.mem_of_getElem? (i := 33) rfl))) (ty := (.array .byte)) (by decide)
          show own_Ends _ _ _ _ _ _ _ T78 (mkF m 86 #[.val (.int p0), .val (.int p1), .val (.long q2), .second, .val (.int p3), .val (.int p4), .val (.int ((p1 &&& (2147483647 : Int32)) % (3 : Int32))), .val (.ref wM), .val (.int (0 : Int32)), .unset, .val (.ref b74), .unset] [(.ref b78)])
          refine own_go (fun t_ k_ => XS.dup X78.here hx rfl (hb hby at_86) rfl rfl k_) ?_
          show own_Ends _ _ _ _ _ _ _ T78 (mkF m 87 #[.val (.int p0), .val (.int p1), .val (.long q2), .second, .val (.int p3), .val (.int p4), .val (.int ((p1 &&& (2147483647 : Int32)) % (3 : Int32))), .val (.ref wM), .val (.int (0 : Int32)), .unset, .val (.ref b74), .unset] [(.ref b78), (.ref b78)])
          refine own_go (fun t_ k_ => XS.aload X78.here hx rfl (hb hby at_87) rfl rfl  k_) ?_
          show own_Ends _ _ _ _ _ _ _ T78 (mkF m 89 #[.val (.int p0), .val (.int p1), .val (.long q2), .second, .val (.int p3), .val (.int p4), .val (.int ((p1 &&& (2147483647 : Int32)) % (3 : Int32))), .val (.ref wM), .val (.int (0 : Int32)), .unset, .val (.ref b74), .unset] [(.ref b74), (.ref b78), (.ref b78)])
          have hlat : ∀ c ∈ [(nar .char ((p4 &&& (255 : Int32)).toUInt32.toUInt16.toUInt32.toInt32))], ¬ c < 0 ∧ ¬ (255 : Int32) < c := own_lat1 _
          have Nsk79 : ∀ x ∈ ([b78] : List Addr), ∀ cell : Cell, h78[x]? = some cell → cell.vm.isStatics = false := (nsS (Exa.nostat A78) ns0)
          obtain ⟨T80, v80, L80, X80, hQ80, st80⟩ := own_callNB X78 hx hZ (y := (⟨"java/lang/String", "<init>", "([C)V"⟩ : MethodName)) (rc := 1) (rs := 1) rfl hown (hw _ (List.mem_of_getElem? (i := 8) rfl)) (hw _ (List.mem_of_getElem? (i := 9) rfl)) (hw _ (List.mem_of_getElem? (i := 10) rfl)) (by decide) (StrChars.Road.backV (W := 1) hZ (fun d hd => hw d (own_sub d hd)) (kI := 4) (hw _ (List.mem_of_getElem? (i := 6) rfl)) (cs := [(nar .char ((p4 &&& (255 : Int32)).toUInt32.toUInt16.toUInt32.toInt32))]) (bs := [((nar .char ((p4 &&& (255 : Int32)).toUInt32.toUInt16.toUInt32.toInt32))).toInt8.toInt32]) (n := 1) g_b78 (Nat.le_trans (Nat.le_trans (Nat.le_trans Z0 E74.1) (Keep.of_wr W77).1) E78.1) A78 F78_value F78_coder (V77.ext E78) (((SC.ext E74).wr W77).ext E78) hzc rfl rfl (by decide) (by decide) hlat rfl (by decide) (by decide)) e78 (g := (mkF m 89 #[.val (.int p0), .val (.int p1), .val (.long q2), .second, .val (.int p3), .val (.int p4), .val (.int ((p1 &&& (2147483647 : Int32)) % (3 : Int32))), .val (.ref wM), .val (.int (0 : Int32)), .unset, .val (.ref b74), .unset] [(.ref b74), (.ref b78), (.ref b78)])) rfl (by rw [hml]; rfl) b78 [(.ref b74)] [(.ref b78)] rfl (lenOf pd___C_V rfl) rfl (by show 2 * 0 + _ ≤ _; exact Nat.le_of_eq rfl) (hb hby at_89) (by decide) (by decide)
          obtain ⟨rfl, N80q, Kq80, Eq80, Cq80, t80, kb80, -, -, -, -, -⟩ := hQ80
          refine own_go st80 ?_
          have N80 := Fr.app N77 N80q
          show own_Ends _ _ _ _ _ _ _ T80 (mkF m 92 #[.val (.int p0), .val (.int p1), .val (.long q2), .second, .val (.int p3), .val (.int p4), .val (.int ((p1 &&& (2147483647 : Int32)) % (3 : Int32))), .val (.ref wM), .val (.int (0 : Int32)), .unset, .val (.ref b74), .unset] [(.ref b78)])
          refine own_go (fun t_ k_ => XS.astore X80.here hx rfl (hb hby at_92) rfl rfl (l' := #[.val (.int p0), .val (.int p1), .val (.long q2), .second, .val (.int p3), .val (.int p4), .val (.int ((p1 &&& (2147483647 : Int32)) % (3 : Int32))), .val (.ref wM), .val (.int (0 : Int32)), .val (.ref b78), .val (.ref b74), .unset]) rfl k_) ?_
          show own_Ends _ _ _ _ _ _ _ T80 (mkF m 94 #[.val (.int p0), .val (.int p1), .val (.long q2), .second, .val (.int p3), .val (.int p4), .val (.int ((p1 &&& (2147483647 : Int32)) % (3 : Int32))), .val (.ref wM), .val (.int (0 : Int32)), .val (.ref b78), .val (.ref b74), .unset] [])
          obtain ⟨T81, h81, X81, e81, E81, A81, D81, -, st81⟩ := newO X80 hx hZ hown (hw _ (List.mem_of_getElem? (i := 34) rfl)) (hw _ (List.mem_of_getElem? (i := 35) rfl)) (hw _ (List.mem_of_getElem? (i := 36) rfl)) rfl (g := (mkF m 94 #[.val (.int p0), .val (.int p1), .val (.long q2), .second, .val (.int p3), .val (.int p4), .val (.int ((p1 &&& (2147483647 : Int32)) % (3 : Int32))), .val (.ref wM), .val (.int (0 : Int32)), .val (.ref b78), .val (.ref b74), .unset] [])) rfl (hb hby at_94) (by decide) (by decide)
          obtain ⟨b81, g81⟩ : ∃ z, z = T80.heap.size := ⟨_, rfl⟩
          rw [← g81] at A81 D81 st81
          refine own_go st81 ?_
          have g_b81 : n0 ≤ b81 := Nat.le_trans (Nat.le_trans (Nat.le_trans (Nat.le_trans (Nat.le_trans Z0 E74.1) (Keep.of_wr W77).1) E78.1) Kq80.1) (Nat.le_of_eq g81.symm)
          have F81_from : Fld Z h81 b81 "com/example/quayside/quayside/RedeliverySchedule$Step" "from" "I" (.int (0 : Int32)) := D81 (Or.inr (hw _ (List.mem_of_getElem? (i := 47) rfl))) (ty := .int) (by decide)
          have F81_action : Fld Z h81 b81 "com/example/quayside/quayside/RedeliverySchedule$Step" "action" "Lcom/example/quayside/quayside/RedeliverySchedule$Action;" .null := D81 (Or.inr (hw _ (List.mem_of_getElem? (i := 49) rfl))) (ty := (.object "com/example/quayside/quayside/RedeliverySchedule$Action")) (by decide)
          have F81_delayMs : Fld Z h81 b81 "com/example/quayside/quayside/RedeliverySchedule$Step" "delayMs" "J" (.long (0 : Int64)) := D81 (Or.inr (hw _ (List.mem_of_getElem? (i := 51) rfl))) (ty := .long) (by decide)
          have F81_topic : Fld Z h81 b81 "com/example/quayside/quayside/RedeliverySchedule$Step" "topic" "Z" (.int (0 : Int32)) := D81 (Or.inr (hw _ (List.mem_of_getElem? (i := 53) rfl))) (ty := .boolean) (by decide)
          have F81_destination : Fld Z h81 b81 "com/example/quayside/quayside/RedeliverySchedule$Step" "destination" "Ljava/lang/String;" .null := D81 (Or.inr (hw _ (List.mem_of_getElem? (i := 55) rfl))) (ty := (.object "java/lang/String")) (by decide)
          show own_Ends _ _ _ _ _ _ _ T81 (mkF m 97 #[.val (.int p0), .val (.int p1), .val (.long q2), .second, .val (.int p3), .val (.int p4), .val (.int ((p1 &&& (2147483647 : Int32)) % (3 : Int32))), .val (.ref wM), .val (.int (0 : Int32)), .val (.ref b78), .val (.ref b74), .unset] [(.ref b81)])
          refine own_go (fun t_ k_ => XS.dup X81.here hx rfl (hb hby at_97) rfl rfl k_) ?_
          show own_Ends _ _ _ _ _ _ _ T81 (mkF m 98 #[.val (.int p0), .val (.int p1), .val (.long q2), .second, .val (.int p3), .val (.int p4), .val (.int ((p1 &&& (2147483647 : Int32)) % (3 : Int32))), .val (.ref wM), .val (.int (0 : Int32)), .val (.ref b78), .val (.ref b74), .unset] [(.ref b81), (.ref b81)])
          refine own_go (fun t_ k_ => XS.iloadN X81.here hx rfl (hb hby at_98) rfl  k_) ?_
          show own_Ends _ _ _ _ _ _ _ T81 (mkF m 99 #[.val (.int p0), .val (.int p1), .val (.long q2), .second, .val (.int p3), .val (.int p4), .val (.int ((p1 &&& (2147483647 : Int32)) % (3 : Int32))), .val (.ref wM), .val (.int (0 : Int32)), .val (.ref b78), .val (.ref b74), .unset] [(.int p0), (.ref b81), (.ref b81)])
          refine own_go (fun t_ k_ => XS.aload X81.here hx rfl (hb hby at_99) rfl rfl  k_) ?_
          show own_Ends _ _ _ _ _ _ _ T81 (mkF m 101 #[.val (.int p0), .val (.int p1), .val (.long q2), .second, .val (.int p3), .val (.int p4), .val (.int ((p1 &&& (2147483647 : Int32)) % (3 : Int32))), .val (.ref wM), .val (.int (0 : Int32)), .val (.ref b78), .val (.ref b74), .unset] [(.ref wM), (.int p0), (.ref b81), (.ref b81)])
          refine own_go (fun t_ k_ => XT.lloadN X81.here hx rfl (hb hby at_101) rfl k_) ?_
          show own_Ends _ _ _ _ _ _ _ T81 (mkF m 102 #[.val (.int p0), .val (.int p1), .val (.long q2), .second, .val (.int p3), .val (.int p4), .val (.int ((p1 &&& (2147483647 : Int32)) % (3 : Int32))), .val (.ref wM), .val (.int (0 : Int32)), .val (.ref b78), .val (.ref b74), .unset] [(.long q2), (.ref wM), (.int p0), (.ref b81), (.ref b81)])
          refine own_go (fun t_ k_ => XS.iload X81.here hx rfl (hb hby at_102) rfl  k_) ?_
          show own_Ends _ _ _ _ _ _ _ T81 (mkF m 104 #[.val (.int p0), .val (.int p1), .val (.long q2), .second, .val (.int p3), .val (.int p4), .val (.int ((p1 &&& (2147483647 : Int32)) % (3 : Int32))), .val (.ref wM), .val (.int (0 : Int32)), .val (.ref b78), .val (.ref b74), .unset] [(.int (0 : Int32)), (.long q2), (.ref wM), (.int p0), (.ref b81), (.ref b81)])
          refine own_go (fun t_ k_ => XS.aload X81.here hx rfl (hb hby at_104) rfl rfl  k_) ?_
          show own_Ends _ _ _ _ _ _ _ T81 (mkF m 106 #[.val (.int p0), .val (.int p1), .val (.long q2), .second, .val (.int p3), .val (.int p4), .val (.int ((p1 &&& (2147483647 : Int32)) % (3 : Int32))), .val (.ref wM), .val (.int (0 : Int32)), .val (.ref b78), .val (.ref b74), .unset] [(.ref b78), (.int (0 : Int32)), (.long q2), (.ref wM), (.int p0), (.ref b81), (.ref b81)])
          have Nsk82 : ∀ x ∈ ([b81] : List Addr), ∀ cell : Cell, h81[x]? = some cell → cell.vm.isStatics = false := (nsS (Exa.nostat A81) ns0)
          obtain ⟨T83, v83, L83, X83, hQ83, st83⟩ := own_callN X81 hx hZ (y := (⟨"com/example/quayside/quayside/RedeliverySchedule$Step", "<init>", "(ILcom/example/quayside/quayside/RedeliverySchedule$Action;JZLjava/lang/String;)V"⟩ : MethodName)) rfl hown (hw _ (List.mem_of_getElem? (i := 37) rfl)) (hw _ (List.mem_of_getElem? (i := 38) rfl)) (hw _ (List.mem_of_getElem? (i := 36) rfl)) (hw _ (List.mem_of_getElem? (i := 39) rfl)) (by decide) (rm7 l Z a0 hw [] b81 p0 wM q2 (0 : Int32) (.ref b78) h81 n0 (Nat.le_trans (Nat.le_trans (Nat.le_trans (Nat.le_trans (Nat.le_trans Z0 E74.1) (Keep.of_wr W77).1) E78.1) Kq80.1) E81.1) rfl A81 F81_from F81_action F81_delayMs F81_topic F81_destination g_b81) e81 (g := (mkF m 106 #[.val (.int p0), .val (.int p1), .val (.long q2), .second, .val (.int p3), .val (.int p4), .val (.int ((p1 &&& (2147483647 : Int32)) % (3 : Int32))), .val (.ref wM), .val (.int (0 : Int32)), .val (.ref b78), .val (.ref b74), .unset] [(.ref b78), (.int (0 : Int32)), (.long q2), (.ref wM), (.int p0), (.ref b81), (.ref b81)])) rfl (by rw [hml]; rfl) b81 [(.int p0), (.ref wM), (.long q2), (.int (0 : Int32)), (.ref b78)] [(.ref b81)] rfl (lenOf pd__ILcom_example_quayside_quayside_RedeliverySchedule_Action_JZLjava_lang_String__V rfl) rfl 1 (by show 2 * 0 + _ ≤ _; exact Nat.le_of_eq rfl) (hb hby at_106) (by decide) (by decide) (by decide) (by decide)
          obtain ⟨rfl, N83q, Kq83, Eq83, Fq83⟩ := hQ83
          refine own_go st83 ?_
          have N83 := Fr.app N80 N83q
          show own_Ends _ _ _ _ _ _ _ T83 (mkF m 109 #[.val (.int p0), .val (.int p1), .val (.long q2), .second, .val (.int p3), .val (.int p4), .val (.int ((p1 &&& (2147483647 : Int32)) % (3 : Int32))), .val (.ref wM), .val (.int (0 : Int32)), .val (.ref b78), .val (.ref b74), .unset] [(.ref b81)])
          refine own_go (fun t_ k_ => XS.astore X83.here hx rfl (hb hby at_109) rfl rfl (l' := #[.val (.int p0), .val (.int p1), .val (.long q2), .second, .val (.int p3), .val (.int p4), .val (.int ((p1 &&& (2147483647 : Int32)) % (3 : Int32))), .val (.ref wM), .val (.int (0 : Int32)), .val (.ref b78), .val (.ref b81), .unset]) rfl k_) ?_
          show own_Ends _ _ _ _ _ _ _ T83 (mkF m 111 #[.val (.int p0), .val (.int p1), .val (.long q2), .second, .val (.int p3), .val (.int p4), .val (.int ((p1 &&& (2147483647 : Int32)) % (3 : Int32))), .val (.ref wM), .val (.int (0 : Int32)), .val (.ref b78), .val (.ref b81), .unset] [])
          refine own_go (fun t_ k_ => XS.iload X83.here hx rfl (hb hby at_111) rfl  k_) ?_
          show own_Ends _ _ _ _ _ _ _ T83 (mkF m 113 #[.val (.int p0), .val (.int p1), .val (.long q2), .second, .val (.int p3), .val (.int p4), .val (.int ((p1 &&& (2147483647 : Int32)) % (3 : Int32))), .val (.ref wM), .val (.int (0 : Int32)), .val (.ref b78), .val (.ref b81), .unset] [(.int ((p1 &&& (2147483647 : Int32)) % (3 : Int32)))])
          refine own_go (fun t_ k_ => XS.iconst X83.here hx rfl (hb hby at_113) k_) ?_
          show own_Ends _ _ _ _ _ _ _ T83 (mkF m 114 #[.val (.int p0), .val (.int p1), .val (.long q2), .second, .val (.int p3), .val (.int p4), .val (.int ((p1 &&& (2147483647 : Int32)) % (3 : Int32))), .val (.ref wM), .val (.int (0 : Int32)), .val (.ref b78), .val (.ref b81), .unset] [(.int (1 : Int32)), (.int ((p1 &&& (2147483647 : Int32)) % (3 : Int32)))])
          refine own_go (fun t_ k_ => XS.icmpYes X83.here hx rfl (pc0 := 114) (pc' := 123) rfl (hb hby at_114) rfl (feq hc36).2 (by decide) (by decide) k_) ?_
          show own_Ends _ _ _ _ _ _ _ T83 (mkF m 123 #[.val (.int p0), .val (.int p1), .val (.long q2), .second, .val (.int p3), .val (.int p4), .val (.int ((p1 &&& (2147483647 : Int32)) % (3 : Int32))), .val (.ref wM), .val (.int (0 : Int32)), .val (.ref b78), .val (.ref b81), .unset] [])
          refine own_go (fun t_ k_ => XS.iload X83.here hx rfl (hb hby at_123) rfl  k_) ?_
          show own_Ends _ _ _ _ _ _ _ T83 (mkF m 125 #[.val (.int p0), .val (.int p1), .val (.long q2), .second, .val (.int p3), .val (.int p4), .val (.int ((p1 &&& (2147483647 : Int32)) % (3 : Int32))), .val (.ref wM), .val (.int (0 : Int32)), .val (.ref b78), .val (.ref b81), .unset] [(.int ((p1 &&& (2147483647 : Int32)) % (3 : Int32)))])
          refine own_go (fun t_ k_ => XS.iconst X83.here hx rfl (hb hby at_125) k_) ?_
          show own_Ends _ _ _ _ _ _ _ T83 (mkF m 126 #[.val (.int p0), .val (.int p1), .val (.long q2), .second, .val (.int p3), .val (.int p4), .val (.int ((p1 &&& (2147483647 : Int32)) % (3 : Int32))), .val (.ref wM), .val (.int (0 : Int32)), .val (.ref b78), .val (.ref b81), .unset] [(.int (2 : Int32)), (.int ((p1 &&& (2147483647 : Int32)) % (3 : Int32)))])
          refine own_go (fun t_ k_ => XS.icmpNo X83.here hx rfl (hb hby at_126) rfl (teq (own_two p1 hc1 hc36)).2 k_) ?_
          show own_Ends _ _ _ _ _ _ _ T83 (mkF m 129 #[.val (.int p0), .val (.int p1), .val (.long q2), .second, .val (.int p3), .val (.int p4), .val (.int ((p1 &&& (2147483647 : Int32)) % (3 : Int32))), .val (.ref wM), .val (.int (0 : Int32)), .val (.ref b78), .val (.ref b81), .unset] [])
          refine own_go (fun t_ k_ => XS.iconst X83.here hx rfl (hb hby at_129) k_) ?_
          show own_Ends _ _ _ _ _ _ _ T83 (mkF m 130 #[.val (.int p0), .val (.int p1), .val (.long q2), .second, .val (.int p3), .val (.int p4), .val (.int ((p1 &&& (2147483647 : Int32)) % (3 : Int32))), .val (.ref wM), .val (.int (0 : Int32)), .val (.ref b78), .val (.ref b81), .unset] [(.int (1 : Int32))])
          refine own_go (fun t_ k_ => XS.istore X83.here hx rfl (hb hby at_130) rfl (l' := #[.val (.int p0), .val (.int p1), .val (.long q2), .second, .val (.int p3), .val (.int p4), .val (.int ((p1 &&& (2147483647 : Int32)) % (3 : Int32))), .val (.ref wM), .val (.int (0 : Int32)), .val (.ref b78), .val (.ref b81), .val (.int (1 : Int32))]) rfl k_) ?_
          show own_Ends _ _ _ _ _ _ _ T83 (mkF m 132 #[.val (.int p0), .val (.int p1), .val (.long q2), .second, .val (.int p3), .val (.int p4), .val (.int ((p1 &&& (2147483647 : Int32)) % (3 : Int32))), .val (.ref wM), .val (.int (0 : Int32)), .val (.ref b78), .val (.ref b81), .val (.int (1 : Int32))] [])
          refine own_go (fun t_ k_ => XS.goto X83.here hx rfl (pc0 := 132) (pc' := 138) rfl (hb hby at_132) (by decide) (by decide) k_) ?_
          show own_Ends _ _ _ _ _ _ _ T83 (mkF m 138 #[.val (.int p0), .val (.int p1), .val (.long q2), .second, .val (.int p3), .val (.int p4), .val (.int ((p1 &&& (2147483647 : Int32)) % (3 : Int32))), .val (.ref wM), .val (.int (0 : Int32)), .val (.ref b78), .val (.ref b81), .val (.int (1 : Int32))] [])
          refine own_go (fun t_ k_ => XS.aload X83.here hx rfl (hb hby at_138) rfl rfl  k_) ?_
          show own_Ends _ _ _ _ _ _ _ T83 (mkF m 140 #[.val (.int p0), .val (.int p1), .val (.long q2), .second, .val (.int p3), .val (.int p4), .val (.int ((p1 &&& (2147483647 : Int32)) % (3 : Int32))), .val (.ref wM), .val (.int (0 : Int32)), .val (.ref b78), .val (.ref b81), .val (.int (1 : Int32))] [(.ref b81)])
          obtain ⟨T84, v84, L84, X84, hQ84, st84⟩ := own_callV X83 hx hZ (y := (⟨"com/example/quayside/quayside/RedeliverySchedule$Step", "removes", "()Z"⟩ : MethodName)) (z := (⟨"com/example/quayside/quayside/RedeliverySchedule$Step", "removes", "()Z"⟩ : MethodName)) hown (hw _ (List.mem_of_getElem? (i := 56) rfl)) (hw _ (List.mem_of_getElem? (i := 57) rfl)) (notFace_of_selects (args := #[]) (mvT hZ (hw _ (List.mem_of_getElem? (i := 59) rfl)))) (hw _ (List.mem_of_getElem? (i := 59) rfl)) (hw _ (List.mem_of_getElem? (i := 58) rfl)) (hw _ (List.mem_of_getElem? (i := 36) rfl)) (hw _ (List.mem_of_getElem? (i := 60) rfl)) (by decide) (rm9 l Z a0 hw [] b81 wM wD T83.heap n0 (Nat.le_trans (Nat.le_trans (Nat.le_trans (Nat.le_trans (Nat.le_trans (Nat.le_trans Z0 E74.1) (Keep.of_wr W77).1) E78.1) Kq80.1) E81.1) Kq83.1) Fq83 (own_staK ((own_staK (((SD.ext E74).wr W77).ext E78) Kq80 Nsk79).ext E81) Kq83 Nsk82)) rfl (g := (mkF m 140 #[.val (.int p0), .val (.int p1), .val (.long q2), .second, .val (.int p3), .val (.int p4), .val (.int ((p1 &&& (2147483647 : Int32)) % (3 : Int32))), .val (.ref wM), .val (.int (0 : Int32)), .val (.ref b78), .val (.ref b81), .val (.int (1 : Int32))] [(.ref b81)])) rfl (by rw [hml]; rfl) b81 (A81.keep Kq83) [] [] rfl (lenOf pd___Z rfl) rfl 0 (by show 2 * 0 + _ ≤ _; exact Nat.le_of_eq rfl) (hb hby at_140) (by decide) (by decide) (by decide) (by decide)
          obtain ⟨hv84, N84q, e84⟩ := hQ84
          rw [if_neg hMD] at hv84
          subst hv84
          refine own_go st84 ?_
          have N84 := Fr.app N83 N84q
          show own_Ends _ _ _ _ _ _ _ T84 (mkF m 143 #[.val (.int p0), .val (.int p1), .val (.long q2), .second, .val (.int p3), .val (.int p4), .val (.int ((p1 &&& (2147483647 : Int32)) % (3 : Int32))), .val (.ref wM), .val (.int (0 : Int32)), .val (.ref b78), .val (.ref b81), .val (.int (1 : Int32))] [(.int (1 : Int32))])
          refine own_go (fun t_ k_ => XS.iload X84.here hx rfl (hb hby at_143) rfl  k_) ?_
          show own_Ends _ _ _ _ _ _ _ T84 (mkF m 145 #[.val (.int p0), .val (.int p1), .val (.long q2), .second, .val (.int p3), .val (.int p4), .val (.int ((p1 &&& (2147483647 : Int32)) % (3 : Int32))), .val (.ref wM), .val (.int (0 : Int32)), .val (.ref b78), .val (.ref b81), .val (.int (1 : Int32))] [(.int (1 : Int32)), (.int (1 : Int32))])
          refine own_go (fun t_ k_ => XS.icmpNo X84.here hx rfl (hb hby at_145) rfl (teq (by decide : (1 : Int32) = (1 : Int32))).2 k_) ?_
          show own_Ends _ _ _ _ _ _ _ T84 (mkF m 148 #[.val (.int p0), .val (.int p1), .val (.long q2), .second, .val (.int p3), .val (.int p4), .val (.int ((p1 &&& (2147483647 : Int32)) % (3 : Int32))), .val (.ref wM), .val (.int (0 : Int32)), .val (.ref b78), .val (.ref b81), .val (.int (1 : Int32))] [])
          refine own_go (fun t_ k_ => XS.iconst X84.here hx rfl (hb hby at_148) k_) ?_
          show own_Ends _ _ _ _ _ _ _ T84 (mkF m 149 #[.val (.int p0), .val (.int p1), .val (.long q2), .second, .val (.int p3), .val (.int p4), .val (.int ((p1 &&& (2147483647 : Int32)) % (3 : Int32))), .val (.ref wM), .val (.int (0 : Int32)), .val (.ref b78), .val (.ref b81), .val (.int (1 : Int32))] [(.int (1 : Int32))])
          refine own_go (fun t_ k_ => XS.goto X84.here hx rfl (pc0 := 149) (pc' := 153) rfl (hb hby at_149) (by decide) (by decide) k_) ?_
          show own_Ends _ _ _ _ _ _ _ T84 (mkF m 153 #[.val (.int p0), .val (.int p1), .val (.long q2), .second, .val (.int p3), .val (.int p4), .val (.int ((p1 &&& (2147483647 : Int32)) % (3 : Int32))), .val (.ref wM), .val (.int (0 : Int32)), .val (.ref b78), .val (.ref b81), .val (.int (1 : Int32))] [(.int (1 : Int32))])
          refine own_retN X84 hx hlk (t := .boolean) hret (by simp) (hb hby at_153) e84 (by decide) (by decide) ?_
          exact ⟨rfl, N84⟩
        · refine own_go (fun t_ k_ => XS.ifNo X71.here hx rfl (hb hby at_58) rfl ((if0 _ _).trans (feq hc73).1) k_) ?_
          show own_Ends _ _ _ _ _ _ _ T71 (mkF m 61 #[.val (.int p0), .val (.int p1), .val (.long q2), .second, .val (.int p3), .val (.int p4), .val (.int ((p1 &&& (2147483647 : Int32)) % (3 : Int32))), .val (.ref wM), .val (.int (0 : Int32)), .unset, .unset, .unset] [])
          refine own_go (fun t_ k_ => XS.aconstNull X71.here hx rfl (hb hby at_61) k_) ?_
          show own_Ends _ _ _ _ _ _ _ T71 (mkF m 62 #[.val (.int p0), .val (.int p1), .val (.long q2), .second, .val (.int p3), .val (.int p4), .val (.int ((p1 &&& (2147483647 : Int32)) % (3 : Int32))), .val (.ref wM), .val (.int (0 : Int32)), .unset, .unset, .unset] [.null])
          refine own_go (fun t_ k_ => XS.astore X71.here hx rfl (hb hby at_62) rfl rfl (l' := #[.val (.int p0), .val (.int p1), .val (.long q2), .second, .val (.int p3), .val (.int p4), .val (.int ((p1 &&& (2147483647 : Int32)) % (3 : Int32))), .val (.ref wM), .val (.int (0 : Int32)), .val .null, .unset, .unset]) rfl k_) ?_
          show own_Ends _ _ _ _ _ _ _ T71 (mkF m 64 #[.val (.int p0), .val (.int p1), .val (.long q2), .second, .val (.int p3), .val (.int p4), .val (.int ((p1 &&& (2147483647 : Int32)) % (3 : Int32))), .val (.ref wM), .val (.int (0 : Int32)), .val .null, .unset, .unset] [])
          refine own_go (fun t_ k_ => XS.goto X71.here hx rfl (pc0 := 64) (pc' := 94) rfl (hb hby at_64) (by decide) (by decide) k_) ?_
          show own_Ends _ _ _ _ _ _ _ T71 (mkF m 94 #[.val (.int p0), .val (.int p1), .val (.long q2), .second, .val (.int p3), .val (.int p4), .val (.int ((p1 &&& (2147483647 : Int32)) % (3 : Int32))), .val (.ref wM), .val (.int (0 : Int32)), .val .null, .unset, .unset] [])
          obtain ⟨T85, h85, X85, e85, E85, A85, D85, -, st85⟩ := newO X71 hx hZ hown (hw _ (List.mem_of_getElem? (i := 34) rfl)) (hw _ (List.mem_of_getElem? (i := 35) rfl)) (hw _ (List.mem_of_getElem? (i := 36) rfl)) e71 (g := (mkF m 94 #[.val (.int p0), .val (.int p1), .val (.long q2), .second, .val (.int p3), .val (.int p4), .val (.int ((p1 &&& (2147483647 : Int32)) % (3 : Int32))), .val (.ref wM), .val (.int (0 : Int32)), .val .null, .unset, .unset] [])) rfl (hb hby at_94) (by decide) (by decide)
          obtain ⟨b85, g85⟩ : ∃ z, z = h0.size := ⟨_, rfl⟩
          rw [← g85] at A85 D85 st85
          refine own_go st85 ?_
          have g_b85 : n0 ≤ b85 := Nat.le_trans Z0 (Nat.le_of_eq g85.symm)
          have F85_from : Fld Z h85 b85 "com/example/quayside/quayside/RedeliverySchedule$Step" "from" "I" (.int (0 : Int32)) := D85 (Or.inr (hw _ (List.mem_of_getElem? (i := 47) rfl))) (ty := .int) (by decide)
          have F85_action : Fld Z h85 b85 "com/example/quayside/quayside/RedeliverySchedule$Step" "action" "Lcom/example/quayside/quayside/RedeliverySchedule$Action;" .null := D85 (Or.inr (hw _ (List.mem_of_getElem? (i := 49) rfl))) (ty := (.object "com/example/quayside/quayside/RedeliverySchedule$Action")) (by decide)
          have F85_delayMs : Fld Z h85 b85 "com/example/quayside/quayside/RedeliverySchedule$Step" "delayMs" "J" (.long (0 : Int64)) := D85 (Or.inr (hw _ (List.mem_of_getElem? (i := 51) rfl))) (ty := .long) (by decide)
          have F85_topic : Fld Z h85 b85 "com/example/quayside/quayside/RedeliverySchedule$Step" "topic" "Z" (.int (0 : Int32)) := D85 (Or.inr (hw _ (List.mem_of_getElem? (i := 53) rfl))) (ty := .boolean) (by decide)
          have F85_destination : Fld Z h85 b85 "com/example/quayside/quayside/RedeliverySchedule$Step" "destination" "Ljava/lang/String;" .null := D85 (Or.inr (hw _ (List.mem_of_getElem? (i := 55) rfl))) (ty := (.object "java/lang/String")) (by decide)
          show own_Ends _ _ _ _ _ _ _ T85 (mkF m 97 #[.val (.int p0), .val (.int p1), .val (.long q2), .second, .val (.int p3), .val (.int p4), .val (.int ((p1 &&& (2147483647 : Int32)) % (3 : Int32))), .val (.ref wM), .val (.int (0 : Int32)), .val .null, .unset, .unset] [(.ref b85)])
          refine own_go (fun t_ k_ => XS.dup X85.here hx rfl (hb hby at_97) rfl rfl k_) ?_
          show own_Ends _ _ _ _ _ _ _ T85 (mkF m 98 #[.val (.int p0), .val (.int p1), .val (.long q2), .second, .val (.int p3), .val (.int p4), .val (.int ((p1 &&& (2147483647 : Int32)) % (3 : Int32))), .val (.ref wM), .val (.int (0 : Int32)), .val .null, .unset, .unset] [(.ref b85), (.ref b85)])
          refine own_go (fun t_ k_ => XS.iloadN X85.here hx rfl (hb hby at_98) rfl  k_) ?_
          show own_Ends _ _ _ _ _ _ _ T85 (mkF m 99 #[.val (.int p0), .val (.int p1), .val (.long q2), .second, .val (.int p3), .val (.int p4), .val (.int ((p1 &&& (2147483647 : Int32)) % (3 : Int32))), .val (.ref wM), .val (.int (0 : Int32)), .val .null, .unset, .unset] [(.int p0), (.ref b85), (.ref b85)])
          refine own_go (fun t_ k_ => XS.aload X85.here hx rfl (hb hby at_99) rfl rfl  k_) ?_
          show own_Ends _ _ _ _ _ _ _ T85 (mkF m 101 #[.val (.int p0), .val (.int p1), .val (.long q2), .second, .val (.int p3), .val (.int p4), .val (.int ((p1 &&& (2147483647 : Int32)) % (3 : Int32))), .val (.ref wM), .val (.int (0 : Int32)), .val .null, .unset, .unset] [(.ref wM), (.int p0), (.ref b85), (.ref b85)])
          refine own_go (fun t_ k_ => XT.lloadN X85.here hx rfl (hb hby at_101) rfl k_) ?_
          show own_Ends _ _ _ _ _ _ _ T85 (mkF m 102 #[.val (.int p0), .val (.int p1), .val (.long q2), .second, .val (.int p3), .val (.int p4), .val (.int ((p1 &&& (2147483647 : Int32)) % (3 : Int32))), .val (.ref wM), .val (.int (0 : Int32)), .val .null, .unset, .unset] [(.long q2), (.ref wM), (.int p0), (.ref b85), (.ref b85)])
          refine own_go (fun t_ k_ => XS.iload X85.here hx rfl (hb hby at_102) rfl  k_) ?_
          show own_Ends _ _ _ _ _ _ _ T85 (mkF m 104 #[.val (.int p0), .val (.int p1), .val (.long q2), .second, .val (.int p3), .val (.int p4), .val (.int ((p1 &&& (2147483647 : Int32)) % (3 : Int32))), .val (.ref wM), .val (.int (0 : Int32)), .val .null, .unset, .unset] [(.int (0 : Int32)), (.long q2), (.ref wM), (.int p0), (.ref b85), (.ref b85)])
          refine own_go (fun t_ k_ => XS.aload X85.here hx rfl (hb hby at_104) rfl rfl  k_) ?_
          show own_Ends _ _ _ _ _ _ _ T85 (mkF m 106 #[.val (.int p0), .val (.int p1), .val (.long q2), .second, .val (.int p3), .val (.int p4), .val (.int ((p1 &&& (2147483647 : Int32)) % (3 : Int32))), .val (.ref wM), .val (.int (0 : Int32)), .val .null, .unset, .unset] [.null, (.int (0 : Int32)), (.long q2), (.ref wM), (.int p0), (.ref b85), (.ref b85)])
          have Nsk86 : ∀ x ∈ ([b85] : List Addr), ∀ cell : Cell, h85[x]? = some cell → cell.vm.isStatics = false := (nsS (Exa.nostat A85) ns0)
          obtain ⟨T87, v87, L87, X87, hQ87, st87⟩ := own_callN X85 hx hZ (y := (⟨"com/example/quayside/quayside/RedeliverySchedule$Step", "<init>", "(ILcom/example/quayside/quayside/RedeliverySchedule$Action;JZLjava/lang/String;)V"⟩ : MethodName)) rfl hown (hw _ (List.mem_of_getElem? (i := 37) rfl)) (hw _ (List.mem_of_getElem? (i := 38) rfl)) (hw _ (List.mem_of_getElem? (i := 36) rfl)) (hw _ (List.mem_of_getElem? (i := 39) rfl)) (by decide) (rm7 l Z a0 hw [] b85 p0 wM q2 (0 : Int32) .null h85 n0 (Nat.le_trans Z0 E85.1) rfl A85 F85_from F85_action F85_delayMs F85_topic F85_destination g_b85) e85 (g := (mkF m 106 #[.val (.int p0), .val (.int p1), .val (.long q2), .second, .val (.int p3), .val (.int p4), .val (.int ((p1 &&& (2147483647 : Int32)) % (3 : Int32))), .val (.ref wM), .val (.int (0 : Int32)), .val .null, .unset, .unset] [.null, (.int (0 : Int32)), (.long q2), (.ref wM), (.int p0), (.ref b85), (.ref b85)])) rfl (by rw [hml]; rfl) b85 [(.int p0), (.ref wM), (.long q2), (.int (0 : Int32)), .null] [(.ref b85)] rfl (lenOf pd__ILcom_example_quayside_quayside_RedeliverySchedule_Action_JZLjava_lang_String__V rfl) rfl 1 (by show 2 * 0 + _ ≤ _; exact Nat.le_of_eq rfl) (hb hby at_106) (by decide) (by decide) (by decide) (by decide)
          obtain ⟨rfl, N87q, Kq87, Eq87, Fq87⟩ := hQ87
          refine own_go st87 ?_
          have N87 := Fr.app N0 N87q
          show own_Ends _ _ _ _ _ _ _ T87 (mkF m 109 #[.val (.int p0), .val (.int p1), .val (.long q2), .second, .val (.int p3), .val (.int p4), .val (.int ((p1 &&& (2147483647 : Int32)) % (3 : Int32))), .val (.ref wM), .val (.int (0 : Int32)), .val .null, .unset, .unset] [(.ref b85)])
          refine own_go (fun t_ k_ => XS.astore X87.here hx rfl (hb hby at_109) rfl rfl (l' := #[.val (.int p0), .val (.int p1), .val (.long q2), .second, .val (.int p3), .val (.int p4), .val (.int ((p1 &&& (2147483647 : Int32)) % (3 : Int32))), .val (.ref wM), .val (.int (0 : Int32)), .val .null, .val (.ref b85), .unset]) rfl k_) ?_
          show own_Ends _ _ _ _ _ _ _ T87 (mkF m 111 #[.val (.int p0), .val (.int p1), .val (.long q2), .second, .val (.int p3), .val (.int p4), .val (.int ((p1 &&& (2147483647 : Int32)) % (3 : Int32))), .val (.ref wM), .val (.int (0 : Int32)), .val .null, .val (.ref b85), .unset] [])
          refine own_go (fun t_ k_ => XS.iload X87.here hx rfl (hb hby at_111) rfl  k_) ?_
          show own_Ends _ _ _ _ _ _ _ T87 (mkF m 113 #[.val (.int p0), .val (.int p1), .val (.long q2), .second, .val (.int p3), .val (.int p4), .val (.int ((p1 &&& (2147483647 : Int32)) % (3 : Int32))), .val (.ref wM), .val (.int (0 : Int32)), .val .null, .val (.ref b85), .unset] [(.int ((p1 &&& (2147483647 : Int32)) % (3 : Int32)))])
          refine own_go (fun t_ k_ => XS.iconst X87.here hx rfl (hb hby at_113) k_) ?_
          show own_Ends _ _ _ _ _ _ _ T87 (mkF m 114 #[.val (.int p0), .val (.int p1), .val (.long q2), .second, .val (.int p3), .val (.int p4), .val (.int ((p1 &&& (2147483647 : Int32)) % (3 : Int32))), .val (.ref wM), .val (.int (0 : Int32)), .val .null, .val (.ref b85), .unset] [(.int (1 : Int32)), (.int ((p1 &&& (2147483647 : Int32)) % (3 : Int32)))])
          refine own_go (fun t_ k_ => XS.icmpYes X87.here hx rfl (pc0 := 114) (pc' := 123) rfl (hb hby at_114) rfl (feq hc36).2 (by decide) (by decide) k_) ?_
          show own_Ends _ _ _ _ _ _ _ T87 (mkF m 123 #[.val (.int p0), .val (.int p1), .val (.long q2), .second, .val (.int p3), .val (.int p4), .val (.int ((p1 &&& (2147483647 : Int32)) % (3 : Int32))), .val (.ref wM), .val (.int (0 : Int32)), .val .null, .val (.ref b85), .unset] [])
          refine own_go (fun t_ k_ => XS.iload X87.here hx rfl (hb hby at_123) rfl  k_) ?_
          show own_Ends _ _ _ _ _ _ _ T87 (mkF m 125 #[.val (.int p0), .val (.int p1), .val (.long q2), .second, .val (.int p3), .val (.int p4), .val (.int ((p1 &&& (2147483647 : Int32)) % (3 : Int32))), .val (.ref wM), .val (.int (0 : Int32)), .val .null, .val (.ref b85), .unset] [(.int ((p1 &&& (2147483647 : Int32)) % (3 : Int32)))])
          refine own_go (fun t_ k_ => XS.iconst X87.here hx rfl (hb hby at_125) k_) ?_
          show own_Ends _ _ _ _ _ _ _ T87 (mkF m 126 #[.val (.int p0), .val (.int p1), .val (.long q2), .second, .val (.int p3), .val (.int p4), .val (.int ((p1 &&& (2147483647 : Int32)) % (3 : Int32))), .val (.ref wM), .val (.int (0 : Int32)), .val .null, .val (.ref b85), .unset] [(.int (2 : Int32)), (.int ((p1 &&& (2147483647 : Int32)) % (3 : Int32)))])
          refine own_go (fun t_ k_ => XS.icmpNo X87.here hx rfl (hb hby at_126) rfl (teq (own_two p1 hc1 hc36)).2 k_) ?_
          show own_Ends _ _ _ _ _ _ _ T87 (mkF m 129 #[.val (.int p0), .val (.int p1), .val (.long q2), .second, .val (.int p3), .val (.int p4), .val (.int ((p1 &&& (2147483647 : Int32)) % (3 : Int32))), .val (.ref wM), .val (.int (0 : Int32)), .val .null, .val (.ref b85), .unset] [])
          refine own_go (fun t_ k_ => XS.iconst X87.here hx rfl (hb hby at_129) k_) ?_
          show own_Ends _ _ _ _ _ _ _ T87 (mkF m 130 #[.val (.int p0), .val (.int p1), .val (.long q2), .second, .val (.int p3), .val (.int p4), .val (.int ((p1 &&& (2147483647 : Int32)) % (3 : Int32))), .val (.ref wM), .val (.int (0 : Int32)), .val .null, .val (.ref b85), .unset] [(.int (1 : Int32))])
          refine own_go (fun t_ k_ => XS.istore X87.here hx rfl (hb hby at_130) rfl (l' := #[.val (.int p0), .val (.int p1), .val (.long q2), .second, .val (.int p3), .val (.int p4), .val (.int ((p1 &&& (2147483647 : Int32)) % (3 : Int32))), .val (.ref wM), .val (.int (0 : Int32)), .val .null, .val (.ref b85), .val (.int (1 : Int32))]) rfl k_) ?_
          show own_Ends _ _ _ _ _ _ _ T87 (mkF m 132 #[.val (.int p0), .val (.int p1), .val (.long q2), .second, .val (.int p3), .val (.int p4), .val (.int ((p1 &&& (2147483647 : Int32)) % (3 : Int32))), .val (.ref wM), .val (.int (0 : Int32)), .val .null, .val (.ref b85), .val (.int (1 : Int32))] [])
          refine own_go (fun t_ k_ => XS.goto X87.here hx rfl (pc0 := 132) (pc' := 138) rfl (hb hby at_132) (by decide) (by decide) k_) ?_
          show own_Ends _ _ _ _ _ _ _ T87 (mkF m 138 #[.val (.int p0), .val (.int p1), .val (.long q2), .second, .val (.int p3), .val (.int p4), .val (.int ((p1 &&& (2147483647 : Int32)) % (3 : Int32))), .val (.ref wM), .val (.int (0 : Int32)), .val .null, .val (.ref b85), .val (.int (1 : Int32))] [])
          refine own_go (fun t_ k_ => XS.aload X87.here hx rfl (hb hby at_138) rfl rfl  k_) ?_
          show own_Ends _ _ _ _ _ _ _ T87 (mkF m 140 #[.val (.int p0), .val (.int p1), .val (.long q2), .second, .val (.int p3), .val (.int p4), .val (.int ((p1 &&& (2147483647 : Int32)) % (3 : Int32))), .val (.ref wM), .val (.int (0 : Int32)), .val .null, .val (.ref b85), .val (.int (1 : Int32))] [(.ref b85)])
          obtain ⟨T88, v88, L88, X88, hQ88, st88⟩ := own_callV X87 hx hZ (y := (⟨"com/example/quayside/quayside/RedeliverySchedule$Step", "removes", "()Z"⟩ : MethodName)) (z := (⟨"com/example/quayside/quayside/RedeliverySchedule$Step", "removes", "()Z"⟩ : MethodName)) hown (hw _ (List.mem_of_getElem? (i := 56) rfl)) (hw _ (List.mem_of_getElem? (i := 57) rfl)) (notFace_of_selects (args := #[]) (mvT hZ (hw _ (List.mem_of_getElem? (i := 59) rfl)))) (hw _ (List.mem_of_getElem? (i := 59) rfl)) (hw _ (List.mem_of_getElem? (i := 58) rfl)) (hw _ (List.mem_of_getElem? (i := 36) rfl)) (hw _ (List.mem_of_getElem? (i := 60) rfl)) (by decide) (rm9 l Z a0 hw [] b85 wM wD T87.heap n0 (Nat.le_trans (Nat.le_trans Z0 E85.1) Kq87.1) Fq87 (own_staK (SD.ext E85) Kq87 Nsk86)) rfl (g := (mkF m 140 #[.val (.int p0), .val (.int p1), .val (.long q2), .second, .val (.int p3), .val (.int p4), .val (.int ((p1 &&& (2147483647 : Int32)) % (3 : Int32))), .val (.ref wM), .val (.int (0 : Int32)), .val .null, .val (.ref b85), .val (.int (1 : Int32))] [(.ref b85)])) rfl (by rw [hml]; rfl) b85 (A85.keep Kq87) [] [] rfl (lenOf pd___Z rfl) rfl 0 (by show 2 * 0 + _ ≤ _; exact Nat.le_of_eq rfl) (hb hby at_140) (by decide) (by decide) (by decide) (by decide)
          obtain ⟨hv88, N88q, e88⟩ := hQ88
          rw [if_neg hMD] at hv88
          subst hv88
          refine own_go st88 ?_
          have N88 := Fr.app N87 N88q
          show own_Ends _ _ _ _ _ _ _ T88 (mkF m 143 #[.val (.int p0), .val (.int p1), .val (.long q2), .second, .val (.int p3), .val (.int p4), .val (.int ((p1 &&& (2147483647 : Int32)) % (3 : Int32))), .val (.ref wM), .val (.int (0 : Int32)), .val .null, .val (.ref b85), .val (.int (1 : Int32))] [(.int (1 : Int32))])
          refine own_go (fun t_ k_ => XS.iload X88.here hx rfl (hb hby at_143) rfl  k_) ?_
          show own_Ends _ _ _ _ _ _ _ T88 (mkF m 145 #[.val (.int p0), .val (.int p1), .val (.long q2), .second, .val (.int p3), .val (.int p4), .val (.int ((p1 &&& (2147483647 : Int32)) % (3 : Int32))), .val (.ref wM), .val (.int (0 : Int32)), .val .null, .val (.ref b85), .val (.int (1 : Int32))] [(.int (1 : Int32)), (.int (1 : Int32))])
          refine own_go (fun t_ k_ => XS.icmpNo X88.here hx rfl (hb hby at_145) rfl (teq (by decide : (1 : Int32) = (1 : Int32))).2 k_) ?_
          show own_Ends _ _ _ _ _ _ _ T88 (mkF m 148 #[.val (.int p0), .val (.int p1), .val (.long q2), .second, .val (.int p3), .val (.int p4), .val (.int ((p1 &&& (2147483647 : Int32)) % (3 : Int32))), .val (.ref wM), .val (.int (0 : Int32)), .val .null, .val (.ref b85), .val (.int (1 : Int32))] [])
          refine own_go (fun t_ k_ => XS.iconst X88.here hx rfl (hb hby at_148) k_) ?_
          show own_Ends _ _ _ _ _ _ _ T88 (mkF m 149 #[.val (.int p0), .val (.int p1), .val (.long q2), .second, .val (.int p3), .val (.int p4), .val (.int ((p1 &&& (2147483647 : Int32)) % (3 : Int32))), .val (.ref wM), .val (.int (0 : Int32)), .val .null, .val (.ref b85), .val (.int (1 : Int32))] [(.int (1 : Int32))])
          refine own_go (fun t_ k_ => XS.goto X88.here hx rfl (pc0 := 149) (pc' := 153) rfl (hb hby at_149) (by decide) (by decide) k_) ?_
          show own_Ends _ _ _ _ _ _ _ T88 (mkF m 153 #[.val (.int p0), .val (.int p1), .val (.long q2), .second, .val (.int p3), .val (.int p4), .val (.int ((p1 &&& (2147483647 : Int32)) % (3 : Int32))), .val (.ref wM), .val (.int (0 : Int32)), .val .null, .val (.ref b85), .val (.int (1 : Int32))] [(.int (1 : Int32))])
          refine own_retN X88 hx hlk (t := .boolean) hret (by simp) (hb hby at_153) e88 (by decide) (by decide) ?_
          exact ⟨rfl, N88⟩
      · refine own_go (fun t_ k_ => XS.ifNo X71.here hx rfl (hb hby at_44) rfl ((if0 _ _).trans (feq hc72).1) k_) ?_
        show own_Ends _ _ _ _ _ _ _ T71 (mkF m 47 #[.val (.int p0), .val (.int p1), .val (.long q2), .second, .val (.int p3), .val (.int p4), .val (.int ((p1 &&& (2147483647 : Int32)) % (3 : Int32))), .val (.ref wM), .unset, .unset, .unset, .unset] [])
        refine own_go (fun t_ k_ => XS.iconst X71.here hx rfl (hb hby at_47) k_) ?_
        show own_Ends _ _ _ _ _ _ _ T71 (mkF m 48 #[.val (.int p0), .val (.int p1), .val (.long q2), .second, .val (.int p3), .val (.int p4), .val (.int ((p1 &&& (2147483647 : Int32)) % (3 : Int32))), .val (.ref wM), .unset, .unset, .unset, .unset] [(.int (1 : Int32))])
        refine own_go (fun t_ k_ => XS.goto X71.here hx rfl (pc0 := 48) (pc' := 52) rfl (hb hby at_48) (by decide) (by decide) k_) ?_
        show own_Ends _ _ _ _ _ _ _ T71 (mkF m 52 #[.val (.int p0), .val (.int p1), .val (.long q2), .second, .val (.int p3), .val (.int p4), .val (.int ((p1 &&& (2147483647 : Int32)) % (3 : Int32))), .val (.ref wM), .unset, .unset, .unset, .unset] [(.int (1 : Int32))])
        refine own_go (fun t_ k_ => XS.istore X71.here hx rfl (hb hby at_52) rfl (l' := #[.val (.int p0), .val (.int p1), .val (.long q2), .second, .val (.int p3), .val (.int p4), .val (.int ((p1 &&& (2147483647 : Int32)) % (3 : Int32))), .val (.ref wM), .val (.int (1 : Int32)), .unset, .unset, .unset]) rfl k_) ?_
        show own_Ends _ _ _ _ _ _ _ T71 (mkF m 54 #[.val (.int p0), .val (.int p1), .val (.long q2), .second, .val (.int p3), .val (.int p4), .val (.int ((p1 &&& (2147483647 : Int32)) % (3 : Int32))), .val (.ref wM), .val (.int (1 : Int32)), .unset, .unset, .unset] [])
        refine own_go (fun t_ k_ => XS.iload X71.here hx rfl (hb hby at_54) rfl  k_) ?_
        show own_Ends _ _ _ _ _ _ _ T71 (mkF m 56 #[.val (.int p0), .val (.int p1), .val (.long q2), .second, .val (.int p3), .val (.int p4), .val (.int ((p1 &&& (2147483647 : Int32)) % (3 : Int32))), .val (.ref wM), .val (.int (1 : Int32)), .unset, .unset, .unset] [(.int p3)])
        refine own_go (fun t_ k_ => XS.iconst X71.here hx rfl (hb hby at_56) k_) ?_
        show own_Ends _ _ _ _ _ _ _ T71 (mkF m 57 #[.val (.int p0), .val (.int p1), .val (.long q2), .second, .val (.int p3), .val (.int p4), .val (.int ((p1 &&& (2147483647 : Int32)) % (3 : Int32))), .val (.ref wM), .val (.int (1 : Int32)), .unset, .unset, .unset] [(.int (2 : Int32)), (.int p3)])
        refine own_go (fun t_ k_ => XS.iand X71.here hx rfl (hb hby at_57) rfl k_) ?_
        show own_Ends _ _ _ _ _ _ _ T71 (mkF m 58 #[.val (.int p0), .val (.int p1), .val (.long q2), .second, .val (.int p3), .val (.int p4), .val (.int ((p1 &&& (2147483647 : Int32)) % (3 : Int32))), .val (.ref wM), .val (.int (1 : Int32)), .unset, .unset, .unset] [(.int (p3 &&& (2 : Int32)))])
        by_cases hc89 : (p3 &&& (2 : Int32)) = (0 : Int32)
        · refine own_go (fun t_ k_ => XS.ifYes X71.here hx rfl (pc0 := 58) (pc' := 67) rfl (hb hby at_58) rfl ((if0 _ _).trans (teq hc89).1) (by decide) (by decide) k_) ?_
          show own_Ends _ _ _ _ _ _ _ T71 (mkF m 67 #[.val (.int p0), .val (.int p1), .val (.long q2), .second, .val (.int p3), .val (.int p4), .val (.int ((p1 &&& (2147483647 : Int32)) % (3 : Int32))), .val (.ref wM), .val (.int (1 : Int32)), .unset, .unset, .unset] [])
          refine own_go (fun t_ k_ => XS.iconst X71.here hx rfl (hb hby at_67) k_) ?_
          show own_Ends _ _ _ _ _ _ _ T71 (mkF m 68 #[.val (.int p0), .val (.int p1), .val (.long q2), .second, .val (.int p3), .val (.int p4), .val (.int ((p1 &&& (2147483647 : Int32)) % (3 : Int32))), .val (.ref wM), .val (.int (1 : Int32)), .unset, .unset, .unset] [(.int (1 : Int32))])
          obtain ⟨T90, h90, k90, X90, e90, E90, A90, st90⟩ := newP X71 hx hZ (hw _ (List.mem_of_getElem? (i := 4) rfl)) e71 (g := (mkF m 68 #[.val (.int p0), .val (.int p1), .val (.long q2), .second, .val (.int p3), .val (.int p4), .val (.int ((p1 &&& (2147483647 : Int32)) % (3 : Int32))), .val (.ref wM), .val (.int (1 : Int32)), .unset, .unset, .unset] [(.int (1 : Int32))])) rfl (hb hby at_68) rfl (by decide) (cap := 1) (by decide) (by decide) (by decide) (by decide)
          obtain ⟨b90, g90⟩ : ∃ z, z = h0.size := ⟨_, rfl⟩
          rw [← g90] at A90 st90
          refine own_go st90 ?_
          have V90 : Arv Z h90 b90 k90 .char (1 : Int32) [(.int (0 : Int32))] (.int (0 : Int32)) := (Arv.new A90 (by decide)).pad (pad_rep [] (.int (0 : Int32)) 1)
          have g_b90 : n0 ≤ b90 := Nat.le_trans Z0 (Nat.le_of_eq g90.symm)
          show own_Ends _ _ _ _ _ _ _ T90 (mkF m 70 #[.val (.int p0), .val (.int p1), .val (.long q2), .second, .val (.int p3), .val (.int p4), .val (.int ((p1 &&& (2147483647 : Int32)) % (3 : Int32))), .val (.ref wM), .val (.int (1 : Int32)), .unset, .unset, .unset] [(.ref b90)])
          refine own_go (fun t_ k_ => XS.astore X90.here hx rfl (hb hby at_70) rfl rfl (l' := #[.val (.int p0), .val (.int p1), .val (.long q2), .second, .val (.int p3), .val (.int p4), .val (.int ((p1 &&& (2147483647 : Int32)) % (3 : Int32))), .val (.ref wM), .val (.int (1 : Int32)), .unset, .val (.ref b90), .unset]) rfl k_) ?_
          show own_Ends _ _ _ _ _ _ _ T90 (mkF m 72 #[.val (.int p0), .val (.int p1), .val (.long q2), .second, .val (.int p3), .val (.int p4), .val (.int ((p1 &&& (2147483647 : Int32)) % (3 : Int32))), .val (.ref wM), .val (.int (1 : Int32)), .unset, .val (.ref b90), .unset] [])
          refine own_go (fun t_ k_ => XS.aload X90.here hx rfl (hb hby at_72) rfl rfl  k_) ?_
          show own_Ends _ _ _ _ _ _ _ T90 (mkF m 74 #[.val (.int p0), .val (.int p1), .val (.long q2), .second, .val (.int p3), .val (.int p4), .val (.int ((p1 &&& (2147483647 : Int32)) % (3 : Int32))), .val (.ref wM), .val (.int (1 : Int32)), .unset, .val (.ref b90), .unset] [(.ref b90)])
          refine own_go (fun t_ k_ => XS.iconst X90.here hx rfl (hb hby at_74) k_) ?_
          show own_Ends _ _ _ _ _ _ _ T90 (mkF m 75 #[.val (.int p0), .val (.int p1), .val (.long q2), .second, .val (.int p3), .val (.int p4), .val (.int ((p1 &&& (2147483647 : Int32)) % (3 : Int32))), .val (.ref wM), .val (.int (1 : Int32)), .unset, .val (.ref b90), .unset] [(.int (0 : Int32)), (.ref b90)])
          refine own_go (fun t_ k_ => XS.iload X90.here hx rfl (hb hby at_75) rfl  k_) ?_
          show own_Ends _ _ _ _ _ _ _ T90 (mkF m 77 #[.val (.int p0), .val (.int p1), .val (.long q2), .second, .val (.int p3), .val (.int p4), .val (.int ((p1 &&& (2147483647 : Int32)) % (3 : Int32))), .val (.ref wM), .val (.int (1 : Int32)), .unset, .val (.ref b90), .unset] [(.int p4), (.int (0 : Int32)), (.ref b90)])
          refine own_go (fun t_ k_ => XS.sipush X90.here hx rfl (hb hby at_77) k_) ?_
          show own_Ends _ _ _ _ _ _ _ T90 (mkF m 80 #[.val (.int p0), .val (.int p1), .val (.long q2), .second, .val (.int p3), .val (.int p4), .val (.int ((p1 &&& (2147483647 : Int32)) % (3 : Int32))), .val (.ref wM), .val (.int (1 : Int32)), .unset, .val (.ref b90), .unset] [(.int (255 : Int32)), (.int p4), (.int (0 : Int32)), (.ref b90)])
          refine own_go (fun t_ k_ => XS.iand X90.here hx rfl (hb hby at_80) rfl k_) ?_
          show own_Ends _ _ _ _ _ _ _ T90 (mkF m 81 #[.val (.int p0), .val (.int p1), .val (.long q2), .second, .val (.int p3), .val (.int p4), .val (.int ((p1 &&& (2147483647 : Int32)) % (3 : Int32))), .val (.ref wM), .val (.int (1 : Int32)), .unset, .val (.ref b90), .unset] [(.int (p4 &&& (255 : Int32))), (.int (0 : Int32)), (.ref b90)])
          refine own_go (fun t_ k_ => XT.i2c X90.here hx rfl (hb hby at_81) rfl k_) ?_
          show own_Ends _ _ _ _ _ _ _ T90 (mkF m 82 #[.val (.int p0), .val (.int p1), .val (.long q2), .second, .val (.int p3), .val (.int p4), .val (.int ((p1 &&& (2147483647 : Int32)) % (3 : Int32))), .val (.ref wM), .val (.int (1 : Int32)), .unset, .val (.ref b90), .unset] [(.int ((p4 &&& (255 : Int32)).toUInt32.toUInt16.toUInt32.toInt32)), (.int (0 : Int32)), (.ref b90)])
          obtain ⟨cl92, Ar92, q92, S92, Ng92, Hs92, G92⟩ := (id V90)
          obtain ⟨T93, h93, X93, e93, W93, st93⟩ := stC X90 hx hZ e90 Ar92 (j := (0 : Int32)) (inb_of S92 ⟨by decide, by decide⟩) (g := (mkF m 82 #[.val (.int p0), .val (.int p1), .val (.long q2), .second, .val (.int p3), .val (.int p4), .val (.int ((p1 &&& (2147483647 : Int32)) % (3 : Int32))), .val (.ref wM), .val (.int (1 : Int32)), .unset, .val (.ref b90), .unset] [(.int ((p4 &&& (255 : Int32)).toUInt32.toUInt16.toUInt32.toInt32)), (.int (0 : Int32)), (.ref b90)])) rfl rfl (hb hby at_82)
          refine own_go st93 ?_
          have V93 : Arv Z h93 b90 k90 .char (1 : Int32) [(.int (nar .char ((p4 &&& (255 : Int32)).toUInt32.toUInt16.toUInt32.toInt32)))] (.int (0 : Int32)) := Arv.set Ar92 q92 S92 Ng92 Hs92 G92 (fits_nar_char _) W93 0 rfl (Nat.le_of_ble_eq_true rfl)
          have N93 := Fr.snoc X93 N0 g_b90
          show own_Ends _ _ _ _ _ _ _ T93 (mkF m 83 #[.val (.int p0), .val (.int p1), .val (.long q2), .second, .val (.int p3), .val (.int p4), .val (.int ((p1 &&& (2147483647 : Int32)) % (3 : Int32))), .val (.ref wM), .val (.int (1 : Int32)), .unset, .val (.ref b90), .unset] [])
          obtain ⟨T94, h94, X94, e94, E94, A94, D94, -, st94⟩ := newO X93 hx hZ hown (hw _ (List.mem_of_getElem? (i := 5) rfl)) (hw _ (List.mem_of_getElem? (i := 6) rfl)) (hw _ (List.mem_of_getElem? (i := 7) rfl)) e93 (g := (mkF m 83 #[.val (.int p0), .val (.int p1), .val (.long q2), .second, .val (.int p3), .val (.int p4), .val (.int ((p1 &&& (2147483647 : Int32)) % (3 : Int32))), .val (.ref wM), .val (.int (1 : Int32)), .unset, .val (.ref b90), .unset] [])) rfl (hb hby at_83) (by decide) (by decide)
          obtain ⟨b94, g94⟩ : ∃ z, z = h93.size := ⟨_, rfl⟩
          rw [← g94] at A94 D94 st94
          refine own_go st94 ?_
          have g_b94 : n0 ≤ b94 := Nat.le_trans (Nat.le_trans (Nat.le_trans Z0 E90.1) (Keep.of_wr W93).1) (Nat.le_of_eq g94.symm)
          have F94_coder : Fld Z h94 b94 "java/lang/String" "coder" "B" (.int (0 : Int32)) := D94 (Or.inr (hw _ (List.mem_of_getElem? (i := 31) rfl))) (ty := .byte) (by decide)
          have F94_value : Fld Z h94 b94 "java/lang/String" "value" "[B" .null := D94 (Or.inr (hw _ (List.mem_of_getElem? (i := 33) rfl))) (ty := (.array .byte)) (by decide)
          show own_Ends _ _ _ _ _ _ _ T94 (mkF m 86 #[.val (.int p0), .val (.int p1), .val (.long q2), .second, .val (.int p3), .val (.int p4), .val (.int ((p1 &&& (2147483647 : Int32)) % (3 : Int32))), .val (.ref wM), .val (.int (1 : Int32)), .unset, .val (.ref b90), .unset] [(.ref b94)])
          refine own_go (fun t_ k_ => XS.dup X94.here hx rfl (hb hby at_86) rfl rfl k_) ?_
          show own_Ends _ _ _ _ _ _ _ T94 (mkF m 87 #[.val (.int p0), .val (.int p1), .val (.long q2), .second, .val (.int p3), .val (.int p4), .val (.int ((p1 &&& (2147483647 : Int32)) % (3 : Int32))), .val (.ref wM), .val (.int (1 : Int32)), .unset, .val (.ref b90), .unset] [(.ref b94), (.ref b94)])
          refine own_go (fun t_ k_ => XS.aload X94.here hx rfl (hb hby at_87) rfl rfl  k_) ?_
          show own_Ends _ _ _ _ _ _ _ T94 (mkF m 89 #[.val (.int p0), .val (.int p1), .val (.long q2), .second, .val (.int p3), .val (.int p4), .val (.int ((p1 &&& (2147483647 : Int32)) % (3 : Int32))), .val (.ref wM), .val (.int (1 : Int32)), .unset, .val (.ref b90), .unset] [(.ref b90), (.ref b94), (.ref b94)])
          have hlat : ∀ c ∈ [(nar .char ((p4 &&& (255 : Int32)).toUInt32.toUInt16.toUInt32.toInt32))], ¬ c < 0 ∧ ¬ (255 : Int32) < c := own_lat1 _
          have Nsk95 : ∀ x ∈ ([b94] : List Addr), ∀ cell : Cell, h94[x]? = some cell → cell.vm.isStatics = false := (nsS (Exa.nostat A94) ns0)
          obtain ⟨T96, v96, L96, X96, hQ96, st96⟩ := own_callNB X94 hx hZ (y := (⟨"java/lang/String", "<init>", "([C)V"⟩ : MethodName)) (rc := 1) (rs := 1) rfl hown (hw _ (List.mem_of_getElem? (i := 8) rfl)) (hw _ (List.mem_of_getElem? (i := 9) rfl)) (hw _ (List.mem_of_getElem? (i := 10) rfl)) (by decide) (StrChars.Road.backV (W := 1) hZ (fun d hd => hw d (own_sub d hd)) (kI := 4) (hw _ (List.mem_of_getElem? (i := 6) rfl)) (cs := [(nar .char ((p4 &&& (255 : Int32)).toUInt32.toUInt16.toUInt32.toInt32))]) (bs := [((nar .char ((p4 &&& (255 : Int32)).toUInt32.toUInt16.toUInt32.toInt32))).toInt8.toInt32]) (n := 1) g_b94 (Nat.le_trans (Nat.le_trans (Nat.le_trans Z0 E90.1) (Keep.of_wr W93).1) E94.1) A94 F94_value F94_coder (V93.ext E94) (((SC.ext E90).wr W93).ext E94) hzc rfl rfl (by decide) (by decide) hlat rfl (by decide) (by decide)) e94 (g := (mkF m 89 #[.val (.int p0), .val (.int p1), .val (.long q2), .second, .val (.int p3), .val (.int p4), .val (.int ((p1 &&& (2147483647 : Int32)) % (3 : Int32))), .val (.ref wM), .val (.int (1 : Int32)), .unset, .val (.ref b90), .unset] [(.ref b90), (.ref b94), (.ref b94)])) rfl (by rw [hml]; rfl) b94 [(.ref b90)] [(.ref b94)] rfl (lenOf pd___C_V rfl) rfl (by show 2 * 0 + _ ≤ _; exact Nat.le_of_eq rfl) (hb hby at_89) (by decide) (by decide)
          obtain ⟨rfl, N96q, Kq96, Eq96, Cq96, t96, kb96, -, -, -, -, -⟩ := hQ96
          refine own_go st96 ?_
          have N96 := Fr.app N93 N96q
          show own_Ends _ _ _ _ _ _ _ T96 (mkF m 92 #[.val (.int p0), .val (.int p1), .val (.long q2), .second, .val (.int p3), .val (.int p4), .val (.int ((p1 &&& (2147483647 : Int32)) % (3 : Int32))), .val (.ref wM), .val (.int (1 : Int32)), .unset, .val (.ref b90), .unset] [(.ref b94)])
          refine own_go (fun t_ k_ => XS.astore X96.here hx rfl (hb hby at_92) rfl rfl (l' := #[.val (.int p0), .val (.int p1), .val (.long q2), .second, .val (.int p3), .val (.int p4), .val (.int ((p1 &&& (2147483647 : Int32)) % (3 : Int32))), .val (.ref wM), .val (.int (1 : Int32)), .val (.ref b94), .val (.ref b90), .unset]) rfl k_) ?_
          show own_Ends _ _ _ _ _ _ _ T96 (mkF m 94 #[.val (.int p0), .val (.int p1), .val (.long q2), .second, .val (.int p3), .val (.int p4), .val (.int ((p1 &&& (2147483647 : Int32)) % (3 : Int32))), .val (.ref wM), .val (.int (1 : Int32)), .val (.ref b94), .val (.ref b90), .unset] [])
          obtain ⟨T97, h97, X97, e97, E97, A97, D97, -, st97⟩ := newO X96 hx hZ hown (hw _ (List.mem_of_getElem? (i := 34) rfl)) (hw _ (List.mem_of_getElem? (i := 35) rfl)) (hw _ (List.mem_of_getElem? (i := 36) rfl)) rfl (g := (mkF m 94 #[.val (.int p0), .val (.int p1), .val (.long q2), .second, .val (.int p3), .val (.int p4), .val (.int ((p1 &&& (2147483647 : Int32)) % (3 : Int32))), .val (.ref wM), .val (.int (1 : Int32)), .val (.ref b94), .val (.ref b90), .unset] [])) rfl (hb hby at_94) (by decide) (by decide)
          obtain ⟨b97, g97⟩ : ∃ z, z = T96.heap.size := ⟨_, rfl⟩
          rw [← g97] at A97 D97 st97
          refine own_go st97 ?_
          have g_b97 : n0 ≤ b97 := Nat.le_trans (Nat.le_trans (Nat.le_trans (Nat.le_trans (Nat.le_trans Z0 E90.1) (Keep.of_wr W93).1) E94.1) Kq96.1) (Nat.le_of_eq g97.symm)
          have F97_from : Fld Z h97 b97 "com/example/quayside/quayside/RedeliverySchedule$Step" "from" "I" (.int (0 : Int32)) := D97 (Or.inr (hw _ (List.mem_of_getElem? (i := 47) rfl))) (ty := .int) (by decide)
          have F97_action : Fld Z h97 b97 "com/example/quayside/quayside/RedeliverySchedule$Step" "action" "Lcom/example/quayside/quayside/RedeliverySchedule$Action;" .null := D97 (Or.inr (hw _ (List.mem_of_getElem? (i := 49) rfl))) (ty := (.object "com/example/quayside/quayside/RedeliverySchedule$Action")) (by decide)
          have F97_delayMs : Fld Z h97 b97 "com/example/quayside/quayside/RedeliverySchedule$Step" "delayMs" "J" (.long (0 : Int64)) := D97 (Or.inr (hw _ (List.mem_of_getElem? (i := 51) rfl))) (ty := .long) (by decide)
          have F97_topic : Fld Z h97 b97 "com/example/quayside/quayside/RedeliverySchedule$Step" "topic" "Z" (.int (0 : Int32)) := D97 (Or.inr (hw _ (List.mem_of_getElem? (i := 53) rfl))) (ty := .boolean) (by decide)
          have F97_destination : Fld Z h97 b97 "com/example/quayside/quayside/RedeliverySchedule$Step" "destination" "Ljava/lang/String;" .null := D97 (Or.inr (hw _ (List.mem_of_getElem? (i := 55) rfl))) (ty := (.object "java/lang/String")) (by decide)
          show own_Ends _ _ _ _ _ _ _ T97 (mkF m 97 #[.val (.int p0), .val (.int p1), .val (.long q2), .second, .val (.int p3), .val (.int p4), .val (.int ((p1 &&& (2147483647 : Int32)) % (3 : Int32))), .val (.ref wM), .val (.int (1 : Int32)), .val (.ref b94), .val (.ref b90), .unset] [(.ref b97)])
          refine own_go (fun t_ k_ => XS.dup X97.here hx rfl (hb hby at_97) rfl rfl k_) ?_
          show own_Ends _ _ _ _ _ _ _ T97 (mkF m 98 #[.val (.int p0), .val (.int p1), .val (.long q2), .second, .val (.int p3), .val (.int p4), .val (.int ((p1 &&& (2147483647 : Int32)) % (3 : Int32))), .val (.ref wM), .val (.int (1 : Int32)), .val (.ref b94), .val (.ref b90), .unset] [(.ref b97), (.ref b97)])
          refine own_go (fun t_ k_ => XS.iloadN X97.here hx rfl (hb hby at_98) rfl  k_) ?_
          show own_Ends _ _ _ _ _ _ _ T97 (mkF m 99 #[.val (.int p0), .val (.int p1), .val (.long q2), .second, .val (.int p3), .val (.int p4), .val (.int ((p1 &&& (2147483647 : Int32)) % (3 : Int32))), .val (.ref wM), .val (.int (1 : Int32)), .val (.ref b94), .val (.ref b90), .unset] [(.int p0), (.ref b97), (.ref b97)])
          refine own_go (fun t_ k_ => XS.aload X97.here hx rfl (hb hby at_99) rfl rfl  k_) ?_
          show own_Ends _ _ _ _ _ _ _ T97 (mkF m 101 #[.val (.int p0), .val (.int p1), .val (.long q2), .second, .val (.int p3), .val (.int p4), .val (.int ((p1 &&& (2147483647 : Int32)) % (3 : Int32))), .val (.ref wM), .val (.int (1 : Int32)), .val (.ref b94), .val (.ref b90), .unset] [(.ref wM), (.int p0), (.ref b97), (.ref b97)])
          refine own_go (fun t_ k_ => XT.lloadN X97.here hx rfl (hb hby at_101) rfl k_) ?_
          show own_Ends _ _ _ _ _ _ _ T97 (mkF m 102 #[.val (.int p0), .val (.int p1), .val (.long q2), .second, .val (.int p3), .val (.int p4), .val (.int ((p1 &&& (2147483647 : Int32)) % (3 : Int32))), .val (.ref wM), .val (.int (1 : Int32)), .val (.ref b94), .val (.ref b90), .unset] [(.long q2), (.ref wM), (.int p0), (.ref b97), (.ref b97)])
          refine own_go (fun t_ k_ => XS.iload X97.here hx rfl (hb hby at_102) rfl  k_) ?_
          show own_Ends _ _ _ _ _ _ _ T97 (mkF m 104 #[.val (.int p0), .val (.int p1), .val (.long q2), .second, .val (.int p3), .val (.int p4), .val (.int ((p1 &&& (2147483647 : Int32)) % (3 : Int32))), .val (.ref wM), .val (.int (1 : Int32)), .val (.ref b94), .val (.ref b90), .unset] [(.int (1 : Int32)), (.long q2), (.ref wM), (.int p0), (.ref b97), (.ref b97)])
          refine own_go (fun t_ k_ => XS.aload X97.here hx rfl (hb hby at_104) rfl rfl  k_) ?_
          show own_Ends _ _ _ _ _ _ _ T97 (mkF m 106 #[.val (.int p0), .val (.int p1), .val (.long q2), .second, .val (.int p3), .val (.int p4), .val (.int ((p1 &&& (2147483647 : Int32)) % (3 : Int32))), .val (.ref wM), .val (.int (1 : Int32)), .val (.ref b94), .val (.ref b90), .unset] [(.ref b94), (.int (1 : Int32)), (.long q2), (.ref wM), (.int p0), (.ref b97), (.ref b97)])
          have Nsk98 : ∀ x ∈ ([b97] : List Addr), ∀ cell : Cell, h97[x]? = some cell → cell.vm.isStatics = false := (nsS (Exa.nostat A97) ns0)
          obtain ⟨T99, v99, L99, X99, hQ99, st99⟩ := own_callN X97 hx hZ (y := (⟨"com/example/quayside/quayside/RedeliverySchedule$Step", "<init>", "(ILcom/example/quayside/quayside/RedeliverySchedule$Action;JZLjava/lang/String;)V"⟩ : MethodName)) rfl hown (hw _ (List.mem_of_getElem? (i := 37) rfl)) (hw _ (List.mem_of_getElem? (i := 38) rfl)) (hw _ (List.mem_of_getElem? (i := 36) rfl)) (hw _ (List.mem_of_getElem? (i := 39) rfl)) (by decide) (rm7 l Z a0 hw [] b97 p0 wM q2 (1 : Int32) (.ref b94) h97 n0 (Nat.le_trans (Nat.le_trans (Nat.le_trans (Nat.le_trans (Nat.le_trans Z0 E90.1) (Keep.of_wr W93).1) E94.1) Kq96.1) E97.1) rfl A97 F97_from F97_action F97_delayMs F97_topic F97_destination g_b97) e97 (g := (mkF m 106 #[.val (.int p0), .val (.int p1), .val (.long q2), .second, .val (.int p3), .val (.int p4), .val (.int ((p1 &&& (2147483647 : Int32)) % (3 : Int32))), .val (.ref wM), .val (.int (1 : Int32)), .val (.ref b94), .val (.ref b90), .unset] [(.ref b94), (.int (1 : Int32)), (.long q2), (.ref wM), (.int p0), (.ref b97), (.ref b97)])) rfl (by rw [hml]; rfl) b97 [(.int p0), (.ref wM), (.long q2), (.int (1 : Int32)), (.ref b94)] [(.ref b97)] rfl (lenOf pd__ILcom_example_quayside_quayside_RedeliverySchedule_Action_JZLjava_lang_String__V rfl) rfl 1 (by show 2 * 0 + _ ≤ _; exact Nat.le_of_eq rfl) (hb hby at_106) (by decide) (by decide) (by decide) (by decide)
          obtain ⟨rfl, N99q, Kq99, Eq99, Fq99⟩ := hQ99
          refine own_go st99 ?_
          have N99 := Fr.app N96 N99q
          show own_Ends _ _ _ _ _ _ _ T99 (mkF m 109 #[.val (.int p0), .val (.int p1), .val (.long q2), .second, .val (.int p3), .val (.int p4), .val (.int ((p1 &&& (2147483647 : Int32)) % (3 : Int32))), .val (.ref wM), .val (.int (1 : Int32)), .val (.ref b94), .val (.ref b90), .unset] [(.ref b97)])
          refine own_go (fun t_ k_ => XS.astore X99.here hx rfl (hb hby at_109) rfl rfl (l' := #[.val (.int p0), .val (.int p1), .val (.long q2), .second, .val (.int p3), .val (.int p4), .val (.int ((p1 &&& (2147483647 : Int32)) % (3 : Int32))), .val (.ref wM), .val (.int (1 : Int32)), .val (.ref b94), .val (.ref b97), .unset]) rfl k_) ?_
          show own_Ends _ _ _ _ _ _ _ T99 (mkF m 111 #[.val (.int p0), .val (.int p1), .val (.long q2), .second, .val (.int p3), .val (.int p4), .val (.int ((p1 &&& (2147483647 : Int32)) % (3 : Int32))), .val (.ref wM), .val (.int (1 : Int32)), .val (.ref b94), .val (.ref b97), .unset] [])
          refine own_go (fun t_ k_ => XS.iload X99.here hx rfl (hb hby at_111) rfl  k_) ?_
          show own_Ends _ _ _ _ _ _ _ T99 (mkF m 113 #[.val (.int p0), .val (.int p1), .val (.long q2), .second, .val (.int p3), .val (.int p4), .val (.int ((p1 &&& (2147483647 : Int32)) % (3 : Int32))), .val (.ref wM), .val (.int (1 : Int32)), .val (.ref b94), .val (.ref b97), .unset] [(.int ((p1 &&& (2147483647 : Int32)) % (3 : Int32)))])
          refine own_go (fun t_ k_ => XS.iconst X99.here hx rfl (hb hby at_113) k_) ?_
          show own_Ends _ _ _ _ _ _ _ T99 (mkF m 114 #[.val (.int p0), .val (.int p1), .val (.long q2), .second, .val (.int p3), .val (.int p4), .val (.int ((p1 &&& (2147483647 : Int32)) % (3 : Int32))), .val (.ref wM), .val (.int (1 : Int32)), .val (.ref b94), .val (.ref b97), .unset] [(.int (1 : Int32)), (.int ((p1 &&& (2147483647 : Int32)) % (3 : Int32)))])
          refine own_go (fun t_ k_ => XS.icmpYes X99.here hx rfl (pc0 := 114) (pc' := 123) rfl (hb hby at_114) rfl (feq hc36).2 (by decide) (by decide) k_) ?_
          show own_Ends _ _ _ _ _ _ _ T99 (mkF m 123 #[.val (.int p0), .val (.int p1), .val (.long q2), .second, .val (.int p3), .val (.int p4), .val (.int ((p1 &&& (2147483647 : Int32)) % (3 : Int32))), .val (.ref wM), .val (.int (1 : Int32)), .val (.ref b94), .val (.ref b97), .unset] [])
          refine own_go (fun t_ k_ => XS.iload X99.here hx rfl (hb hby at_123) rfl  k_) ?_
          show own_Ends _ _ _ _ _ _ _ T99 (mkF m 125 #[.val (.int p0), .val (.int p1), .val (.long q2), .second, .val (.int p3), .val (.int p4), .val (.int ((p1 &&& (2147483647 : Int32)) % (3 : Int32))), .val (.ref wM), .val (.int (1 : Int32)), .val (.ref b94), .val (.ref b97), .unset] [(.int ((p1 &&& (2147483647 : Int32)) % (3 : Int32)))])
          refine own_go (fun t_ k_ => XS.iconst X99.here hx rfl (hb hby at_125) k_) ?_
          show own_Ends _ _ _ _ _ _ _ T99 (mkF m 126 #[.val (.int p0), .val (.int p1), .val (.long q2), .second, .val (.int p3), .val (.int p4), .val (.int ((p1 &&& (2147483647 : Int32)) % (3 : Int32))), .val (.ref wM), .val (.int (1 : Int32)), .val (.ref b94), .val (.ref b97), .unset] [(.int (2 : Int32)), (.int ((p1 &&& (2147483647 : Int32)) % (3 : Int32)))])
          refine own_go (fun t_ k_ => XS.icmpNo X99.here hx rfl (hb hby at_126) rfl (teq (own_two p1 hc1 hc36)).2 k_) ?_
          show own_Ends _ _ _ _ _ _ _ T99 (mkF m 129 #[.val (.int p0), .val (.int p1), .val (.long q2), .second, .val (.int p3), .val (.int p4), .val (.int ((p1 &&& (2147483647 : Int32)) % (3 : Int32))), .val (.ref wM), .val (.int (1 : Int32)), .val (.ref b94), .val (.ref b97), .unset] [])
          refine own_go (fun t_ k_ => XS.iconst X99.here hx rfl (hb hby at_129) k_) ?_
          show own_Ends _ _ _ _ _ _ _ T99 (mkF m 130 #[.val (.int p0), .val (.int p1), .val (.long q2), .second, .val (.int p3), .val (.int p4), .val (.int ((p1 &&& (2147483647 : Int32)) % (3 : Int32))), .val (.ref wM), .val (.int (1 : Int32)), .val (.ref b94), .val (.ref b97), .unset] [(.int (1 : Int32))])
          refine own_go (fun t_ k_ => XS.istore X99.here hx rfl (hb hby at_130) rfl (l' := #[.val (.int p0), .val (.int p1), .val (.long q2), .second, .val (.int p3), .val (.int p4), .val (.int ((p1 &&& (2147483647 : Int32)) % (3 : Int32))), .val (.ref wM), .val (.int (1 : Int32)), .val (.ref b94), .val (.ref b97), .val (.int (1 : Int32))]) rfl k_) ?_
          show own_Ends _ _ _ _ _ _ _ T99 (mkF m 132 #[.val (.int p0), .val (.int p1), .val (.long q2), .second, .val (.int p3), .val (.int p4), .val (.int ((p1 &&& (2147483647 : Int32)) % (3 : Int32))), .val (.ref wM), .val (.int (1 : Int32)), .val (.ref b94), .val (.ref b97), .val (.int (1 : Int32))] [])
          refine own_go (fun t_ k_ => XS.goto X99.here hx rfl (pc0 := 132) (pc' := 138) rfl (hb hby at_132) (by decide) (by decide) k_) ?_
          show own_Ends _ _ _ _ _ _ _ T99 (mkF m 138 #[.val (.int p0), .val (.int p1), .val (.long q2), .second, .val (.int p3), .val (.int p4), .val (.int ((p1 &&& (2147483647 : Int32)) % (3 : Int32))), .val (.ref wM), .val (.int (1 : Int32)), .val (.ref b94), .val (.ref b97), .val (.int (1 : Int32))] [])
          refine own_go (fun t_ k_ => XS.aload X99.here hx rfl (hb hby at_138) rfl rfl  k_) ?_
          show own_Ends _ _ _ _ _ _ _ T99 (mkF m 140 #[.val (.int p0), .val (.int p1), .val (.long q2), .second, .val (.int p3), .val (.int p4), .val (.int ((p1 &&& (2147483647 : Int32)) % (3 : Int32))), .val (.ref wM), .val (.int (1 : Int32)), .val (.ref b94), .val (.ref b97), .val (.int (1 : Int32))] [(.ref b97)])
          obtain ⟨T100, v100, L100, X100, hQ100, st100⟩ := own_callV X99 hx hZ (y := (⟨"com/example/quayside/quayside/RedeliverySchedule$Step", "removes", "()Z"⟩ : MethodName)) (z := (⟨"com/example/quayside/quayside/RedeliverySchedule$Step", "removes", "()Z"⟩ : MethodName)) hown (hw _ (List.mem_of_getElem? (i := 56) rfl)) (hw _ (List.mem_of_getElem? (i := 57) rfl)) (notFace_of_selects (args := #[]) (mvT hZ (hw _ (List.mem_of_getElem? (i := 59) rfl)))) (hw _ (List.mem_of_getElem? (i := 59) rfl)) (hw _ (List.mem_of_getElem? (i := 58) rfl)) (hw _ (List.mem_of_getElem? (i := 36) rfl)) (hw _ (List.mem_of_getElem? (i := 60) rfl)) (by decide) (rm9 l Z a0 hw [] b97 wM wD T99.heap n0 (Nat.le_trans (Nat.le_trans (Nat.le_trans (Nat.le_trans (Nat.le_trans (Nat.le_trans Z0 E90.1) (Keep.of_wr W93).1) E94.1) Kq96.1) E97.1) Kq99.1) Fq99 (own_staK ((own_staK (((SD.ext E90).wr W93).ext E94) Kq96 Nsk95).ext E97) Kq99 Nsk98)) rfl (g := (mkF m 140 #[.val (.int p0), .val (.int p1), .val (.long q2), .second, .val (.int p3), .val (.int p4), .val (.int ((p1 &&& (2147483647 : Int32)) % (3 : Int32))), .val (.ref wM), .val (.int (1 : Int32)), .val (.ref b94), .val (.ref b97), .val (.int (1 : Int32))] [(.ref b97)])) rfl (by rw [hml]; rfl) b97 (A97.keep Kq99) [] [] rfl (lenOf pd___Z rfl) rfl 0 (by show 2 * 0 + _ ≤ _; exact Nat.le_of_eq rfl) (hb hby at_140) (by decide) (by decide) (by decide) (by decide)
          obtain ⟨hv100, N100q, e100⟩ := hQ100
          rw [if_neg hMD] at hv100
          subst hv100
          refine own_go st100 ?_
          have N100 := Fr.app N99 N100q
          show own_Ends _ _ _ _ _ _ _ T100 (mkF m 143 #[.val (.int p0), .val (.int p1), .val (.long q2), .second, .val (.int p3), .val (.int p4), .val (.int ((p1 &&& (2147483647 : Int32)) % (3 : Int32))), .val (.ref wM), .val (.int (1 : Int32)), .val (.ref b94), .val (.ref b97), .val (.int (1 : Int32))] [(.int (1 : Int32))])
          refine own_go (fun t_ k_ => XS.iload X100.here hx rfl (hb hby at_143) rfl  k_) ?_
          show own_Ends _ _ _ _ _ _ _ T100 (mkF m 145 #[.val (.int p0), .val (.int p1), .val (.long q2), .second, .val (.int p3), .val (.int p4), .val (.int ((p1 &&& (2147483647 : Int32)) % (3 : Int32))), .val (.ref wM), .val (.int (1 : Int32)), .val (.ref b94), .val (.ref b97), .val (.int (1 : Int32))] [(.int (1 : Int32)), (.int (1 : Int32))])
          refine own_go (fun t_ k_ => XS.icmpNo X100.here hx rfl (hb hby at_145) rfl (teq (by decide : (1 : Int32) = (1 : Int32))).2 k_) ?_
          show own_Ends _ _ _ _ _ _ _ T100 (mkF m 148 #[.val (.int p0), .val (.int p1), .val (.long q2), .second, .val (.int p3), .val (.int p4), .val (.int ((p1 &&& (2147483647 : Int32)) % (3 : Int32))), .val (.ref wM), .val (.int (1 : Int32)), .val (.ref b94), .val (.ref b97), .val (.int (1 : Int32))] [])
          refine own_go (fun t_ k_ => XS.iconst X100.here hx rfl (hb hby at_148) k_) ?_
          show own_Ends _ _ _ _ _ _ _ T100 (mkF m 149 #[.val (.int p0), .val (.int p1), .val (.long q2), .second, .val (.int p3), .val (.int p4), .val (.int ((p1 &&& (2147483647 : Int32)) % (3 : Int32))), .val (.ref wM), .val (.int (1 : Int32)), .val (.ref b94), .val (.ref b97), .val (.int (1 : Int32))] [(.int (1 : Int32))])
          refine own_go (fun t_ k_ => XS.goto X100.here hx rfl (pc0 := 149) (pc' := 153) rfl (hb hby at_149) (by decide) (by decide) k_) ?_
          show own_Ends _ _ _ _ _ _ _ T100 (mkF m 153 #[.val (.int p0), .val (.int p1), .val (.long q2), .second, .val (.int p3), .val (.int p4), .val (.int ((p1 &&& (2147483647 : Int32)) % (3 : Int32))), .val (.ref wM), .val (.int (1 : Int32)), .val (.ref b94), .val (.ref b97), .val (.int (1 : Int32))] [(.int (1 : Int32))])
          refine own_retN X100 hx hlk (t := .boolean) hret (by simp) (hb hby at_153) e100 (by decide) (by decide) ?_
          exact ⟨rfl, N100⟩
        · refine own_go (fun t_ k_ => XS.ifNo X71.here hx rfl (hb hby at_58) rfl ((if0 _ _).trans (feq hc89).1) k_) ?_
          show own_Ends _ _ _ _ _ _ _ T71 (mkF m 61 #[.val (.int p0), .val (.int p1), .val (.long q2), .second, .val (.int p3), .val (.int p4), .val (.int ((p1 &&& (2147483647 : Int32)) % (3 : Int32))), .val (.ref wM), .val (.int (1 : Int32)), .unset, .unset, .unset] [])
          refine own_go (fun t_ k_ => XS.aconstNull X71.here hx rfl (hb hby at_61) k_) ?_
          show own_Ends _ _ _ _ _ _ _ T71 (mkF m 62 #[.val (.int p0), .val (.int p1), .val (.long q2), .second, .val (.int p3), .val (.int p4), .val (.int ((p1 &&& (2147483647 : Int32)) % (3 : Int32))), .val (.ref wM), .val (.int (1 : Int32)), .unset, .unset, .unset] [.null])
          refine own_go (fun t_ k_ => XS.astore X71.here hx rfl (hb hby at_62) rfl rfl (l' := #[.val (.int p0), .val (.int p1), .val (.long q2), .second, .val (.int p3), .val (.int p4), .val (.int ((p1 &&& (2147483647 : Int32)) % (3 : Int32))), .val (.ref wM), .val (.int (1 : Int32)), .val .null, .unset, .unset]) rfl k_) ?_
          show own_Ends _ _ _ _ _ _ _ T71 (mkF m 64 #[.val (.int p0), .val (.int p1), .val (.long q2), .second, .val (.int p3), .val (.int p4), .val (.int ((p1 &&& (2147483647 : Int32)) % (3 : Int32))), .val (.ref wM), .val (.int (1 : Int32)), .val .null, .unset, .unset] [])
          refine own_go (fun t_ k_ => XS.goto X71.here hx rfl (pc0 := 64) (pc' := 94) rfl (hb hby at_64) (by decide) (by decide) k_) ?_
          show own_Ends _ _ _ _ _ _ _ T71 (mkF m 94 #[.val (.int p0), .val (.int p1), .val (.long q2), .second, .val (.int p3), .val (.int p4), .val (.int ((p1 &&& (2147483647 : Int32)) % (3 : Int32))), .val (.ref wM), .val (.int (1 : Int32)), .val .null, .unset, .unset] [])
          obtain ⟨T101, h101, X101, e101, E101, A101, D101, -, st101⟩ := newO X71 hx hZ hown (hw _ (List.mem_of_getElem? (i := 34) rfl)) (hw _ (List.mem_of_getElem? (i := 35) rfl)) (hw _ (List.mem_of_getElem? (i := 36) rfl)) e71 (g := (mkF m 94 #[.val (.int p0), .val (.int p1), .val (.long q2), .second, .val (.int p3), .val (.int p4), .val (.int ((p1 &&& (2147483647 : Int32)) % (3 : Int32))), .val (.ref wM), .val (.int (1 : Int32)), .val .null, .unset, .unset] [])) rfl (hb hby at_94) (by decide) (by decide)
          obtain ⟨b101, g101⟩ : ∃ z, z = h0.size := ⟨_, rfl⟩
          rw [← g101] at A101 D101 st101
          refine own_go st101 ?_
          have g_b101 : n0 ≤ b101 := Nat.le_trans Z0 (Nat.le_of_eq g101.symm)
          have F101_from : Fld Z h101 b101 "com/example/quayside/quayside/RedeliverySchedule$Step" "from" "I" (.int (0 : Int32)) := D101 (Or.inr (hw _ (List.mem_of_getElem? (i := 47) rfl))) (ty := .int) (by decide)
          have F101_action : Fld Z h101 b101 "com/example/quayside/quayside/RedeliverySchedule$Step" "action" "Lcom/example/quayside/quayside/RedeliverySchedule$Action;" .null := D101 (Or.inr (hw _ (List.mem_of_getElem? (i := 49) rfl))) (ty := (.object "com/example/quayside/quayside/RedeliverySchedule$Action")) (by decide)
          have F101_delayMs : Fld Z h101 b101 "com/example/quayside/quayside/RedeliverySchedule$Step" "delayMs" "J" (.long (0 : Int64)) := D101 (Or.inr (hw _ (List.mem_of_getElem? (i := 51) rfl))) (ty := .long) (by decide)
          have F101_topic : Fld Z h101 b101 "com/example/quayside/quayside/RedeliverySchedule$Step" "topic" "Z" (.int (0 : Int32)) := D101 (Or.inr (hw _ (List.mem_of_getElem? (i := 53) rfl))) (ty := .boolean) (by decide)
          have F101_destination : Fld Z h101 b101 "com/example/quayside/quayside/RedeliverySchedule$Step" "destination" "Ljava/lang/String;" .null := D101 (Or.inr (hw _ (List.mem_of_getElem? (i := 55) rfl))) (ty := (.object "java/lang/String")) (by decide)
          show own_Ends _ _ _ _ _ _ _ T101 (mkF m 97 #[.val (.int p0), .val (.int p1), .val (.long q2), .second, .val (.int p3), .val (.int p4), .val (.int ((p1 &&& (2147483647 : Int32)) % (3 : Int32))), .val (.ref wM), .val (.int (1 : Int32)), .val .null, .unset, .unset] [(.ref b101)])
          refine own_go (fun t_ k_ => XS.dup X101.here hx rfl (hb hby at_97) rfl rfl k_) ?_
          show own_Ends _ _ _ _ _ _ _ T101 (mkF m 98 #[.val (.int p0), .val (.int p1), .val (.long q2), .second, .val (.int p3), .val (.int p4), .val (.int ((p1 &&& (2147483647 : Int32)) % (3 : Int32))), .val (.ref wM), .val (.int (1 : Int32)), .val .null, .unset, .unset] [(.ref b101), (.ref b101)])
          refine own_go (fun t_ k_ => XS.iloadN X101.here hx rfl (hb hby at_98) rfl  k_) ?_
          show own_Ends _ _ _ _ _ _ _ T101 (mkF m 99 #[.val (.int p0), .val (.int p1), .val (.long q2), .second, .val (.int p3), .val (.int p4), .val (.int ((p1 &&& (2147483647 : Int32)) % (3 : Int32))), .val (.ref wM), .val (.int (1 : Int32)), .val .null, .unset, .unset] [(.int p0), (.ref b101), (.ref b101)])
          refine own_go (fun t_ k_ => XS.aload X101.here hx rfl (hb hby at_99) rfl rfl  k_) ?_
          show own_Ends _ _ _ _ _ _ _ T101 (mkF m 101 #[.val (.int p0), .val (.int p1), .val (.long q2), .second, .val (.int p3), .val (.int p4), .val (.int ((p1 &&& (2147483647 : Int32)) % (3 : Int32))), .val (.ref wM), .val (.int (1 : Int32)), .val .null, .unset, .unset] [(.ref wM), (.int p0), (.ref b101), (.ref b101)])
          refine own_go (fun t_ k_ => XT.lloadN X101.here hx rfl (hb hby at_101) rfl k_) ?_
          show own_Ends _ _ _ _ _ _ _ T101 (mkF m 102 #[.val (.int p0), .val (.int p1), .val (.long q2), .second, .val (.int p3), .val (.int p4), .val (.int ((p1 &&& (2147483647 : Int32)) % (3 : Int32))), .val (.ref wM), .val (.int (1 : Int32)), .val .null, .unset, .unset] [(.long q2), (.ref wM), (.int p0), (.ref b101), (.ref b101)])
          refine own_go (fun t_ k_ => XS.iload X101.here hx rfl (hb hby at_102) rfl  k_) ?_
          show own_Ends _ _ _ _ _ _ _ T101 (mkF m 104 #[.val (.int p0), .val (.int p1), .val (.long q2), .second, .val (.int p3), .val (.int p4), .val (.int ((p1 &&& (2147483647 : Int32)) % (3 : Int32))), .val (.ref wM), .val (.int (1 : Int32)), .val .null, .unset, .unset] [(.int (1 : Int32)), (.long q2), (.ref wM), (.int p0), (.ref b101), (.ref b101)])
          refine own_go (fun t_ k_ => XS.aload X101.here hx rfl (hb hby at_104) rfl rfl  k_) ?_
          show own_Ends _ _ _ _ _ _ _ T101 (mkF m 106 #[.val (.int p0), .val (.int p1), .val (.long q2), .second, .val (.int p3), .val (.int p4), .val (.int ((p1 &&& (2147483647 : Int32)) % (3 : Int32))), .val (.ref wM), .val (.int (1 : Int32)), .val .null, .unset, .unset] [.null, (.int (1 : Int32)), (.long q2), (.ref wM), (.int p0), (.ref b101), (.ref b101)])
          have Nsk102 : ∀ x ∈ ([b101] : List Addr), ∀ cell : Cell, h101[x]? = some cell → cell.vm.isStatics = false := (nsS (Exa.nostat A101) ns0)
          obtain ⟨T103, v103, L103, X103, hQ103, st103⟩ := own_callN X101 hx hZ (y := (⟨"com/example/quayside/quayside/RedeliverySchedule$Step", "<init>", "(ILcom/example/quayside/quayside/RedeliverySchedule$Action;JZLjava/lang/String;)V"⟩ : MethodName)) rfl hown (hw _ (List.mem_of_getElem? (i := 37) rfl)) (hw _ (List.mem_of_getElem? (i := 38) rfl)) (hw _ (List.mem_of_getElem? (i := 36) rfl)) (hw _ (List.mem_of_getElem? (i := 39) rfl)) (by decide) (rm7 l Z a0 hw [] b101 p0 wM q2 (1 : Int32) .null h101 n0 (Nat.le_trans Z0 E101.1) rfl A101 F101_from F101_action F101_delayMs F101_topic F101_destination g_b101) e101 (g := (mkF m 106 #[.val (.int p0), .val (.int p1), .val (.long q2), .second, .val (.int p3), .val (.int p4), .val (.int ((p1 &&& (2147483647 : Int32)) % (3 : Int32))), .val (.ref wM), .val (.int (1 : Int32)), .val .null, .unset, .unset] [.null, (.int (1 : Int32)), (.long q2), (.ref wM), (.int p0), (.ref b101), (.ref b101)])) rfl (by rw [hml]; rfl) b101 [(.int p0), (.ref wM), (.long q2), (.int (1 : Int32)), .null] [(.ref b101)] rfl (lenOf pd__ILcom_example_quayside_quayside_RedeliverySchedule_Action_JZLjava_lang_String__V rfl) rfl 1 (by show 2 * 0 + _ ≤ _; exact Nat.le_of_eq rfl) (hb hby at_106) (by decide) (by decide) (by decide) (by decide)
          obtain ⟨rfl, N103q, Kq103, Eq103, Fq103⟩ := hQ103
          refine own_go st103 ?_
          have N103 := Fr.app N0 N103q
          show own_Ends _ _ _ _ _ _ _ T103 (mkF m 109 #[.val (.int p0), .val (.int p1), .val (.long q2), .second, .val (.int p3), .val (.int p4), .val (.int ((p1 &&& (2147483647 : Int32)) % (3 : Int32))), .val (.ref wM), .val (.int (1 : Int32)), .val .null, .unset, .unset] [(.ref b101)])
          refine own_go (fun t_ k_ => XS.astore X103.here hx rfl (hb hby at_109) rfl rfl (l' := #[.val (.int p0), .val (.int p1), .val (.long q2), .second, .val (.int p3), .val (.int p4), .val (.int ((p1 &&& (2147483647 : Int32)) % (3 : Int32))), .val (.ref wM), .val (.int (1 : Int32)), .val .null, .val (.ref b101), .unset]) rfl k_) ?_
          show own_Ends _ _ _ _ _ _ _ T103 (mkF m 111 #[.val (.int p0), .val (.int p1), .val (.long q2), .second, .val (.int p3), .val (.int p4), .val (.int ((p1 &&& (2147483647 : Int32)) % (3 : Int32))), .val (.ref wM), .val (.int (1 : Int32)), .val .null, .val (.ref b101), .unset] [])
          refine own_go (fun t_ k_ => XS.iload X103.here hx rfl (hb hby at_111) rfl  k_) ?_
          show own_Ends _ _ _ _ _ _ _ T103 (mkF m 113 #[.val (.int p0), .val (.int p1), .val (.long q2), .second, .val (.int p3), .val (.int p4), .val (.int ((p1 &&& (2147483647 : Int32)) % (3 : Int32))), .val (.ref wM), .val (.int (1 : Int32)), .val .null, .val (.ref b101), .unset] [(.int ((p1 &&& (2147483647 : Int32)) % (3 : Int32)))])
          refine own_go (fun t_ k_ => XS.iconst X103.here hx rfl (hb hby at_113) k_) ?_
          show own_Ends _ _ _ _ _ _ _ T103 (mkF m 114 #[.val (.int p0), .val (.int p1), .val (.long q2), .second, .val (.int p3), .val (.int p4), .val (.int ((p1 &&& (2147483647 : Int32)) % (3 : Int32))), .val (.ref wM), .val (.int (1 : Int32)), .val .null, .val (.ref b101), .unset] [(.int (1 : Int32)), (.int ((p1 &&& (2147483647 : Int32)) % (3 : Int32)))])
          refine own_go (fun t_ k_ => XS.icmpYes X103.here hx rfl (pc0 := 114) (pc' := 123) rfl (hb hby at_114) rfl (feq hc36).2 (by decide) (by decide) k_) ?_
          show own_Ends _ _ _ _ _ _ _ T103 (mkF m 123 #[.val (.int p0), .val (.int p1), .val (.long q2), .second, .val (.int p3), .val (.int p4), .val (.int ((p1 &&& (2147483647 : Int32)) % (3 : Int32))), .val (.ref wM), .val (.int (1 : Int32)), .val .null, .val (.ref b101), .unset] [])
          refine own_go (fun t_ k_ => XS.iload X103.here hx rfl (hb hby at_123) rfl  k_) ?_
          show own_Ends _ _ _ _ _ _ _ T103 (mkF m 125 #[.val (.int p0), .val (.int p1), .val (.long q2), .second, .val (.int p3), .val (.int p4), .val (.int ((p1 &&& (2147483647 : Int32)) % (3 : Int32))), .val (.ref wM), .val (.int (1 : Int32)), .val .null, .val (.ref b101), .unset] [(.int ((p1 &&& (2147483647 : Int32)) % (3 : Int32)))])
          refine own_go (fun t_ k_ => XS.iconst X103.here hx rfl (hb hby at_125) k_) ?_
          show own_Ends _ _ _ _ _ _ _ T103 (mkF m 126 #[.val (.int p0), .val (.int p1), .val (.long q2), .second, .val (.int p3), .val (.int p4), .val (.int ((p1 &&& (2147483647 : Int32)) % (3 : Int32))), .val (.ref wM), .val (.int (1 : Int32)), .val .null, .val (.ref b101), .unset] [(.int (2 : Int32)), (.int ((p1 &&& (2147483647 : Int32)) % (3 : Int32)))])
          refine own_go (fun t_ k_ => XS.icmpNo X103.here hx rfl (hb hby at_126) rfl (teq (own_two p1 hc1 hc36)).2 k_) ?_
          show own_Ends _ _ _ _ _ _ _ T103 (mkF m 129 #[.val (.int p0), .val (.int p1), .val (.long q2), .second, .val (.int p3), .val (.int p4), .val (.int ((p1 &&& (2147483647 : Int32)) % (3 : Int32))), .val (.ref wM), .val (.int (1 : Int32)), .val .null, .val (.ref b101), .unset] [])
          refine own_go (fun t_ k_ => XS.iconst X103.here hx rfl (hb hby at_129) k_) ?_
          show own_Ends _ _ _ _ _ _ _ T103 (mkF m 130 #[.val (.int p0), .val (.int p1), .val (.long q2), .second, .val (.int p3), .val (.int p4), .val (.int ((p1 &&& (2147483647 : Int32)) % (3 : Int32))), .val (.ref wM), .val (.int (1 : Int32)), .val .null, .val (.ref b101), .unset] [(.int (1 : Int32))])
          refine own_go (fun t_ k_ => XS.istore X103.here hx rfl (hb hby at_130) rfl (l' := #[.val (.int p0), .val (.int p1), .val (.long q2), .second, .val (.int p3), .val (.int p4), .val (.int ((p1 &&& (2147483647 : Int32)) % (3 : Int32))), .val (.ref wM), .val (.int (1 : Int32)), .val .null, .val (.ref b101), .val (.int (1 : Int32))]) rfl k_) ?_
          show own_Ends _ _ _ _ _ _ _ T103 (mkF m 132 #[.val (.int p0), .val (.int p1), .val (.long q2), .second, .val (.int p3), .val (.int p4), .val (.int ((p1 &&& (2147483647 : Int32)) % (3 : Int32))), .val (.ref wM), .val (.int (1 : Int32)), .val .null, .val (.ref b101), .val (.int (1 : Int32))] [])
          refine own_go (fun t_ k_ => XS.goto X103.here hx rfl (pc0 := 132) (pc' := 138) rfl (hb hby at_132) (by decide) (by decide) k_) ?_
          show own_Ends _ _ _ _ _ _ _ T103 (mkF m 138 #[.val (.int p0), .val (.int p1), .val (.long q2), .second, .val (.int p3), .val (.int p4), .val (.int ((p1 &&& (2147483647 : Int32)) % (3 : Int32))), .val (.ref wM), .val (.int (1 : Int32)), .val .null, .val (.ref b101), .val (.int (1 : Int32))] [])
          refine own_go (fun t_ k_ => XS.aload X103.here hx rfl (hb hby at_138) rfl rfl  k_) ?_
          show own_Ends _ _ _ _ _ _ _ T103 (mkF m 140 #[.val (.int p0), .val (.int p1), .val (.long q2), .second, .val (.int p3), .val (.int p4), .val (.int ((p1 &&& (2147483647 : Int32)) % (3 : Int32))), .val (.ref wM), .val (.int (1 : Int32)), .val .null, .val (.ref b101), .val (.int (1 : Int32))] [(.ref b101)])
          obtain ⟨T104, v104, L104, X104, hQ104, st104⟩ := own_callV X103 hx hZ (y := (⟨"com/example/quayside/quayside/RedeliverySchedule$Step", "removes", "()Z"⟩ : MethodName)) (z := (⟨"com/example/quayside/quayside/RedeliverySchedule$Step", "removes", "()Z"⟩ : MethodName)) hown (hw _ (List.mem_of_getElem? (i := 56) rfl)) (hw _ (List.mem_of_getElem? (i := 57) rfl)) (notFace_of_selects (args := #[]) (mvT hZ (hw _ (List.mem_of_getElem? (i := 59) rfl)))) (hw _ (List.mem_of_getElem? (i := 59) rfl)) (hw _ (List.mem_of_getElem? (i := 58) rfl)) (hw _ (List.mem_of_getElem? (i := 36) rfl)) (hw _ (List.mem_of_getElem? (i := 60) rfl)) (by decide) (rm9 l Z a0 hw [] b101 wM wD T103.heap n0 (Nat.le_trans (Nat.le_trans Z0 E101.1) Kq103.1) Fq103 (own_staK (SD.ext E101) Kq103 Nsk102)) rfl (g := (mkF m 140 #[.val (.int p0), .val (.int p1), .val (.long q2), .second, .val (.int p3), .val (.int p4), .val (.int ((p1 &&& (2147483647 : Int32)) % (3 : Int32))), .val (.ref wM), .val (.int (1 : Int32)), .val .null, .val (.ref b101), .val (.int (1 : Int32))] [(.ref b101)])) rfl (by rw [hml]; rfl) b101 (A101.keep Kq103) [] [] rfl (lenOf pd___Z rfl) rfl 0 (by show 2 * 0 + _ ≤ _; exact Nat.le_of_eq rfl) (hb hby at_140) (by decide) (by decide) (by decide) (by decide)
          obtain ⟨hv104, N104q, e104⟩ := hQ104
          rw [if_neg hMD] at hv104
          subst hv104
          refine own_go st104 ?_
          have N104 := Fr.app N103 N104q
          show own_Ends _ _ _ _ _ _ _ T104 (mkF m 143 #[.val (.int p0), .val (.int p1), .val (.long q2), .second, .val (.int p3), .val (.int p4), .val (.int ((p1 &&& (2147483647 : Int32)) % (3 : Int32))), .val (.ref wM), .val (.int (1 : Int32)), .val .null, .val (.ref b101), .val (.int (1 : Int32))] [(.int (1 : Int32))])
          refine own_go (fun t_ k_ => XS.iload X104.here hx rfl (hb hby at_143) rfl  k_) ?_
          show own_Ends _ _ _ _ _ _ _ T104 (mkF m 145 #[.val (.int p0), .val (.int p1), .val (.long q2), .second, .val (.int p3), .val (.int p4), .val (.int ((p1 &&& (2147483647 : Int32)) % (3 : Int32))), .val (.ref wM), .val (.int (1 : Int32)), .val .null, .val (.ref b101), .val (.int (1 : Int32))] [(.int (1 : Int32)), (.int (1 : Int32))])
          refine own_go (fun t_ k_ => XS.icmpNo X104.here hx rfl (hb hby at_145) rfl (teq (by decide : (1 : Int32) = (1 : Int32))).2 k_) ?_
          show own_Ends _ _ _ _ _ _ _ T104 (mkF m 148 #[.val (.int p0), .val (.int p1), .val (.long q2), .second, .val (.int p3), .val (.int p4), .val (.int ((p1 &&& (2147483647 : Int32)) % (3 : Int32))), .val (.ref wM), .val (.int (1 : Int32)), .val .null, .val (.ref b101), .val (.int (1 : Int32))] [])
          refine own_go (fun t_ k_ => XS.iconst X104.here hx rfl (hb hby at_148) k_) ?_
          show own_Ends _ _ _ _ _ _ _ T104 (mkF m 149 #[.val (.int p0), .val (.int p1), .val (.long q2), .second, .val (.int p3), .val (.int p4), .val (.int ((p1 &&& (2147483647 : Int32)) % (3 : Int32))), .val (.ref wM), .val (.int (1 : Int32)), .val .null, .val (.ref b101), .val (.int (1 : Int32))] [(.int (1 : Int32))])
          refine own_go (fun t_ k_ => XS.goto X104.here hx rfl (pc0 := 149) (pc' := 153) rfl (hb hby at_149) (by decide) (by decide) k_) ?_
          show own_Ends _ _ _ _ _ _ _ T104 (mkF m 153 #[.val (.int p0), .val (.int p1), .val (.long q2), .second, .val (.int p3), .val (.int p4), .val (.int ((p1 &&& (2147483647 : Int32)) % (3 : Int32))), .val (.ref wM), .val (.int (1 : Int32)), .val .null, .val (.ref b101), .val (.int (1 : Int32))] [(.int (1 : Int32))])
          refine own_retN X104 hx hlk (t := .boolean) hret (by simp) (hb hby at_153) e104 (by decide) (by decide) ?_
          exact ⟨rfl, N104⟩
set_option maxRecDepth 65536 in
set_option maxHeartbeats 40000000 in
theorem comes_1 {Post : Tables → Env → Array Value → State → Outcome → State → Prop} (hpost : ∀ tb e args s v u, (limb_1_1.after args s (.returned v) u = true ∧ limb_1_2.after args s (.returned v) u = true ∧ True) → FrameEnd s (.returned v) u (Jvm.fieldLocs frame_1_writes args s ++ Jvm.arrayLocs frame_1_arrays args s ++ Jvm.staticLocs frame_1_statics s) 16 128 → Post tb e args s (.returned v) u) :
    ArmFor flags0 classFile x code maxLocals ret World_1 tables_1 room_1 Calls_1 rest_1 Pre_1 Post := by
  intro l hfl _ _ p e ha hc hk s m args below hf hA hF happ hP
  obtain ⟨hcalls, hrest, hpre⟩ := hP
  obtain ⟨-, -, -, hnamed, -, -, -, hat⟩ := (Spec.applies_iff hf).mp happ
  obtain ⟨hg, hn⟩ := and_e (Cond.before_iff.mp (show (Jvm.Cond.and given_1 narrow_1).before args s = true from hpre))
  obtain ⟨g1, g2⟩ := and_e hg
  obtain ⟨g3, g4⟩ := and_e g2
  obtain ⟨g5, g6⟩ := and_e g4
  obtain ⟨g7, g8⟩ := and_e g6
  obtain ⟨g9, g10⟩ := and_e g8
  obtain ⟨w0, w1, w2, w3, w4, rfl⟩ : ∃ w0 w1 w2 w3 w4 : Value, args = #[w0, w1, w2, w3, w4] := by
    have hs : args.size = 5 := by simpa [Cond.value, given_1] using g1
    obtain ⟨L⟩ := args
    match L, hs with
    | [w0, w1, w2, w3, w4], _ => exact ⟨w0, w1, w2, w3, w4, rfl⟩
  have hw := fun d (hd : d ∈ tables_1) => atoms_spec (ws := Jvm.Cond.code x code maxLocals ret :: tables_1) hat d (List.mem_cons_of_mem _ hd)
  have hfit : Fit s := fun {y c} hc i hi => by
    obtain ⟨ha, rfl⟩ := Array.getElem?_eq_some_iff.mp hc
    have q := List.all_eq_true.mp ((Array.all_eq_true_iff_forall_mem.mp hF) _ (Array.getElem_mem ha)) i (List.mem_range.mpr hi)
    simpa [Array.getElem?_eq_getElem hi] using q
  obtain ⟨hsets, hown0⟩ := atoms_of _ (rest_1_c_eq ▸ (show rest_1_c.before _ s = true from hrest))
  obtain ⟨i0, ei0⟩ := is_v g3
  obtain rfl : w0 = (.int i0) := Option.some.inj ei0
  obtain ⟨i1, ei1⟩ := is_v g5
  obtain rfl : w1 = (.int i1) := Option.some.inj ei1
  obtain ⟨i2, ei2⟩ := isL_v g7
  obtain rfl : w2 = (.long i2) := Option.some.inj ei2
  obtain ⟨i3, ei3⟩ := is_v g9
  obtain rfl : w3 = (.int i3) := Option.some.inj ei3
  obtain ⟨i4, ei4⟩ := is_v g10
  obtain rfl : w4 = (.int i4) := Option.some.inj ei4
  unfold narrow_1 at hn
  obtain ⟨g11, g12⟩ := and_e hn
  obtain ⟨g13, g14⟩ := and_e g12
  obtain ⟨g15, g16⟩ := and_e g14
  obtain ⟨g17, g18⟩ := and_e g16
  obtain ⟨g19, g20⟩ := and_e g18
  obtain ⟨a_DELAY, ev_DELAY⟩ := exa_v g11
  have E_DELAY := Exa.start ev_DELAY g11
  have S_DELAY := Sta.start ev_DELAY (Or.inr ⟨(hw _ (List.mem_of_getElem? (i := 2) rfl)), (hw _ (List.mem_of_getElem? (i := 3) rfl))⟩)
  obtain ⟨a_DELETE, ev_DELETE⟩ := exa_v g13
  have E_DELETE := Exa.start ev_DELETE g13
  have S_DELETE := Sta.start ev_DELETE (Or.inr ⟨(hw _ (List.mem_of_getElem? (i := 2) rfl)), (hw _ (List.mem_of_getElem? (i := 63) rfl))⟩)
  have F_DELETE_ordinal := own_fldI ev_DELETE g15
  have F_DELAY_ordinal := own_fldI ev_DELAY g17
  obtain ⟨a_MOVE, ev_MOVE⟩ := exa_v g19
  have E_MOVE := Exa.start ev_MOVE g19
  have S_MOVE := Sta.start ev_MOVE (Or.inr ⟨(hw _ (List.mem_of_getElem? (i := 2) rfl)), (hw _ (List.mem_of_getElem? (i := 65) rfl))⟩)
  have F_MOVE_ordinal := own_fldI ev_MOVE g20
  obtain ⟨zc, evc⟩ := is_v (Cond.before_iff.mp (hsets _ (List.mem_of_getElem? (i := 1) rfl)))
  have SC := Sta.start evc (Or.inl (hsets _ (List.mem_of_getElem? (i := 0) rfl)))
  have hzc : ¬ zc = 0 := own_nz evc (Cond.before_iff.mp (hsets _ (List.mem_of_getElem? (i := 2) rfl)))
  obtain ⟨n, o, h1, h2, h3, _, L, rfl, ⟨rfl, N⟩, hq⟩ := rm0 l s _ hw tables_1 i0 i1 i2 i3 i4 a_DELAY a_DELETE a_MOVE zc s.heap s.heap.size (Nat.le_refl _) S_DELAY S_DELETE S_MOVE SC hzc (Fld.ne F_DELETE_ordinal F_DELAY_ordinal (by decide)) (Fld.ne F_MOVE_ordinal F_DELAY_ordinal (by decide)) p e ha hc hk s m _ below hf ((Spec.applies_iff_loose hf).mp happ).1 ⟨rfl, State.Warmed39.refl s, rfl⟩ trivial
  refine ⟨n, _, h1, h2, h3, hpost _ _ _ _ _ _ ⟨Cond.after_iff.mpr rfl, Cond.after_iff.mpr (eq_i res_at (Term.int_eval (1)) rfl), trivial⟩ ⟨hq.1, hq.2.1, (hq.2.2.sift fun y hy => Or.inr (N y hy)).mono (by decide) (by decide)⟩⟩
theorem main_1_1 : Claimed_1_1 := comes_1 fun _ _ _ _ _ _ h hF => ⟨h.1, hF⟩
theorem main_1_2 : Claimed_1_2 := comes_1 fun _ _ _ _ _ _ h hF => ⟨h.2.1, hF⟩
end Jvm.Pilot.@@N@@
namespace Jvm.Pilot.@@N@@
open Jvm Jvm.ClassFile Sem Op Lib Jvm.Free Jvm.Stand Jvm.Pilot.@@N@@.Jvm.D
/-! MADE BY PROGRAM (witnessworld.py) out of the Statement's table words and the real class files: 23 classes; the members and pool entries that the words name. The judged class is class 1, her method 1. -/
namespace start1
open Jvm.ClassFile
def u (s : String) : CpInfo := .utf8 (stringToUtf16 s)
/-- a pool by its gaps: so many unusable entries, then the entry; so many at the end -/
def gap : Nat → List CpInfo → List CpInfo
  | 0, r => r
  | n + 1, r => .unusable :: gap n r
def poolList (es : List (Nat × CpInfo)) (last : Nat) : List CpInfo := es.foldr (fun e r => gap e.1 (e.2 :: r)) (gap last [])
def pool (es : List (Nat × CpInfo)) (last : Nat) : Array CpInfo := ⟨poolList es last⟩
def fileOf (pool : Array CpInfo) (this : Nat) (attrs : Array Attribute := #[]) (ms : Array MethodInfo := #[]) (fl : Nat := 33) (sup : Nat := 0) (ifs : Array Nat := #[]) (fds : Array FieldInfo := #[]) : ClassFile where
  minorVersion := 0
  majorVersion := 65
  constantPool := pool
  accessFlags := fl
  thisClass := this
  superClass := sup
  interfaces := ifs
  fields := fds
  methods := ms
  attributes := attrs
def plain (name : String) (sup : Option ClassId) : Class where
  name := name
  kind := .ordinary
  loader := none
  accessFlags := 33
  super := sup
  interfaces := #[]
  cf := none
  fields := #[]
  methods := #[]
  instanceTypes := #[]
  staticTypes := #[]
  resolved := #[]
  callSites := []
  init := .initialized
  statics := none
  mirror := none

def pool0 : Array CpInfo := pool [(5, u "<init>"), (0, u "()V"), (1, .class_ 10), (1, u "java/lang/Object")] 113

def k0c0 : Code := { maxStack := 0, maxLocals := 1, code := object_method_1_code, exceptionTable := #[], attributes := #[] }
def k0m0 : Method := { name := "<init>", desc := "()V", sig := { parameters := [], returnType := none }, accessFlags := 1, code := some k0c0 }
/-- java/lang/Object -/
def k0 : Class := { plain "java/lang/Object" none with
  accessFlags := 33
  interfaces := #[]
  cf := some (fileOf pool0 8 #[] #[{ accessFlags := 1, nameIndex := 5, descriptorIndex := 6, attributes := #[] }] 33 0 #[] #[])
  fields := #[]
  methods := #[k0m0]
  instanceTypes := #[]
  staticTypes := #[]
  resolved := Array.replicate 124 none
  statics := none }

def pool1 : Array CpInfo := pool [(2, .class_ 4), (1, u "java/lang/Object"), (0, u "<init>"), (0, u "()V"), (0, .integer 2147483647), (0, .fieldref 9 10), (0, .class_ 11), (0, .nameAndType 12 13), (0, u "com/example/quayside/quayside/RedeliverySchedule$Action"), (0, u "DELAY"), (0, u "Lcom/example/quayside/quayside/RedeliverySchedule$Action;"), (0, .fieldref 9 15), (0, .nameAndType 16 13), (0, u "DELETE"), (0, .fieldref 9 18), (0, .nameAndType 19 13), (0, u "MOVE"), (0, .class_ 21), (0, u "java/lang/String"), (0, .methodref 20 23), (0, .nameAndType 5 24), (0, u "([C)V"), (0, .class_ 26), (0, u "com/example/quayside/quayside/RedeliverySchedule$Step"), (0, .methodref 25 28), (0, .nameAndType 5 29), (0, u "(ILcom/example/quayside/quayside/RedeliverySchedule$Action;JZLjava/lang/String;)V"), (0, .methodref 25 31), (0, .nameAndType 32 33), (0, u "removes"), (0, u "()Z"), (0, .class_ 35), (0, u "com/example/quayside/quayside/StepRemovesPinLaw"), (2, u "law"), (0, u "(IIJII)Z")] 8

def k1m0 : Method := { name := "<init>", desc := "()V", sig := { parameters := [], returnType := none }, accessFlags := 1, code := none }
def k1c1 : Code := { maxStack := 8, maxLocals := 12, code := code, exceptionTable := #[], attributes := #[] }
def k1m1 : Method := { name := "law", desc := "(IIJII)Z", sig := { parameters := [.int, .int, .long, .int, .int], returnType := some .boolean }, accessFlags := 9, code := some k1c1 }
/-- com/example/quayside/quayside/StepRemovesPinLaw -/
def k1 : Class := { plain "com/example/quayside/quayside/StepRemovesPinLaw" (some 0) with
  accessFlags := 49
  interfaces := #[]
  cf := some (fileOf pool1 34 #[] #[{ accessFlags := 1, nameIndex := 5, descriptorIndex := 6, attributes := #[] }, { accessFlags := 9, nameIndex := 38, descriptorIndex := 39, attributes := #[] }] 49 2 #[] #[])
  fields := #[]
  methods := #[k1m0, k1m1]
  instanceTypes := #[]
  staticTypes := #[]
  resolved := Array.replicate 48 none
  statics := none }

def pool2 : Array CpInfo := pool [(1, .class_ 2), (0, u "java/lang/constant/Constable"), (0, .class_ 4), (0, u "java/lang/Object")] 6

/-- java/lang/constant/Constable -/
def k2 : Class := { plain "java/lang/constant/Constable" (some 0) with
  accessFlags := 1537
  interfaces := #[]
  cf := some (fileOf pool2 1 #[] #[] 1537 3 #[] #[])
  fields := #[]
  methods := #[]
  instanceTypes := #[]
  staticTypes := #[]
  resolved := Array.replicate 11 none
  statics := none }

def pool3 : Array CpInfo := pool [(1, .class_ 2), (0, u "java/lang/Comparable"), (0, .class_ 4), (0, u "java/lang/Object")] 7

/-- java/lang/Comparable -/
def k3 : Class := { plain "java/lang/Comparable" (some 0) with
  accessFlags := 1537
  interfaces := #[]
  cf := some (fileOf pool3 1 #[] #[] 1537 3 #[] #[])
  fields := #[]
  methods := #[]
  instanceTypes := #[]
  staticTypes := #[]
  resolved := Array.replicate 12 none
  statics := none }

def pool4 : Array CpInfo := pool [(1, .class_ 2), (0, u "java/io/Serializable"), (0, .class_ 4), (0, u "java/lang/Object")] 2

/-- java/io/Serializable -/
def k4 : Class := { plain "java/io/Serializable" (some 0) with
  accessFlags := 1537
  interfaces := #[]
  cf := some (fileOf pool4 1 #[] #[] 1537 3 #[] #[])
  fields := #[]
  methods := #[]
  instanceTypes := #[]
  staticTypes := #[]
  resolved := Array.replicate 7 none
  statics := none }

def pool5 : Array CpInfo := pool [(2, .class_ 4), (1, u "java/lang/Enum"), (0, u "name"), (0, u "Ljava/lang/String;"), (2, u "ordinal"), (0, u "I"), (1, .class_ 14), (1, u "java/lang/Object"), (4, u "hash"), (86, .class_ 108), (1, u "java/lang/Enum$EnumDesc"), (2, .class_ 112), (0, u "java/lang/constant/Constable"), (0, .class_ 114), (0, u "java/lang/Comparable"), (0, .class_ 116), (0, u "java/io/Serializable")] 87

/-- java/lang/Enum -/
def k5 : Class := { plain "java/lang/Enum" (some 0) with
  accessFlags := 1057
  interfaces := #[2, 3, 4]
  cf := some (fileOf pool5 2 #[.nestMembers #[106]] #[] 1057 12 #[111, 113, 115] #[{ accessFlags := 18, nameIndex := 5, descriptorIndex := 6, attributes := #[] }, { accessFlags := 18, nameIndex := 9, descriptorIndex := 10, attributes := #[] }, { accessFlags := 2, nameIndex := 19, descriptorIndex := 10, attributes := #[] }])
  fields := #[{ name := "name", type := (.object "java/lang/String"), accessFlags := 18, slot := 0, constantValue := 0 }, { name := "ordinal", type := .int, accessFlags := 18, slot := 1, constantValue := 0 }, { name := "hash", type := .int, accessFlags := 2, slot := 2, constantValue := 0 }]
  methods := #[]
  instanceTypes := #[(.object "java/lang/String"), .int, .int]
  staticTypes := #[]
  resolved := Array.replicate 204 none
  statics := none }

def pool6 : Array CpInfo := pool [(1, .class_ 2), (0, u "com/example/quayside/quayside/RedeliverySchedule$Action"), (2, u "DELAY"), (0, u "Lcom/example/quayside/quayside/RedeliverySchedule$Action;"), (2, u "DELETE"), (2, u "MOVE"), (2, u "$VALUES"), (0, u "[Lcom/example/quayside/quayside/RedeliverySchedule$Action;"), (6, .class_ 25), (1, u "java/lang/Enum"), (26, .class_ 53), (0, u "com/example/quayside/quayside/RedeliverySchedule")] 2

/-- com/example/quayside/quayside/RedeliverySchedule$Action -/
def k6 : Class := { plain "com/example/quayside/quayside/RedeliverySchedule$Action" (some 5) with
  accessFlags := 16432
  interfaces := #[]
  cf := some (fileOf pool6 1 #[.nestHost 52] #[] 16432 23 #[] #[{ accessFlags := 16409, nameIndex := 5, descriptorIndex := 6, attributes := #[] }, { accessFlags := 16409, nameIndex := 9, descriptorIndex := 6, attributes := #[] }, { accessFlags := 16409, nameIndex := 12, descriptorIndex := 6, attributes := #[] }, { accessFlags := 4122, nameIndex := 15, descriptorIndex := 16, attributes := #[] }])
  fields := #[{ name := "DELAY", type := (.object "com/example/quayside/quayside/RedeliverySchedule$Action"), accessFlags := 16409, slot := 0, constantValue := 0 }, { name := "DELETE", type := (.object "com/example/quayside/quayside/RedeliverySchedule$Action"), accessFlags := 16409, slot := 1, constantValue := 0 }, { name := "MOVE", type := (.object "com/example/quayside/quayside/RedeliverySchedule$Action"), accessFlags := 16409, slot := 2, constantValue := 0 }, { name := "$VALUES", type := (.array (.object "com/example/quayside/quayside/RedeliverySchedule$Action")), accessFlags := 4122, slot := 3, constantValue := 0 }]
  methods := #[]
  instanceTypes := #[(.object "java/lang/String"), .int, .int]
  staticTypes := #[(.object "com/example/quayside/quayside/RedeliverySchedule$Action"), (.object "com/example/quayside/quayside/RedeliverySchedule$Action"), (.object "com/example/quayside/quayside/RedeliverySchedule$Action"), (.array (.object "com/example/quayside/quayside/RedeliverySchedule$Action"))]
  resolved := Array.replicate 56 none
  statics := some 0 }

def pool7 : Array CpInfo := pool [(2, .class_ 4), (1, u "java/lang/CharSequence"), (42, .class_ 48), (0, u "java/lang/CharSequence$1CodePointIterator"), (10, .class_ 60), (0, u "java/lang/CharSequence$1CharIterator"), (5, .class_ 67), (0, u "java/lang/Object")] 63

/-- java/lang/CharSequence -/
def k7 : Class := { plain "java/lang/CharSequence" (some 0) with
  accessFlags := 1537
  interfaces := #[]
  cf := some (fileOf pool7 2 #[.nestMembers #[47, 59]] #[] 1537 66 #[] #[])
  fields := #[]
  methods := #[]
  instanceTypes := #[]
  staticTypes := #[]
  resolved := Array.replicate 131 none
  statics := none }

def pool8 : Array CpInfo := pool [(1, .class_ 2), (0, u "java/lang/constant/ConstantDesc"), (0, .class_ 4), (0, u "java/lang/Object")] 32

/-- java/lang/constant/ConstantDesc -/
def k8 : Class := { plain "java/lang/constant/ConstantDesc" (some 0) with
  accessFlags := 1537
  interfaces := #[]
  cf := some (fileOf pool8 1 #[] #[] 1537 3 #[] #[])
  fields := #[]
  methods := #[]
  instanceTypes := #[]
  staticTypes := #[]
  resolved := Array.replicate 37 none
  statics := none }

def pool9 : Array CpInfo := pool [(1, .methodref 2 3), (0, .class_ 4), (0, .nameAndType 5 6), (0, u "java/lang/Object"), (0, u "<init>"), (0, u "()V"), (2, .fieldref 10 11), (0, .class_ 12), (0, .nameAndType 13 14), (0, u "java/lang/String"), (0, u "value"), (0, u "[B"), (0, .fieldref 10 16), (0, .nameAndType 17 18), (0, u "coder"), (0, u "B"), (2, u "hash"), (0, u "I"), (2, u "hashIsZero"), (0, u "Z"), (0, .methodref 10 28), (0, .nameAndType 5 29), (0, u "([CIILjava/lang/Void;)V"), (8, .fieldref 10 39), (0, .nameAndType 40 26), (0, u "COMPACT_STRINGS"), (1, .class_ 44), (1, u "java/lang/StringUTF16"), (0, u "compress"), (1, .methodref 42 48), (0, .nameAndType 49 50), (0, u "coderFromArrayLen"), (0, u "([BI)B"), (126, .methodref 42 178), (0, .nameAndType 45 179), (0, u "([CII)[B"), (395, .class_ 576), (0, u "java/lang/CharSequence"), (22, u "CASE_INSENSITIVE_ORDER"), (0, u "Ljava/util/Comparator;"), (409, u "([C)V"), (90, u "serialPersistentFields"), (0, u "[Ljava/io/ObjectStreamField;"), (0, .class_ 1104), (0, u "java/lang/String$CaseInsensitiveComparator"), (1, .class_ 1107), (0, u "java/io/Serializable"), (0, .class_ 1109), (0, u "java/lang/Comparable"), (0, .class_ 1111), (0, u "java/lang/constant/Constable"), (0, .class_ 1113), (0, u "java/lang/constant/ConstantDesc"), (2, u "serialVersionUID"), (0, u "J"), (3, u "REPL"), (0, u "C"), (2, u "LATIN1"), (1, u "UTF16")] 323

def k9m0 : Method := { name := "<init>", desc := "()V", sig := { parameters := [], returnType := none }, accessFlags := 1, code := none }
def k9c1 : Code := { maxStack := 5, maxLocals := 2, code := jdk_42_method_3_code, exceptionTable := #[], attributes := #[] }
def k9m1 : Method := { name := "<init>", desc := "([C)V", sig := { parameters := [(.array .char)], returnType := none }, accessFlags := 1, code := some k9c1 }
def k9c2 : Code := { maxStack := 4, maxLocals := 6, code := jdk_42_method_149_code, exceptionTable := #[], attributes := #[] }
def k9m2 : Method := { name := "<init>", desc := "([CIILjava/lang/Void;)V", sig := { parameters := [(.array .char), .int, .int, (.object "java/lang/Void")], returnType := none }, accessFlags := 2, code := some k9c2 }
/-- java/lang/String -/
def k9 : Class := { plain "java/lang/String" (some 0) with
  accessFlags := 49
  interfaces := #[4, 3, 7, 2, 8]
  cf := some (fileOf pool9 10 #[.nestMembers #[1103]] #[{ accessFlags := 1, nameIndex := 5, descriptorIndex := 6, attributes := #[] }, { accessFlags := 1, nameIndex := 5, descriptorIndex := 1010, attributes := #[] }, { accessFlags := 2, nameIndex := 5, descriptorIndex := 29, attributes := #[] }] 49 2 #[1106, 1108, 575, 1110, 1112] #[{ accessFlags := 18, nameIndex := 13, descriptorIndex := 14, attributes := #[] }, { accessFlags := 18, nameIndex := 17, descriptorIndex := 18, attributes := #[] }, { accessFlags := 2, nameIndex := 21, descriptorIndex := 22, attributes := #[] }, { accessFlags := 2, nameIndex := 25, descriptorIndex := 26, attributes := #[] }, { accessFlags := 26, nameIndex := 1116, descriptorIndex := 1117, attributes := #[] }, { accessFlags := 24, nameIndex := 40, descriptorIndex := 26, attributes := #[] }, { accessFlags := 26, nameIndex := 1101, descriptorIndex := 1102, attributes := #[] }, { accessFlags := 26, nameIndex := 1121, descriptorIndex := 1122, attributes := #[] }, { accessFlags := 25, nameIndex := 599, descriptorIndex := 600, attributes := #[] }, { accessFlags := 24, nameIndex := 1125, descriptorIndex := 18, attributes := #[] }, { accessFlags := 24, nameIndex := 1127, descriptorIndex := 18, attributes := #[] }])
  fields := #[{ name := "value", type := (.array .byte), accessFlags := 18, slot := 0, constantValue := 0 }, { name := "coder", type := .byte, accessFlags := 18, slot := 1, constantValue := 0 }, { name := "hash", type := .int, accessFlags := 2, slot := 2, constantValue := 0 }, { name := "hashIsZero", type := .boolean, accessFlags := 2, slot := 3, constantValue := 0 }, { name := "serialVersionUID", type := .long, accessFlags := 26, slot := 0, constantValue := 0 }, { name := "COMPACT_STRINGS", type := .boolean, accessFlags := 24, slot := 1, constantValue := 0 }, { name := "serialPersistentFields", type := (.array (.object "java/io/ObjectStreamField")), accessFlags := 26, slot := 2, constantValue := 0 }, { name := "REPL", type := .char, accessFlags := 26, slot := 3, constantValue := 0 }, { name := "CASE_INSENSITIVE_ORDER", type := (.object "java/util/Comparator"), accessFlags := 25, slot := 4, constantValue := 0 }, { name := "LATIN1", type := .byte, accessFlags := 24, slot := 5, constantValue := 0 }, { name := "UTF16", type := .byte, accessFlags := 24, slot := 6, constantValue := 0 }]
  methods := #[k9m0, k9m1, k9m2]
  instanceTypes := #[(.array .byte), .byte, .int, .boolean]
  staticTypes := #[.long, .boolean, (.array (.object "java/io/ObjectStreamField")), .char, (.object "java/util/Comparator"), .byte, .byte]
  resolved := Array.replicate 1451 none
  statics := some 1 }

def pool10 : Array CpInfo := pool [(6, .class_ 8), (1, u "java/lang/Object"), (0, u "<init>"), (0, u "()V"), (1, .class_ 14), (1, u "java/lang/StringUTF16"), (31, u "$assertionsDisabled"), (0, u "Z"), (13, u "HI_BYTE_SHIFT"), (0, u "I"), (2, u "LO_BYTE_SHIFT"), (49, .methodref 12 116), (0, .nameAndType 117 118), (0, u "compress"), (0, u "([CI[BII)I"), (3, u "([CII)[B"), (138, u "coderFromArrayLen"), (0, u "([BI)B"), (106, .class_ 371), (1, u "java/lang/StringUTF16$LinesSpliterator"), (58, u "MAX_LENGTH"), (196, .class_ 628), (0, u "java/lang/StringUTF16$CodePointsSpliterator"), (0, .class_ 630), (0, u "java/lang/StringUTF16$CharsSpliterator")] 4

def k10m0 : Method := { name := "<init>", desc := "()V", sig := { parameters := [], returnType := none }, accessFlags := 0, code := none }
def k10c1 : Code := { maxStack := 2, maxLocals := 2, code := jdk_52_method_15_code, exceptionTable := #[], attributes := #[] }
def k10m1 : Method := { name := "coderFromArrayLen", desc := "([BI)B", sig := { parameters := [(.array .byte), .int], returnType := some .byte }, accessFlags := 8, code := some k10c1 }
def k10c2 : Code := { maxStack := 5, maxLocals := 6, code := jdk_52_method_16_code, exceptionTable := #[], attributes := #[] }
def k10m2 : Method := { name := "compress", desc := "([CII)[B", sig := { parameters := [(.array .char), .int, .int], returnType := some (.array .byte) }, accessFlags := 9, code := some k10c2 }
def k10c3 : Code := { maxStack := 3, maxLocals := 7, code := jdk_52_method_21_code, exceptionTable := #[], attributes := #[] }
def k10m3 : Method := { name := "compress", desc := "([CI[BII)I", sig := { parameters := [(.array .char), .int, (.array .byte), .int, .int], returnType := some .int }, accessFlags := 9, code := some k10c3 }
/-- java/lang/StringUTF16 -/
def k10 : Class := { plain "java/lang/StringUTF16" (some 0) with
  accessFlags := 48
  interfaces := #[]
  cf := some (fileOf pool10 12 #[.nestMembers #[627, 629, 369]] #[{ accessFlags := 0, nameIndex := 9, descriptorIndex := 10, attributes := #[] }, { accessFlags := 8, nameIndex := 261, descriptorIndex := 262, attributes := #[] }, { accessFlags := 9, nameIndex := 117, descriptorIndex := 122, attributes := #[] }, { accessFlags := 9, nameIndex := 117, descriptorIndex := 118, attributes := #[] }] 48 6 #[] #[{ accessFlags := 26, nameIndex := 61, descriptorIndex := 62, attributes := #[] }, { accessFlags := 26, nameIndex := 65, descriptorIndex := 62, attributes := #[] }, { accessFlags := 24, nameIndex := 430, descriptorIndex := 62, attributes := #[] }, { accessFlags := 4120, nameIndex := 46, descriptorIndex := 47, attributes := #[] }])
  fields := #[{ name := "HI_BYTE_SHIFT", type := .int, accessFlags := 26, slot := 0, constantValue := 0 }, { name := "LO_BYTE_SHIFT", type := .int, accessFlags := 26, slot := 1, constantValue := 0 }, { name := "MAX_LENGTH", type := .int, accessFlags := 24, slot := 2, constantValue := 0 }, { name := "$assertionsDisabled", type := .boolean, accessFlags := 4120, slot := 3, constantValue := 0 }]
  methods := #[k10m0, k10m1, k10m2, k10m3]
  instanceTypes := #[]
  staticTypes := #[.int, .int, .int, .boolean]
  resolved := Array.replicate 635 none
  statics := none }

def pool11 : Array CpInfo := pool [(1, .methodref 2 3), (0, .class_ 4), (0, .nameAndType 5 6), (0, u "java/lang/Object"), (0, u "<init>"), (0, u "()V"), (0, .class_ 8), (0, u "java/lang/Record")] 13

def k11c0 : Code := { maxStack := 1, maxLocals := 1, code := jdk_30_method_1_code, exceptionTable := #[], attributes := #[] }
def k11m0 : Method := { name := "<init>", desc := "()V", sig := { parameters := [], returnType := none }, accessFlags := 4, code := some k11c0 }
/-- java/lang/Record -/
def k11 : Class := { plain "java/lang/Record" (some 0) with
  accessFlags := 1057
  interfaces := #[]
  cf := some (fileOf pool11 7 #[] #[{ accessFlags := 4, nameIndex := 5, descriptorIndex := 6, attributes := #[] }] 1057 2 #[] #[])
  fields := #[]
  methods := #[k11m0]
  instanceTypes := #[]
  staticTypes := #[]
  resolved := Array.replicate 22 none
  statics := none }

def pool12 : Array CpInfo := pool [(1, .class_ 2), (0, u "com/example/quayside/quayside/RedeliverySchedule"), (0, .methodref 4 5), (0, .class_ 6), (0, .nameAndType 7 8), (0, u "java/lang/Record"), (0, u "<init>"), (0, u "()V"), (0, .fieldref 10 11), (0, .class_ 12), (0, .nameAndType 13 14), (0, u "com/example/quayside/quayside/RedeliverySchedule$Step"), (0, u "from"), (0, u "I"), (0, .fieldref 10 16), (0, .nameAndType 17 18), (0, u "action"), (0, u "Lcom/example/quayside/quayside/RedeliverySchedule$Action;"), (0, .fieldref 10 20), (0, .nameAndType 21 22), (0, u "delayMs"), (0, u "J"), (0, .fieldref 10 24), (0, .nameAndType 25 26), (0, u "topic"), (0, u "Z"), (0, .fieldref 10 28), (0, .nameAndType 29 30), (0, u "destination"), (0, u "Ljava/lang/String;"), (0, .fieldref 32 33), (0, .class_ 34), (0, .nameAndType 35 18), (0, u "com/example/quayside/quayside/RedeliverySchedule$Action"), (0, u "DELAY"), (22, u "(ILcom/example/quayside/quayside/RedeliverySchedule$Action;JZLjava/lang/String;)V"), (3, u "removes"), (0, u "()Z")] 37

def k12c0 : Code := { maxStack := 3, maxLocals := 7, code := prog_17_method_1_code, exceptionTable := #[], attributes := #[] }
def k12m0 : Method := { name := "<init>", desc := "(ILcom/example/quayside/quayside/RedeliverySchedule$Action;JZLjava/lang/String;)V", sig := { parameters := [.int, (.object "com/example/quayside/quayside/RedeliverySchedule$Action"), .long, .boolean, (.object "java/lang/String")], returnType := none }, accessFlags := 0, code := some k12c0 }
def k12c1 : Code := { maxStack := 2, maxLocals := 1, code := prog_17_method_2_code, exceptionTable := #[], attributes := #[] }
def k12m1 : Method := { name := "removes", desc := "()Z", sig := { parameters := [], returnType := some .boolean }, accessFlags := 0, code := some k12c1 }
/-- com/example/quayside/quayside/RedeliverySchedule$Step -/
def k12 : Class := { plain "com/example/quayside/quayside/RedeliverySchedule$Step" (some 11) with
  accessFlags := 48
  interfaces := #[]
  cf := some (fileOf pool12 10 #[.nestHost 1] #[{ accessFlags := 0, nameIndex := 7, descriptorIndex := 58, attributes := #[] }, { accessFlags := 0, nameIndex := 62, descriptorIndex := 63, attributes := #[] }] 48 4 #[] #[{ accessFlags := 18, nameIndex := 13, descriptorIndex := 14, attributes := #[] }, { accessFlags := 18, nameIndex := 17, descriptorIndex := 18, attributes := #[] }, { accessFlags := 18, nameIndex := 21, descriptorIndex := 22, attributes := #[] }, { accessFlags := 18, nameIndex := 25, descriptorIndex := 26, attributes := #[] }, { accessFlags := 18, nameIndex := 29, descriptorIndex := 30, attributes := #[] }])
  fields := #[{ name := "from", type := .int, accessFlags := 18, slot := 0, constantValue := 0 }, { name := "action", type := (.object "com/example/quayside/quayside/RedeliverySchedule$Action"), accessFlags := 18, slot := 1, constantValue := 0 }, { name := "delayMs", type := .long, accessFlags := 18, slot := 2, constantValue := 0 }, { name := "topic", type := .boolean, accessFlags := 18, slot := 3, constantValue := 0 }, { name := "destination", type := (.object "java/lang/String"), accessFlags := 18, slot := 4, constantValue := 0 }]
  methods := #[k12m0, k12m1]
  instanceTypes := #[.int, (.object "com/example/quayside/quayside/RedeliverySchedule$Action"), .long, .boolean, (.object "java/lang/String")]
  staticTypes := #[]
  resolved := Array.replicate 101 none
  statics := none }

def pool13 : Array CpInfo := pool [(4, .class_ 6), (1, u "java/lang/Object"), (0, u "<init>"), (0, u "()V"), (5, .class_ 16), (1, u "java/lang/StringLatin1"), (104, u "$assertionsDisabled"), (0, u "Z"), (98, .class_ 223), (1, u "java/lang/StringLatin1$LinesSpliterator"), (166, .class_ 391), (0, u "java/lang/StringLatin1$CharsSpliterator")] 3

def k13m0 : Method := { name := "<init>", desc := "()V", sig := { parameters := [], returnType := none }, accessFlags := 0, code := none }
/-- java/lang/StringLatin1 -/
def k13 : Class := { plain "java/lang/StringLatin1" (some 0) with
  accessFlags := 48
  interfaces := #[]
  cf := some (fileOf pool13 14 #[.nestMembers #[390, 221]] #[{ accessFlags := 0, nameIndex := 7, descriptorIndex := 8, attributes := #[] }] 48 4 #[] #[{ accessFlags := 4120, nameIndex := 121, descriptorIndex := 122, attributes := #[] }])
  fields := #[{ name := "$assertionsDisabled", type := .boolean, accessFlags := 4120, slot := 0, constantValue := 0 }]
  methods := #[k13m0]
  instanceTypes := #[]
  staticTypes := #[.boolean]
  resolved := Array.replicate 395 none
  statics := none }

def pool14 : Array CpInfo := pool [(2, .class_ 4), (1, u "java/lang/Object"), (0, u "<init>"), (0, u "()V"), (17, .class_ 26), (1, u "jdk/internal/util/Preconditions"), (28, .class_ 56), (0, u "jdk/internal/util/Preconditions$4"), (57, .class_ 115), (0, u "jdk/internal/util/Preconditions$1"), (7, u "SIOOBE_FORMATTER"), (0, u "Ljava/util/function/BiFunction;"), (0, .class_ 126), (0, u "jdk/internal/util/Preconditions$2"), (3, u "AIOOBE_FORMATTER"), (0, .class_ 132), (0, u "jdk/internal/util/Preconditions$3"), (3, u "IOOBE_FORMATTER")] 57

def k14m0 : Method := { name := "<init>", desc := "()V", sig := { parameters := [], returnType := none }, accessFlags := 1, code := none }
/-- jdk/internal/util/Preconditions -/
def k14 : Class := { plain "jdk/internal/util/Preconditions" (some 0) with
  accessFlags := 33
  interfaces := #[]
  cf := some (fileOf pool14 24 #[.nestMembers #[55, 131, 125, 114]] #[{ accessFlags := 1, nameIndex := 5, descriptorIndex := 6, attributes := #[] }] 33 2 #[] #[{ accessFlags := 25, nameIndex := 123, descriptorIndex := 124, attributes := #[] }, { accessFlags := 25, nameIndex := 130, descriptorIndex := 124, attributes := #[] }, { accessFlags := 25, nameIndex := 136, descriptorIndex := 124, attributes := #[] }])
  fields := #[{ name := "SIOOBE_FORMATTER", type := (.object "java/util/function/BiFunction"), accessFlags := 25, slot := 0, constantValue := 0 }, { name := "AIOOBE_FORMATTER", type := (.object "java/util/function/BiFunction"), accessFlags := 25, slot := 1, constantValue := 0 }, { name := "IOOBE_FORMATTER", type := (.object "java/util/function/BiFunction"), accessFlags := 25, slot := 2, constantValue := 0 }]
  methods := #[k14m0]
  instanceTypes := #[]
  staticTypes := #[(.object "java/util/function/BiFunction"), (.object "java/util/function/BiFunction"), (.object "java/util/function/BiFunction")]
  resolved := Array.replicate 194 none
  statics := some 2 }

def pool15 : Array CpInfo := pool [(9, u "<init>"), (6, .class_ 18), (1, u "java/lang/Object"), (0, u "()V"), (1, .class_ 23), (1, u "jdk/internal/util/ArraysSupport"), (0, u "LOG2_ARRAY_LONG_INDEX_SCALE"), (0, u "I"), (2, u "U"), (0, u "Ljdk/internal/misc/Unsafe;"), (8, u "BIG_ENDIAN"), (0, u "Z"), (8, u "LOG2_BYTE_BIT_SIZE"), (4, u "LOG2_ARRAY_INT_INDEX_SCALE"), (54, u "JLA"), (0, u "Ljdk/internal/access/JavaLangAccess;"), (11, u "LOG2_ARRAY_BOOLEAN_INDEX_SCALE"), (9, u "LOG2_ARRAY_BYTE_INDEX_SCALE"), (5, u "LOG2_ARRAY_CHAR_INDEX_SCALE"), (5, u "LOG2_ARRAY_SHORT_INDEX_SCALE"), (18, u "LOG2_ARRAY_FLOAT_INDEX_SCALE"), (24, u "LOG2_ARRAY_DOUBLE_INDEX_SCALE"), (89, u "T_BOOLEAN"), (2, u "T_CHAR"), (1, u "T_FLOAT"), (1, u "T_DOUBLE"), (1, u "T_BYTE"), (1, u "T_SHORT"), (1, u "T_INT"), (1, u "T_LONG"), (1, u "SOFT_MAX_ARRAY_LENGTH")] 83

def k15m0 : Method := { name := "<init>", desc := "()V", sig := { parameters := [], returnType := none }, accessFlags := 2, code := none }
/-- jdk/internal/util/ArraysSupport -/
def k15 : Class := { plain "jdk/internal/util/ArraysSupport" (some 0) with
  accessFlags := 33
  interfaces := #[]
  cf := some (fileOf pool15 21 #[] #[{ accessFlags := 2, nameIndex := 9, descriptorIndex := 19, attributes := #[] }] 33 16 #[] #[{ accessFlags := 24, nameIndex := 28, descriptorIndex := 29, attributes := #[] }, { accessFlags := 26, nameIndex := 38, descriptorIndex := 39, attributes := #[] }, { accessFlags := 25, nameIndex := 121, descriptorIndex := 25, attributes := #[] }, { accessFlags := 25, nameIndex := 131, descriptorIndex := 25, attributes := #[] }, { accessFlags := 25, nameIndex := 137, descriptorIndex := 25, attributes := #[] }, { accessFlags := 25, nameIndex := 143, descriptorIndex := 25, attributes := #[] }, { accessFlags := 25, nameIndex := 53, descriptorIndex := 25, attributes := #[] }, { accessFlags := 25, nameIndex := 24, descriptorIndex := 25, attributes := #[] }, { accessFlags := 25, nameIndex := 162, descriptorIndex := 25, attributes := #[] }, { accessFlags := 25, nameIndex := 187, descriptorIndex := 25, attributes := #[] }, { accessFlags := 26, nameIndex := 48, descriptorIndex := 25, attributes := #[] }, { accessFlags := 25, nameIndex := 277, descriptorIndex := 25, attributes := #[] }, { accessFlags := 25, nameIndex := 280, descriptorIndex := 25, attributes := #[] }, { accessFlags := 25, nameIndex := 282, descriptorIndex := 25, attributes := #[] }, { accessFlags := 25, nameIndex := 284, descriptorIndex := 25, attributes := #[] }, { accessFlags := 25, nameIndex := 286, descriptorIndex := 25, attributes := #[] }, { accessFlags := 25, nameIndex := 288, descriptorIndex := 25, attributes := #[] }, { accessFlags := 25, nameIndex := 290, descriptorIndex := 25, attributes := #[] }, { accessFlags := 25, nameIndex := 292, descriptorIndex := 25, attributes := #[] }, { accessFlags := 26, nameIndex := 108, descriptorIndex := 109, attributes := #[] }, { accessFlags := 25, nameIndex := 294, descriptorIndex := 25, attributes := #[] }])
  fields := #[{ name := "U", type := (.object "jdk/internal/misc/Unsafe"), accessFlags := 24, slot := 0, constantValue := 0 }, { name := "BIG_ENDIAN", type := .boolean, accessFlags := 26, slot := 1, constantValue := 0 }, { name := "LOG2_ARRAY_BOOLEAN_INDEX_SCALE", type := .int, accessFlags := 25, slot := 2, constantValue := 0 }, { name := "LOG2_ARRAY_BYTE_INDEX_SCALE", type := .int, accessFlags := 25, slot := 3, constantValue := 0 }, { name := "LOG2_ARRAY_CHAR_INDEX_SCALE", type := .int, accessFlags := 25, slot := 4, constantValue := 0 }, { name := "LOG2_ARRAY_SHORT_INDEX_SCALE", type := .int, accessFlags := 25, slot := 5, constantValue := 0 }, { name := "LOG2_ARRAY_INT_INDEX_SCALE", type := .int, accessFlags := 25, slot := 6, constantValue := 0 }, { name := "LOG2_ARRAY_LONG_INDEX_SCALE", type := .int, accessFlags := 25, slot := 7, constantValue := 0 }, { name := "LOG2_ARRAY_FLOAT_INDEX_SCALE", type := .int, accessFlags := 25, slot := 8, constantValue := 0 }, { name := "LOG2_ARRAY_DOUBLE_INDEX_SCALE", type := .int, accessFlags := 25, slot := 9, constantValue := 0 }, { name := "LOG2_BYTE_BIT_SIZE", type := .int, accessFlags := 26, slot := 10, constantValue := 0 }, { name := "T_BOOLEAN", type := .int, accessFlags := 25, slot := 11, constantValue := 0 }, { name := "T_CHAR", type := .int, accessFlags := 25, slot := 12, constantValue := 0 }, { name := "T_FLOAT", type := .int, accessFlags := 25, slot := 13, constantValue := 0 }, { name := "T_DOUBLE", type := .int, accessFlags := 25, slot := 14, constantValue := 0 }, { name := "T_BYTE", type := .int, accessFlags := 25, slot := 15, constantValue := 0 }, { name := "T_SHORT", type := .int, accessFlags := 25, slot := 16, constantValue := 0 }, { name := "T_INT", type := .int, accessFlags := 25, slot := 17, constantValue := 0 }, { name := "T_LONG", type := .int, accessFlags := 25, slot := 18, constantValue := 0 }, { name := "JLA", type := (.object "jdk/internal/access/JavaLangAccess"), accessFlags := 26, slot := 19, constantValue := 0 }, { name := "SOFT_MAX_ARRAY_LENGTH", type := .int, accessFlags := 25, slot := 20, constantValue := 0 }]
  methods := #[k15m0]
  instanceTypes := #[]
  staticTypes := #[(.object "jdk/internal/misc/Unsafe"), .boolean, .int, .int, .int, .int, .int, .int, .int, .int, .int, .int, .int, .int, .int, .int, .int, .int, .int, (.object "jdk/internal/access/JavaLangAccess"), .int]
  resolved := Array.replicate 378 none
  statics := none }

def pool16 : Array CpInfo := pool [(1, u "java/lang/Cloneable"), (0, .class_ 1), (0, u "java/lang/Object"), (0, .class_ 3)] 3

/-- java/lang/Cloneable -/
def k16 : Class := { plain "java/lang/Cloneable" (some 0) with
  accessFlags := 1537
  interfaces := #[]
  cf := some (fileOf pool16 2 #[] #[] 1537 4 #[] #[])
  fields := #[]
  methods := #[]
  instanceTypes := #[]
  staticTypes := #[]
  resolved := Array.replicate 8 none
  statics := none }

/-- the primitive byte -/
def k17 : Class := { plain "byte" none with kind := .primitive 'B', accessFlags := 0x411 }
/-- [B -/
def k18 : Class := { plain "[B" (some 0) with kind := .array 17 .byte, interfaces := #[16, 4], accessFlags := 1041 }

/-- the primitive char -/
def k19 : Class := { plain "char" none with kind := .primitive 'C', accessFlags := 0x411 }
/-- [C -/
def k20 : Class := { plain "[C" (some 0) with kind := .array 19 .char, interfaces := #[16, 4], accessFlags := 1041 }

/-- the primitive int -/
def k21 : Class := { plain "int" none with kind := .primitive 'I', accessFlags := 0x411 }
/-- [I -/
def k22 : Class := { plain "[I" (some 0) with kind := .array 21 .int, interfaces := #[16, 4], accessFlags := 1041 }

def heap : Heap := #[{ cls := 6, slots := #[.ref 3, .ref 4, .ref 5, .null], vm := .statics 6 },
  { cls := 9, slots := #[.long 0, .int 1, .null, .int 0, .null, .int 0, .int 0], vm := .statics 9 },
  { cls := 14, slots := #[.null, .null, .null], vm := .statics 14 },
  { cls := 6, slots := #[.null, .int 0, .int 0], vm := .none },
  { cls := 6, slots := #[.null, .int 1, .int 0], vm := .none },
  { cls := 6, slots := #[.null, .int 2, .int 0], vm := .none }]
def classes : Array Class := #[k0, k1, k2, k3, k4, k5, k6, k7, k8, k9, k10, k11, k12, k13, k14, k15, k16, k17, k18, k19, k20, k21, k22]
def interned : List (Array UInt16 × Addr) := []
def slotsUsed : Nat := 23
def theMethod : MethodId := ⟨1, 1⟩
def args0 : Array Value := #[.int 5, .int 1, .long 7, .int 0, .int 65]
def aboutOver (below : List Frame) : State where
  vm := { classes := classes, interned := interned.toArray }
  heap := heap
  slotsUsed := slotsUsed
  threads := #[{ frames := .invoking theMethod args0 :: below }]
def below0 : List Frame := [.native { method := ⟨0, 0⟩, args := #[] }]
def about1 : State := aboutOver below0
def p0 : Program := .bare "" "" ""
def e0 : Env := launch0.env 0 0 0
theorem w_frames : about1.frames = Frame.invoking theMethod args0 :: below0 := rfl
set_option maxRecDepth 65536 in
theorem w_args : argsFit about1.vm theMethod args0 = true := by decide +kernel
set_option maxRecDepth 65536 in
theorem w_heap : heapFits about1 = true := by decide +kernel
set_option maxRecDepth 65536 in
theorem w_runnable : about1.curStatus? = some .runnable := by decide +kernel
set_option maxRecDepth 65536 in
theorem w_alone : about1.alone = true := by decide +kernel
set_option maxRecDepth 65536 in
theorem w_named : about1.methodNamed? x = some theMethod := by decide +kernel
set_option maxRecDepth 65536 in
theorem w_hears : about1.hears theMethod below0 = true := by decide +kernel
set_option maxRecDepth 65536 in
theorem w_ripe : about1.ripe theMethod args0 below0 = true := by decide +kernel
theorem w_running : about1.status = .running := rfl
set_option maxRecDepth 65536 in
theorem w_room : about1.hasRoom e0.platform room_1 = true :=
  launch0.hasRoom_least _ room_1 (by decide +kernel) (by decide +kernel) (by decide +kernel) (by decide +kernel) (by decide +kernel) (by decide +kernel)
theorem allAtoms_all (ts : List Jvm.Cond) (a : Array Jvm.Value) (st : Jvm.State) : (allAtoms ts).before a st = ts.all (fun c => c.before a st) := by
  induction ts with
  | nil => rfl
  | cons c t ih =>
    show (Jvm.Cond.and c (allAtoms t)).before a st = _
    rw [Jvm.Cond.before_and, ih, List.all_cons]
def words1 : List Jvm.Cond := Jvm.Cond.code x code maxLocals ret :: tables_1
/-- a 'code' word, met by the world's own term for the bytes: nothing is compared byte by byte -/
theorem code_word {y : MethodName} {bytes : ByteArray} {mx : Nat} {rt : Option FieldType} {a : Array Value} {s : State} {m : MethodId} {meth : Method} {c : Code} (h1 : s.methodNamed? y = some m) (h2 : s.vm.method? m = some meth) (h3 : meth.code = some c) (h4 : c.code = bytes)
    (h5 : (c.maxLocals == mx && c.exceptionTable.isEmpty && decide (c.maxStack ≤ mostOperands) && decide (meth.sig.returnType = rt) && !meth.locks && decide (parseMethodDescriptor y.desc = some meth.sig)) = true) : (Jvm.Cond.code y bytes mx rt).before a s = true := by
  simp only [Bool.and_eq_true, beq_iff_eq, Bool.not_eq_true', decide_eq_true_eq] at h5
  obtain ⟨⟨⟨⟨⟨g1, g2⟩, g3⟩, g4⟩, g5⟩, g6⟩ := h5
  simp [Cond.before, Cond.holds, Cond.value, h1, h2, h3, h4, g1, g2, g3, g4, g5, g6]
def isCode : Jvm.Cond → Bool
  | .code _ _ _ _ => true
  | _ => false
theorem all_split {L : List Jvm.Cond} {P : Jvm.Cond → Bool} (h1 : L.all (fun c => isCode c || P c) = true) (h2 : ∀ c ∈ L.filter isCode, P c = true) : L.all P = true := by
  refine List.all_eq_true.mpr fun c hc => ?_
  have h := List.all_eq_true.mp h1 c hc
  rcases Bool.eq_false_or_eq_true (isCode c) with hi | hi
  · exact h2 c (List.mem_filter.mpr ⟨hc, hi⟩)
  · simpa [hi] using h
set_option maxRecDepth 65536 in
theorem w_c0 : (Jvm.Cond.code x code maxLocals ret).before args0 about1 = true := code_word (m := ⟨1, 1⟩) (meth := k1m1) (c := k1c1) (by decide +kernel) rfl rfl rfl (by decide +kernel)
set_option maxRecDepth 65536 in
theorem w_c1 : (Jvm.Cond.code ({ cls := "java/lang/String", name := "<init>", desc := "([C)V" } : Jvm.MethodName) jdk_42_method_3_code (2 : Nat) (Option.none : Option Jvm.ClassFile.FieldType)).before args0 about1 = true := code_word (m := ⟨9, 1⟩) (meth := k9m1) (c := k9c1) (by decide +kernel) rfl rfl rfl (by decide +kernel)
set_option maxRecDepth 65536 in
theorem w_c2 : (Jvm.Cond.code ({ cls := "java/lang/String", name := "<init>", desc := "([CIILjava/lang/Void;)V" } : Jvm.MethodName) jdk_42_method_149_code (6 : Nat) (Option.none : Option Jvm.ClassFile.FieldType)).before args0 about1 = true := code_word (m := ⟨9, 2⟩) (meth := k9m2) (c := k9c2) (by decide +kernel) rfl rfl rfl (by decide +kernel)
set_option maxRecDepth 65536 in
theorem w_c3 : (Jvm.Cond.code ({ cls := "java/lang/Object", name := "<init>", desc := "()V" } : Jvm.MethodName) object_method_1_code (1 : Nat) (Option.none : Option Jvm.ClassFile.FieldType)).before args0 about1 = true := code_word (m := ⟨0, 0⟩) (meth := k0m0) (c := k0c0) (by decide +kernel) rfl rfl rfl (by decide +kernel)
set_option maxRecDepth 65536 in
theorem w_c4 : (Jvm.Cond.code ({ cls := "java/lang/StringUTF16", name := "compress", desc := "([CII)[B" } : Jvm.MethodName) jdk_52_method_16_code (6 : Nat) (Option.some (Jvm.ClassFile.FieldType.array Jvm.ClassFile.FieldType.byte))).before args0 about1 = true := code_word (m := ⟨10, 2⟩) (meth := k10m2) (c := k10c2) (by decide +kernel) rfl rfl rfl (by decide +kernel)
set_option maxRecDepth 65536 in
theorem w_c5 : (Jvm.Cond.code ({ cls := "java/lang/StringUTF16", name := "compress", desc := "([CI[BII)I" } : Jvm.MethodName) jdk_52_method_21_code (7 : Nat) (Option.some Jvm.ClassFile.FieldType.int)).before args0 about1 = true := code_word (m := ⟨10, 3⟩) (meth := k10m3) (c := k10c3) (by decide +kernel) rfl rfl rfl (by decide +kernel)
set_option maxRecDepth 65536 in
theorem w_c6 : (Jvm.Cond.code ({ cls := "java/lang/StringUTF16", name := "coderFromArrayLen", desc := "([BI)B" } : Jvm.MethodName) jdk_52_method_15_code (2 : Nat) (Option.some Jvm.ClassFile.FieldType.byte)).before args0 about1 = true := code_word (m := ⟨10, 1⟩) (meth := k10m1) (c := k10c1) (by decide +kernel) rfl rfl rfl (by decide +kernel)
set_option maxRecDepth 65536 in
theorem w_c7 : (Jvm.Cond.code ({ cls := "com/example/quayside/quayside/RedeliverySchedule$Step", name := "<init>", desc := "(ILcom/example/quayside/quayside/RedeliverySchedule$Action;JZLjava/lang/String;)V" } : Jvm.MethodName) prog_17_method_1_code (7 : Nat) (Option.none : Option Jvm.ClassFile.FieldType)).before args0 about1 = true := code_word (m := ⟨12, 0⟩) (meth := k12m0) (c := k12c0) (by decide +kernel) rfl rfl rfl (by decide +kernel)
set_option maxRecDepth 65536 in
theorem w_c8 : (Jvm.Cond.code ({ cls := "java/lang/Record", name := "<init>", desc := "()V" } : Jvm.MethodName) jdk_30_method_1_code (1 : Nat) (Option.none : Option Jvm.ClassFile.FieldType)).before args0 about1 = true := code_word (m := ⟨11, 0⟩) (meth := k11m0) (c := k11c0) (by decide +kernel) rfl rfl rfl (by decide +kernel)
set_option maxRecDepth 65536 in
theorem w_c9 : (Jvm.Cond.code ({ cls := "com/example/quayside/quayside/RedeliverySchedule$Step", name := "removes", desc := "()Z" } : Jvm.MethodName) prog_17_method_2_code (1 : Nat) (Option.some Jvm.ClassFile.FieldType.boolean)).before args0 about1 = true := code_word (m := ⟨12, 1⟩) (meth := k12m1) (c := k12c1) (by decide +kernel) rfl rfl rfl (by decide +kernel)
def codes1 : List Jvm.Cond := [Jvm.Cond.code x code maxLocals ret, Jvm.Cond.code ({ cls := "java/lang/String", name := "<init>", desc := "([C)V" } : Jvm.MethodName) jdk_42_method_3_code (2 : Nat) (Option.none : Option Jvm.ClassFile.FieldType), Jvm.Cond.code ({ cls := "java/lang/String", name := "<init>", desc := "([CIILjava/lang/Void;)V" } : Jvm.MethodName) jdk_42_method_149_code (6 : Nat) (Option.none : Option Jvm.ClassFile.FieldType), Jvm.Cond.code ({ cls := "java/lang/Object", name := "<init>", desc := "()V" } : Jvm.MethodName) object_method_1_code (1 : Nat) (Option.none : Option Jvm.ClassFile.FieldType), Jvm.Cond.code ({ cls := "java/lang/StringUTF16", name := "compress", desc := "([CII)[B" } : Jvm.MethodName) jdk_52_method_16_code (6 : Nat) (Option.some (Jvm.ClassFile.FieldType.array Jvm.ClassFile.FieldType.byte)), Jvm.Cond.code ({ cls := "java/lang/StringUTF16", name := "compress", desc := "([CI[BII)I" } : Jvm.MethodName) jdk_52_method_21_code (7 : Nat) (Option.some Jvm.ClassFile.FieldType.int), Jvm.Cond.code ({ cls := "java/lang/StringUTF16", name := "coderFromArrayLen", desc := "([BI)B" } : Jvm.MethodName) jdk_52_method_15_code (2 : Nat) (Option.some Jvm.ClassFile.FieldType.byte), Jvm.Cond.code ({ cls := "com/example/quayside/quayside/RedeliverySchedule$Step", name := "<init>", desc := "(ILcom/example/quayside/quayside/RedeliverySchedule$Action;JZLjava/lang/String;)V" } : Jvm.MethodName) prog_17_method_1_code (7 : Nat) (Option.none : Option Jvm.ClassFile.FieldType), Jvm.Cond.code ({ cls := "java/lang/Record", name := "<init>", desc := "()V" } : Jvm.MethodName) jdk_30_method_1_code (1 : Nat) (Option.none : Option Jvm.ClassFile.FieldType), Jvm.Cond.code ({ cls := "com/example/quayside/quayside/RedeliverySchedule$Step", name := "removes", desc := "()Z" } : Jvm.MethodName) prog_17_method_2_code (1 : Nat) (Option.some Jvm.ClassFile.FieldType.boolean)]
set_option maxRecDepth 65536 in
theorem codes_eq : words1.filter isCode = codes1 := rfl
theorem w_codes : ∀ c ∈ words1.filter isCode, c.before args0 about1 = true := by
  rw [codes_eq]
  intro c hc
  simp only [codes1, List.mem_cons, List.not_mem_nil, or_false] at hc
  rcases hc with rfl | rfl | rfl | rfl | rfl | rfl | rfl | rfl | rfl | rfl
  · exact w_c0
  · exact w_c1
  · exact w_c2
  · exact w_c3
  · exact w_c4
  · exact w_c5
  · exact w_c6
  · exact w_c7
  · exact w_c8
  · exact w_c9
set_option maxRecDepth 65536 in
theorem w_t1 : (words1.take 24).all (fun c => isCode c || c.before args0 about1) = true := by decide +kernel
set_option maxRecDepth 65536 in
theorem w_t2 : ((words1.drop 24).take 24).all (fun c => isCode c || c.before args0 about1) = true := by decide +kernel
set_option maxRecDepth 65536 in
theorem w_t3 : ((words1.drop 24).drop 24).all (fun c => isCode c || c.before args0 about1) = true := by decide +kernel
theorem w_tables : (allAtoms (Jvm.Cond.code x code maxLocals ret :: tables_1)).before args0 about1 = true := by
  rw [allAtoms_all]
  show words1.all (fun c => c.before args0 about1) = true
  refine all_split ?_ w_codes
  rw [← List.take_append_drop 24 words1, List.all_append, w_t1, ← List.take_append_drop 24 (words1.drop 24), List.all_append, w_t2, w_t3]
  rfl
set_option maxRecDepth 65536 in
theorem w_rest : rest_1_c.before args0 about1 = true := by decide +kernel
set_option maxRecDepth 65536 in
theorem w_case : (Jvm.Cond.and given_1 narrow_1).before args0 about1 = true := by decide +kernel
theorem w_applies : (headSpec (Jvm.Cond.code x code maxLocals ret :: tables_1) room_1).applies x e0.platform about1 = true :=
  (Spec.applies_iff w_frames).mpr ⟨w_running, w_runnable, w_alone, w_named, w_hears, w_ripe, w_room, w_tables⟩
theorem atStart : AtStart classFile x code maxLocals ret World_1 tables_1 room_1 Calls_1 rest_1 Pre_1 launch0 p0 e0 about1 theMethod args0 below0 :=
  ⟨lists_1, trivial, launch0.admits_env _ _ _, launch0.least_env, fairChoices_fair.cas, fairChoices_fair.clock, w_frames, w_args, w_heap, w_applies, trivial, w_rest, w_case⟩
end start1
theorem witness_1 : WitnessClaimed_1 := ⟨start1.p0, start1.e0, start1.about1, start1.theMethod, start1.args0, start1.below0, start1.atStart⟩
end Jvm.Pilot.@@N@@
