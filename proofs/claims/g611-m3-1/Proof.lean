import JvmDerived
import JvmDerived.Pilot.@@N@@Statement
import JvmDerived.Pilot.@@N@@Code
set_option linter.unusedVariables false
set_option linter.unusedSimpArgs false
/- laws to paste: Road.backV (cut by pick.py; bodies as the Statement names them) -/
namespace Jvm.Pilot.@@N@@
namespace StrChars
open Jvm Sem ClassFile Op Lib Jvm.Stand Jvm.Free.XT Jvm.Free.ALB Jvm.Free.JM Jvm.Free
open Jvm.Lib.Cold (StaticIs)
/-- a char array whose places are chars -/
def Ch (a : Addr) (A : Cell) (U : State) : Prop := Arr .char a A U ∧ Typed .char A
theorem Ch.mv {a : Addr} {A : Cell} {U U' : State} (h : Ch a A U) (hal : U.vm.Alike U'.vm) (hh : U'.heap = U.heap) : Ch a A U' := ⟨h.1.mv hal hh, h.2⟩
theorem Ch.keep {a : Addr} {A : Cell} {U U' : State} (h : Ch a A U) (hal : U.vm.Alike U'.vm) (hk : U'.heap[a]? = some A) : Ch a A U' := ⟨h.1.keep hal hk, h.2⟩
/-- what place i of a char[]'s cell holds -/
def cv (A : Cell) (i : Nat) : Int32 := match A.slots[i]? with | some (.int x) => x | _ => 0
theorem Ch.get {a : Addr} {A : Cell} {U : State} (h : Ch a A U) {i : Nat} (hi : i < A.slots.size) : A.slots[i]? = some (.int (cv A i)) := by
  have e := Array.getElem?_eq_getElem hi
  have f := h.2 i _ e
  unfold cv; rw [e]
  generalize A.slots[i] = v at f
  cases v <;> simp [fits] at f ⊢
/-- the byte that i2b leaves of a char -/
def lo8 (x : Int32) : Int32 := x.toInt8.toInt32
theorem fits_lo8 (y : Int32) : fits .byte (.int (lo8 y)) = true := by
  have h1 := y.toInt8.le_toInt
  have h2 := y.toInt8.toInt_lt
  simp only [lo8, fits, Bool.and_eq_true, decide_eq_true_eq, Int32.le_iff_toInt_le, Int8.toInt_toInt32, show (-128 : Int32).toInt = -128 from by decide, show (127 : Int32).toInt = 127 from by decide]
  omega
/-- A' is A but that each place j of lo .. hi - 1 holds f j -/
def Laid (A A' : Cell) (lo hi : Nat) (f : Nat → Value) : Prop := A'.cls = A.cls ∧ A'.vm = A.vm ∧ A'.slots.size = A.slots.size ∧ ∀ i, A'.slots[i]? = if lo ≤ i ∧ i < hi then some (f i) else A.slots[i]?
theorem Laid.zero (A : Cell) (lo : Nat) (f : Nat → Value) : Laid A A lo (lo + 0) f := ⟨rfl, rfl, rfl, fun i => by rw [if_neg (by omega)]⟩
theorem Laid.step {A Ak : Cell} {lo k : Nat} {f : Nat → Value} {v : Value} (h : Laid A Ak lo k f) (hlo : lo ≤ k) (hk : k < Ak.slots.size) (hv : v = f k) : Laid A (Ak.setSlot k v) lo (k + 1) f := by
  refine ⟨h.1, h.2.1, by simpa [Cell.setSlot] using h.2.2.1, fun i => ?_⟩
  by_cases e : k = i
  · subst e; rw [Cell.slots_setSlot_self v hk, if_pos (by omega), hv]
  · rw [Cell.slots_setSlot_ne v e, h.2.2.2 i]
    by_cases q : lo ≤ i ∧ i < k
    · rw [if_pos q, if_pos (by omega)]
    · rw [if_neg q, if_neg (by omega)]
def U16 : String := "java/lang/StringUTF16"
namespace Cmp5
def yN : MethodName := ⟨"java/lang/StringUTF16", "compress", "([CI[BII)I"⟩
abbrev yB : ByteArray := jdk_52_method_21_code
theorem d0 : decode yB 0 = .ok (.iconst 0, 1) := by decide +kernel
theorem d1 : decode yB 1 = .ok (.istore 5, 2) := by decide +kernel
theorem d3 : decode yB 3 = .ok (.iload 5, 2) := by decide +kernel
theorem d5 : decode yB 5 = .ok (.iload 4, 2) := by decide +kernel
theorem d7 : decode yB 7 = .ok (.if_icmp (.ge) 37, 3) := by decide +kernel
theorem d10 : decode yB 10 = .ok (.aload_n 0, 1) := by decide +kernel
theorem d11 : decode yB 11 = .ok (.iload_n 1, 1) := by decide +kernel
theorem d12 : decode yB 12 = .ok (.caload, 1) := by decide +kernel
theorem d13 : decode yB 13 = .ok (.istore 6, 2) := by decide +kernel
theorem d15 : decode yB 15 = .ok (.iload 6, 2) := by decide +kernel
theorem d17 : decode yB 17 = .ok (.sipush 255, 3) := by decide +kernel
theorem d20 : decode yB 20 = .ok (.if_icmp (.le) 6, 3) := by decide +kernel
theorem d26 : decode yB 26 = .ok (.aload_n 2, 1) := by decide +kernel
theorem d27 : decode yB 27 = .ok (.iload_n 3, 1) := by decide +kernel
theorem d28 : decode yB 28 = .ok (.iload 6, 2) := by decide +kernel
theorem d30 : decode yB 30 = .ok (.i2b, 1) := by decide +kernel
theorem d31 : decode yB 31 = .ok (.bastore, 1) := by decide +kernel
theorem d32 : decode yB 32 = .ok (.iinc 1 1, 3) := by decide +kernel
theorem d35 : decode yB 35 = .ok (.iinc 3 1, 3) := by decide +kernel
theorem d38 : decode yB 38 = .ok (.iinc 5 1, 3) := by decide +kernel
theorem d41 : decode yB 41 = .ok (.goto (-38), 3) := by decide +kernel
theorem d44 : decode yB 44 = .ok (.iload 4, 2) := by decide +kernel
theorem d46 : decode yB 46 = .ok (.ireturn, 1) := by decide +kernel
def site : List Cond := []
def tab : Cond := tabOf yN yB 7 (some .int) site
def P (b : Addr) (A : Cell) (d : Addr) (B : Cell) (o q len : Nat) (args : Array Value) (s : State) : Prop := args = #[.ref b, .int (Int32.ofNat o), .ref d, .int (Int32.ofNat q), .int (Int32.ofNat len)] ∧ Ch b A s ∧ Arr .byte d B s ∧ b ≠ d ∧ o + len ≤ A.slots.size ∧ q + len ≤ B.slots.size ∧ ∀ i, i < len → ¬ 255 < cv A (o + i)
def E (b : Addr) (A : Cell) (d : Addr) (B : Cell) (o q len : Nat) (r : Option Value) (s u : State) : Prop := r = some (.int (Int32.ofNat len)) ∧ ∃ B', Put d B' s u ∧ Laid B B' q (q + len) (fun j => Value.int (lo8 (cv A (o + (j - q)))))
/-- no char of the range above 255: len; the places written hold each char's low byte -/
theorem law (l : Launch) (b : Addr) (A : Cell) (d : Addr) (B : Cell) (o q len : Nat) : Law l yN 5 5 0 0 yB 7 (some .int) site (P b A d B o q len) (E b A d B o q len) (copyLocs d q len) 0 0 := by
  refine Law.of_walk (plainFor_of_name (by decide +kernel)) (by decide +kernel) (by decide +kernel) (by decide) (fun _ _ h => by rw [h.1]; rfl) (fun _ U U' hal hh h => ⟨h.1, h.2.1.mv hal hh, h.2.2.1.mv hal hh, h.2.2.2⟩) (fun r U U' V V' h1 hal h2 h => ⟨h.1, h.2.elim fun B' q => ⟨B', q.1.mv h1 h2, q.2⟩⟩) ?_
  intro p e s m args below meth c s₁ X0 hexec hbytes hml hret hlk hnm hown hh0 W hP
  obtain ⟨rfl, hA, hB, hne, l1, l2, hp⟩ := hP
  have c1 : Steps p.tables e below (s₁.setTop (entryFrame m #[.ref b, .int (Int32.ofNat o), .ref d, .int (Int32.ofNat q), .int (Int32.ofNat len)] 7)) (s₁.setTop (mkF m 0 #[.val (.ref b), .val (.int (Int32.ofNat o)), .val (.ref d), .val (.int (Int32.ofNat q)), .val (.int (Int32.ofNat len)), .unset, .unset] [])) := entry rfl
  have hA0 := hA.1.mv X0.warmed.alike hh0
  have hB0 := hB.mv X0.warmed.alike hh0
  have a31 := hA.1.2.2.2
  have c2 : Steps p.tables e below (s₁.setTop (entryFrame m #[.ref b, .int (Int32.ofNat o), .ref d, .int (Int32.ofNat q), .int (Int32.ofNat len)] 7)) (s₁.setTop (mkF m 3 #[.val (.ref b), .val (.int (Int32.ofNat o)), .val (.ref d), .val (.int (Int32.ofNat q)), .val (.int (Int32.ofNat len)), .val (.int 0), .unset] [])) := c1.trans (by
    refine iconstV X0.here hexec rfl 0 (hb hbytes d0) (by decide) ?_
    refine XS.istore X0.here hexec rfl (hb hbytes d1) rfl rfl ?_
    exact Steps.refl _)
  have loop : ∀ (r i : Nat), i + r = len → ∀ (z : Slot), (z = .unset ∨ ∃ w, z = .val w ∧ w.category = 1) → ∀ (Tl : State) (Bk : Cell), Stand p l e { frames := 0, locals := 0, cells := 0, slots := 0 } s m #[.ref b, .int (Int32.ofNat o), .ref d, .int (Int32.ofNat q), .int (Int32.ofNat len)] below meth c Tl ([] ++ copyLocs d q i) 0 0 → Put d Bk s₁ Tl → Laid B Bk q (q + i) (fun j => Value.int (lo8 (cv A (o + (j - q))))) →
      Steps p.tables e below (s₁.setTop (entryFrame m #[.ref b, .int (Int32.ofNat o), .ref d, .int (Int32.ofNat q), .int (Int32.ofNat len)] 7)) (Tl.setTop (mkF m 3 #[.val (.ref b), .val (.int (Int32.ofNat (o + i))), .val (.ref d), .val (.int (Int32.ofNat (q + i))), .val (.int (Int32.ofNat len)), .val (.int (Int32.ofNat i)), z] [])) → ∃ (T' : State) (B' : Cell) (z' : Slot), Stand p l e { frames := 0, locals := 0, cells := 0, slots := 0 } s m #[.ref b, .int (Int32.ofNat o), .ref d, .int (Int32.ofNat q), .int (Int32.ofNat len)] below meth c T' ([] ++ copyLocs d q len) 0 0 ∧ Put d B' s₁ T' ∧ Laid B B' q (q + len) (fun j => Value.int (lo8 (cv A (o + (j - q))))) ∧
      Steps p.tables e below (s₁.setTop (entryFrame m #[.ref b, .int (Int32.ofNat o), .ref d, .int (Int32.ofNat q), .int (Int32.ofNat len)] 7)) (T'.setTop (mkF m 3 #[.val (.ref b), .val (.int (Int32.ofNat (o + len))), .val (.ref d), .val (.int (Int32.ofNat (q + len))), .val (.int (Int32.ofNat len)), .val (.int (Int32.ofNat len)), z'] [])) := by
    intro r
    induction r with
    | zero =>
      intro i hi z hz Tl Bk Xl pl fl cl
      have hil : i = len := by omega
      rw [hil] at Xl fl cl
      exact ⟨Tl, Bk, z, Xl, pl, fl, cl⟩
    | succ r ih =>
      intro i hi z hz Tl Bk Xl pl fl cl
      have all := X0.warmed.alike.symm.trans Xl.warmed.alike
      have hAl := hA0.keep all (pl.other hne hA0.1)
      have hBk := hB0.like all pl.1 fl.1 fl.2.1 fl.2.2.1
      have hlt : q + i < Bk.slots.size := by rw [fl.2.2.1]; omega
      have c3 : Steps p.tables e below (s₁.setTop (entryFrame m #[.ref b, .int (Int32.ofNat o), .ref d, .int (Int32.ofNat q), .int (Int32.ofNat len)] 7)) (Tl.setTop (mkF m 12 #[.val (.ref b), .val (.int (Int32.ofNat (o + i))), .val (.ref d), .val (.int (Int32.ofNat (q + i))), .val (.int (Int32.ofNat len)), .val (.int (Int32.ofNat i)), z] [.int (Int32.ofNat (o + i)), .ref b])) := cl.trans (by
        refine XS.iload Xl.here hexec rfl (hb hbytes d3) rfl ?_
        refine XS.iload Xl.here hexec rfl (hb hbytes d5) rfl ?_
        refine XS.icmpNo Xl.here hexec rfl (hb hbytes d7) rfl (ii_ge_f (lt32 (by omega) (by omega))) ?_
        refine XS.aloadN Xl.here hexec rfl (hb hbytes d10) rfl rfl ?_
        refine XS.iloadN Xl.here hexec rfl (hb hbytes d11) rfl ?_
        exact Steps.refl _)
      have c4 : Steps p.tables e below (s₁.setTop (entryFrame m #[.ref b, .int (Int32.ofNat o), .ref d, .int (Int32.ofNat q), .int (Int32.ofNat len)] 7)) (Tl.setTop (mkF m 13 #[.val (.ref b), .val (.int (Int32.ofNat (o + i))), .val (.ref d), .val (.int (Int32.ofNat (q + i))), .val (.int (Int32.ofNat len)), .val (.int (Int32.ofNat i)), z] [.int (cv A (o + i))])) := c3.trans (by
        refine Xl.aget hexec hAl rfl (hA.get (i := o + i) (by omega)) rfl rfl (hb hbytes d12) ?_
        exact Steps.refl _)
      have c5 : Steps p.tables e below (s₁.setTop (entryFrame m #[.ref b, .int (Int32.ofNat o), .ref d, .int (Int32.ofNat q), .int (Int32.ofNat len)] 7)) (Tl.setTop (mkF m 15 #[.val (.ref b), .val (.int (Int32.ofNat (o + i))), .val (.ref d), .val (.int (Int32.ofNat (q + i))), .val (.int (Int32.ofNat len)), .val (.int (Int32.ofNat i)), .val (.int (cv A (o + i)))] [])) := c4.trans (by
        refine XS.istoreS Xl.here hexec rfl (hb hbytes d13) rfl rfl hz ?_
        exact Steps.refl _)
      have c6 : Steps p.tables e below (s₁.setTop (entryFrame m #[.ref b, .int (Int32.ofNat o), .ref d, .int (Int32.ofNat q), .int (Int32.ofNat len)] 7)) (Tl.setTop (mkF m 31 #[.val (.ref b), .val (.int (Int32.ofNat (o + i))), .val (.ref d), .val (.int (Int32.ofNat (q + i))), .val (.int (Int32.ofNat len)), .val (.int (Int32.ofNat i)), .val (.int (cv A (o + i)))] [.int (lo8 (cv A (o + i))), .int (Int32.ofNat (q + i)), .ref d])) := c5.trans (by
        refine XS.iload Xl.here hexec rfl (hb hbytes d15) rfl ?_
        refine sipushV Xl.here hexec rfl 255 (hb hbytes d17) (by decide) ?_
        refine XS.icmpYes Xl.here hexec rfl (pc0 := 20) rfl (hb hbytes d20) rfl (ii_le_t (hp i (by omega))) (by decide) rfl ?_
        refine XS.aloadN Xl.here hexec rfl (hb hbytes d26) rfl rfl ?_
        refine XS.iloadN Xl.here hexec rfl (hb hbytes d27) rfl ?_
        refine XS.iload Xl.here hexec rfl (hb hbytes d28) rfl ?_
        refine i2b Xl.here hexec rfl (hb hbytes d30) rfl ?_
        exact Steps.refl _)
      obtain ⟨T7, X7, p7, st7⟩ := Xl.aput hexec hBk rfl hlt rfl (fits_lo8 (cv A (o + i))) (g := (mkF m 31 #[.val (.ref b), .val (.int (Int32.ofNat (o + i))), .val (.ref d), .val (.int (Int32.ofNat (q + i))), .val (.int (Int32.ofNat len)), .val (.int (Int32.ofNat i)), .val (.int (cv A (o + i)))] [.int (lo8 (cv A (o + i))), .int (Int32.ofNat (q + i)), .ref d])) rfl (rest := []) rfl (hb hbytes d31)
      have c8 : Steps p.tables e below (s₁.setTop (entryFrame m #[.ref b, .int (Int32.ofNat o), .ref d, .int (Int32.ofNat q), .int (Int32.ofNat len)] 7)) (T7.setTop (mkF m 32 #[.val (.ref b), .val (.int (Int32.ofNat (o + i))), .val (.ref d), .val (.int (Int32.ofNat (q + i))), .val (.int (Int32.ofNat len)), .val (.int (Int32.ofNat i)), .val (.int (cv A (o + i)))] [])) := c6.trans (st7 _ (Steps.refl _))
      have c9 : Steps p.tables e below (s₁.setTop (entryFrame m #[.ref b, .int (Int32.ofNat o), .ref d, .int (Int32.ofNat q), .int (Int32.ofNat len)] 7)) (T7.setTop (mkF m 3 #[.val (.ref b), .val (.int (Int32.ofNat (o + i) + 1)), .val (.ref d), .val (.int (Int32.ofNat (q + i) + 1)), .val (.int (Int32.ofNat len)), .val (.int (Int32.ofNat i + 1)), .val (.int (cv A (o + i)))] [])) := c8.trans (by
        refine iincV X7.here hexec rfl 1 (hb hbytes d32) (by decide) rfl rfl ?_
        refine iincV X7.here hexec rfl 1 (hb hbytes d35) (by decide) rfl rfl ?_
        refine iincV X7.here hexec rfl 1 (hb hbytes d38) (by decide) rfl rfl ?_
        refine XS.goto X7.here hexec rfl (pc0 := 41) rfl (hb hbytes d41) (by decide) rfl ?_
        exact Steps.refl _)
      have c10 : Steps p.tables e below (s₁.setTop (entryFrame m #[.ref b, .int (Int32.ofNat o), .ref d, .int (Int32.ofNat q), .int (Int32.ofNat len)] 7)) (T7.setTop (mkF m 3 #[.val (.ref b), .val (.int (Int32.ofNat (o + (i + 1)))), .val (.ref d), .val (.int (Int32.ofNat (q + (i + 1)))), .val (.int (Int32.ofNat len)), .val (.int (Int32.ofNat (i + 1))), .val (.int (cv A (o + i)))] [])) := by
        have := c9
        rw [succ32, succ32, succ32] at this
        exact this
      exact ih (i + 1) (by omega) _ (Or.inr ⟨_, rfl, rfl⟩) T7 _ (by rw [copyLocs_step, ← List.append_assoc]; exact X7) (pl.trans p7) (fl.step (by omega) hlt (by simp)) c10
  obtain ⟨T9, B9, z9, X9, p9, f9, g9⟩ := loop len 0 (by omega) .unset (Or.inl rfl) s₁ B (by simpa [copyLocs] using X0) ⟨hB0.1, fun _ _ => rfl, rfl⟩ (Laid.zero _ _ _) c2
  have c11 : Steps p.tables e below (s₁.setTop (entryFrame m #[.ref b, .int (Int32.ofNat o), .ref d, .int (Int32.ofNat q), .int (Int32.ofNat len)] 7)) (T9.setTop (mkF m 46 #[.val (.ref b), .val (.int (Int32.ofNat (o + len))), .val (.ref d), .val (.int (Int32.ofNat (q + len))), .val (.int (Int32.ofNat len)), .val (.int (Int32.ofNat len)), z9] [.int (Int32.ofNat len)])) := g9.trans (by
    refine XS.iload X9.here hexec rfl (hb hbytes d3) rfl ?_
    refine XS.iload X9.here hexec rfl (hb hbytes d5) rfl ?_
    refine XS.icmpYes X9.here hexec rfl (pc0 := 7) rfl (hb hbytes d7) rfl (ii_ge_t (nlt32 (by omega) (Nat.le_refl _))) (by decide) rfl ?_
    refine XS.iload X9.here hexec rfl (hb hbytes d44) rfl ?_
    exact Steps.refl _)
  exact ⟨T9, some (.int (Int32.ofNat len)), _, _, _, X9, by simp, rfl, rfl, (fun h => by cases h), ⟨rfl, B9, p9.from hh0, f9⟩, fun fs hl => c11.trans (X9.ireturnOut hexec hret rfl (Or.inl rfl) (hb hbytes d46) hl)⟩
end Cmp5
namespace Cmp3
def yN : MethodName := ⟨"java/lang/StringUTF16", "compress", "([CII)[B"⟩
abbrev yB : ByteArray := jdk_52_method_16_code
theorem d0 : decode yB 0 = .ok (.iload_n 2, 1) := by decide +kernel
theorem d1 : decode yB 1 = .ok (.newarray .byte, 2) := by decide +kernel
theorem d3 : decode yB 3 = .ok (.astore_n 3, 1) := by decide +kernel
theorem d4 : decode yB 4 = .ok (.aload_n 0, 1) := by decide +kernel
theorem d5 : decode yB 5 = .ok (.iload_n 1, 1) := by decide +kernel
theorem d6 : decode yB 6 = .ok (.aload_n 3, 1) := by decide +kernel
theorem d7 : decode yB 7 = .ok (.iconst 0, 1) := by decide +kernel
theorem d8 : decode yB 8 = .ok (.iload_n 2, 1) := by decide +kernel
theorem d9 : decode yB 9 = .ok (.invokestatic 115, 3) := by decide +kernel
theorem d12 : decode yB 12 = .ok (.istore 4, 2) := by decide +kernel
theorem d14 : decode yB 14 = .ok (.iload 4, 2) := by decide +kernel
theorem d16 : decode yB 16 = .ok (.iload_n 2, 1) := by decide +kernel
theorem d17 : decode yB 17 = .ok (.if_icmp (.eq) 40, 3) := by decide +kernel
theorem d57 : decode yB 57 = .ok (.aload_n 3, 1) := by decide +kernel
theorem d58 : decode yB 58 = .ok (.areturn, 1) := by decide +kernel
def site : List Cond := [.arrayClass .byte, Cmp5.tab] ++ staticW U16 115 Cmp5.yN
def tab : Cond := tabOf yN yB 6 (some (.array .byte)) site
def P (b : Addr) (A : Cell) (o len : Nat) (args : Array Value) (s : State) : Prop := args = #[.ref b, .int (Int32.ofNat o), .int (Int32.ofNat len)] ∧ Ch b A s ∧ o + len ≤ A.slots.size ∧ len ≤ 536870912 ∧ ∀ i, i < len → ¬ 255 < cv A (o + i)
def E (b : Addr) (A : Cell) (o len : Nat) (r : Option Value) (s u : State) : Prop := NewArr .byte "[B" len (fun j => .int (lo8 (cv A (o + j)))) r s u ∧ u.heap.size = s.heap.size + 1
/-- no char of the range above 255: a new byte[] of their low bytes -/
theorem law (l : Launch) (b : Addr) (A : Cell) (o len : Nat) : Law l yN 3 3 1 18 yB 6 (some (.array .byte)) site (P b A o len) (E b A o len) [] 1 len := by
  refine Law.of_walk (plainFor_of_name (by decide +kernel)) (by decide +kernel) (by decide +kernel) (by decide) (fun _ _ h => by rw [h.1]; rfl) (fun _ U U' hal hh h => ⟨h.1, h.2.1.mv hal hh, h.2.2⟩) (fun r U U' V V' h1 hal h2 h => ⟨NewArr.mv r U U' V V' h1 hal h2 h.1, by rw [h1, h2]; exact h.2⟩) ?_
  intro p e s m args below meth c s₁ X0 hexec hbytes hml hret hlk hnm hown hh0 W hP
  obtain ⟨rfl, hA, l1, l2, hp⟩ := hP
  have a31 := hA.1.2.2.2
  have c1 : Steps p.tables e below (s₁.setTop (entryFrame m #[.ref b, .int (Int32.ofNat o), .int (Int32.ofNat len)] 6)) (s₁.setTop (mkF m 0 #[.val (.ref b), .val (.int (Int32.ofNat o)), .val (.int (Int32.ofNat len)), .unset, .unset, .unset] [])) := entry rfl
  have c2 : Steps p.tables e below (s₁.setTop (entryFrame m #[.ref b, .int (Int32.ofNat o), .int (Int32.ofNat len)] 6)) (s₁.setTop (mkF m 1 #[.val (.ref b), .val (.int (Int32.ofNat o)), .val (.int (Int32.ofNat len)), .unset, .unset, .unset] [.int (Int32.ofNat len)])) := c1.trans (by
    refine XS.iloadN X0.here hexec rfl (hb hbytes d0) rfl ?_
    exact Steps.refl _)
  obtain ⟨T3, B3, X3, ba3, bs3, bv3, bh3, bf3, st3⟩ := X0.anew hexec (atype := .byte) (wk W (.arrayClass .byte)) rfl (by show len * 1 ≤ _; omega) (by omega) (g := (mkF m 1 #[.val (.ref b), .val (.int (Int32.ofNat o)), .val (.int (Int32.ofNat len)), .unset, .unset, .unset] [.int (Int32.ofNat len)])) rfl (hb hbytes d1) (rest := []) rfl (Nat.le_refl _) (by show 0 + len ≤ len; omega)
  rw [hh0] at ba3 st3
  have kp3 : XT.Kept s T3 := (XT.Kept.of_eq hh0).push bh3
  have hA3 := hA.keep X3.warmed.alike (kp3 _ _ hA.1.1)
  have hne : b ≠ s.heap.size := hA.1.ne
  have c4 : Steps p.tables e below (s₁.setTop (entryFrame m #[.ref b, .int (Int32.ofNat o), .int (Int32.ofNat len)] 6)) (T3.setTop (mkF m 3 #[.val (.ref b), .val (.int (Int32.ofNat o)), .val (.int (Int32.ofNat len)), .unset, .unset, .unset] [.ref s.heap.size])) := c2.trans (st3 _ (Steps.refl _))
  have c5 : Steps p.tables e below (s₁.setTop (entryFrame m #[.ref b, .int (Int32.ofNat o), .int (Int32.ofNat len)] 6)) (T3.setTop (mkF m 9 #[.val (.ref b), .val (.int (Int32.ofNat o)), .val (.int (Int32.ofNat len)), .val (.ref s.heap.size), .unset, .unset] [.int (Int32.ofNat len), .int 0, .ref s.heap.size, .int (Int32.ofNat o), .ref b])) := c4.trans (by
    refine XS.astoreN X3.here hexec rfl (hb hbytes d3) rfl rfl rfl ?_
    refine XS.aloadN X3.here hexec rfl (hb hbytes d4) rfl rfl ?_
    refine XS.iloadN X3.here hexec rfl (hb hbytes d5) rfl ?_
    refine XS.aloadN X3.here hexec rfl (hb hbytes d6) rfl rfl ?_
    refine iconstV X3.here hexec rfl 0 (hb hbytes d7) (by decide) ?_
    refine XS.iloadN X3.here hexec rfl (hb hbytes d8) rfl ?_
    exact Steps.refl _)
  obtain ⟨v6, T6, X6, E6, g6⟩ := X3.callS hexec (Cmp5.law l b A s.heap.size B3 o 0 len) hown (wks W (staticW U16 115 Cmp5.yN)) (wk W Cmp5.tab) (W := 0) (Nat.le_of_ble_eq_true rfl) (Nat.le_of_ble_eq_true rfl) (Nat.le_refl _) (by show 0 + len + 0 ≤ len; omega) (g := (mkF m 9 #[.val (.ref b), .val (.int (Int32.ofNat o)), .val (.int (Int32.ofNat len)), .val (.ref s.heap.size), .unset, .unset] [.int (Int32.ofNat len), .int (Int32.ofNat 0), .ref s.heap.size, .int (Int32.ofNat o), .ref b])) rfl (by rw [hml]; rfl) c5 (argsL := [.ref b, .int (Int32.ofNat o), .ref s.heap.size, .int (Int32.ofNat 0), .int (Int32.ofNat len)]) (rest := []) rfl rfl (by show 2 * 0 + 0 ≤ _; decide) (hb hbytes d9) (⟨rfl, hA3, ba3, hne, l1, by rw [bs3]; simp, hp⟩)
  obtain ⟨rfl, B6, p6, f6⟩ := E6
  have c7 : Steps p.tables e below (s₁.setTop (entryFrame m #[.ref b, .int (Int32.ofNat o), .int (Int32.ofNat len)] 6)) (T6.setTop (mkF m 12 #[.val (.ref b), .val (.int (Int32.ofNat o)), .val (.int (Int32.ofNat len)), .val (.ref s.heap.size), .unset, .unset] [.int (Int32.ofNat len)])) := g6
  have c8 : Steps p.tables e below (s₁.setTop (entryFrame m #[.ref b, .int (Int32.ofNat o), .int (Int32.ofNat len)] 6)) (T6.setTop (mkF m 58 #[.val (.ref b), .val (.int (Int32.ofNat o)), .val (.int (Int32.ofNat len)), .val (.ref s.heap.size), .val (.int (Int32.ofNat len)), .unset] [.ref s.heap.size])) := c7.trans (by
    refine XS.istore X6.here hexec rfl (hb hbytes d12) rfl rfl ?_
    refine XS.iload X6.here hexec rfl (hb hbytes d14) rfl ?_
    refine XS.iloadN X6.here hexec rfl (hb hbytes d16) rfl ?_
    refine XS.icmpYes X6.here hexec rfl (pc0 := 17) rfl (hb hbytes d17) rfl (ii_eq_t rfl) (by decide) rfl ?_
    refine XS.aloadN X6.here hexec rfl (hb hbytes d57) rfl rfl ?_
    exact Steps.refl _)
  have X8 := X6.wide (L' := []) (cells' := 1) (slots' := len) (fun x hx hlt => by
    simp only [List.nil_append, copyLocs, List.mem_map, List.mem_range] at hx
    obtain ⟨i, -, rfl⟩ := hx
    exact absurd hlt (Nat.lt_irrefl _)) (Nat.le_refl _) (by omega)
  exact ⟨T6, some (.ref s.heap.size), _, _, _, X8, rfl, rfl, rfl, (fun h => by cases h), ⟨⟨rfl, B6, ba3.like (X3.warmed.alike.symm.trans X6.warmed.alike) p6.1 f6.1 f6.2.1 f6.2.2.1, f6.2.1.trans bv3, by rw [X6.warmed.alike.findClass, f6.1]; exact bf3, by rw [f6.2.2.1, bs3]; simp, fun j hj => by rw [f6.2.2.2 j, if_pos (by omega)]; rfl, kp3.put p6 (Nat.le_refl _)⟩, by rw [p6.2.2, bh3, hh0]; simp⟩, fun fs hl => c8.trans (X8.areturnOut hexec rfl hret rfl (hb hbytes d58) hl)⟩
end Cmp3
namespace CodL
def yN : MethodName := ⟨"java/lang/StringUTF16", "coderFromArrayLen", "([BI)B"⟩
abbrev yB : ByteArray := jdk_52_method_15_code
theorem d0 : decode yB 0 = .ok (.iload_n 1, 1) := by decide +kernel
theorem d1 : decode yB 1 = .ok (.aload_n 0, 1) := by decide +kernel
theorem d2 : decode yB 2 = .ok (.arraylength, 1) := by decide +kernel
theorem d3 : decode yB 3 = .ok (.isub, 1) := by decide +kernel
theorem d4 : decode yB 4 = .ok (.bipush 31, 2) := by decide +kernel
theorem d6 : decode yB 6 = .ok (.iushr, 1) := by decide +kernel
theorem d7 : decode yB 7 = .ok (.i2b, 1) := by decide +kernel
theorem d8 : decode yB 8 = .ok (.ireturn, 1) := by decide +kernel
def site : List Cond := []
def tab : Cond := tabOf yN yB 2 (some .byte) site
def P (d : Addr) (B : Cell) (args : Array Value) (s : State) : Prop := args = #[.ref d, .int (Int32.ofNat B.slots.size)] ∧ Arr .byte d B s
def E (r : Option Value) (s u : State) : Prop := XT.PureE (some (.int 0)) r s u
/-- an array as long as the number of chars: LATIN1 -/
theorem law (l : Launch) (d : Addr) (B : Cell) : Law l yN 2 2 0 0 yB 2 (some .byte) site (P d B) E [] 0 0 := by
  refine Law.of_walk (plainFor_of_name (by decide +kernel)) (by decide +kernel) (by decide +kernel) (by decide) (fun _ _ h => by rw [h.1]; rfl) (fun _ U U' hal hh h => ⟨h.1, h.2.mv hal hh⟩) (fun r U U' V V' h1 hal h2 h => XT.PureE.mv r U U' V V' h1 hal h2 h) ?_
  intro p e s m args below meth c s₁ X0 hexec hbytes hml hret hlk hnm hown hh0 W hP
  obtain ⟨rfl, hB⟩ := hP
  have hB0 := hB.mv X0.warmed.alike hh0
  have c1 : Steps p.tables e below (s₁.setTop (entryFrame m #[.ref d, .int (Int32.ofNat B.slots.size)] 2)) (s₁.setTop (mkF m 0 #[.val (.ref d), .val (.int (Int32.ofNat B.slots.size))] [])) := entry rfl
  have c2 : Steps p.tables e below (s₁.setTop (entryFrame m #[.ref d, .int (Int32.ofNat B.slots.size)] 2)) (s₁.setTop (mkF m 2 #[.val (.ref d), .val (.int (Int32.ofNat B.slots.size))] [.ref d, .int (Int32.ofNat B.slots.size)])) := c1.trans (by
    refine XS.iloadN X0.here hexec rfl (hb hbytes d0) rfl ?_
    refine XS.aloadN X0.here hexec rfl (hb hbytes d1) rfl rfl ?_
    exact Steps.refl _)
  have c3 : Steps p.tables e below (s₁.setTop (entryFrame m #[.ref d, .int (Int32.ofNat B.slots.size)] 2)) (s₁.setTop (mkF m 8 #[.val (.ref d), .val (.int (Int32.ofNat B.slots.size))] [.int (lo8 (ushr (Int32.ofNat B.slots.size - Int32.ofNat B.slots.size) 31))])) := c2.trans (by
    refine X0.alen hexec hB0 rfl rfl (hb hbytes d2) ?_
    refine XS.isub X0.here hexec rfl (hb hbytes d3) rfl ?_
    refine bipushV X0.here hexec rfl 31 (hb hbytes d4) (by decide) ?_
    refine iushr X0.here hexec rfl (hb hbytes d6) rfl ?_
    refine i2b X0.here hexec rfl (hb hbytes d7) rfl ?_
    exact Steps.refl _)
  have e0 : lo8 (ushr (Int32.ofNat B.slots.size - Int32.ofNat B.slots.size) 31) = 0 := by rw [Int32.sub_self]; decide
  rw [e0] at c3
  exact ⟨s₁, some (.int 0), _, _, _, X0, rfl, rfl, rfl, (fun h => by cases h), ⟨rfl, hh0⟩, fun fs hl => c3.trans (X0.ireturnOut hexec hret rfl (Or.inr (Or.inr (Or.inl rfl))) (hb hbytes d8) hl)⟩
end CodL
/-- the String at a is Latin-1 over a new byte[] (the heap's one new cell): the low bytes of the len chars of A from o on; every cell but a is kept -/
def Got (a : Addr) (D : Cell) (fV fC : Field) (A : Cell) (o len : Nat) (r : Option Value) (s u : State) : Prop := r = none ∧ ∃ D' V : Cell, Blank "java/lang/String" a D' u ∧ Same D D' [fV.slot, fC.slot] ∧ D'.slots[fV.slot]? = some (.ref s.heap.size) ∧ D'.slots[fC.slot]? = some (.int 0) ∧ Arr .byte s.heap.size V u ∧ V.vm = .none ∧ u.vm.findClass "[B" = some V.cls ∧ V.slots.size = len ∧ (∀ j, j < len → V.slots[j]? = some (.int (lo8 (cv A (o + j))))) ∧ (∀ (y : Addr) (c : Cell), y ≠ a → s.heap[y]? = some c → u.heap[y]? = some c) ∧ u.heap.size = s.heap.size + 1
theorem Got.mv {a : Addr} {D A : Cell} {fV fC : Field} {o len : Nat} : ∀ r (U U' V V' : State), U'.heap = U.heap → V.vm.Alike V'.vm → V'.heap = V.heap → Got a D fV fC A o len r U V → Got a D fV fC A o len r U' V' :=
  fun r U U' V V' h1 hal h2 ⟨e0, D', X, a1, a2, a3, a4, a5, a6, a7, a8, a9, a10, a11⟩ => ⟨e0, D', X, a1.mv hal h2, a2, by rw [h1]; exact a3, a4, by rw [h1]; exact a5.mv hal h2, a6, by rw [hal.findClass]; exact a7, a8, a9, by rw [h1, h2]; exact a10, by rw [h1, h2]; exact a11⟩
namespace New4
def yN : MethodName := ⟨"java/lang/String", "<init>", "([CIILjava/lang/Void;)V"⟩
abbrev yB : ByteArray := jdk_42_method_149_code
theorem d0 : decode yB 0 = .ok (.aload_n 0, 1) := by decide +kernel
theorem d1 : decode yB 1 = .ok (.invokespecial 1, 3) := by decide +kernel
theorem d4 : decode yB 4 = .ok (.iload_n 3, 1) := by decide +kernel
theorem d5 : decode yB 5 = .ok (.ifCond (.ne) 22, 3) := by decide +kernel
theorem d27 : decode yB 27 = .ok (.getstatic 38, 3) := by decide +kernel
theorem d30 : decode yB 30 = .ok (.ifCond (.eq) 28, 3) := by decide +kernel
theorem d33 : decode yB 33 = .ok (.aload_n 1, 1) := by decide +kernel
theorem d34 : decode yB 34 = .ok (.iload_n 2, 1) := by decide +kernel
theorem d35 : decode yB 35 = .ok (.iload_n 3, 1) := by decide +kernel
theorem d36 : decode yB 36 = .ok (.invokestatic 177, 3) := by decide +kernel
theorem d39 : decode yB 39 = .ok (.astore 5, 2) := by decide +kernel
theorem d41 : decode yB 41 = .ok (.aload_n 0, 1) := by decide +kernel
theorem d42 : decode yB 42 = .ok (.aload 5, 2) := by decide +kernel
theorem d44 : decode yB 44 = .ok (.iload_n 3, 1) := by decide +kernel
theorem d45 : decode yB 45 = .ok (.invokestatic 47, 3) := by decide +kernel
theorem d48 : decode yB 48 = .ok (.putfield 15, 3) := by decide +kernel
theorem d51 : decode yB 51 = .ok (.aload_n 0, 1) := by decide +kernel
theorem d52 : decode yB 52 = .ok (.aload 5, 2) := by decide +kernel
theorem d54 : decode yB 54 = .ok (.putfield 9, 3) := by decide +kernel
theorem d57 : decode yB 57 = .ok (.return_, 1) := by decide +kernel
def site : List Cond := [.fieldLink "java/lang/String" 38 "java/lang/String" "COMPACT_STRINGS" "Z", Cmp3.tab, CodL.tab, .laysFinal "java/lang/String" "java/lang/String" "value" "[B", .fieldLink "java/lang/String" 9 "java/lang/String" "value" "[B", .laysFinal "java/lang/String" "java/lang/String" "coder" "B", .fieldLink "java/lang/String" 15 "java/lang/String" "coder" "B"] ++ objW "java/lang/String" 1 ++ staticW "java/lang/String" 177 Cmp3.yN ++ staticW "java/lang/String" 47 CodL.yN
def tab : Cond := tabOf yN yB 6 none site
def P (a : Addr) (D : Cell) (fV fC : Field) (b : Addr) (A : Cell) (z : Int32) (o len : Nat) (args : Array Value) (s : State) : Prop := args = #[.ref a, .ref b, .int (Int32.ofNat o), .int (Int32.ofNat len), .null] ∧ Blank "java/lang/String" a D s ∧ Found "java/lang/String" "value" "[B" fV s ∧ Found "java/lang/String" "coder" "B" fC s ∧ Ch b A s ∧ StaticIs s "java/lang/String" "COMPACT_STRINGS" "Z" (.int z) ∧ ¬ z = 0 ∧ 0 < len ∧ o + len ≤ A.slots.size ∧ len ≤ 536870912 ∧ ∀ i, i < len → ¬ 255 < cv A (o + i)
def E (a : Addr) (D : Cell) (fV fC : Field) (A : Cell) (o len : Nat) (r : Option Value) (s u : State) : Prop := Got a D fV fC A o len r s u
/-- len > 0, no char of the range above 255: a Latin-1 String of their low bytes -/
theorem law (l : Launch) (a : Addr) (D : Cell) (fV fC : Field) (b : Addr) (A : Cell) (z : Int32) (o len : Nat) : Law l yN 5 4 2 35 yB 6 none site (P a D fV fC b A z o len) (E a D fV fC A o len) [⟨a, fC.slot⟩, ⟨a, fV.slot⟩] 1 len := by
  refine Law.of_walk (plainFor_of_name (by decide +kernel)) (by decide +kernel) (by decide +kernel) (by decide) (fun _ _ h => by rw [h.1]; rfl) (fun _ U U' hal hh h => ⟨h.1, h.2.1.mv hal hh, h.2.2.1.al hal, h.2.2.2.1.al hal, h.2.2.2.2.1.mv hal hh, h.2.2.2.2.2.1.there hal hh, h.2.2.2.2.2.2⟩) (fun r U U' V V' h1 hal h2 h => Got.mv r U U' V V' h1 hal h2 h) ?_
  intro p e s m args below meth c s₁ X0 hexec hbytes hml hret hlk hnm hown hh0 W hP
  obtain ⟨rfl, hB, f1, f2, hA, s1, hz, l0, l1, l2, hp⟩ := hP
  have a31 := hA.1.2.2.2
  have c1 : Steps p.tables e below (s₁.setTop (entryFrame m #[.ref a, .ref b, .int (Int32.ofNat o), .int (Int32.ofNat len), .null] 6)) (s₁.setTop (mkF m 0 #[.val (.ref a), .val (.ref b), .val (.int (Int32.ofNat o)), .val (.int (Int32.ofNat len)), .val .null, .unset] [])) := entry rfl
  have c2 : Steps p.tables e below (s₁.setTop (entryFrame m #[.ref a, .ref b, .int (Int32.ofNat o), .int (Int32.ofNat len), .null] 6)) (s₁.setTop (mkF m 1 #[.val (.ref a), .val (.ref b), .val (.int (Int32.ofNat o)), .val (.int (Int32.ofNat len)), .val .null, .unset] [.ref a])) := c1.trans (by
    refine XS.aloadN X0.here hexec rfl (hb hbytes d0) rfl rfl ?_
    exact Steps.refl _)
  obtain ⟨T3, X3, q3, st3⟩ := X0.oinit hexec hown (wks W (objW "java/lang/String" 1)) (g := (mkF m 1 #[.val (.ref a), .val (.ref b), .val (.int (Int32.ofNat o)), .val (.int (Int32.ofNat len)), .val .null, .unset] [.ref a])) rfl (by rw [hml]; rfl) (rest := []) rfl (hb hbytes d1) (W := 0) (by show 2 * 0 + 0 ≤ _; decide) (Nat.le_of_ble_eq_true rfl) (Nat.le_of_ble_eq_true rfl)
  have hh3 := q3.trans hh0
  have c4 : Steps p.tables e below (s₁.setTop (entryFrame m #[.ref a, .ref b, .int (Int32.ofNat o), .int (Int32.ofNat len), .null] 6)) (T3.setTop (mkF m 27 #[.val (.ref a), .val (.ref b), .val (.int (Int32.ofNat o)), .val (.int (Int32.ofNat len)), .val .null, .unset] [])) := (c2.trans (st3 _ (Steps.refl _))).trans (by
    refine XS.iloadN X3.here hexec rfl (hb hbytes d4) rfl ?_
    refine XS.ifYes X3.here hexec rfl (pc0 := 5) rfl (hb hbytes d5) rfl (i0_ne_t (nz32 (by omega) l0)) (by decide) rfl ?_
    exact Steps.refl _)
  obtain ⟨T5, X5, q5, st5⟩ := X3.sget hexec hown (wk W (.fieldLink "java/lang/String" 38 "java/lang/String" "COMPACT_STRINGS" "Z")) s1 (fun _ _ h => by rw [hh3]; exact h) (g := (mkF m 27 #[.val (.ref a), .val (.ref b), .val (.int (Int32.ofNat o)), .val (.int (Int32.ofNat len)), .val .null, .unset] [])) rfl (hb hbytes d27)
  have hh5 := q5.trans hh3
  have c6 : Steps p.tables e below (s₁.setTop (entryFrame m #[.ref a, .ref b, .int (Int32.ofNat o), .int (Int32.ofNat len), .null] 6)) (T5.setTop (mkF m 30 #[.val (.ref a), .val (.ref b), .val (.int (Int32.ofNat o)), .val (.int (Int32.ofNat len)), .val .null, .unset] [.int z])) := c4.trans (st5 _ (Steps.refl _))
  have c7 : Steps p.tables e below (s₁.setTop (entryFrame m #[.ref a, .ref b, .int (Int32.ofNat o), .int (Int32.ofNat len), .null] 6)) (T5.setTop (mkF m 36 #[.val (.ref a), .val (.ref b), .val (.int (Int32.ofNat o)), .val (.int (Int32.ofNat len)), .val .null, .unset] [.int (Int32.ofNat len), .int (Int32.ofNat o), .ref b])) := c6.trans (by
    refine XS.ifNo X5.here hexec rfl (hb hbytes d30) rfl (i0_eq_f hz) ?_
    refine XS.aloadN X5.here hexec rfl (hb hbytes d33) rfl rfl ?_
    refine XS.iloadN X5.here hexec rfl (hb hbytes d34) rfl ?_
    refine XS.iloadN X5.here hexec rfl (hb hbytes d35) rfl ?_
    exact Steps.refl _)
  obtain ⟨v8, T8, X8, E8, g8⟩ := X5.callS hexec (Cmp3.law l b A o len) hown (wks W (staticW "java/lang/String" 177 Cmp3.yN)) (wk W Cmp3.tab) (W := 0) (Nat.le_of_ble_eq_true rfl) (Nat.le_of_ble_eq_true rfl) (Nat.le_refl _) (by show 0 + len ≤ len; omega) (g := (mkF m 36 #[.val (.ref a), .val (.ref b), .val (.int (Int32.ofNat o)), .val (.int (Int32.ofNat len)), .val .null, .unset] [.int (Int32.ofNat len), .int (Int32.ofNat o), .ref b])) rfl (by rw [hml]; rfl) c7 (argsL := [.ref b, .int (Int32.ofNat o), .int (Int32.ofNat len)]) (rest := []) rfl rfl (by show 2 * 0 + 0 ≤ _; decide) (hb hbytes d36) (⟨rfl, hA.mv X5.warmed.alike hh5, l1, l2, hp⟩)
  obtain ⟨e8, z8⟩ := E8
  obtain ⟨rfl, N, n1, n2, n3, n4, n5, n6⟩ := NewArr.mv _ T5 s _ _ hh5.symm (Vm.Alike.refl _) rfl e8
  rw [hh5] at z8
  have hB1 := hB.keep X8.warmed.alike (n6 _ _ hB.1)
  have hne : s.heap.size ≠ a := (Nat.ne_of_lt (Array.getElem?_eq_some_iff.mp hB.1).1).symm
  have c9 : Steps p.tables e below (s₁.setTop (entryFrame m #[.ref a, .ref b, .int (Int32.ofNat o), .int (Int32.ofNat len), .null] 6)) (T8.setTop (mkF m 39 #[.val (.ref a), .val (.ref b), .val (.int (Int32.ofNat o)), .val (.int (Int32.ofNat len)), .val .null, .unset] [.ref s.heap.size])) := g8
  have c10 : Steps p.tables e below (s₁.setTop (entryFrame m #[.ref a, .ref b, .int (Int32.ofNat o), .int (Int32.ofNat len), .null] 6)) (T8.setTop (mkF m 45 #[.val (.ref a), .val (.ref b), .val (.int (Int32.ofNat o)), .val (.int (Int32.ofNat len)), .val .null, .val (.ref s.heap.size)] [.int (Int32.ofNat N.slots.size), .ref s.heap.size, .ref a])) := by
    have hc : Steps p.tables e below (s₁.setTop (entryFrame m #[.ref a, .ref b, .int (Int32.ofNat o), .int (Int32.ofNat len), .null] 6)) (T8.setTop (mkF m 45 #[.val (.ref a), .val (.ref b), .val (.int (Int32.ofNat o)), .val (.int (Int32.ofNat len)), .val .null, .val (.ref s.heap.size)] [.int (Int32.ofNat len), .ref s.heap.size, .ref a])) := c9.trans (by
      refine XS.astore X8.here hexec rfl (hb hbytes d39) rfl rfl rfl ?_
      refine XS.aloadN X8.here hexec rfl (hb hbytes d41) rfl rfl ?_
      refine XS.aload X8.here hexec rfl (hb hbytes d42) rfl rfl ?_
      refine XS.iloadN X8.here hexec rfl (hb hbytes d44) rfl ?_
      exact Steps.refl _)
    rw [n4]; exact hc
  obtain ⟨v11, T11, X11, E11, g11⟩ := X8.callS hexec (CodL.law l s.heap.size N) hown (wks W (staticW "java/lang/String" 47 CodL.yN)) (wk W CodL.tab) (W := 1) (Nat.le_of_ble_eq_true rfl) (Nat.le_of_ble_eq_true rfl) (Nat.le_refl _) (by show 0 + len + 0 ≤ len; omega) (g := (mkF m 45 #[.val (.ref a), .val (.ref b), .val (.int (Int32.ofNat o)), .val (.int (Int32.ofNat len)), .val .null, .val (.ref s.heap.size)] [.int (Int32.ofNat N.slots.size), .ref s.heap.size, .ref a])) rfl (by rw [hml]; rfl) c10 (argsL := [.ref s.heap.size, .int (Int32.ofNat N.slots.size)]) (rest := [.ref a]) rfl rfl (by show 2 * 0 + (1 + 0) ≤ _; decide) (hb hbytes d45) (⟨rfl, n1⟩)
  obtain ⟨rfl, q11⟩ := E11
  have hB11 := hB1.mv (X8.warmed.alike.symm.trans X11.warmed.alike) q11
  have c12 : Steps p.tables e below (s₁.setTop (entryFrame m #[.ref a, .ref b, .int (Int32.ofNat o), .int (Int32.ofNat len), .null] 6)) (T11.setTop (mkF m 48 #[.val (.ref a), .val (.ref b), .val (.int (Int32.ofNat o)), .val (.int (Int32.ofNat len)), .val .null, .val (.ref s.heap.size)] [.int 0, .ref a])) := g11
  obtain ⟨T13, X13, p13, bl13, sl13, st13⟩ := X11.finit hexec hown (wk W (.fieldLink "java/lang/String" 15 "java/lang/String" "coder" "B")) (Or.inr ⟨_, (wk W (.laysFinal "java/lang/String" "java/lang/String" "coder" "B"))⟩) (Or.inl ⟨rfl, hnm⟩) f2 (Or.inl rfl) hB11 (t := .byte) (by decide +kernel) rfl (g := (mkF m 48 #[.val (.ref a), .val (.ref b), .val (.int (Int32.ofNat o)), .val (.int (Int32.ofNat len)), .val .null, .val (.ref s.heap.size)] [.int 0, .ref a])) rfl (rest := []) rfl (hb hbytes d48)
  have c14 : Steps p.tables e below (s₁.setTop (entryFrame m #[.ref a, .ref b, .int (Int32.ofNat o), .int (Int32.ofNat len), .null] 6)) (T13.setTop (mkF m 54 #[.val (.ref a), .val (.ref b), .val (.int (Int32.ofNat o)), .val (.int (Int32.ofNat len)), .val .null, .val (.ref s.heap.size)] [.ref s.heap.size, .ref a])) := (c12.trans (st13 _ (Steps.refl _))).trans (by
    refine XS.aloadN X13.here hexec rfl (hb hbytes d51) rfl rfl ?_
    refine XS.aload X13.here hexec rfl (hb hbytes d52) rfl rfl ?_
    exact Steps.refl _)
  obtain ⟨T15, X15, p15, bl15, sl15, st15⟩ := X13.finit hexec hown (wk W (.fieldLink "java/lang/String" 9 "java/lang/String" "value" "[B")) (Or.inr ⟨_, (wk W (.laysFinal "java/lang/String" "java/lang/String" "value" "[B"))⟩) (Or.inl ⟨rfl, hnm⟩) f1 (Or.inl rfl) bl13 (t := (.array .byte)) (by decide +kernel) rfl (g := (mkF m 54 #[.val (.ref a), .val (.ref b), .val (.int (Int32.ofNat o)), .val (.int (Int32.ofNat len)), .val .null, .val (.ref s.heap.size)] [.ref s.heap.size, .ref a])) rfl (rest := []) rfl (hb hbytes d54)
  have c16 : Steps p.tables e below (s₁.setTop (entryFrame m #[.ref a, .ref b, .int (Int32.ofNat o), .int (Int32.ofNat len), .null] 6)) (T15.setTop (mkF m 57 #[.val (.ref a), .val (.ref b), .val (.int (Int32.ofNat o)), .val (.int (Int32.ofNat len)), .val .null, .val (.ref s.heap.size)] [])) := c14.trans (st15 _ (Steps.refl _))
  have ap := apart (Or.inr ⟨_, (wk W (.laysFinal "java/lang/String" "java/lang/String" "value" "[B"))⟩) (Or.inr ⟨_, (wk W (.laysFinal "java/lang/String" "java/lang/String" "coder" "B"))⟩) f1 f2 (t₁ := .array .byte) (t₂ := .byte) (by decide +kernel) (by decide +kernel) (by decide)
  have al := X8.warmed.alike.symm.trans X15.warmed.alike
  have n7 : T11.heap[s.heap.size]? = some N := by rw [q11]; exact n1.1
  exact ⟨T15, none, _, _, _, X15, by simp, rfl, by omega, (fun _ => rfl), ⟨rfl, _, N, bl15, ((Same.refl D _).set _ (by simp)).set _ (by simp), sl15, (Cell.slots_setSlot_ne _ ap).trans sl13, n1.keep al (p15.other hne (p13.other hne n7)), n2, by rw [al.findClass]; exact n3, n4, n5, fun y c h1 h2 => p15.other h1 (p13.other h1 (by rw [q11]; exact n6 y c h2)), by rw [p15.2.2, p13.2.2, q11]; exact z8⟩, fun fs hl => c16.trans (X15.returnOut hexec hret (hb hbytes d57) hl)⟩
end New4
namespace New1
def yN : MethodName := ⟨"java/lang/String", "<init>", "([C)V"⟩
abbrev yB : ByteArray := jdk_42_method_3_code
theorem d0 : decode yB 0 = .ok (.aload_n 0, 1) := by decide +kernel
theorem d1 : decode yB 1 = .ok (.aload_n 1, 1) := by decide +kernel
theorem d2 : decode yB 2 = .ok (.iconst 0, 1) := by decide +kernel
theorem d3 : decode yB 3 = .ok (.aload_n 1, 1) := by decide +kernel
theorem d4 : decode yB 4 = .ok (.arraylength, 1) := by decide +kernel
theorem d5 : decode yB 5 = .ok (.aconst_null, 1) := by decide +kernel
theorem d6 : decode yB 6 = .ok (.invokespecial 27, 3) := by decide +kernel
theorem d9 : decode yB 9 = .ok (.return_, 1) := by decide +kernel
def site : List Cond := [New4.tab] ++ initW "java/lang/String" 27 New4.yN
def tab : Cond := tabOf yN yB 2 none site
def P (a : Addr) (D : Cell) (fV fC : Field) (b : Addr) (A : Cell) (z : Int32) (args : Array Value) (s : State) : Prop := args = #[.ref a, .ref b] ∧ Blank "java/lang/String" a D s ∧ Found "java/lang/String" "value" "[B" fV s ∧ Found "java/lang/String" "coder" "B" fC s ∧ Ch b A s ∧ StaticIs s "java/lang/String" "COMPACT_STRINGS" "Z" (.int z) ∧ ¬ z = 0 ∧ 0 < A.slots.size ∧ A.slots.size ≤ 536870912 ∧ ∀ i, i < A.slots.size → ¬ 255 < cv A i
def E (a : Addr) (D : Cell) (fV fC : Field) (A : Cell) (r : Option Value) (s u : State) : Prop := Got a D fV fC A 0 A.slots.size r s u
/-- new String(chars), not empty, no char above 255: a Latin-1 String of their low bytes -/
theorem law (l : Launch) (a : Addr) (D : Cell) (fV fC : Field) (b : Addr) (A : Cell) (z : Int32) : Law l yN 2 1 3 52 yB 2 none site (P a D fV fC b A z) (E a D fV fC A) [⟨a, fC.slot⟩, ⟨a, fV.slot⟩] 1 A.slots.size := by
  refine Law.of_walk (plainFor_of_name (by decide +kernel)) (by decide +kernel) (by decide +kernel) (by decide) (fun _ _ h => by rw [h.1]; rfl) (fun _ U U' hal hh h => ⟨h.1, h.2.1.mv hal hh, h.2.2.1.al hal, h.2.2.2.1.al hal, h.2.2.2.2.1.mv hal hh, h.2.2.2.2.2.1.there hal hh, h.2.2.2.2.2.2⟩) (fun r U U' V V' h1 hal h2 h => Got.mv r U U' V V' h1 hal h2 h) ?_
  intro p e s m args below meth c s₁ X0 hexec hbytes hml hret hlk hnm hown hh0 W hP
  obtain ⟨rfl, hB, f1, f2, hA, s1, hz, l0, l2, hp⟩ := hP
  have c1 : Steps p.tables e below (s₁.setTop (entryFrame m #[.ref a, .ref b] 2)) (s₁.setTop (mkF m 0 #[.val (.ref a), .val (.ref b)] [])) := entry rfl
  have c2 : Steps p.tables e below (s₁.setTop (entryFrame m #[.ref a, .ref b] 2)) (s₁.setTop (mkF m 6 #[.val (.ref a), .val (.ref b)] [.null, .int (Int32.ofNat A.slots.size), .int 0, .ref b, .ref a])) := c1.trans (by
    refine XS.aloadN X0.here hexec rfl (hb hbytes d0) rfl rfl ?_
    refine XS.aloadN X0.here hexec rfl (hb hbytes d1) rfl rfl ?_
    refine iconstV X0.here hexec rfl 0 (hb hbytes d2) (by decide) ?_
    refine XS.aloadN X0.here hexec rfl (hb hbytes d3) rfl rfl ?_
    refine X0.alen hexec (hA.1.mv X0.warmed.alike hh0) rfl rfl (hb hbytes d4) ?_
    refine XS.aconstNull X0.here hexec rfl (hb hbytes d5) ?_
    exact Steps.refl _)
  obtain ⟨v3, T3, X3, E3, g3⟩ := X0.callN hexec (New4.law l a D fV fC b A z 0 A.slots.size) rfl hown (wks W (initW "java/lang/String" 27 New4.yN)) (W New4.tab (by simp only [site, List.mem_cons, List.mem_append, true_or, or_true])) (W := 0) (Nat.le_of_ble_eq_true rfl) (Nat.le_of_ble_eq_true rfl) (Nat.le_refl _) (by show 0 + A.slots.size ≤ A.slots.size; omega) (g := (mkF m 6 #[.val (.ref a), .val (.ref b)] [.null, .int (Int32.ofNat A.slots.size), .int (Int32.ofNat 0), .ref b, .ref a])) rfl (by rw [hml]; rfl) c2 (argsL := [.ref b, .int (Int32.ofNat 0), .int (Int32.ofNat A.slots.size), .null]) (rest := []) rfl rfl (by show 2 * 0 + 0 ≤ _; decide) (hb hbytes d6) (⟨rfl, hB.mv X0.warmed.alike hh0, f1.al X0.warmed.alike, f2.al X0.warmed.alike, hA.mv X0.warmed.alike hh0, s1.there X0.warmed.alike hh0, hz, l0, by omega, l2, fun i hi => by rw [Nat.zero_add]; exact hp i hi⟩)
  have e0 := Got.mv _ s₁ s _ _ hh0.symm (Vm.Alike.refl _) rfl E3
  obtain rfl := e0.1
  have c4 : Steps p.tables e below (s₁.setTop (entryFrame m #[.ref a, .ref b] 2)) (T3.setTop (mkF m 9 #[.val (.ref a), .val (.ref b)] [])) := g3
  exact ⟨T3, none, _, _, _, X3, by simp, rfl, by omega, (fun _ => rfl), e0, fun fs hl => c4.trans (X3.returnOut hexec hret (hb hbytes d9) hl)⟩
theorem pays {l : Launch} {R : Room} {p : Program} {e : Env} {below : List Frame} {s : State} {sargs : Array Value} {len W : Nat} (a : Addr) (D : Cell) (fV fC : Field) (b : Addr) (A : Cell) (z : Int32) (htab : tab.before sargs s = true) (hfr : 4 ≤ R.frames) (hlo : W + 65 ≤ R.locals) :
    Back l R p e below s sargs yN len W (fun A₁ a₁ => A₁.cells + 1 ≤ R.cells ∧ A₁.slots + A.slots.size ≤ R.slots ∧ P a D fV fC b A z a₁ A₁.U) (fun A₁ _ v₁ B₁ => E a D fV fC A v₁ A₁.U B₁.U ∧ B₁.locs = A₁.locs ++ [⟨a, fC.slot⟩, ⟨a, fV.slot⟩] ∧ B₁.cells = A₁.cells + 1 ∧ B₁.slots = A₁.slots + A.slots.size) :=
  (law l a D fV fC b A z).pays htab hfr (by omega)
end New1
end StrChars
namespace StrChars.Road
open Jvm Sem ClassFile Op Lib Jvm.Stand Jvm.Free Jvm.Free.XT
open Jvm.Lib.Cold (StaticIs)
abbrev ST : String := "java/lang/String"
/-- every table word that New1's law asks, flat -/
abbrev words : List Jvm.Cond := [.code New1.yN New1.yB 2 none, .initialized ST, .methodLink ST 27 New4.yN, .instanceMethod New4.yN,
  .code New4.yN New4.yB 6 none, .fieldLink ST 38 ST "COMPACT_STRINGS" "Z", .laysFinal ST ST "value" "[B", .fieldLink ST 9 ST "value" "[B", .laysFinal ST ST "coder" "B", .fieldLink ST 15 ST "coder" "B",
  .methodLink ST 1 Lib.objectInit, .instanceMethod Lib.objectInit, .code Lib.objectInit ⟨#[0xb1]⟩ 1 none, .methodLink ST 177 Cmp3.yN, .static Cmp3.yN, .methodLink ST 47 CodL.yN, .static CodL.yN,
  .code Cmp3.yN Cmp3.yB 6 (some (.array .byte)), .initialized U16, .arrayClass .byte, .methodLink U16 115 Cmp5.yN, .static Cmp5.yN, .code Cmp5.yN Cmp5.yB 7 (some .int), .code CodL.yN CodL.yB 2 (some .byte)]
theorem tab_of {a : Array Value} {s : State} (h : ∀ w ∈ words, w.before a s = true) : New1.tab.before a s = true := by
  have h5 : Cmp5.tab.before a s = true := unparts (wk h (.code Cmp5.yN Cmp5.yB 7 (some .int))) (wks h (.initialized Cmp5.yN.cls :: Cmp5.site))
  have hc : CodL.tab.before a s = true := unparts (wk h (.code CodL.yN CodL.yB 2 (some .byte))) (wks h (.initialized CodL.yN.cls :: CodL.site))
  have q5 : ∀ w ∈ Cmp5.tab :: words, w.before a s = true := fun w hw => (List.mem_cons.mp hw).elim (fun e => e ▸ h5) (h w)
  have h3 : Cmp3.tab.before a s = true := unparts (wk q5 (.code Cmp3.yN Cmp3.yB 6 (some (.array .byte)))) (wks q5 (.initialized Cmp3.yN.cls :: Cmp3.site))
  have q3 : ∀ w ∈ Cmp3.tab :: CodL.tab :: words, w.before a s = true := fun w hw => (List.mem_cons.mp hw).elim (fun e => e ▸ h3) fun hw => (List.mem_cons.mp hw).elim (fun e => e ▸ hc) (h w)
  have h4 : New4.tab.before a s = true := unparts (wk q3 (.code New4.yN New4.yB 6 none)) (wks q3 (.initialized New4.yN.cls :: New4.site))
  have q4 : ∀ w ∈ New4.tab :: words, w.before a s = true := fun w hw => (List.mem_cons.mp hw).elim (fun e => e ▸ h4) (h w)
  exact unparts (wk q4 (.code New1.yN New1.yB 2 none)) (wks q4 (.initialized New1.yN.cls :: New1.site))
/-- the words ride from the start Z to the walk's own state -/
theorem moved {Z s : State} {a0 args : Array Value} (hZ : Z.Warmed39 s.vm) (hw : ∀ d ∈ words, d.before a0 Z = true) : ∀ d ∈ words, d.before args s = true := fun d hd => by
  have q := hw d hd
  have t : ∀ d ∈ words, d = .arrayClass .byte ∨ (d.onTables && d.keepsFace) = true := by decide +kernel
  rcases t d hd with rfl | t
  · exact RoadKit.mvA hZ q
  · exact RoadKit.mv hZ q t
/-- WHAT COMES BACK, over the tables of the start Z: h the heap at the call, h' behind it -/
def Q (Z : State) (x : Addr) (A : Cell) (h : Heap) (v : Option Value) (h' : Heap) (L : List Loc) : Prop := v = none ∧ (∀ y ∈ L, y.base = x) ∧ RoadKit.Keep h h' [x] ∧ h'.size = h.size + 1 ∧ RoadKit.Exa Z h' x ST ∧ RoadKit.Fld Z h' x ST "value" "[B" (.ref h.size) ∧ RoadKit.Fld Z h' x ST "coder" "B" (.int 0) ∧
  (∃ V : Cell, RoadKit.Arr Z h' h.size V .byte ∧ V.vm = .none ∧ Z.vm.findClass "[B" = some V.cls ∧ V.slots.size = A.slots.size ∧ ∀ j, j < A.slots.size → V.slots[j]? = some (.int (lo8 (cv A j)))) ∧
  ∀ (O n d : String) (w : Value), RoadKit.Fld Z h x O n d w → RoadKit.slotOf Z O n d ≠ RoadKit.slotOf Z ST "value" "[B" → RoadKit.slotOf Z O n d ≠ RoadKit.slotOf Z ST "coder" "B" → RoadKit.Fld Z h' x O n d w
/-- **new String(chars) AT A CALL, IN THE ROAD'S FORM**: for specialBack behind newO: x the fresh String, b the char[] with the cell A -/
theorem back {p : Program} {l : Launch} {e : Env} {R : Room} {s : State} {args : Array Value} {below : List Frame} {len W : Nat} {Z : State} {a0 : Array Value} {h : Heap} (hZ : Z.Warmed39 s.vm) (hw : ∀ d ∈ words, d.before a0 Z = true) {kI : Nat} (wi : (Jvm.Cond.instantiable ST kI).before a0 Z = true)
    {x b : Addr} {A : Cell} {z : Int32} {v0 c0 : Value} (E : RoadKit.Exa Z h x ST) (V : RoadKit.Fld Z h x ST "value" "[B" v0) (C : RoadKit.Fld Z h x ST "coder" "B" c0) (K : RoadKit.Arr Z h b A .char) (hty : Typed .char A) (S : RoadKit.Sta Z h ST "COMPACT_STRINGS" "Z" (.int z)) (hz : ¬ z = 0)
    (l0 : 0 < A.slots.size) (l2 : A.slots.size ≤ 536870912) (hp : ∀ i, i < A.slots.size → ¬ 255 < cv A i) (hfr : 4 ≤ R.frames) (hlo : W + 65 ≤ R.locals) :
    Back l R p e below s args New1.yN len W (fun P a => a = #[.ref x, .ref b] ∧ P.U.heap = h ∧ P.cells + 1 ≤ R.cells ∧ P.slots + A.slots.size ≤ R.slots)
      (fun P _ v B => ∃ L, Q Z x A h v B.U.heap L ∧ B.locs = P.locs ++ L ∧ B.cells = P.cells + 1 ∧ B.slots = P.slots + A.slots.size) := by
  intro m meth c P g ig mk a X hg hsize hdg hW hn hp'
  obtain ⟨rfl, rfl, r1, r2⟩ := hp'
  have al : Z.vm.Alike P.U.vm := hZ.alike.trans X.warmed.alike
  obtain ⟨D, cfV, kV, iV, fV, hD, gV, stV, knV, obV, asV, slV⟩ := id V
  obtain ⟨D', cfC, kC, iC, fC, hD', gC, stC, -, -, asC, slC⟩ := id C
  cases hD.symm.trans hD'
  obtain ⟨D2, kD, e1, e2, e3, e4, e5⟩ := id E
  cases hD.symm.trans e1
  obtain ⟨c2, k2, i1, i2, i3, -⟩ := Cond.instantiable_spec wi
  cases e2.symm.trans i1
  cases e3.symm.trans i2
  obtain ⟨kU, u1, u2⟩ := al.2.2 _ _ e3
  have hB : Blank ST x D P.U := ⟨hD, ⟨knV, fun q hq => by rw [hq] at obV; cases obV⟩, by rw [al.findClass]; exact e2, kU, u1, by rw [u2]; exact i3, by rw [u2]; exact e5 i3⟩
  have F1 : Found ST "value" "[B" fV P.U := ⟨SBG.found_only al ⟨cfV, kV, iV, gV⟩, stV⟩
  have F2 : Found ST "coder" "B" fC P.U := ⟨SBG.found_only al ⟨cfC, kC, iC, gC⟩, stC⟩
  have hA : Ch b A P.U := ⟨⟨K.1, State.isArrayOf_alike al K.2.1, K.2.2, by omega⟩, hty⟩
  have hS : StaticIs P.U ST "COMPACT_STRINGS" "Z" (.int z) := by
    obtain ⟨cfS, iS, kS, fS, st, cS, t1, t2, t3, t4, t5, t6, t7⟩ := S
    exact StaticIs.there (s := { Z with heap := P.U.heap }) ⟨cfS, iS, kS, fS, st, cS, t1, t2, t3, t4, t5, (fun q => by rw [q] at t6; cases t6), t7⟩ al rfl
  obtain ⟨v, B, X', ⟨⟨hv, E', V', q1, q2, q3, q4, q5, q6, q7, q8, q9, q10, q11⟩, hl, hc, hs⟩, st⟩ := New1.pays x D fV fC b A z (tab_of (moved hZ hw)) hfr hlo m meth c P g ig mk _ X hg hsize hdg hW hn ⟨r1, r2, rfl, hB, F1, F2, hA, hS, hz, l0, l2, hp⟩
  have al' : Z.vm.Alike B.U.vm := hZ.alike.trans X'.warmed.alike
  have hsz : E'.slots.size = D.slots.size := by
    obtain ⟨-, -, -, kB, w1, w2, w3⟩ := q1
    obtain ⟨kB', y1, y2⟩ := al'.2.2 _ _ e3
    rw [q2.2.1] at w1
    cases w1.symm.trans y1
    rw [w3, e5 i3, y2]
  refine ⟨v, B, X', ⟨_, ⟨hv, ?_, ⟨by omega, fun y cy hy hn' => q10 y cy (by simpa using hn') hy, fun y cy hy => ?_⟩, q11, ⟨E', _, q1.1, by rw [q2.2.1]; exact e2, by rw [q2.2.1]; exact e3, by rw [q2.1]; exact obV, fun _ => by rw [hsz]; exact e5 i3⟩,
    ⟨E', cfV, kV, iV, fV, q1.1, gV, stV, by rw [q2.1]; exact knV, by rw [q2.1]; exact obV, by rw [q2.2.1]; exact asV, q3⟩, ⟨E', cfC, kC, iC, fC, q1.1, gC, stC, by rw [q2.1]; exact knV, by rw [q2.1]; exact obV, by rw [q2.2.1]; exact asC, q4⟩,
    ⟨V', ⟨q5.1, State.isArrayOf_alike al'.symm q5.2.1, q5.2.2.1⟩, q6, by rw [← al'.findClass]; exact q7, q8, fun j hj => by have := q9 j hj; rwa [Nat.zero_add] at this⟩, fun O n d w F n1 n2 => ?_⟩, hl, hc, hs⟩, st⟩
  · intro y hy
    simp only [List.mem_cons, List.not_mem_nil, or_false] at hy
    rcases hy with rfl | rfl <;> rfl
  · by_cases q : y = x
    · subst q
      cases hD.symm.trans hy
      exact ⟨E', q1.1, q2.2.1, q2.1, hsz⟩
    · exact ⟨cy, q10 y cy q hy, rfl, rfl, rfl⟩
  · obtain ⟨D3, cf, k, i, f, g1, g2, g3, g4, g5, g6, g7⟩ := F
    cases hD.symm.trans g1
    simp only [RoadKit.slotOf, g2, gV, gC, Option.map_some, Option.getD_some] at n1 n2
    exact ⟨E', cf, k, i, f, q1.1, g2, g3, by rw [q2.1]; exact g4, by rw [q2.1]; exact g5, by rw [q2.2.1]; exact g6, by rw [q2.2.2 f.slot (by simp [n1, n2])]; exact g7⟩
end StrChars.Road
namespace StrChars.Road
open Jvm Sem ClassFile Op Lib Jvm.Stand Jvm.Free Jvm.Free.XT
/-- WHAT COMES BACK, the byte[] as a list of values -/
def QA (Z : State) (x : Addr) (zn : Int32) (cs : List Int32) (h : Heap) (v : Option Value) (h' : Heap) (L : List Loc) : Prop := v = none ∧ (∀ y ∈ L, y.base = x) ∧ RoadKit.Keep h h' [x] ∧ h'.size = h.size + 1 ∧ RoadKit.Exa Z h' x ST ∧ RoadKit.Fld Z h' x ST "value" "[B" (.ref h.size) ∧ RoadKit.Fld Z h' x ST "coder" "B" (.int 0) ∧
  (∃ kb, Z.vm.findClass "[B" = some kb ∧ RoadKit.Arv Z h' h.size kb .byte zn (cs.map fun c => .int (lo8 c)) (.int 0)) ∧
  ∀ (O n d : String) (w : Value), RoadKit.Fld Z h x O n d w → RoadKit.slotOf Z O n d ≠ RoadKit.slotOf Z ST "value" "[B" → RoadKit.slotOf Z O n d ≠ RoadKit.slotOf Z ST "coder" "B" → RoadKit.Fld Z h' x O n d w
/-- **new String(chars) AT A CALL, THE ARRAYS AS LISTS**: the char[] at b holds cs, not empty, no char above 255 -/
theorem backArv {p : Program} {l : Launch} {e : Env} {R : Room} {s : State} {args : Array Value} {below : List Frame} {len W : Nat} {Z : State} {a0 : Array Value} {h : Heap} (hZ : Z.Warmed39 s.vm) (hw : ∀ d ∈ words, d.before a0 Z = true) {kI : Nat} (wi : (Jvm.Cond.instantiable ST kI).before a0 Z = true)
    {x b : Addr} {k : ClassId} {zn z : Int32} {cs : List Int32} {dv v0 c0 : Value} (E : RoadKit.Exa Z h x ST) (V : RoadKit.Fld Z h x ST "value" "[B" v0) (C : RoadKit.Fld Z h x ST "coder" "B" c0) (K : RoadKit.Arv Z h b k .char zn (cs.map Value.int) dv) (S : RoadKit.Sta Z h ST "COMPACT_STRINGS" "Z" (.int z)) (hz : ¬ z = 0)
    (hlen : zn.toNatClampNeg = cs.length) (h0 : 0 < cs.length) (hbig : cs.length ≤ 536870912) (hall : ∀ c ∈ cs, ¬ 255 < c) (hfr : 4 ≤ R.frames) (hlo : W + 65 ≤ R.locals) :
    Back l R p e below s args New1.yN len W (fun P a => a = #[.ref x, .ref b] ∧ P.U.heap = h ∧ P.cells + 1 ≤ R.cells ∧ P.slots + cs.length ≤ R.slots)
      (fun P _ v B => ∃ L, QA Z x zn cs h v B.U.heap L ∧ B.locs = P.locs ++ L ∧ B.cells = P.cells + 1 ∧ B.slots = P.slots + cs.length) := by
  obtain ⟨A, K1, K2, K3, K4, K5, K6⟩ := K
  have e : A.slots.size = cs.length := K3.trans hlen
  have hat : ∀ (i : Nat) (hi : i < cs.length), A.slots[i]? = some (.int cs[i]) := fun i hi => by rw [K5 i (by omega)]; simp [List.getD_eq_getElem?_getD, hi]
  have hcv : ∀ (i : Nat) (hi : i < cs.length), cv A i = cs[i] := fun i hi => by unfold cv; rw [hat i hi]
  have hty : Typed .char A := fun i v hv => by
    have hi : i < A.slots.size := (Array.getElem?_eq_some_iff.mp hv).1
    have q := K5 i hi
    rw [hv] at q
    rw [Option.some.inj q]
    exact K6 i hi
  refine Back.mono (back hZ hw wi E V C K1 hty S hz (by omega) (by omega) (fun i hi => by rw [hcv i (by omega)]; exact hall _ (List.getElem_mem _)) hfr hlo) (fun P a hp => ⟨hp.1, hp.2.1, hp.2.2.1, by rw [e]; exact hp.2.2.2⟩) (fun P a v B hp hq => ?_)
  obtain ⟨L, ⟨q1, q2, q3, q4, q5, q6, q7, ⟨V', v1, v2, v3, v4, v5⟩, q9⟩, hl, hc, hs⟩ := hq
  refine ⟨L, ⟨q1, q2, q3, q4, q5, q6, q7, ⟨V'.cls, v3, V', v1, rfl, by rw [v4, e, hlen], K4, fun i hi => ?_, fun i hi => ?_⟩, q9⟩, hl, hc, by rw [hs, e]⟩
  · have hi' : i < cs.length := by omega
    rw [v5 i (by omega), hcv i hi']; simp [List.getD_eq_getElem?_getD, hi']
  · have hi' : i < cs.length := by omega
    simp only [List.getD_eq_getElem?_getD, List.getElem?_map, List.getElem?_eq_getElem hi', Option.map_some, Option.getD_some]
    exact fits_lo8 _
end StrChars.Road
namespace StrChars.Road
open Jvm Sem ClassFile Op Lib Jvm.Stand Jvm.Free Jvm.Free.XT
/-- WHAT COMES BACK, in the writer's own shape -/
def QV (Z : State) (x : Addr) (N : Int32) (bs : List Int32) (h : Heap) (n0 : Nat) (v : Option Value) (h' : Heap) (L : List Loc) : Prop := v = none ∧ RoadKit.Fr n0 L ∧ RoadKit.Keep h h' [x] ∧ RoadKit.Exa Z h' x ST ∧ RoadKit.Fld Z h' x ST "coder" "B" (.int 0) ∧
  ∃ (t : Addr) (kb : ClassId), n0 ≤ t ∧ h.size ≤ t ∧ ¬ t = x ∧ RoadKit.Fld Z h' x ST "value" "[B" (.ref t) ∧ RoadKit.Arv Z h' t kb .byte N (bs.map Value.int) (.int 0)
/-- **new String(chars) AT A CALL, FOR THE WRITER**: a char[] of n known ints, each 0 to 255 -/
theorem backV {p : Program} {l : Launch} {e : Env} {R : Room} {s : State} {args : Array Value} {below : List Frame} {len W : Nat} {Z : State} {a0 : Array Value} {h : Heap} (hZ : Z.Warmed39 s.vm) (hw : ∀ d ∈ words, d.before a0 Z = true) {kI : Nat} (wi : (Jvm.Cond.instantiable ST kI).before a0 Z = true)
    {x b : Addr} {kC : ClassId} {cs bs : List Int32} {d v0 c0 : Value} {z N : Int32} {n n0 : Nat} (hx0 : n0 ≤ x) (hh0 : n0 ≤ h.size) (E : RoadKit.Exa Z h x ST) (V : RoadKit.Fld Z h x ST "value" "[B" v0) (C : RoadKit.Fld Z h x ST "coder" "B" c0) (K : RoadKit.Arv Z h b kC .char N (cs.map Value.int) d) (S : RoadKit.Sta Z h ST "COMPACT_STRINGS" "Z" (.int z)) (hz : ¬ z = 0)
    (hn : cs.length = n) (hN : N = Int32.ofNat n) (l0 : 0 < n) (l2 : n ≤ 4000) (hp : ∀ c ∈ cs, ¬ c < 0 ∧ ¬ (255 : Int32) < c) (hb : bs = cs.map (fun c => c.toInt8.toInt32)) (hfr : 4 ≤ R.frames) (hlo : W + 65 ≤ R.locals) :
    Back l R p e below s args (⟨"java/lang/String", "<init>", "([C)V"⟩ : MethodName) len W (fun P a => a = #[.ref x, .ref b] ∧ P.U.heap = h ∧ P.cells + 1 ≤ R.cells ∧ P.slots + n ≤ R.slots)
      (fun P _ v B => ∃ L, QV Z x N bs h n0 v B.U.heap L ∧ B.locs = P.locs ++ L ∧ B.cells = P.cells + 1 ∧ B.slots = P.slots + n) := by
  subst hn hN hb
  refine Back.mono (backArv hZ hw wi E V C K S hz (n32 (by omega)) l0 (by omega) (fun c hc => (hp c hc).2) hfr hlo) (fun P a hp => hp) (fun P a v B hp hq => ?_)
  obtain ⟨L, ⟨q1, q2, q3, q4, q5, q6, q7, ⟨kb, v1, v2⟩, q9⟩, hl, hc, hs⟩ := hq
  exact ⟨L, ⟨q1, fun y hy => by rw [q2 y hy]; exact hx0, q3, q5, q7, h.size, kb, hh0, Nat.le_refl _, Nat.ne_of_gt E.lt, q6, by rw [List.map_map]; exact v2⟩, hl, hc, hs⟩
end StrChars.Road
end Jvm.Pilot.@@N@@

namespace Jvm.Pilot.@@N@@
open Jvm Jvm.ClassFile Sem Op Lib Jvm.Free Jvm.Stand Jvm.LawKit Jvm.RoadKit Bundle Jvm.Pilot.@@N@@.Jvm.D
section OwnKit
variable {p : Program} {l : Launch} {e : Env} {R : Room} {s : State} {m : MethodId} {args : Array Value} {below : List Frame} {meth : Method} {c : Code} {T T' : State} {locs : List Loc} {cells slots : Nat} {Z : State} {a0 : Array Value} {h h0 : Heap} {Q : Option Value → Heap → List Loc → Prop} {kc ks : Nat} {f f' : JFrame}
/-- from T with the frame f on top the run ends as Q says -/
def own_Ends (p : Program) (e : Env) (below : List Frame) (s : State) (Q : Option Value → Heap → List Loc → Prop) (kc ks : Nat) (T : State) (f : JFrame) : Prop :=
  ∃ s₂ o, Steps p.tables e below (T.setTop f) s₂ ∧ s₂.status = .running ∧ Ended s₂ below o ∧ ∃ v L, o = .returned v ∧ Q v s₂.heap L ∧ FrameEnd s o s₂ L kc ks
theorem own_go (st : ∀ target, Steps p.tables e below (T'.setTop f') target → Steps p.tables e below (T.setTop f) target) (k : own_Ends p e below s Q kc ks T' f') : own_Ends p e below s Q kc ks T f := by
  obtain ⟨s₂, o, h1, r⟩ := k
  exact ⟨s₂, o, st _ h1, r⟩
theorem own_fin (X : Stand p l e R s m args below meth c T locs cells slots) (v : Option Value) (hlk : meth.locks = false) (hv : meth.sig.returnType = none → v = none)
    (st : ∀ fs, (∀ (f : JFrame) (acts : List Action), f.method = m → f.locked = none → f.entered = [] → (doReturn e (T.setTop f) acts v).1 = T.setFrames fs) → Steps p.tables e below (T.setTop f) (T.setFrames fs))
    (eT : T.heap = h) (hQ : Q v h locs) (hc : cells ≤ kc) (hs : slots ≤ ks) : own_Ends p e below s Q kc ks T f := by
  subst eT
  obtain ⟨fs, hr, hrun, hended, hW, hsame⟩ := X.leave (v := v) hv hlk
  exact ⟨_, _, st fs hr, hrun, hended, v, locs, rfl, hQ, ⟨_, rfl⟩, hW, hsame.mono hc hs⟩
theorem own_retN (X : Stand p l e R s m args below meth c T locs cells slots) (hx : p.tables.exec = Jvm.exec) (hlk : meth.locks = false) {pc : Nat} {Ls : Array Slot} {z : Int32} {t : FieldType} {rest : List Value} (hret : meth.sig.returnType = some t) (ht : t = .boolean ∨ t = .byte ∨ t = .char ∨ t = .short)
    (hd : decode c.code pc = .ok (.ireturn, 1)) (eT : T.heap = h) (hc : cells ≤ kc) (hs : slots ≤ ks) (hQ : Q (some (.int (nar t z))) h locs) : own_Ends p e below s Q kc ks T (mkF m pc Ls (.int z :: rest)) :=
  own_fin X _ hlk (fun q => by rw [hret] at q; cases q) (fun fs hr => Jvm.RoadKit.retN X hx hret ht hd hr) eT hQ hc hs
theorem own_retI (X : Stand p l e R s m args below meth c T locs cells slots) (hx : p.tables.exec = Jvm.exec) (hlk : meth.locks = false) {pc : Nat} {Ls : Array Slot} {z : Int32} {rest : List Value} (hret : meth.sig.returnType = some .int)
    (hd : decode c.code pc = .ok (.ireturn, 1)) (eT : T.heap = h) (hc : cells ≤ kc) (hs : slots ≤ ks) (hQ : Q (some (.int z)) h locs) : own_Ends p e below s Q kc ks T (mkF m pc Ls (.int z :: rest)) :=
  own_fin X _ hlk (fun q => by rw [hret] at q; cases q) (fun fs hr => Jvm.RoadKit.retOut X hx hret rfl (Or.inl ⟨rfl, Or.inl rfl, _, rfl⟩) hd hr) eT hQ hc hs
theorem own_retJ (X : Stand p l e R s m args below meth c T locs cells slots) (hx : p.tables.exec = Jvm.exec) (hlk : meth.locks = false) {pc : Nat} {Ls : Array Slot} {z : Int64} {rest : List Value} (hret : meth.sig.returnType = some .long)
    (hd : decode c.code pc = .ok (.lreturn, 1)) (eT : T.heap = h) (hc : cells ≤ kc) (hs : slots ≤ ks) (hQ : Q (some (.long z)) h locs) : own_Ends p e below s Q kc ks T (mkF m pc Ls (.long z :: rest)) :=
  own_fin X _ hlk (fun q => by rw [hret] at q; cases q) (fun fs hr => Jvm.RoadKit.retOut X hx hret rfl (Or.inr (Or.inl ⟨rfl, rfl, _, rfl⟩)) hd hr) eT hQ hc hs
theorem own_retD (X : Stand p l e R s m args below meth c T locs cells slots) (hx : p.tables.exec = Jvm.exec) (hlk : meth.locks = false) {pc : Nat} {Ls : Array Slot} {z : UInt64} {rest : List Value} (hret : meth.sig.returnType = some .double)
    (hd : decode c.code pc = .ok (.dreturn, 1)) (eT : T.heap = h) (hc : cells ≤ kc) (hs : slots ≤ ks) (hQ : Q (some (.double z)) h locs) : own_Ends p e below s Q kc ks T (mkF m pc Ls (.double z :: rest)) :=
  own_fin X _ hlk (fun q => by rw [hret] at q; cases q) (fun fs hr => Jvm.RoadKit.retOut X hx hret rfl (Or.inr (Or.inr (Or.inl ⟨rfl, rfl, _, rfl⟩))) hd hr) eT hQ hc hs
theorem own_narR {t : FieldType} {v : Value} (ht : t.isReference = true) : narrow t v = v := by cases t <;> first | (cases ht; done) | (cases v <;> rfl)
theorem own_retR (X : Stand p l e R s m args below meth c T locs cells slots) (hx : p.tables.exec = Jvm.exec) (hlk : meth.locks = false) {pc : Nat} {Ls : Array Slot} {v : Value} {t : FieldType} {rest : List Value} (hret : meth.sig.returnType = some t) (ht : t.isReference = true) (hv : v.isRef = true)
    (hd : decode c.code pc = .ok (.areturn, 1)) (eT : T.heap = h) (hc : cells ≤ kc) (hs : slots ≤ ks) (hQ : Q (some v) h locs) : own_Ends p e below s Q kc ks T (mkF m pc Ls (v :: rest)) :=
  own_fin X _ hlk (fun q => by rw [hret] at q; cases q) (fun fs hr => Jvm.RoadKit.retOut X hx hret (own_narR ht) (Or.inr (Or.inr (Or.inr (Or.inr ⟨rfl, ht, hv⟩)))) hd hr) eT hQ hc hs
theorem own_retV (X : Stand p l e R s m args below meth c T locs cells slots) (hx : p.tables.exec = Jvm.exec) (hlk : meth.locks = false) {pc : Nat} {Ls : Array Slot} (hret : meth.sig.returnType = none)
    (hd : decode c.code pc = .ok (.return_, 1)) (eT : T.heap = h) (hc : cells ≤ kc) (hs : slots ≤ ks) (hQ : Q none h locs) : own_Ends p e below s Q kc ks T (mkF m pc Ls []) :=
  own_fin X none hlk (fun _ => rfl) (fun fs hr => X.returnOut hx hret hd hr) eT hQ hc hs
/-- a body's contract: called with the arguments as' on the heap h0, over tables warmer than Z's, it returns as Q says -/
abbrev own_Met (l : Launch) (y : MethodName) (bytes : ByteArray) (maxL : Nat) (ret : Option FieldType) (rm : Room) (ws : List Jvm.Cond) (as' : Array Value) (Z : State) (h0 : Heap) (Q : Option Value → Heap → List Loc → Prop) : Prop :=
  MetFree l y (head1 (Jvm.Cond.code y bytes maxL ret :: ws) rm) (fun a U => a = as' ∧ Z.Warmed39 U.vm ∧ U.heap = h0) (fun _ _ _ _ _ => True) (fun _ U o U' => ∃ v L, o = .returned v ∧ Q v U'.heap L ∧ FrameEnd U o U' L rm.cells rm.slots)
theorem own_met {y : MethodName} {bytes : ByteArray} {maxL : Nat} {ret : Option FieldType} {rm : Room} {ws : List Jvm.Cond} {as' : Array Value} (hy : plainFor y = true)
    (body : ∀ (p : Program) (e : Env) (s : State) (m : MethodId) (below : List Frame) (meth : Method) (c : Code) (s₁ : State), p.tables.exec = Jvm.exec → Stand p l e rm s m as' below meth c s₁ [] 0 0 → Z.Warmed39 s.vm → s₁.heap = h0 → c.code = bytes → c.maxLocals = maxL →
      s.vm.findClass y.cls = some m.cls → meth.name = y.name → meth.sig.returnType = ret → meth.locks = false → own_Ends p e below s Q rm.cells rm.slots s₁ (entryFrame m as' maxL)) :
    own_Met l y bytes maxL ret rm ws as' Z h0 Q := by
  refine MetFree.of_bodySF hy hisR ?_
  intro p e s m args below meth c s₁ Bd hml0 hP hK
  obtain ⟨rfl, hZ, hh⟩ := hP
  exact body p e s m below meth c s₁ Bd.exec (Stand.of_body Bd) hZ (by rw [← hh, Bd.state]; rfl) Bd.bytes hml0 (findClass_of_methodNamed Bd.named) (name_of_methodNamed Bd.named Bd.method).1 Bd.returns Bd.notSynchronized
theorem own_at {f f' : JFrame} (q : f = f') (k : own_Ends p e below s Q kc ks T f') : own_Ends p e below s Q kc ks T f := q ▸ k
/-- a static call -/
theorem own_callS (X : Stand p l e R s m args below meth c T locs cells slots) (hx : p.tables.exec = Jvm.exec) (hZ : Z.Warmed39 s.vm) {own : String} {index : Nat} {y : MethodName} {bytes : ByteArray} {maxL : Nat} {ret : Option FieldType} {rm : Room} {as' : Array Value} {Q' : Option Value → Heap → List Loc → Prop}
    (hown : s.vm.findClass own = some m.cls) (w1 : (Jvm.Cond.methodLink own index y).before a0 Z = true) (w2 : (Jvm.Cond.static y).before a0 Z = true) (w3 : (Jvm.Cond.initialized y.cls).before a0 Z = true) (w4 : (Jvm.Cond.code y bytes maxL ret).before a0 Z = true)
    (hy : y.cls ≠ "java/lang/invoke/MethodHandle" ∧ y.cls ≠ "java/lang/invoke/VarHandle") (hM : own_Met l y bytes maxL ret rm [] as' Z h Q') (eT : T.heap = h) {g : JFrame} (hg : g.method = m) (hsize : g.locals.size = c.maxLocals) (argsL rest : List Value) (has : argsL.toArray = as')
    (hlen : ∀ sig, parseMethodDescriptor y.desc = some sig → argsL.length = sig.parameters.length) (hstack : g.stack = argsL.reverse ++ rest) (W : Nat) (hW : 2 * g.monitorRoom + (rest.map fun v => v.category).sum ≤ W) (hdg : decode c.code g.pc = .ok (.invokestatic index, 3))
    (hf : rm.frames + 1 ≤ R.frames) (hl : W + (maxL + 11) + rm.locals ≤ R.locals) (hc : cells + rm.cells ≤ R.cells) (hs : slots + rm.slots ≤ R.slots) :
    ∃ (T' : State) (v : Option Value) (L : List Loc), Stand p l e R s m args below meth c T' (locs ++ L) (cells + rm.cells) (slots + rm.slots) ∧ Q' v T'.heap L ∧ ∀ target, Steps p.tables e below (T'.setTop { g with pc := g.pc + 3, stack := v.toList ++ rest }) target → Steps p.tables e below (T.setTop g) target := by
  obtain ⟨v, vm1, ⟨T1, L1, k1, n1⟩, -, X1, ⟨Lc, hQ, l1, y1, z1⟩, st⟩ := Jvm.LawKit.callS X hx hown (mvT hZ w1) (mvT hZ w2) (mvT hZ w3) (mvT hZ w4) hy (backOf (W := W) hM hZ w4 w3 hf hl) hg hsize hlen hstack hW hdg (fun _ _ => ⟨has, eT, hc, hs⟩)
  dsimp only [Pt.U, Pt.locs, Pt.cells, Pt.slots] at X1 l1 y1 z1 st hQ
  subst l1 y1 z1
  exact ⟨T1, v, Lc, X1, hQ, st⟩
/-- a constructor -/
theorem own_callN (X : Stand p l e R s m args below meth c T locs cells slots) (hx : p.tables.exec = Jvm.exec) (hZ : Z.Warmed39 s.vm) {own : String} {index : Nat} {y : MethodName} {bytes : ByteArray} {maxL : Nat} {rm : Room} {as' : Array Value} {Q' : Option Value → Heap → List Loc → Prop}
    (hy1 : y.name = "<init>") (hown : s.vm.findClass own = some m.cls) (w1 : (Jvm.Cond.methodLink own index y).before a0 Z = true) (w2 : (Jvm.Cond.instanceMethod y).before a0 Z = true) (w3 : (Jvm.Cond.initialized y.cls).before a0 Z = true) (w4 : (Jvm.Cond.code y bytes maxL none).before a0 Z = true)
    (hy : y.cls ≠ "java/lang/invoke/MethodHandle" ∧ y.cls ≠ "java/lang/invoke/VarHandle") (hM : own_Met l y bytes maxL none rm [] as' Z h Q') (eT : T.heap = h) {g : JFrame} (hg : g.method = m) (hsize : g.locals.size = c.maxLocals) (b : Addr) (argsL rest : List Value) (has : (.ref b :: argsL).toArray = as')
    (hlen : ∀ sig, parseMethodDescriptor y.desc = some sig → argsL.length = sig.parameters.length) (hstack : g.stack = argsL.reverse ++ .ref b :: rest) (W : Nat) (hW : 2 * g.monitorRoom + (rest.map fun v => v.category).sum ≤ W) (hdg : decode c.code g.pc = .ok (.invokespecial index, 3))
    (hf : rm.frames + 1 ≤ R.frames) (hl : W + (maxL + 11) + rm.locals ≤ R.locals) (hc : cells + rm.cells ≤ R.cells) (hs : slots + rm.slots ≤ R.slots) :
    ∃ (T' : State) (v : Option Value) (L : List Loc), Stand p l e R s m args below meth c T' (locs ++ L) (cells + rm.cells) (slots + rm.slots) ∧ Q' v T'.heap L ∧ ∀ target, Steps p.tables e below (T'.setTop { g with pc := g.pc + 3, stack := v.toList ++ rest }) target → Steps p.tables e below (T.setTop g) target := by
  obtain ⟨v, vm1, ⟨T1, L1, k1, n1⟩, -, X1, ⟨Lc, hQ, l1, y1, z1⟩, st⟩ := X.specialBack hx hy1 hown (mvT hZ w1) (mvT hZ w2) (mvT hZ w4) hy (backOf (W := W) hM hZ w4 w3 hf hl) hg hsize (Steps.refl _) (a := b) hlen hstack hW hdg (fun _ _ => ⟨has, eT, hc, hs⟩)
  dsimp only [Pt.U, Pt.locs, Pt.cells, Pt.slots] at X1 l1 y1 z1 st hQ
  subst l1 y1 z1
  exact ⟨T1, v, Lc, X1, hQ, fun t k => st.trans k⟩
/-- a virtual call: y resolved, z selected by the class C -/
theorem own_callV (X : Stand p l e R s m args below meth c T locs cells slots) (hx : p.tables.exec = Jvm.exec) (hZ : Z.Warmed39 s.vm) {own C : String} {index : Nat} {y z : MethodName} {bytes : ByteArray} {maxL : Nat} {ret : Option FieldType} {rm : Room} {as' : Array Value} {Q' : Option Value → Heap → List Loc → Prop}
    (hown : s.vm.findClass own = some m.cls) (w1 : (Jvm.Cond.methodLink own index y).before a0 Z = true) (w2 : (Jvm.Cond.declares y).before a0 Z = true) (hnf : NotFace s y) (w5 : (Jvm.Cond.selects C y z).before a0 Z = true) (w6 : (Jvm.Cond.instanceMethod z).before a0 Z = true)
    (w3 : (Jvm.Cond.initialized z.cls).before a0 Z = true) (w4 : (Jvm.Cond.code z bytes maxL ret).before a0 Z = true)
    (hy : y.cls ≠ "java/lang/invoke/MethodHandle" ∧ y.cls ≠ "java/lang/invoke/VarHandle") (hM : own_Met l z bytes maxL ret rm [] as' Z h Q') (eT : T.heap = h) {g : JFrame} (hg : g.method = m) (hsize : g.locals.size = c.maxLocals) (b : Addr) (hE : Exa Z h b C) (argsL rest : List Value) (has : (.ref b :: argsL).toArray = as')
    (hlen : ∀ sig, parseMethodDescriptor y.desc = some sig → argsL.length = sig.parameters.length) (hstack : g.stack = argsL.reverse ++ .ref b :: rest) (W : Nat) (hW : 2 * g.monitorRoom + (rest.map fun v => v.category).sum ≤ W) (hdg : decode c.code g.pc = .ok (.invokevirtual index, 3))
    (hf : rm.frames + 1 ≤ R.frames) (hl : W + (maxL + 11) + rm.locals ≤ R.locals) (hc : cells + rm.cells ≤ R.cells) (hs : slots + rm.slots ≤ R.slots) :
    ∃ (T' : State) (v : Option Value) (L : List Loc), Stand p l e R s m args below meth c T' (locs ++ L) (cells + rm.cells) (slots + rm.slots) ∧ Q' v T'.heap L ∧ ∀ target, Steps p.tables e below (T'.setTop { g with pc := g.pc + 3, stack := v.toList ++ rest }) target → Steps p.tables e below (T.setTop g) target := by
  obtain ⟨cq, kq, qa, qb, qc⟩ := isOf hZ eT hE
  obtain ⟨v, vm1, ⟨T1, L1, k1, n1⟩, -, X1, ⟨Lc, hQ, l1, y1, z1⟩, st⟩ := X.virtualBack hx hown (mvT hZ w1) (mvT hZ w2) hnf (mvT hZ w5) (mvT hZ w6) hy (backOf (W := W) hM hZ w4 w3 hf hl) qa qc hg hsize (Steps.refl _) hlen hstack hW hdg (fun _ _ => ⟨has, eT, hc, hs⟩)
  dsimp only [Pt.U, Pt.locs, Pt.cells, Pt.slots] at X1 l1 y1 z1 st hQ
  subst l1 y1 z1
  exact ⟨T1, v, Lc, X1, hQ, fun t k => st.trans k⟩
/-- a virtual call whose method is declared further up, by the class 'owner' -/
theorem own_callVU (X : Stand p l e R s m args below meth c T locs cells slots) (hx : p.tables.exec = Jvm.exec) (hZ : Z.Warmed39 s.vm) {own C owner : String} {index : Nat} {y z : MethodName} {bytes : ByteArray} {maxL : Nat} {ret : Option FieldType} {rm : Room} {as' : Array Value} {Q' : Option Value → Heap → List Loc → Prop}
    (hown : s.vm.findClass own = some m.cls) (w1 : (Jvm.Cond.methodLink own index y).before a0 Z = true) (w2 : (Jvm.Cond.sameMethod y.cls owner y.name y.desc).before a0 Z = true) (w7 : (Jvm.Cond.declares ⟨owner, y.name, y.desc⟩).before a0 Z = true) (w5 : (Jvm.Cond.selects C y z).before a0 Z = true) (w6 : (Jvm.Cond.instanceMethod z).before a0 Z = true)
    (w3 : (Jvm.Cond.initialized z.cls).before a0 Z = true) (w4 : (Jvm.Cond.code z bytes maxL ret).before a0 Z = true)
    (hy : owner ≠ "java/lang/invoke/MethodHandle" ∧ owner ≠ "java/lang/invoke/VarHandle") (hM : own_Met l z bytes maxL ret rm [] as' Z h Q') (eT : T.heap = h) {g : JFrame} (hg : g.method = m) (hsize : g.locals.size = c.maxLocals) (b : Addr) (hE : Exa Z h b C) (argsL rest : List Value) (has : (.ref b :: argsL).toArray = as')
    (hlen : ∀ sig, parseMethodDescriptor y.desc = some sig → argsL.length = sig.parameters.length) (hstack : g.stack = argsL.reverse ++ .ref b :: rest) (W : Nat) (hW : 2 * g.monitorRoom + (rest.map fun v => v.category).sum ≤ W) (hdg : decode c.code g.pc = .ok (.invokevirtual index, 3))
    (hf : rm.frames + 1 ≤ R.frames) (hl : W + (maxL + 11) + rm.locals ≤ R.locals) (hc : cells + rm.cells ≤ R.cells) (hs : slots + rm.slots ≤ R.slots) :
    ∃ (T' : State) (v : Option Value) (L : List Loc), Stand p l e R s m args below meth c T' (locs ++ L) (cells + rm.cells) (slots + rm.slots) ∧ Q' v T'.heap L ∧ ∀ target, Steps p.tables e below (T'.setTop { g with pc := g.pc + 3, stack := v.toList ++ rest }) target → Steps p.tables e below (T.setTop g) target := by
  obtain ⟨cq, kq, qa, qb, qc⟩ := isOf hZ eT hE
  obtain ⟨v, vm1, ⟨T1, L1, k1, n1⟩, -, X1, ⟨Lc, hQ, l1, y1, z1⟩, st⟩ := X.virtualBackUp hx hown (mvT hZ w1) (mvT hZ w2) (mvT hZ w7) hy (mvT hZ w5) (mvT hZ w6) (backOf (W := W) hM hZ w4 w3 hf hl) qa qc hg hsize (Steps.refl _) hlen hstack hW hdg (fun _ _ => ⟨has, eT, hc, hs⟩)
  dsimp only [Pt.U, Pt.locs, Pt.cells, Pt.slots] at X1 l1 y1 z1 st hQ
  subst l1 y1 z1
  exact ⟨T1, v, Lc, X1, hQ, fun t k => st.trans k⟩
/-- a call through an interface -/
theorem own_callI (X : Stand p l e R s m args below meth c T locs cells slots) (hx : p.tables.exec = Jvm.exec) (hZ : Z.Warmed39 s.vm) {own C : String} {index count : Nat} {xi y : MethodName} {bytes : ByteArray} {maxL : Nat} {ret : Option FieldType} {rm : Room} {as' : Array Value} {Q' : Option Value → Heap → List Loc → Prop}
    (hown : s.vm.findClass own = some m.cls) (w1 : (Jvm.Cond.methodLink own index xi).before a0 Z = true) (w2 : (Jvm.Cond.declares xi).before a0 Z = true) (w8 : (Jvm.Cond.interfaceMethod xi.cls xi.cls xi.name xi.desc).before a0 Z = true) (w5 : (Jvm.Cond.selects C xi y).before a0 Z = true) (w6 : (Jvm.Cond.instanceMethod y).before a0 Z = true)
    (w9 : (Jvm.Cond.publicMethod y).before a0 Z = true) (w10 : (Jvm.Cond.unhidden C xi.name xi.desc).before a0 Z = true) (w11 : (Jvm.Cond.castable C xi.cls).before a0 Z = true) (w3 : (Jvm.Cond.initialized y.cls).before a0 Z = true) (w4 : (Jvm.Cond.code y bytes maxL ret).before a0 Z = true)
    (hy : xi.cls ≠ "java/lang/invoke/MethodHandle" ∧ xi.cls ≠ "java/lang/invoke/VarHandle") (hM : own_Met l y bytes maxL ret rm [] as' Z h Q') (eT : T.heap = h) {g : JFrame} (hg : g.method = m) (hsize : g.locals.size = c.maxLocals) (b : Addr) (hE : Exa Z h b C) (argsL rest : List Value) (has : (.ref b :: argsL).toArray = as')
    (hlen : ∀ sig, parseMethodDescriptor xi.desc = some sig → argsL.length = sig.parameters.length) (hstack : g.stack = argsL.reverse ++ .ref b :: rest) (W : Nat) (hW : 2 * g.monitorRoom + (rest.map fun v => v.category).sum ≤ W) (hdg : decode c.code g.pc = .ok (.invokeinterface index count, 5))
    (hf : rm.frames + 1 ≤ R.frames) (hl : W + (maxL + 11) + rm.locals ≤ R.locals) (hc : cells + rm.cells ≤ R.cells) (hs : slots + rm.slots ≤ R.slots) :
    ∃ (T' : State) (v : Option Value) (L : List Loc), Stand p l e R s m args below meth c T' (locs ++ L) (cells + rm.cells) (slots + rm.slots) ∧ Q' v T'.heap L ∧ ∀ target, Steps p.tables e below (T'.setTop { g with pc := g.pc + 5, stack := v.toList ++ rest }) target → Steps p.tables e below (T.setTop g) target := by
  obtain ⟨cq, kq, qa, qb, qc⟩ := isOf hZ eT hE
  obtain ⟨v, vm1, ⟨T1, L1, k1, n1⟩, -, X1, ⟨Lc, hQ, l1, y1, z1⟩, st⟩ := X.interfaceBack hx hown (mvT hZ w1) (mvT hZ w2) (mvT hZ w8 (by simp [Cond.onTables, Cond.keepsFace, Cond.keeps, Cond.steady, Cond.faceAtom]; exact hy)) (mvT hZ w5) (mvT hZ w6) (mvT hZ w9) (mvT hZ w10) (mvT hZ w11) hy (backOf (W := W) hM hZ w4 w3 hf hl) qa qb qc hg hsize (Steps.refl _) hlen hstack hW hdg (fun _ _ => ⟨has, eT, hc, hs⟩)
  dsimp only [Pt.U, Pt.locs, Pt.cells, Pt.slots] at X1 l1 y1 z1 st hQ
  subst l1 y1 z1
  exact ⟨T1, v, Lc, X1, hQ, fun t k => st.trans k⟩
/-- calls by a 'Back' -/
theorem own_callNB (X : Stand p l e R s m args below meth c T locs cells slots) (hx : p.tables.exec = Jvm.exec) (hZ : Z.Warmed39 s.vm) {own : String} {index : Nat} {y : MethodName} {bytes : ByteArray} {maxL : Nat} {as' : Array Value} {Q' : Option Value → Heap → List Loc → Prop} {W rc rs : Nat}
    (hy1 : y.name = "<init>") (hown : s.vm.findClass own = some m.cls) (w1 : (Jvm.Cond.methodLink own index y).before a0 Z = true) (w2 : (Jvm.Cond.instanceMethod y).before a0 Z = true) (w4 : (Jvm.Cond.code y bytes maxL none).before a0 Z = true)
    (hy : y.cls ≠ "java/lang/invoke/MethodHandle" ∧ y.cls ≠ "java/lang/invoke/VarHandle")
    (hK : Back l R p e below s args y 3 W (fun A a => a = as' ∧ A.U.heap = h ∧ A.cells + rc ≤ R.cells ∧ A.slots + rs ≤ R.slots) (fun A _ v B => ∃ L, Q' v B.U.heap L ∧ B.locs = A.locs ++ L ∧ B.cells = A.cells + rc ∧ B.slots = A.slots + rs))
    (eT : T.heap = h) {g : JFrame} (hg : g.method = m) (hsize : g.locals.size = c.maxLocals) (b : Addr) (argsL rest : List Value) (has : (.ref b :: argsL).toArray = as')
    (hlen : ∀ sig, parseMethodDescriptor y.desc = some sig → argsL.length = sig.parameters.length) (hstack : g.stack = argsL.reverse ++ .ref b :: rest) (hW : 2 * g.monitorRoom + (rest.map fun v => v.category).sum ≤ W) (hdg : decode c.code g.pc = .ok (.invokespecial index, 3))
    (hc : cells + rc ≤ R.cells) (hs : slots + rs ≤ R.slots) :
    ∃ (T' : State) (v : Option Value) (L : List Loc), Stand p l e R s m args below meth c T' (locs ++ L) (cells + rc) (slots + rs) ∧ Q' v T'.heap L ∧ ∀ target, Steps p.tables e below (T'.setTop { g with pc := g.pc + 3, stack := v.toList ++ rest }) target → Steps p.tables e below (T.setTop g) target := by
  obtain ⟨v, vm1, ⟨T1, L1, k1, n1⟩, -, X1, ⟨Lc, hQ, l1, y1, z1⟩, st⟩ := X.specialBack hx hy1 hown (mvT hZ w1) (mvT hZ w2) (mvT hZ w4) hy hK hg hsize (Steps.refl _) (a := b) hlen hstack hW hdg (fun _ _ => ⟨has, eT, hc, hs⟩)
  dsimp only [Pt.U, Pt.locs, Pt.cells, Pt.slots] at X1 l1 y1 z1 st hQ
  subst l1 y1 z1
  exact ⟨T1, v, Lc, X1, hQ, fun t k => st.trans k⟩
theorem own_callVB (X : Stand p l e R s m args below meth c T locs cells slots) (hx : p.tables.exec = Jvm.exec) (hZ : Z.Warmed39 s.vm) {own C : String} {index : Nat} {y z : MethodName} {as' : Array Value} {Q' : Option Value → Heap → List Loc → Prop} {W rc rs : Nat}
    (hown : s.vm.findClass own = some m.cls) (w1 : (Jvm.Cond.methodLink own index y).before a0 Z = true) (w2 : (Jvm.Cond.declares y).before a0 Z = true) (hnf : NotFace s y) (w5 : (Jvm.Cond.selects C y z).before a0 Z = true) (w6 : (Jvm.Cond.instanceMethod z).before a0 Z = true)
    (hy : y.cls ≠ "java/lang/invoke/MethodHandle" ∧ y.cls ≠ "java/lang/invoke/VarHandle")
    (hK : Back l R p e below s args z 3 W (fun A a => a = as' ∧ A.U.heap = h ∧ A.cells + rc ≤ R.cells ∧ A.slots + rs ≤ R.slots) (fun A _ v B => ∃ L, Q' v B.U.heap L ∧ B.locs = A.locs ++ L ∧ B.cells = A.cells + rc ∧ B.slots = A.slots + rs))
    (eT : T.heap = h) {g : JFrame} (hg : g.method = m) (hsize : g.locals.size = c.maxLocals) (b : Addr) (hE : Exa Z h b C) (argsL rest : List Value) (has : (.ref b :: argsL).toArray = as')
    (hlen : ∀ sig, parseMethodDescriptor y.desc = some sig → argsL.length = sig.parameters.length) (hstack : g.stack = argsL.reverse ++ .ref b :: rest) (hW : 2 * g.monitorRoom + (rest.map fun v => v.category).sum ≤ W) (hdg : decode c.code g.pc = .ok (.invokevirtual index, 3))
    (hc : cells + rc ≤ R.cells) (hs : slots + rs ≤ R.slots) :
    ∃ (T' : State) (v : Option Value) (L : List Loc), Stand p l e R s m args below meth c T' (locs ++ L) (cells + rc) (slots + rs) ∧ Q' v T'.heap L ∧ ∀ target, Steps p.tables e below (T'.setTop { g with pc := g.pc + 3, stack := v.toList ++ rest }) target → Steps p.tables e below (T.setTop g) target := by
  obtain ⟨cq, kq, qa, qb, qc⟩ := isOf hZ eT hE
  obtain ⟨v, vm1, ⟨T1, L1, k1, n1⟩, -, X1, ⟨Lc, hQ, l1, y1, z1⟩, st⟩ := X.virtualBack hx hown (mvT hZ w1) (mvT hZ w2) hnf (mvT hZ w5) (mvT hZ w6) hy hK qa qc hg hsize (Steps.refl _) hlen hstack hW hdg (fun _ _ => ⟨has, eT, hc, hs⟩)
  dsimp only [Pt.U, Pt.locs, Pt.cells, Pt.slots] at X1 l1 y1 z1 st hQ
  subst l1 y1 z1
  exact ⟨T1, v, Lc, X1, hQ, fun t k => st.trans k⟩
theorem own_fldI {t : Jvm.Term} {a : Addr} {C n d : String} {k : Int32} (ev : t.eval args s none [] s = some (.ref a)) (hq : (Jvm.Cond.eq (Jvm.Term.field t C n d) (Jvm.Term.int k)).value args s none s [] = some true) : Fld s s.heap a C n d (.int k) := by
  obtain ⟨x, y, e1, e2, k1, -⟩ := cmp_v (Or.inl hq)
  have e2' : y = .int k := by have := e2; simp only [Jvm.Term.eval] at this; exact (Option.some.inj this).symm
  subst e2'
  have hx : x = .int k := by
    simp only [Jvm.Cond.value, e1, e2] at hq
    cases x <;> simp_all [Kin, Value.isRef]
  subst hx
  exact Fld.start ((fld_at ev).symm.trans e1)
theorem own_irem {g : JFrame} {target : State} (X : Stand p l e R s m args below meth c T locs cells slots) (hx : p.tables.exec = Jvm.exec) (hg : g.method = m) {x y : Int32} {rest : List Value} (hd : decode c.code g.pc = .ok (.irem, 1)) (hs : g.stack = .int y :: .int x :: rest) (hy : y ≠ 0)
    (hr : Steps p.tables e below (T.setTop { g with pc := g.pc + 1, stack := .int (x % y) :: rest }) target) : Steps p.tables e below (T.setTop g) target := iremM X hx hg hd hs hy hr
theorem own_fitR {t : FieldType} {v : Value} (hv : v.isRef = true) (ht : t.isReference = true) : fits t v = true := by cases t <;> first | (cases ht; done) | (cases v <;> first | rfl | (cases hv; done))
theorem own_staK {C n d : String} {v : Value} {h' : Heap} {ws : List Addr} (F : Sta Z h C n d v) (K : Keep h h' ws) (q : ∀ x ∈ ws, ∀ cell : Cell, h[x]? = some cell → cell.vm.isStatics = false) : Sta Z h' C n d v := by
  obtain ⟨cf, i, k, f, st, cell, h1, h2, h3, h4, h5, h6, h7⟩ := F
  exact ⟨cf, i, k, f, st, cell, h1, h2, h3, h4, K.2.1 _ _ h5 (fun hm => by rw [q st hm cell h5] at h6; cases h6), h6, h7⟩
theorem own_narC {c : Int32} (h0 : 0 ≤ c.toInt) (h1 : c.toInt ≤ 65535) : nar .char c = c := by
  rw [← Int32.toInt_inj]
  have a := c_i2c c
  show (c.toUInt32.toUInt16.toUInt32.toInt32).toInt = c.toInt
  omega
theorem own_narB (c : Int32) : nar .byte c.toInt8.toInt32 = c.toInt8.toInt32 := by
  show (c.toInt8.toInt32).toInt8.toInt32 = c.toInt8.toInt32
  simp
end OwnKit
section OwnWide
variable {p : Program} {l : Launch} {e : Env} {R : Room} {s : State} {m : MethodId} {args : Array Value} {below : List Frame} {meth : Method} {c : Code} {T T' : State} {locs : List Loc} {cells slots : Nat} {Z : State} {a0 : Array Value} {h h' h0 : Heap} {Q : Option Value → Heap → List Loc → Prop} {kc ks : Nat} {f f' : JFrame} {EL : List (String × Nat)} {vm : Vm} {own : String}
/-- what a walk bears that may load String constants: since its start s, at the tables vm and the heap h -/
def own_Inv (s Z : State) (EL : List (String × Nat)) (vm : Vm) (h : Heap) : Prop := (∃ k0, s.Since vm k0 ∧ k0 ≤ h.size) ∧ CHr Z EL s.vm s.heap vm h
theorem own_inv0 (H : CHv Z EL s.vm s.heap) : own_Inv s Z EL s.vm s.heap := ⟨⟨_, (State.WarmedH.refl s).since s.heap.size, Nat.le_refl _⟩, CHr.refl H⟩
theorem own_Inv.ext (I : own_Inv s Z EL vm h) (E : Ext h h') : own_Inv s Z EL vm h' := by
  obtain ⟨⟨k0, h1, h2⟩, C⟩ := I
  exact ⟨⟨k0, h1, Nat.le_trans h2 E.1⟩, C.trans (CHr.ext E C.1)⟩
theorem own_Inv.wr {a : Addr} {sl : Nat} {v : Value} (I : own_Inv s Z EL vm h) (W : Wr h h' a sl v) (S : Safe Z EL vm h a) : own_Inv s Z EL vm h' := by
  obtain ⟨⟨k0, h1, h2⟩, C⟩ := I
  exact ⟨⟨k0, h1, Nat.le_trans h2 (Nat.le_of_eq W.size.symm)⟩, C.trans (CHr.wr W S C.1)⟩
theorem own_Inv.keep {ws : List Addr} (I : own_Inv s Z EL vm h) (K : Keep h h' ws) (S : ∀ x ∈ ws, Safe Z EL vm h x) : own_Inv s Z EL vm h' := by
  obtain ⟨⟨k0, h1, h2⟩, C⟩ := I
  exact ⟨⟨k0, h1, Nat.le_trans h2 K.1⟩, C.trans (CHr.keep K S C.1)⟩
theorem own_Inv.ch (I : own_Inv s Z EL vm h) : CHv Z EL vm h := I.2.1
def own_EndsW (p : Program) (e : Env) (below : List Frame) (s Z : State) (EL : List (String × Nat)) (Q : Option Value → Heap → List Loc → Prop) (kc ks : Nat) (T : State) (f : JFrame) : Prop :=
  ∃ s₂ o, Steps p.tables e below (T.setTop f) s₂ ∧ s₂.status = .running ∧ Ended s₂ below o ∧ ∃ v L, o = .returned v ∧ Q v s₂.heap L ∧ CHr Z EL s.vm s.heap s₂.vm s₂.heap ∧ ReturnedEndW s o s₂ L kc ks
theorem own_goW (st : ∀ target, Steps p.tables e below (T'.setTop f') target → Steps p.tables e below (T.setTop f) target) (k : own_EndsW p e below s Z EL Q kc ks T' f') : own_EndsW p e below s Z EL Q kc ks T f := by
  obtain ⟨s₂, o, h1, r⟩ := k
  exact ⟨s₂, o, st _ h1, r⟩
theorem own_atW (q : f = f') (k : own_EndsW p e below s Z EL Q kc ks T f') : own_EndsW p e below s Z EL Q kc ks T f := q ▸ k
theorem own_finW (X : Stand p l e R (s.setVm vm) m args below meth c T locs cells slots) (hZ : Z.Warmed39 vm) (hEL : EW Z a0 EL) (eT : T.heap = h) (I : own_Inv s Z EL vm h) (v : Option Value) (hlk : meth.locks = false) (hv : meth.sig.returnType = none → v = none)
    (st : ∀ fs, (∀ (f : JFrame) (acts : List Action), f.method = m → f.locked = none → f.entered = [] → (doReturn e (T.setTop f) acts v).1 = T.setFrames fs) → Steps p.tables e below (T.setTop f) (T.setFrames fs))
    (hQ : Q v h locs) (hc : cells ≤ kc) (hs : slots ≤ ks) : own_EndsW p e below s Z EL Q kc ks T f := by
  subst eT
  obtain ⟨⟨k0, i1, i2⟩, C⟩ := I
  obtain ⟨fs, hr, hrun, hended, r1, r2, r3, r4⟩ := X.leaveW i1 i2 (v := v) hv hlk
  have C2 := C.trans (CHv.at X hZ hEL C.1)
  exact ⟨_, _, st fs hr, hrun, hended, v, locs, rfl, hQ, C2, r1, r2, r3, r4.mono hc hs⟩
theorem own_retNW (X : Stand p l e R (s.setVm vm) m args below meth c T locs cells slots) (hZ : Z.Warmed39 vm) (hEL : EW Z a0 EL) (I : own_Inv s Z EL vm h) (hx : p.tables.exec = Jvm.exec) (hlk : meth.locks = false) {pc : Nat} {Ls : Array Slot} {z : Int32} {t : FieldType} {rest : List Value} (hret : meth.sig.returnType = some t) (ht : t = .boolean ∨ t = .byte ∨ t = .char ∨ t = .short)
    (hd : decode c.code pc = .ok (.ireturn, 1)) (eT : T.heap = h) (hc : cells ≤ kc) (hs : slots ≤ ks) (hQ : Q (some (.int (nar t z))) h locs) : own_EndsW p e below s Z EL Q kc ks T (mkF m pc Ls (.int z :: rest)) :=
  own_finW X hZ hEL eT I _ hlk (fun q => by rw [hret] at q; cases q) (fun fs hr => Jvm.RoadKit.retN X hx hret ht hd hr) hQ hc hs
theorem own_retIW (X : Stand p l e R (s.setVm vm) m args below meth c T locs cells slots) (hZ : Z.Warmed39 vm) (hEL : EW Z a0 EL) (I : own_Inv s Z EL vm h) (hx : p.tables.exec = Jvm.exec) (hlk : meth.locks = false) {pc : Nat} {Ls : Array Slot} {z : Int32} {rest : List Value} (hret : meth.sig.returnType = some .int)
    (hd : decode c.code pc = .ok (.ireturn, 1)) (eT : T.heap = h) (hc : cells ≤ kc) (hs : slots ≤ ks) (hQ : Q (some (.int z)) h locs) : own_EndsW p e below s Z EL Q kc ks T (mkF m pc Ls (.int z :: rest)) :=
  own_finW X hZ hEL eT I _ hlk (fun q => by rw [hret] at q; cases q) (fun fs hr => Jvm.RoadKit.retOut X hx hret rfl (Or.inl ⟨rfl, Or.inl rfl, _, rfl⟩) hd hr) hQ hc hs
theorem own_retRW (X : Stand p l e R (s.setVm vm) m args below meth c T locs cells slots) (hZ : Z.Warmed39 vm) (hEL : EW Z a0 EL) (I : own_Inv s Z EL vm h) (hx : p.tables.exec = Jvm.exec) (hlk : meth.locks = false) {pc : Nat} {Ls : Array Slot} {v : Value} {t : FieldType} {rest : List Value} (hret : meth.sig.returnType = some t) (ht : t.isReference = true) (hv : v.isRef = true)
    (hd : decode c.code pc = .ok (.areturn, 1)) (eT : T.heap = h) (hc : cells ≤ kc) (hs : slots ≤ ks) (hQ : Q (some v) h locs) : own_EndsW p e below s Z EL Q kc ks T (mkF m pc Ls (v :: rest)) :=
  own_finW X hZ hEL eT I _ hlk (fun q => by rw [hret] at q; cases q) (fun fs hr => Jvm.RoadKit.retOut X hx hret (own_narR ht) (Or.inr (Or.inr (Or.inr (Or.inr ⟨rfl, ht, hv⟩)))) hd hr) hQ hc hs
theorem own_retVW (X : Stand p l e R (s.setVm vm) m args below meth c T locs cells slots) (hZ : Z.Warmed39 vm) (hEL : EW Z a0 EL) (I : own_Inv s Z EL vm h) (hx : p.tables.exec = Jvm.exec) (hlk : meth.locks = false) {pc : Nat} {Ls : Array Slot} (hret : meth.sig.returnType = none)
    (hd : decode c.code pc = .ok (.return_, 1)) (eT : T.heap = h) (hc : cells ≤ kc) (hs : slots ≤ ks) (hQ : Q none h locs) : own_EndsW p e below s Z EL Q kc ks T (mkF m pc Ls []) :=
  own_finW X hZ hEL eT I none hlk (fun _ => rfl) (fun fs hr => X.returnOut hx hret hd hr) hQ hc hs
/-- the contract of a body that may load String constants; EL: those that are read -/
abbrev own_MetW (l : Launch) (y : MethodName) (bytes : ByteArray) (maxL : Nat) (ret : Option FieldType) (rm : Room) (ws : List Jvm.Cond) (as' : Array Value) (Z : State) (EL : List (String × Nat)) (h0 : Heap) (Q : Option Value → Heap → List Loc → Prop) : Prop :=
  MetFree l y (head1 (Jvm.Cond.code y bytes maxL ret :: ws) rm) (fun a U => a = as' ∧ Z.Warmed39 U.vm ∧ U.heap = h0 ∧ CHv Z EL U.vm h0) (fun _ _ _ _ _ => True) (fun _ U o U' => ∃ v L, o = .returned v ∧ Q v U'.heap L ∧ CHr Z EL U.vm U.heap U'.vm U'.heap ∧ ReturnedEndW U o U' L rm.cells rm.slots)
theorem own_metW {y : MethodName} {bytes : ByteArray} {maxL : Nat} {ret : Option FieldType} {rm : Room} {ws : List Jvm.Cond} {as' : Array Value} (hy : plainFor y = true)
    (body : ∀ (p : Program) (e : Env) (s : State) (m : MethodId) (below : List Frame) (meth : Method) (c : Code) (s₁ : State), p.tables.exec = Jvm.exec → Stand p l e rm (s.setVm s.vm) m as' below meth c s₁ [] 0 0 → Z.Warmed39 (s.setVm s.vm).vm → s₁.heap = h0 → c.code = bytes → c.maxLocals = maxL →
      (s.setVm s.vm).vm.findClass y.cls = some m.cls → meth.name = y.name → meth.sig.returnType = ret → meth.locks = false → own_Inv s Z EL s.vm h0 → own_EndsW p e below s Z EL Q rm.cells rm.slots s₁ (entryFrame m as' maxL)) :
    own_MetW l y bytes maxL ret rm ws as' Z EL h0 Q := by
  refine MetFree.of_bodySF hy hisR ?_
  intro p e s m args below meth c s₁ Bd hml0 hP hK
  obtain ⟨rfl, hZ, hh, hC⟩ := hP
  subst hh
  exact body p e s m below meth c s₁ Bd.exec (Stand.of_body Bd) hZ (by rw [Bd.state]; rfl) Bd.bytes hml0 (findClass_of_methodNamed Bd.named) (name_of_methodNamed Bd.named Bd.method).1 Bd.returns Bd.notSynchronized (own_inv0 hC)
/-- ldc of a String constant, opaque -/
theorem own_ldcO (X : Stand p l e R (s.setVm vm) m args below meth c T locs cells slots) (hx : p.tables.exec = Jvm.exec) (hZ : Z.Warmed39 (s.setVm vm).vm) (hown : (s.setVm vm).vm.findClass own = some m.cls) (hEL : EW Z a0 EL) (wS : ∀ a ∈ Bundle.stringAtoms, a.before a0 Z = true) {index : Nat} {text : String} (w : (Jvm.Cond.stringLink own index text).before a0 Z = true)
    (eT : T.heap = h) (I : own_Inv s Z EL vm h) {g : JFrame} (hg : g.method = m) (hd : decode c.code g.pc = .ok (.ldc index, 2)) (n : Nat) (hn : 4 * text.toList.length ≤ n) (hbig : n ≤ 536870912) (hc : cells + 2 ≤ R.cells) (hl' : slots + (n + 4) ≤ R.slots) :
    ∃ (a : Addr) (T' : State) (h' : Heap), Stand p l e R (s.setVm T'.vm) m args below meth c T' locs (cells + 2) (slots + (n + 4)) ∧ T'.heap = h' ∧ Ext h h' ∧ own_Inv s Z EL T'.vm h' ∧ Z.Warmed39 (s.setVm T'.vm).vm ∧ (s.setVm T'.vm).vm.findClass own = some m.cls ∧ CHr Z EL vm h T'.vm h' ∧
      ∀ target, Steps p.tables e below (T'.setTop { g with pc := g.pc + 2, stack := .ref a :: g.stack }) target → Steps p.tables e below (T.setTop g) target := by
  obtain ⟨⟨k0, i1, i2⟩, C⟩ := I
  obtain ⟨a, T', h', k1, X', e1, E, S1, S2, W1, o1, C1, -, st⟩ := ldcOH X hx hZ hown w wS eT i1 i2 hEL C.1 hg hd hn hbig hc hl'
  exact ⟨a, T', h', X', e1, E, ⟨⟨k1, S1, S2⟩, C.trans C1⟩, W1, o1, C1, st⟩
/-- ldc of a String constant of EL, read -/
theorem own_ldcC (X : Stand p l e R (s.setVm vm) m args below meth c T locs cells slots) (hx : p.tables.exec = Jvm.exec) (hZ : Z.Warmed39 (s.setVm vm).vm) (hown : (s.setVm vm).vm.findClass own = some m.cls) (hEL : EW Z a0 EL) (wS : ∀ a ∈ Bundle.stringAtoms, a.before a0 Z = true) {index : Nat} {text : String} (w : (Jvm.Cond.stringLink own index text).before a0 Z = true) (hmem : (own, index) ∈ EL)
    {vs : List Value} {z : Int32} (ht : (∀ c ∈ text.toList, c.toNat < 256) ∧ text.toList.map (fun c => Value.int (Jvm.Lit.byteI c.toNat.toUInt16)) = vs) (hz : ¬ z < 0) (hl : z.toNatClampNeg = vs.length)
    (eT : T.heap = h) (I : own_Inv s Z EL vm h) {g : JFrame} (hg : g.method = m) (hd : decode c.code g.pc = .ok (.ldc index, 2)) (n : Nat) (hn : 4 * text.toList.length ≤ n) (hbig : n ≤ 536870912) (hc : cells + 2 ≤ R.cells) (hl' : slots + (n + 4) ≤ R.slots) :
    ∃ (a : Addr) (T' : State) (h' : Heap) (b : Addr) (k : ClassId), Stand p l e R (s.setVm T'.vm) m args below meth c T' locs (cells + 2) (slots + (n + 4)) ∧ T'.heap = h' ∧ Ext h h' ∧ own_Inv s Z EL T'.vm h' ∧ Z.Warmed39 (s.setVm T'.vm).vm ∧ (s.setVm T'.vm).vm.findClass own = some m.cls ∧ CHr Z EL vm h T'.vm h' ∧
      Exa Z h' a "java/lang/String" ∧ Fld Z h' a "java/lang/String" "coder" "B" (.int 0) ∧ Fld Z h' a "java/lang/String" "value" "[B" (.ref b) ∧ Arv Z h' b k .byte z vs (.int 0) ∧ (∀ x, Safe Z EL T'.vm h' x → x ≠ a ∧ x ≠ b) ∧
      ∀ target, Steps p.tables e below (T'.setTop { g with pc := g.pc + 2, stack := .ref a :: g.stack }) target → Steps p.tables e below (T.setTop g) target := by
  obtain ⟨⟨k0, i1, i2⟩, C⟩ := I
  obtain ⟨a, T', h', k1, b, k, X', e1, E, S1, S2, W1, o1, x1, x2, x3, x4, -, -, C1, -, x5, st⟩ := ldcCH X hx hZ hown w wS eT i1 i2 hEL hmem C.1 ht hz hl hg hd hn hbig hc hl'
  exact ⟨a, T', h', b, k, X', e1, E, ⟨⟨k1, S1, S2⟩, C.trans C1⟩, W1, o1, C1, x1, x2, x3, x4, x5, st⟩
theorem own_backW {y : MethodName} {bytes : ByteArray} {maxL : Nat} {ret : Option FieldType} {rm : Room} {len W : Nat} {as' : Array Value} {Q' : Option Value → Heap → List Loc → Prop} (hM : own_MetW l y bytes maxL ret rm [] as' Z EL h Q') (hZ : Z.Warmed39 vm) (wc : (Jvm.Cond.code y bytes maxL ret).before a0 Z = true) (wz : (Jvm.Cond.initialized y.cls).before a0 Z = true)
    (hf : rm.frames + 1 ≤ R.frames) (hl : W + (maxL + 11) + rm.locals ≤ R.locals) (hEL : EW Z a0 EL) (H : CHv Z EL vm h) :
    BackS l R p e below (s.setVm vm) args y len W (fun A a => a = as' ∧ A.U.heap = h ∧ A.cells + rm.cells ≤ R.cells ∧ A.slots + rm.slots ≤ R.slots)
      (fun A _ v B => ∃ L, Q' v B.U.heap L ∧ B.locs = A.locs ++ L ∧ B.cells = A.cells + rm.cells ∧ B.slots = A.slots + rm.slots ∧ CHr Z EL vm h B.U.vm B.U.heap) := backOfSH hM hZ wc wz hf hl hEL H
/-- what is known behind a call that may have loaded String constants -/
def own_BehW (p : Program) (l : Launch) (e : Env) (R : Room) (s : State) (m : MethodId) (args : Array Value) (below : List Frame) (meth : Method) (c : Code) (T : State) (locs : List Loc) (cells slots : Nat) (Z : State) (EL : List (String × Nat)) (vm : Vm) (h : Heap) (own : String) (Q' : Option Value → Heap → List Loc → Prop) (g : JFrame) (len : Nat) (rest : List Value) : Prop :=
  ∃ (T' : State) (v : Option Value) (L : List Loc) (h' : Heap), Stand p l e R (s.setVm T'.vm) m args below meth c T' (locs ++ L) cells slots ∧ T'.heap = h' ∧ Q' v h' L ∧ own_Inv s Z EL T'.vm h' ∧ Z.Warmed39 (s.setVm T'.vm).vm ∧ (s.setVm T'.vm).vm.findClass own = some m.cls ∧ CHr Z EL vm h T'.vm h' ∧ h.size ≤ h'.size ∧
    ∀ target, Steps p.tables e below (T'.setTop { g with pc := g.pc + len, stack := v.toList ++ rest }) target → Steps p.tables e below (T.setTop g) target
theorem own_callSW (X : Stand p l e R (s.setVm vm) m args below meth c T locs cells slots) (hx : p.tables.exec = Jvm.exec) (hZ : Z.Warmed39 (s.setVm vm).vm) {index : Nat} {y : MethodName} {bytes : ByteArray} {maxL : Nat} {ret : Option FieldType} {rm : Room} {as' : Array Value} {Q' : Option Value → Heap → List Loc → Prop}
    (hown : (s.setVm vm).vm.findClass own = some m.cls) (hEL : EW Z a0 EL) (I : own_Inv s Z EL vm h) (w1 : (Jvm.Cond.methodLink own index y).before a0 Z = true) (w2 : (Jvm.Cond.static y).before a0 Z = true) (w3 : (Jvm.Cond.initialized y.cls).before a0 Z = true) (w4 : (Jvm.Cond.code y bytes maxL ret).before a0 Z = true)
    (hy : y.cls ≠ "java/lang/invoke/MethodHandle" ∧ y.cls ≠ "java/lang/invoke/VarHandle") (hM : own_MetW l y bytes maxL ret rm [] as' Z EL h Q') (eT : T.heap = h) {g : JFrame} (hg : g.method = m) (hsize : g.locals.size = c.maxLocals) (argsL rest : List Value) (has : argsL.toArray = as')
    (hlen : ∀ sig, parseMethodDescriptor y.desc = some sig → argsL.length = sig.parameters.length) (hstack : g.stack = argsL.reverse ++ rest) (W : Nat) (hW : 2 * g.monitorRoom + (rest.map fun v => v.category).sum ≤ W) (hdg : decode c.code g.pc = .ok (.invokestatic index, 3))
    (hf : rm.frames + 1 ≤ R.frames) (hl : W + (maxL + 11) + rm.locals ≤ R.locals) (hc : cells + rm.cells ≤ R.cells) (hs : slots + rm.slots ≤ R.slots) :
    own_BehW p l e R s m args below meth c T locs (cells + rm.cells) (slots + rm.slots) Z EL vm h own Q' g 3 rest := by
  obtain ⟨⟨k0, i1, i2⟩, C⟩ := I
  obtain ⟨v, vm1, ⟨T1, L1, k1, n1⟩, -, X1, S1, G1, ⟨Lc, hQ, l1, y1, z1, C1⟩, st⟩ := callSS X hx hown (mvT hZ w1) (mvT hZ w2) (mvT hZ w3) (mvT hZ w4) hy (own_backW (W := W) hM hZ w4 w3 hf hl hEL C.1) hg hsize hlen hstack hW hdg (fun _ _ => ⟨has, eT, hc, hs⟩)
  dsimp only [Pt.U, Pt.locs, Pt.cells, Pt.slots] at X1 S1 G1 l1 y1 z1 st hQ C1
  subst l1 y1 z1
  subst eT
  exact ⟨T1, v, Lc, _, X1, rfl, hQ, ⟨⟨_, i1.trans S1 (Nat.le_trans i2 G1), Nat.le_refl _⟩, C.trans C1⟩, State.Warmed39.trans hZ S1.1, (S1.1.alike.findClass _ _).trans hown, C1, G1, fun t k => st.trans k⟩
theorem own_callNW (X : Stand p l e R (s.setVm vm) m args below meth c T locs cells slots) (hx : p.tables.exec = Jvm.exec) (hZ : Z.Warmed39 (s.setVm vm).vm) {index : Nat} {y : MethodName} {bytes : ByteArray} {maxL : Nat} {rm : Room} {as' : Array Value} {Q' : Option Value → Heap → List Loc → Prop}
    (hy1 : y.name = "<init>") (hown : (s.setVm vm).vm.findClass own = some m.cls) (hEL : EW Z a0 EL) (I : own_Inv s Z EL vm h) (w1 : (Jvm.Cond.methodLink own index y).before a0 Z = true) (w2 : (Jvm.Cond.instanceMethod y).before a0 Z = true) (w3 : (Jvm.Cond.initialized y.cls).before a0 Z = true) (w4 : (Jvm.Cond.code y bytes maxL none).before a0 Z = true)
    (hy : y.cls ≠ "java/lang/invoke/MethodHandle" ∧ y.cls ≠ "java/lang/invoke/VarHandle") (hM : own_MetW l y bytes maxL none rm [] as' Z EL h Q') (eT : T.heap = h) {g : JFrame} (hg : g.method = m) (hsize : g.locals.size = c.maxLocals) (b : Addr) (argsL rest : List Value) (has : (.ref b :: argsL).toArray = as')
    (hlen : ∀ sig, parseMethodDescriptor y.desc = some sig → argsL.length = sig.parameters.length) (hstack : g.stack = argsL.reverse ++ .ref b :: rest) (W : Nat) (hW : 2 * g.monitorRoom + (rest.map fun v => v.category).sum ≤ W) (hdg : decode c.code g.pc = .ok (.invokespecial index, 3))
    (hf : rm.frames + 1 ≤ R.frames) (hl : W + (maxL + 11) + rm.locals ≤ R.locals) (hc : cells + rm.cells ≤ R.cells) (hs : slots + rm.slots ≤ R.slots) :
    own_BehW p l e R s m args below meth c T locs (cells + rm.cells) (slots + rm.slots) Z EL vm h own Q' g 3 rest := by
  obtain ⟨⟨k0, i1, i2⟩, C⟩ := I
  obtain ⟨v, vm1, ⟨T1, L1, k1, n1⟩, -, X1, S1, G1, ⟨Lc, hQ, l1, y1, z1, C1⟩, st⟩ := X.specialBackS hx hy1 hown (mvT hZ w1) (mvT hZ w2) (mvT hZ w4) hy (own_backW (W := W) hM hZ w4 w3 hf hl hEL C.1) hg hsize (Steps.refl _) (a := b) hlen hstack hW hdg (fun _ _ => ⟨has, eT, hc, hs⟩)
  dsimp only [Pt.U, Pt.locs, Pt.cells, Pt.slots] at X1 S1 G1 l1 y1 z1 st hQ C1
  subst l1 y1 z1
  subst eT
  exact ⟨T1, v, Lc, _, X1, rfl, hQ, ⟨⟨_, i1.trans S1 (Nat.le_trans i2 G1), Nat.le_refl _⟩, C.trans C1⟩, State.Warmed39.trans hZ S1.1, (S1.1.alike.findClass _ _).trans hown, C1, G1, fun t k => st.trans k⟩
theorem own_callVW (X : Stand p l e R (s.setVm vm) m args below meth c T locs cells slots) (hx : p.tables.exec = Jvm.exec) (hZ : Z.Warmed39 (s.setVm vm).vm) {C : String} {index : Nat} {y z : MethodName} {bytes : ByteArray} {maxL : Nat} {ret : Option FieldType} {rm : Room} {as' : Array Value} {Q' : Option Value → Heap → List Loc → Prop}
    (hown : (s.setVm vm).vm.findClass own = some m.cls) (hEL : EW Z a0 EL) (I : own_Inv s Z EL vm h) (w1 : (Jvm.Cond.methodLink own index y).before a0 Z = true) (w2 : (Jvm.Cond.declares y).before a0 Z = true) (hnf : NotFace (s.setVm vm) y) (w5 : (Jvm.Cond.selects C y z).before a0 Z = true) (w6 : (Jvm.Cond.instanceMethod z).before a0 Z = true)
    (w3 : (Jvm.Cond.initialized z.cls).before a0 Z = true) (w4 : (Jvm.Cond.code z bytes maxL ret).before a0 Z = true)
    (hy : y.cls ≠ "java/lang/invoke/MethodHandle" ∧ y.cls ≠ "java/lang/invoke/VarHandle") (hM : own_MetW l z bytes maxL ret rm [] as' Z EL h Q') (eT : T.heap = h) {g : JFrame} (hg : g.method = m) (hsize : g.locals.size = c.maxLocals) (b : Addr) (hE : Exa Z h b C) (argsL rest : List Value) (has : (.ref b :: argsL).toArray = as')
    (hlen : ∀ sig, parseMethodDescriptor y.desc = some sig → argsL.length = sig.parameters.length) (hstack : g.stack = argsL.reverse ++ .ref b :: rest) (W : Nat) (hW : 2 * g.monitorRoom + (rest.map fun v => v.category).sum ≤ W) (hdg : decode c.code g.pc = .ok (.invokevirtual index, 3))
    (hf : rm.frames + 1 ≤ R.frames) (hl : W + (maxL + 11) + rm.locals ≤ R.locals) (hc : cells + rm.cells ≤ R.cells) (hs : slots + rm.slots ≤ R.slots) :
    own_BehW p l e R s m args below meth c T locs (cells + rm.cells) (slots + rm.slots) Z EL vm h own Q' g 3 rest := by
  obtain ⟨⟨k0, i1, i2⟩, C0⟩ := I
  obtain ⟨cq, kq, qa, qb, qc⟩ := isOf hZ eT hE
  obtain ⟨v, vm1, ⟨T1, L1, k1, n1⟩, -, X1, S1, G1, ⟨Lc, hQ, l1, y1, z1, C1⟩, st⟩ := X.virtualBackS hx hown (mvT hZ w1) (mvT hZ w2) hnf (mvT hZ w5) (mvT hZ w6) hy (own_backW (W := W) hM hZ w4 w3 hf hl hEL C0.1) qa qc hg hsize (Steps.refl _) hlen hstack hW hdg (fun _ _ => ⟨has, eT, hc, hs⟩)
  dsimp only [Pt.U, Pt.locs, Pt.cells, Pt.slots] at X1 S1 G1 l1 y1 z1 st hQ C1
  subst l1 y1 z1
  subst eT
  exact ⟨T1, v, Lc, _, X1, rfl, hQ, ⟨⟨_, i1.trans S1 (Nat.le_trans i2 G1), Nat.le_refl _⟩, C0.trans C1⟩, State.Warmed39.trans hZ S1.1, (S1.1.alike.findClass _ _).trans hown, C1, G1, fun t k => st.trans k⟩
theorem own_safe0 {x : Addr} : Safe Z [] vm h x := fun B => by obtain ⟨q, hq, -⟩ := B; cases hq
theorem own_ch0 : CHv Z [] vm h := fun q hq => by cases hq
/-- a String whose value is still null is no booked constant's cell -/
theorem own_safeN {x : Addr} (hal : Z.vm.Alike vm) (E : Exa Z h x "java/lang/String") (V : Fld Z h x "java/lang/String" "value" "[B" .null) : Safe Z EL vm h x := fun B => by
  obtain ⟨cell, k, e1, e2, e3, -, -⟩ := E
  obtain ⟨p, -, u, a, -, q, -, F, rfl | rfl⟩ := B
  · obtain ⟨cell', cf, kk, i, f, v1, v2, v3, v4, v5, v6, v7⟩ := V
    cases (show h[q.sa]? = some q.sC from F.ha).symm.trans v1
    obtain ⟨cS, ⟨⟨-, -, -, ⟨c1, k1, i1, f1, -⟩, -, -, -, s8, -⟩, -⟩, -⟩ := F
    obtain ⟨k3, e4, -⟩ := State.fieldFound?_setVm (s := ({ Z with heap := h } : State)) hal v2
    have e5 := (show (Wst Z vm h).fieldFound? "java/lang/String" "value" "[B" = _ from e4).symm.trans f1
    simp only [Option.some.injEq, Prod.mk.injEq] at e5
    rw [e5.2.2.2, s8] at v7
    cases v7
  · cases (show h[q.sd]? = some q.SA from F.hd).symm.trans e1
    obtain ⟨cS, -, -, f, -⟩ := F
    have f' : Z.vm.findClass "[B" = some q.SA.cls := by rw [← hal.findClass]; exact f
    obtain ⟨k1, q1, q2⟩ := Vm.findClass_spec f'
    obtain ⟨k2, q3, q4⟩ := Vm.findClass_spec e2
    cases q1.symm.trans q3
    exact absurd (q2.symm.trans q4) (by decide)
end OwnWide
def own_EL : List (String × Nat) := [("java/lang/String", 7)]
theorem own_EW {Z : State} {a0 : Array Value} (hw : ∀ d ∈ tables_1, d.before a0 Z = true) : EW Z a0 own_EL := (EW.cons (hw _ (List.mem_of_getElem? (i := 59) rfl)) (by decide) EW.nil)
theorem own_wS {Z : State} {a0 : Array Value} (hw : ∀ d ∈ tables_1, d.before a0 Z = true) : ∀ a ∈ Bundle.stringAtoms, a.before a0 Z = true := fun d hd => hw d ((by decide +kernel : ∀ d ∈ Bundle.stringAtoms, d ∈ tables_1) d hd)
theorem own_hws {Z : State} {a0 : Array Value} (hw : ∀ d ∈ tables_1, d.before a0 Z = true) : ∀ d ∈ StrChars.Road.words, d.before a0 Z = true := fun d hd => hw d ((by decide +kernel : ∀ d ∈ StrChars.Road.words, d ∈ tables_1) d hd)
theorem own_nz {args : Array Value} {s : State} {t : Jvm.Term} {z : Int32} (ev : t.eval args s none [] s = some (.int z)) (h : (Jvm.Cond.not (Jvm.Cond.eq t (Jvm.Term.int 0))).value args s none s [] = some true) : ¬ z = 0 := by
  have h1 := not_v h
  intro e
  subst e
  simp [Jvm.Cond.value, ev, Jvm.Term.eval] at h1
theorem own_latc {y : Int32} (h0 : 0 ≤ y.toInt) (h1 : y.toInt ≤ 255) : ¬ nar .char y.toUInt32.toUInt16.toUInt32.toInt32 < 0 ∧ ¬ (255 : Int32) < nar .char y.toUInt32.toUInt16.toUInt32.toInt32 := by
  show ¬ (y.toUInt32.toUInt16.toUInt32.toInt32).toUInt32.toUInt16.toUInt32.toInt32 < 0 ∧ ¬ (255 : Int32) < (y.toUInt32.toUInt16.toUInt32.toInt32).toUInt32.toUInt16.toUInt32.toInt32
  have a2 := c_i2c y
  have a3 := c_i2c (y.toUInt32.toUInt16.toUInt32.toInt32)
  have a4 : (255 : Int32).toInt = 255 := rfl
  have a5 : (0 : Int32).toInt = 0 := rfl
  rw [Int32.lt_iff_toInt_lt, Int32.lt_iff_toInt_lt]
  omega
theorem own_and255 (x : Int32) : 0 ≤ (x &&& (255 : Int32)).toInt ∧ (x &&& (255 : Int32)).toInt ≤ 255 := c_and x 255 (by decide)
theorem own_i2cR {y : Int32} (h : 0 ≤ y.toInt ∧ y.toInt ≤ 255) : ¬ (y.toUInt32.toUInt16.toUInt32.toInt32) < 0 ∧ ¬ (255 : Int32) < (y.toUInt32.toUInt16.toUInt32.toInt32) := by
  have a := c_i2c y
  have a4 : (255 : Int32).toInt = 255 := rfl
  have a5 : (0 : Int32).toInt = 0 := rfl
  rw [Int32.lt_iff_toInt_lt, Int32.lt_iff_toInt_lt]
  omega
def own_pick (i : Int32) (w0 w1 w2 w3 w4 w5 w6 w7 w8 w9 : Addr) : Addr := if i = 0 then w0 else if i = 1 then w1 else if i = 2 then w2 else if i = 3 then w3 else if i = 4 then w4 else if i = 5 then w5 else if i = 6 then w6 else if i = 7 then w7 else if i = 8 then w8 else w9
theorem own_ten {i : Int32} (h1 : 0 ≤ i.toInt) (h2 : i.toInt < 10) : i = 0 ∨ i = 1 ∨ i = 2 ∨ i = 3 ∨ i = 4 ∨ i = 5 ∨ i = 6 ∨ i = 7 ∨ i = 8 ∨ i = 9 := by
  simp only [← Int32.toInt_inj]
  simp only [show (0 : Int32).toInt = 0 from rfl, show (1 : Int32).toInt = 1 from rfl, show (2 : Int32).toInt = 2 from rfl, show (3 : Int32).toInt = 3 from rfl, show (4 : Int32).toInt = 4 from rfl, show (5 : Int32).toInt = 5 from rfl, show (6 : Int32).toInt = 6 from rfl, show (7 : Int32).toInt = 7 from rfl, show (8 : Int32).toInt = 8 from rfl, show (9 : Int32).toInt = 9 from rfl]
  omega
theorem own_ix (x : Int32) : 0 ≤ ((x &&& (2147483647 : Int32)) % (10 : Int32)).toInt ∧ ((x &&& (2147483647 : Int32)) % (10 : Int32)).toInt < 10 := by
  have h1 := c_and x 2147483647 (by decide)
  have h2 := (c_iremV (x &&& 2147483647) 10).1 h1.1 (by decide)
  have h3 : (10 : Int32).toInt = 10 := rfl
  omega
theorem own_ix2 {i : Int32} (h1 : 0 ≤ i.toInt) (h2 : i.toInt < 10) : 0 ≤ ((i + (1 : Int32)) % (10 : Int32)).toInt ∧ ((i + (1 : Int32)) % (10 : Int32)).toInt < 10 := by
  have a := c_iadd i 1
  have b := rng32 (i + 1)
  have h3 : (10 : Int32).toInt = 10 := rfl
  have h4 : (1 : Int32).toInt = 1 := rfl
  have h5 := (c_iremV (i + 1) 10).1 (by omega) (by decide)
  omega
theorem own_in {i : Int32} (h : 0 ≤ i.toInt ∧ i.toInt < 10) : ¬ i < 0 ∧ i < (10 : Int32) := by
  have h3 : (10 : Int32).toInt = 10 := rfl
  have a5 : (0 : Int32).toInt = 0 := rfl
  rw [Int32.lt_iff_toInt_lt, Int32.lt_iff_toInt_lt]
  omega
theorem own_sel {i : Int32} {w0 w1 w2 w3 w4 w5 w6 w7 w8 w9 : Addr} (h : 0 ≤ i.toInt ∧ i.toInt < 10) : ([.ref w0, .ref w1, .ref w2, .ref w3, .ref w4, .ref w5, .ref w6, .ref w7, .ref w8, .ref w9] : List Value).getD i.toNatClampNeg .null = .ref (own_pick i w0 w1 w2 w3 w4 w5 w6 w7 w8 w9) := by
  rcases own_ten h.1 h.2 with rfl | rfl | rfl | rfl | rfl | rfl | rfl | rfl | rfl | rfl <;> rfl
theorem d3_0 : decode jdk_42_method_149_code 0 = .ok (.aload_n 0, 1) := by decide +kernel
theorem d3_1 : decode jdk_42_method_149_code 1 = .ok (.invokespecial 1, 3) := by decide +kernel
theorem d3_4 : decode jdk_42_method_149_code 4 = .ok (.iload_n 3, 1) := by decide +kernel
theorem d3_5 : decode jdk_42_method_149_code 5 = .ok (.ifCond .ne 22, 3) := by decide +kernel
theorem d3_8 : decode jdk_42_method_149_code 8 = .ok (.aload_n 0, 1) := by decide +kernel
theorem d3_9 : decode jdk_42_method_149_code 9 = .ok (.ldc 7, 2) := by decide +kernel
theorem d3_11 : decode jdk_42_method_149_code 11 = .ok (.getfield 9, 3) := by decide +kernel
theorem d3_14 : decode jdk_42_method_149_code 14 = .ok (.putfield 9, 3) := by decide +kernel
theorem d3_17 : decode jdk_42_method_149_code 17 = .ok (.aload_n 0, 1) := by decide +kernel
theorem d3_18 : decode jdk_42_method_149_code 18 = .ok (.ldc 7, 2) := by decide +kernel
theorem d3_20 : decode jdk_42_method_149_code 20 = .ok (.getfield 15, 3) := by decide +kernel
theorem d3_23 : decode jdk_42_method_149_code 23 = .ok (.putfield 15, 3) := by decide +kernel
theorem d3_26 : decode jdk_42_method_149_code 26 = .ok (.return_, 1) := by decide +kernel
theorem pn3 : plainFor (⟨"java/lang/String", "<init>", "([CIILjava/lang/Void;)V"⟩ : MethodName) = true := plainFor_of_name (by first | (simp [plainName, overriddenIn]; done) | decide +kernel)
set_option maxRecDepth 65536 in
set_option maxHeartbeats 40000000 in
theorem rmE3 (l : Launch) (Z : State) (a0 : Array Value) (hw : ∀ d ∈ tables_1, d.before a0 Z = true) (ws : List Jvm.Cond)  (t bc : Addr) (h0 : Heap) (n0 : Nat) (Z0 : n0 ≤ h0.size) (Et : Exa Z h0 t "java/lang/String") (F_value : Fld Z h0 t "java/lang/String" "value" "[B" .null) (F_coder : Fld Z h0 t "java/lang/String" "coder" "B" (.int 0)) (g_t : n0 ≤ t) :
    own_MetW l (⟨"java/lang/String", "<init>", "([CIILjava/lang/Void;)V"⟩ : MethodName) jdk_42_method_149_code 6 none ({ frames := 1, cells := 4, slots := 8, locals := 12 } : Room) ws #[(.ref t), (.ref bc), (.int (0 : Int32)), (.int (0 : Int32)), .null] Z own_EL h0 (fun v h L => v = none ∧ Fr n0 L ∧ Keep h0 h [t] ∧ Exa Z h t "java/lang/String" ∧ Fld Z h t "java/lang/String" "coder" "B" (.int 0) ∧ ∃ (b : Addr) (k : ClassId), Fld Z h t "java/lang/String" "value" "[B" (.ref b) ∧ Arv Z h b k .byte 0 [] (.int 0)) := by
  refine own_metW pn3 ?_
  intro p e s m below meth c s₁ hx X0 hZ e0 hby hml hown hnm hret hlk Iv0
  have N0 := Fr.nil n0
  refine own_atW (f' := mkF m 0 #[.val (.ref t), .val (.ref bc), .val (.int (0 : Int32)), .val (.int (0 : Int32)), .val .null, .unset] []) (by first | (simp [entryFrame, mkF, argsToLocals, Value.category]; done) | rfl) ?_
  have Sft : Safe Z own_EL s.vm h0 t := own_safeN hZ.alike Et F_value
  show own_EndsW _ _ _ _ _ _ _ _ _ s₁ (mkF m 0 #[.val (.ref t), .val (.ref bc), .val (.int (0 : Int32)), .val (.int (0 : Int32)), .val .null, .unset] [])
  refine own_goW (fun t_ k_ => XS.aloadN X0.here hx rfl (hb hby d3_0) rfl rfl  k_) ?_
  show own_EndsW _ _ _ _ _ _ _ _ _ s₁ (mkF m 1 #[.val (.ref t), .val (.ref bc), .val (.int (0 : Int32)), .val (.int (0 : Int32)), .val .null, .unset] [(.ref t)])
  obtain ⟨T1, X1, e1, st1⟩ := initO X0 hx hZ hown (hw _ (List.mem_of_getElem? (i := 40) rfl)) (hw _ (List.mem_of_getElem? (i := 41) rfl)) (hw _ (List.mem_of_getElem? (i := 42) rfl)) e0 (g := (mkF m 1 #[.val (.ref t), .val (.ref bc), .val (.int (0 : Int32)), .val (.int (0 : Int32)), .val .null, .unset] [(.ref t)])) rfl (by rw [hml]; rfl) rfl (hb hby d3_1) (by decide) (W := 0) (by show 2 * 0 + _ ≤ _; exact Nat.le_of_eq rfl) (by decide)
  refine own_goW st1 ?_
  show own_EndsW _ _ _ _ _ _ _ _ _ T1 (mkF m 4 #[.val (.ref t), .val (.ref bc), .val (.int (0 : Int32)), .val (.int (0 : Int32)), .val .null, .unset] [])
  refine own_goW (fun t_ k_ => XS.iloadN X1.here hx rfl (hb hby d3_4) rfl  k_) ?_
  show own_EndsW _ _ _ _ _ _ _ _ _ T1 (mkF m 5 #[.val (.ref t), .val (.ref bc), .val (.int (0 : Int32)), .val (.int (0 : Int32)), .val .null, .unset] [(.int (0 : Int32))])
  refine own_goW (fun t_ k_ => XS.ifNo X1.here hx rfl (hb hby d3_5) rfl ((if0 _ _).trans (teq (by decide : (0 : Int32) = (0 : Int32))).2) k_) ?_
  show own_EndsW _ _ _ _ _ _ _ _ _ T1 (mkF m 8 #[.val (.ref t), .val (.ref bc), .val (.int (0 : Int32)), .val (.int (0 : Int32)), .val .null, .unset] [])
  refine own_goW (fun t_ k_ => XS.aloadN X1.here hx rfl (hb hby d3_8) rfl rfl  k_) ?_
  show own_EndsW _ _ _ _ _ _ _ _ _ T1 (mkF m 9 #[.val (.ref t), .val (.ref bc), .val (.int (0 : Int32)), .val (.int (0 : Int32)), .val .null, .unset] [(.ref t)])
  obtain ⟨la2, T2, h2, lb2, lk2, X2, e2, E2, Iv2, hZ, hown, CH2, LE2, LC2, LV2, LA2, xs2, st2⟩ := own_ldcC X1 hx hZ (hown) (own_EW hw) (own_wS hw) (hw _ (List.mem_of_getElem? (i := 59) rfl)) (by decide) (vs := []) (z := (0 : Int32)) (by decide) (by decide) (by decide) e1 Iv0 (g := (mkF m 9 #[.val (.ref t), .val (.ref bc), .val (.int (0 : Int32)), .val (.int (0 : Int32)), .val .null, .unset] [(.ref t)])) rfl (hb hby d3_9) 0 (by decide) (by decide) (by decide) (by decide)
  refine own_goW st2 ?_
  have K2 := Keep.ext (Keep.refl h0 [t]) E2
  show own_EndsW _ _ _ _ _ _ _ _ _ T2 (mkF m 11 #[.val (.ref t), .val (.ref bc), .val (.int (0 : Int32)), .val (.int (0 : Int32)), .val .null, .unset] [(.ref la2), (.ref t)])
  obtain ⟨T3, X3, e3, st3⟩ := getF X2 hx hZ hown (host := "") (Or.inl (hw _ (List.mem_of_getElem? (i := 57) rfl))) Via.refl e2 LV2 (g := (mkF m 11 #[.val (.ref t), .val (.ref bc), .val (.int (0 : Int32)), .val (.int (0 : Int32)), .val .null, .unset] [(.ref la2), (.ref t)])) rfl rfl (hb hby d3_11)
  refine own_goW st3 ?_
  show own_EndsW _ _ _ _ _ _ _ _ _ T3 (mkF m 14 #[.val (.ref t), .val (.ref bc), .val (.int (0 : Int32)), .val (.int (0 : Int32)), .val .null, .unset] [(.ref lb2), (.ref t)])
  have Swp4 : Safe Z own_EL T2.vm h2 t := (CHr.safe CH2 Et.lt Sft)
  obtain ⟨T5, h5, X5, e5, W5, st5⟩ := putF X3 hx hZ hown (host := "") (Or.inl (hw _ (List.mem_of_getElem? (i := 57) rfl))) Via.refl e3 (F_value.ext E2) (Et.ext E2) (Or.inr ⟨(hw _ (List.mem_of_getElem? (i := 58) rfl)), rfl, hnm⟩) (hw _ (List.mem_of_getElem? (i := 31) rfl)) (ty := (.array .byte)) (by decide) rfl rfl (g := (mkF m 14 #[.val (.ref t), .val (.ref bc), .val (.int (0 : Int32)), .val (.int (0 : Int32)), .val .null, .unset] [(.ref lb2), (.ref t)])) rfl rfl (hb hby d3_14)
  refine own_goW st5 ?_
  have Iv5 := Iv2.wr W5 Swp4
  have Fw5 := Fld.same W5 (F_value.ext E2)
  have N5 := Fr.snoc X5 N0 g_t
  have K5 := Keep.wr K2 W5 (Or.inl (List.mem_of_getElem? (i := 0) rfl))
  show own_EndsW _ _ _ _ _ _ _ _ _ T5 (mkF m 17 #[.val (.ref t), .val (.ref bc), .val (.int (0 : Int32)), .val (.int (0 : Int32)), .val .null, .unset] [])
  refine own_goW (fun t_ k_ => XS.aloadN X5.here hx rfl (hb hby d3_17) rfl rfl  k_) ?_
  show own_EndsW _ _ _ _ _ _ _ _ _ T5 (mkF m 18 #[.val (.ref t), .val (.ref bc), .val (.int (0 : Int32)), .val (.int (0 : Int32)), .val .null, .unset] [(.ref t)])
  obtain ⟨la6, T6, h6, lb6, lk6, X6, e6, E6, Iv6, hZ, hown, CH6, LE6, LC6, LV6, LA6, xs6, st6⟩ := own_ldcC X5 hx hZ (hown) (own_EW hw) (own_wS hw) (hw _ (List.mem_of_getElem? (i := 59) rfl)) (by decide) (vs := []) (z := (0 : Int32)) (by decide) (by decide) (by decide) e5 Iv5 (g := (mkF m 18 #[.val (.ref t), .val (.ref bc), .val (.int (0 : Int32)), .val (.int (0 : Int32)), .val .null, .unset] [(.ref t)])) rfl (hb hby d3_18) 0 (by decide) (by decide) (by decide) (by decide)
  refine own_goW st6 ?_
  have K6 := Keep.ext K5 E6
  show own_EndsW _ _ _ _ _ _ _ _ _ T6 (mkF m 20 #[.val (.ref t), .val (.ref bc), .val (.int (0 : Int32)), .val (.int (0 : Int32)), .val .null, .unset] [(.ref la6), (.ref t)])
  obtain ⟨T7, X7, e7, st7⟩ := getF X6 hx hZ hown (host := "") (Or.inl (hw _ (List.mem_of_getElem? (i := 55) rfl))) Via.refl e6 LC6 (g := (mkF m 20 #[.val (.ref t), .val (.ref bc), .val (.int (0 : Int32)), .val (.int (0 : Int32)), .val .null, .unset] [(.ref la6), (.ref t)])) rfl rfl (hb hby d3_20)
  refine own_goW st7 ?_
  show own_EndsW _ _ _ _ _ _ _ _ _ T7 (mkF m 23 #[.val (.ref t), .val (.ref bc), .val (.int (0 : Int32)), .val (.int (0 : Int32)), .val .null, .unset] [(.int (0 : Int32)), (.ref t)])
  have Swp8 : Safe Z own_EL T6.vm h6 t := (CHr.safe CH6 ((Et.ext E2).wr W5).lt (Safe.wr W5 Swp4 Iv2.ch (CHr.safe CH2 Et.lt Sft)))
  obtain ⟨T9, h9, X9, e9, W9, st9⟩ := putFN X7 hx hZ hown (hw _ (List.mem_of_getElem? (i := 55) rfl)) Via.refl e7 (((F_coder.ext E2).other W5 (Or.inr (slot_ne (Or.inr (hw _ (List.mem_of_getElem? (i := 56) rfl))) (Or.inr (hw _ (List.mem_of_getElem? (i := 58) rfl))) (by decide) (t := .byte) (t' := (.array .byte)) (by decide) (by decide)))).ext E6) (((Et.ext E2).wr W5).ext E6) (Or.inr ⟨(hw _ (List.mem_of_getElem? (i := 56) rfl)), rfl, hnm⟩) (hw _ (List.mem_of_getElem? (i := 31) rfl)) (ty := .byte) (v' := (.int (nar .byte (0 : Int32)))) (by decide) rfl (fits_nar_byte _) (g := (mkF m 23 #[.val (.ref t), .val (.ref bc), .val (.int (0 : Int32)), .val (.int (0 : Int32)), .val .null, .unset] [(.int (0 : Int32)), (.ref t)])) rfl rfl (hb hby d3_23)
  refine own_goW st9 ?_
  have Iv9 := Iv6.wr W9 Swp8
  have Fw9 := Fld.same W9 (((F_coder.ext E2).other W5 (Or.inr (slot_ne (Or.inr (hw _ (List.mem_of_getElem? (i := 56) rfl))) (Or.inr (hw _ (List.mem_of_getElem? (i := 58) rfl))) (by decide) (t := .byte) (t' := (.array .byte)) (by decide) (by decide)))).ext E6)
  have N9 := Fr.snoc X9 N5 g_t
  have K9 := Keep.wr K6 W9 (Or.inl (List.mem_of_getElem? (i := 0) rfl))
  show own_EndsW _ _ _ _ _ _ _ _ _ T9 (mkF m 26 #[.val (.ref t), .val (.ref bc), .val (.int (0 : Int32)), .val (.int (0 : Int32)), .val .null, .unset] [])
  refine own_retVW X9 hZ (own_EW hw) Iv9 hx hlk hret (hb hby d3_26) e9 (by decide) (by decide) ?_
  exact ⟨rfl, N9, K9, ((((Et.ext E2).wr W5).ext E6).wr W9), Fw9, lb2, lk2, ((Fw5.ext E6).other W9 (Or.inr (slot_ne (Or.inr (hw _ (List.mem_of_getElem? (i := 58) rfl))) (Or.inr (hw _ (List.mem_of_getElem? (i := 56) rfl))) (by decide) (t := (.array .byte)) (t' := .byte) (by decide) (by decide)))), (((LA2.other W5 (Ne.symm (xs2 t (CHr.safe CH2 Et.lt Sft)).2)).ext E6).other W9 (Ne.symm (xs2 t (CHr.safe CH2 Et.lt Sft)).2))⟩
theorem d2_0 : decode jdk_42_method_3_code 0 = .ok (.aload_n 0, 1) := by decide +kernel
theorem d2_1 : decode jdk_42_method_3_code 1 = .ok (.aload_n 1, 1) := by decide +kernel
theorem d2_2 : decode jdk_42_method_3_code 2 = .ok (.iconst 0, 1) := by decide +kernel
theorem d2_3 : decode jdk_42_method_3_code 3 = .ok (.aload_n 1, 1) := by decide +kernel
theorem d2_4 : decode jdk_42_method_3_code 4 = .ok (.arraylength, 1) := by decide +kernel
theorem d2_5 : decode jdk_42_method_3_code 5 = .ok (.aconst_null, 1) := by decide +kernel
theorem d2_6 : decode jdk_42_method_3_code 6 = .ok (.invokespecial 27, 3) := by decide +kernel
theorem pd___CIILjava_lang_Void__V : parseMethodDescriptor "([CIILjava/lang/Void;)V" = some ⟨[(.array .char), .int, .int, (.object "java/lang/Void")], none⟩ := by decide +kernel
theorem d2_9 : decode jdk_42_method_3_code 9 = .ok (.return_, 1) := by decide +kernel
theorem pn2 : plainFor (⟨"java/lang/String", "<init>", "([C)V"⟩ : MethodName) = true := plainFor_of_name (by first | (simp [plainName, overriddenIn]; done) | decide +kernel)
set_option maxRecDepth 65536 in
set_option maxHeartbeats 40000000 in
theorem rmE2 (l : Launch) (Z : State) (a0 : Array Value) (hw : ∀ d ∈ tables_1, d.before a0 Z = true) (ws : List Jvm.Cond)  (t bc : Addr) (kc : ClassId) (h0 : Heap) (n0 : Nat) (Z0 : n0 ≤ h0.size) (Et : Exa Z h0 t "java/lang/String") (F_value : Fld Z h0 t "java/lang/String" "value" "[B" .null) (F_coder : Fld Z h0 t "java/lang/String" "coder" "B" (.int 0)) (g_t : n0 ≤ t) (Vb : Arv Z h0 bc kc .char 0 [] (.int 0)) :
    own_MetW l (⟨"java/lang/String", "<init>", "([C)V"⟩ : MethodName) jdk_42_method_3_code 2 none ({ frames := 2, cells := 4, slots := 8, locals := 29 } : Room) ws #[(.ref t), (.ref bc)] Z own_EL h0 (fun v h L => v = none ∧ Fr n0 L ∧ Keep h0 h [t] ∧ Exa Z h t "java/lang/String" ∧ Fld Z h t "java/lang/String" "coder" "B" (.int 0) ∧ ∃ (b : Addr) (k : ClassId), Fld Z h t "java/lang/String" "value" "[B" (.ref b) ∧ Arv Z h b k .byte 0 [] (.int 0)) := by
  refine own_metW pn2 ?_
  intro p e s m below meth c s₁ hx X0 hZ e0 hby hml hown hnm hret hlk Iv0
  have N0 := Fr.nil n0
  refine own_atW (f' := mkF m 0 #[.val (.ref t), .val (.ref bc)] []) (by first | (simp [entryFrame, mkF, argsToLocals, Value.category]; done) | rfl) ?_
  have Sft : Safe Z own_EL s.vm h0 t := own_safeN hZ.alike Et F_value
  show own_EndsW _ _ _ _ _ _ _ _ _ s₁ (mkF m 0 #[.val (.ref t), .val (.ref bc)] [])
  refine own_goW (fun t_ k_ => XS.aloadN X0.here hx rfl (hb hby d2_0) rfl rfl  k_) ?_
  show own_EndsW _ _ _ _ _ _ _ _ _ s₁ (mkF m 1 #[.val (.ref t), .val (.ref bc)] [(.ref t)])
  refine own_goW (fun t_ k_ => XS.aloadN X0.here hx rfl (hb hby d2_1) rfl rfl  k_) ?_
  show own_EndsW _ _ _ _ _ _ _ _ _ s₁ (mkF m 2 #[.val (.ref t), .val (.ref bc)] [(.ref bc), (.ref t)])
  refine own_goW (fun t_ k_ => XS.iconst X0.here hx rfl (hb hby d2_2) k_) ?_
  show own_EndsW _ _ _ _ _ _ _ _ _ s₁ (mkF m 3 #[.val (.ref t), .val (.ref bc)] [(.int (0 : Int32)), (.ref bc), (.ref t)])
  refine own_goW (fun t_ k_ => XS.aloadN X0.here hx rfl (hb hby d2_3) rfl rfl  k_) ?_
  show own_EndsW _ _ _ _ _ _ _ _ _ s₁ (mkF m 4 #[.val (.ref t), .val (.ref bc)] [(.ref bc), (.int (0 : Int32)), (.ref bc), (.ref t)])
  obtain ⟨cl1, Ar1, -, S1, Ng1, -, -⟩ := (id Vb)
  refine own_goW (fun t_ k_ => X0.arraylength hx (by rw [e0]; exact Ar1.1) (State.isArrayOf_alike hZ.alike Ar1.2.1) (g := (mkF m 4 #[.val (.ref t), .val (.ref bc)] [(.ref bc), (.int (0 : Int32)), (.ref bc), (.ref t)])) rfl rfl (hb hby d2_4) t_ (by rw [len_of S1 Ng1]; exact k_)) ?_
  show own_EndsW _ _ _ _ _ _ _ _ _ s₁ (mkF m 5 #[.val (.ref t), .val (.ref bc)] [(.int (0 : Int32)), (.int (0 : Int32)), (.ref bc), (.ref t)])
  refine own_goW (fun t_ k_ => XS.aconstNull X0.here hx rfl (hb hby d2_5) k_) ?_
  show own_EndsW _ _ _ _ _ _ _ _ _ s₁ (mkF m 6 #[.val (.ref t), .val (.ref bc)] [.null, (.int (0 : Int32)), (.int (0 : Int32)), (.ref bc), (.ref t)])
  have Nsk2 : ∀ x ∈ ([t] : List Addr), ∀ cell : Cell, h0[x]? = some cell → cell.vm.isStatics = false := (nsS (Exa.nostat Et) ns0)
  have Skk2 : ∀ x ∈ ([t] : List Addr), Safe Z own_EL s.vm h0 x := (sfS Sft sf0)
  obtain ⟨T3, v3, L3, h3, X3, e3, hQ3, Iv3, hZ, hown, CH3, Gr3, st3⟩ := own_callNW X0 hx hZ (y := (⟨"java/lang/String", "<init>", "([CIILjava/lang/Void;)V"⟩ : MethodName)) rfl hown (own_EW hw) Iv0 (hw _ (List.mem_of_getElem? (i := 36) rfl)) (hw _ (List.mem_of_getElem? (i := 37) rfl)) (hw _ (List.mem_of_getElem? (i := 32) rfl)) (hw _ (List.mem_of_getElem? (i := 39) rfl)) (by decide) (rmE3 l Z a0 hw [] t bc h0 n0 Z0 Et F_value F_coder g_t) e0 (g := (mkF m 6 #[.val (.ref t), .val (.ref bc)] [.null, (.int (0 : Int32)), (.int (0 : Int32)), (.ref bc), (.ref t)])) rfl (by rw [hml]; rfl) t [(.ref bc), (.int (0 : Int32)), (.int (0 : Int32)), .null] [] rfl (lenOf pd___CIILjava_lang_Void__V rfl) rfl 0 (by show 2 * 0 + _ ≤ _; exact Nat.le_of_eq rfl) (hb hby d2_6) (by decide) (by decide) (by decide) (by decide)
  obtain ⟨rfl, N3q, Kq3, Eq3, Cq3, tb3, kb3, Vq3, Aq3⟩ := hQ3
  refine own_goW st3 ?_
  have N3 := Fr.app N0 N3q
  have K3 := Keep.trans (Keep.refl h0 [t]) Kq3 (allS (Or.inl (List.mem_of_getElem? (i := 0) rfl)) all0)
  show own_EndsW _ _ _ _ _ _ _ _ _ T3 (mkF m 9 #[.val (.ref t), .val (.ref bc)] [])
  refine own_retVW X3 hZ (own_EW hw) Iv3 hx hlk hret (hb hby d2_9) e3 (by decide) (by decide) ?_
  exact ⟨rfl, N3, K3, (Et.keep Kq3), Cq3, tb3, kb3, Vq3, Aq3⟩
theorem d14_0 : decode jdk_43_method_3_code 0 = .ok (.iload_n 0, 1) := by decide +kernel
theorem d14_1 : decode jdk_43_method_3_code 1 = .ok (.sipush 255, 3) := by decide +kernel
theorem d14_4 : decode jdk_43_method_3_code 4 = .ok (.if_icmp .gt 7, 3) := by decide +kernel
theorem d14_7 : decode jdk_43_method_3_code 7 = .ok (.iconst 1, 1) := by decide +kernel
theorem d14_8 : decode jdk_43_method_3_code 8 = .ok (.goto 4, 3) := by decide +kernel
theorem d14_12 : decode jdk_43_method_3_code 12 = .ok (.ireturn, 1) := by decide +kernel
theorem pn14 : plainFor (⟨"java/lang/StringLatin1", "canEncode", "(C)Z"⟩ : MethodName) = true := plainFor_of_name (by first | (simp [plainName, overriddenIn]; done) | decide +kernel)
set_option maxRecDepth 65536 in
set_option maxHeartbeats 40000000 in
theorem rm14 (l : Launch) (Z : State) (a0 : Array Value) (hw : ∀ d ∈ tables_1, d.before a0 Z = true) (ws : List Jvm.Cond) (p0 : Int32)  (h0 : Heap) (n0 : Nat) (Z0 : n0 ≤ h0.size) (hc : ¬ (255 : Int32) < p0) :
    own_Met l (⟨"java/lang/StringLatin1", "canEncode", "(C)Z"⟩ : MethodName) jdk_43_method_3_code 1 (some .boolean) ({ frames := 0, cells := 0, slots := 0, locals := 0 } : Room) ws #[(.int p0)] Z h0 (fun v h L => v = some (.int 1) ∧ Fr n0 L ∧ h = h0) := by
  refine own_met pn14 ?_
  intro p e s m below meth c s₁ hx X0 hZ e0 hby hml hown hnm hret hlk
  have N0 := Fr.nil n0
  refine own_at (f' := mkF m 0 #[.val (.int p0)] []) (by first | (simp [entryFrame, mkF, argsToLocals, Value.category]; done) | rfl) ?_
  show own_Ends _ _ _ _ _ _ _ s₁ (mkF m 0 #[.val (.int p0)] [])
  refine own_go (fun t_ k_ => XS.iloadN X0.here hx rfl (hb hby d14_0) rfl  k_) ?_
  show own_Ends _ _ _ _ _ _ _ s₁ (mkF m 1 #[.val (.int p0)] [(.int p0)])
  refine own_go (fun t_ k_ => XS.sipush X0.here hx rfl (hb hby d14_1) k_) ?_
  show own_Ends _ _ _ _ _ _ _ s₁ (mkF m 4 #[.val (.int p0)] [(.int (255 : Int32)), (.int p0)])
  refine own_go (fun t_ k_ => XS.icmpNo X0.here hx rfl (hb hby d14_4) rfl (flt hc).2.2.1 k_) ?_
  show own_Ends _ _ _ _ _ _ _ s₁ (mkF m 7 #[.val (.int p0)] [])
  refine own_go (fun t_ k_ => XS.iconst X0.here hx rfl (hb hby d14_7) k_) ?_
  show own_Ends _ _ _ _ _ _ _ s₁ (mkF m 8 #[.val (.int p0)] [(.int (1 : Int32))])
  refine own_go (fun t_ k_ => XS.goto X0.here hx rfl (pc0 := 8) (pc' := 12) rfl (hb hby d14_8) (by decide) (by decide) k_) ?_
  show own_Ends _ _ _ _ _ _ _ s₁ (mkF m 12 #[.val (.int p0)] [(.int (1 : Int32))])
  refine own_retN X0 hx hlk (t := .boolean) hret (by simp) (hb hby d14_12) e0 (by decide) (by decide) ?_
  exact ⟨rfl, N0, rfl⟩
theorem d15_0 : decode jdk_43_method_46_code 0 = .ok (.iconst 1, 1) := by decide +kernel
theorem d15_1 : decode jdk_43_method_46_code 1 = .ok (.newarray .byte, 2) := by decide +kernel
theorem d15_3 : decode jdk_43_method_46_code 3 = .ok (.dup, 1) := by decide +kernel
theorem d15_4 : decode jdk_43_method_46_code 4 = .ok (.iconst 0, 1) := by decide +kernel
theorem d15_5 : decode jdk_43_method_46_code 5 = .ok (.iload_n 0, 1) := by decide +kernel
theorem d15_6 : decode jdk_43_method_46_code 6 = .ok (.i2b, 1) := by decide +kernel
theorem d15_7 : decode jdk_43_method_46_code 7 = .ok (.bastore, 1) := by decide +kernel
theorem d15_8 : decode jdk_43_method_46_code 8 = .ok (.areturn, 1) := by decide +kernel
theorem pn15 : plainFor (⟨"java/lang/StringLatin1", "toBytes", "(C)[B"⟩ : MethodName) = true := plainFor_of_name (by first | (simp [plainName, overriddenIn]; done) | decide +kernel)
set_option maxRecDepth 65536 in
set_option maxHeartbeats 40000000 in
theorem rm15 (l : Launch) (Z : State) (a0 : Array Value) (hw : ∀ d ∈ tables_1, d.before a0 Z = true) (ws : List Jvm.Cond) (p0 : Int32)  (h0 : Heap) (n0 : Nat) (Z0 : n0 ≤ h0.size)  :
    own_Met l (⟨"java/lang/StringLatin1", "toBytes", "(C)[B"⟩ : MethodName) jdk_43_method_46_code 1 (some (.array .byte)) ({ frames := 0, cells := 1, slots := 1, locals := 0 } : Room) ws #[(.int p0)] Z h0 (fun v h L => ∃ (b : Addr) (k : ClassId), v = some (.ref b) ∧ Fr n0 L ∧ Keep h0 h [] ∧ h0.size ≤ b ∧ Arv Z h b k .byte 1 [.int p0.toInt8.toInt32] (.int 0)) := by
  refine own_met pn15 ?_
  intro p e s m below meth c s₁ hx X0 hZ e0 hby hml hown hnm hret hlk
  have N0 := Fr.nil n0
  refine own_at (f' := mkF m 0 #[.val (.int p0)] []) (by first | (simp [entryFrame, mkF, argsToLocals, Value.category]; done) | rfl) ?_
  show own_Ends _ _ _ _ _ _ _ s₁ (mkF m 0 #[.val (.int p0)] [])
  refine own_go (fun t_ k_ => XS.iconst X0.here hx rfl (hb hby d15_0) k_) ?_
  show own_Ends _ _ _ _ _ _ _ s₁ (mkF m 1 #[.val (.int p0)] [(.int (1 : Int32))])
  obtain ⟨T1, h1, k1, X1, e1, E1, A1, st1⟩ := newP X0 hx hZ (hw _ (List.mem_of_getElem? (i := 48) rfl)) e0 (g := (mkF m 1 #[.val (.int p0)] [(.int (1 : Int32))])) rfl (hb hby d15_1) rfl (by decide) (cap := 1) (by decide) (by decide) (by decide) (by decide)
  obtain ⟨b1, g1⟩ : ∃ z, z = h0.size := ⟨_, rfl⟩
  rw [← g1] at A1 st1
  refine own_go st1 ?_
  have V1 : Arv Z h1 b1 k1 .byte (1 : Int32) [(.int (0 : Int32))] (.int (0 : Int32)) := (Arv.new A1 (by decide)).pad (pad_rep [] (.int (0 : Int32)) 1)
  have g_b1 : n0 ≤ b1 := Nat.le_trans Z0 (Nat.le_of_eq g1.symm)
  have sz_b1 : h0.size ≤ b1 := Nat.le_trans (Keep.refl h0 []).1 (Nat.le_of_eq g1.symm)
  have K1 := Keep.ext (Keep.refl h0 []) E1
  show own_Ends _ _ _ _ _ _ _ T1 (mkF m 3 #[.val (.int p0)] [(.ref b1)])
  refine own_go (fun t_ k_ => XS.dup X1.here hx rfl (hb hby d15_3) rfl rfl k_) ?_
  show own_Ends _ _ _ _ _ _ _ T1 (mkF m 4 #[.val (.int p0)] [(.ref b1), (.ref b1)])
  refine own_go (fun t_ k_ => XS.iconst X1.here hx rfl (hb hby d15_4) k_) ?_
  show own_Ends _ _ _ _ _ _ _ T1 (mkF m 5 #[.val (.int p0)] [(.int (0 : Int32)), (.ref b1), (.ref b1)])
  refine own_go (fun t_ k_ => XS.iloadN X1.here hx rfl (hb hby d15_5) rfl  k_) ?_
  show own_Ends _ _ _ _ _ _ _ T1 (mkF m 6 #[.val (.int p0)] [(.int p0), (.int (0 : Int32)), (.ref b1), (.ref b1)])
  refine own_go (fun t_ k_ => XT.i2b X1.here hx rfl (hb hby d15_6) rfl k_) ?_
  show own_Ends _ _ _ _ _ _ _ T1 (mkF m 7 #[.val (.int p0)] [(.int (p0.toInt8.toInt32)), (.int (0 : Int32)), (.ref b1), (.ref b1)])
  obtain ⟨cl3, Ar3, q3, S3, Ng3, Hs3, G3⟩ := (id V1)
  obtain ⟨T4, h4, X4, e4, W4, st4⟩ := stB X1 hx hZ e1 Ar3 (j := (0 : Int32)) (inb_of S3 ⟨by decide, by decide⟩) (g := (mkF m 7 #[.val (.int p0)] [(.int (p0.toInt8.toInt32)), (.int (0 : Int32)), (.ref b1), (.ref b1)])) rfl rfl (hb hby d15_7)
  refine own_go st4 ?_
  have V4 : Arv Z h4 b1 k1 .byte (1 : Int32) [(.int (nar .byte (p0.toInt8.toInt32)))] (.int (0 : Int32)) := Arv.set Ar3 q3 S3 Ng3 Hs3 G3 (fits_nar_byte _) W4 0 rfl (Nat.le_of_ble_eq_true rfl)
  have N4 := Fr.snoc X4 N0 g_b1
  have K4 := Keep.wr K1 W4 (Or.inr sz_b1)
  show own_Ends _ _ _ _ _ _ _ T4 (mkF m 8 #[.val (.int p0)] [(.ref b1)])
  refine own_retR X4 hx hlk hret rfl rfl (hb hby d15_8) e4 (by decide) (by decide) ?_
  have Vx := V4
  rw [own_narB] at Vx
  exact ⟨b1, k1, rfl, N4, K4, sz_b1, Vx⟩
theorem d16_0 : decode jdk_42_method_151_code 0 = .ok (.aload_n 0, 1) := by decide +kernel
theorem d16_1 : decode jdk_42_method_151_code 1 = .ok (.invokespecial 1, 3) := by decide +kernel
theorem d16_4 : decode jdk_42_method_151_code 4 = .ok (.aload_n 0, 1) := by decide +kernel
theorem d16_5 : decode jdk_42_method_151_code 5 = .ok (.aload_n 1, 1) := by decide +kernel
theorem d16_6 : decode jdk_42_method_151_code 6 = .ok (.putfield 9, 3) := by decide +kernel
theorem d16_9 : decode jdk_42_method_151_code 9 = .ok (.aload_n 0, 1) := by decide +kernel
theorem d16_10 : decode jdk_42_method_151_code 10 = .ok (.iload_n 2, 1) := by decide +kernel
theorem d16_11 : decode jdk_42_method_151_code 11 = .ok (.putfield 15, 3) := by decide +kernel
theorem d16_14 : decode jdk_42_method_151_code 14 = .ok (.return_, 1) := by decide +kernel
theorem pn16 : plainFor (⟨"java/lang/String", "<init>", "([BB)V"⟩ : MethodName) = true := plainFor_of_name (by first | (simp [plainName, overriddenIn]; done) | decide +kernel)
set_option maxRecDepth 65536 in
set_option maxHeartbeats 40000000 in
theorem rm16 (l : Launch) (Z : State) (a0 : Array Value) (hw : ∀ d ∈ tables_1, d.before a0 Z = true) (ws : List Jvm.Cond)  (t : Addr) (vb : Addr) (cd : Int32) (h0 : Heap) (n0 : Nat) (Z0 : n0 ≤ h0.size)  (Et : Exa Z h0 t "java/lang/String") (F_coder : Fld Z h0 t "java/lang/String" "coder" "B" (.int (0 : Int32))) (F_value : Fld Z h0 t "java/lang/String" "value" "[B" .null) (g_t : n0 ≤ t) :
    own_Met l (⟨"java/lang/String", "<init>", "([BB)V"⟩ : MethodName) jdk_42_method_151_code 3 none ({ frames := 1, cells := 0, slots := 0, locals := 12 } : Room) ws #[(.ref t), (.ref vb), (.int cd)] Z h0 (fun v h L => v = none ∧ Fr n0 L ∧ Keep h0 h [t] ∧ Exa Z h t "java/lang/String" ∧ Fld Z h t "java/lang/String" "value" "[B" (.ref vb) ∧ Fld Z h t "java/lang/String" "coder" "B" (.int (nar .byte cd))) := by
  refine own_met pn16 ?_
  intro p e s m below meth c s₁ hx X0 hZ e0 hby hml hown hnm hret hlk
  have N0 := Fr.nil n0
  refine own_at (f' := mkF m 0 #[.val (.ref t), .val (.ref vb), .val (.int cd)] []) (by first | (simp [entryFrame, mkF, argsToLocals, Value.category]; done) | rfl) ?_
  show own_Ends _ _ _ _ _ _ _ s₁ (mkF m 0 #[.val (.ref t), .val (.ref vb), .val (.int cd)] [])
  refine own_go (fun t_ k_ => XS.aloadN X0.here hx rfl (hb hby d16_0) rfl rfl  k_) ?_
  show own_Ends _ _ _ _ _ _ _ s₁ (mkF m 1 #[.val (.ref t), .val (.ref vb), .val (.int cd)] [(.ref t)])
  obtain ⟨T1, X1, e1, st1⟩ := initO X0 hx hZ hown (hw _ (List.mem_of_getElem? (i := 40) rfl)) (hw _ (List.mem_of_getElem? (i := 41) rfl)) (hw _ (List.mem_of_getElem? (i := 42) rfl)) e0 (g := (mkF m 1 #[.val (.ref t), .val (.ref vb), .val (.int cd)] [(.ref t)])) rfl (by rw [hml]; rfl) rfl (hb hby d16_1) (by decide) (W := 0) (by show 2 * 0 + _ ≤ _; exact Nat.le_of_eq rfl) (by decide)
  refine own_go st1 ?_
  show own_Ends _ _ _ _ _ _ _ T1 (mkF m 4 #[.val (.ref t), .val (.ref vb), .val (.int cd)] [])
  refine own_go (fun t_ k_ => XS.aloadN X1.here hx rfl (hb hby d16_4) rfl rfl  k_) ?_
  show own_Ends _ _ _ _ _ _ _ T1 (mkF m 5 #[.val (.ref t), .val (.ref vb), .val (.int cd)] [(.ref t)])
  refine own_go (fun t_ k_ => XS.aloadN X1.here hx rfl (hb hby d16_5) rfl rfl  k_) ?_
  show own_Ends _ _ _ _ _ _ _ T1 (mkF m 6 #[.val (.ref t), .val (.ref vb), .val (.int cd)] [(.ref vb), (.ref t)])
  obtain ⟨T3, h3, X3, e3, W3, st3⟩ := putF X1 hx hZ hown (host := "") (Or.inl (hw _ (List.mem_of_getElem? (i := 57) rfl))) Via.refl e1 F_value Et (Or.inr ⟨(hw _ (List.mem_of_getElem? (i := 58) rfl)), rfl, hnm⟩) (hw _ (List.mem_of_getElem? (i := 31) rfl)) (ty := (.array .byte)) (by decide) rfl rfl (g := (mkF m 6 #[.val (.ref t), .val (.ref vb), .val (.int cd)] [(.ref vb), (.ref t)])) rfl rfl (hb hby d16_6)
  refine own_go st3 ?_
  have Fw3 := Fld.same W3 F_value
  have N3 := Fr.snoc X3 N0 g_t
  have K3 := Keep.wr (Keep.refl h0 [t]) W3 (Or.inl (List.mem_of_getElem? (i := 0) rfl))
  show own_Ends _ _ _ _ _ _ _ T3 (mkF m 9 #[.val (.ref t), .val (.ref vb), .val (.int cd)] [])
  refine own_go (fun t_ k_ => XS.aloadN X3.here hx rfl (hb hby d16_9) rfl rfl  k_) ?_
  show own_Ends _ _ _ _ _ _ _ T3 (mkF m 10 #[.val (.ref t), .val (.ref vb), .val (.int cd)] [(.ref t)])
  refine own_go (fun t_ k_ => XS.iloadN X3.here hx rfl (hb hby d16_10) rfl  k_) ?_
  show own_Ends _ _ _ _ _ _ _ T3 (mkF m 11 #[.val (.ref t), .val (.ref vb), .val (.int cd)] [(.int cd), (.ref t)])
  obtain ⟨T5, h5, X5, e5, W5, st5⟩ := putFN X3 hx hZ hown (hw _ (List.mem_of_getElem? (i := 55) rfl)) Via.refl e3 (F_coder.other W3 (Or.inr (slot_ne (Or.inr (hw _ (List.mem_of_getElem? (i := 56) rfl))) (Or.inr (hw _ (List.mem_of_getElem? (i := 58) rfl))) (by decide) (t := .byte) (t' := (.array .byte)) (by decide) (by decide)))) (Et.wr W3) (Or.inr ⟨(hw _ (List.mem_of_getElem? (i := 56) rfl)), rfl, hnm⟩) (hw _ (List.mem_of_getElem? (i := 31) rfl)) (ty := .byte) (v' := (.int (nar .byte cd))) (by decide) rfl (fits_nar_byte _) (g := (mkF m 11 #[.val (.ref t), .val (.ref vb), .val (.int cd)] [(.int cd), (.ref t)])) rfl rfl (hb hby d16_11)
  refine own_go st5 ?_
  have Fw5 := Fld.same W5 (F_coder.other W3 (Or.inr (slot_ne (Or.inr (hw _ (List.mem_of_getElem? (i := 56) rfl))) (Or.inr (hw _ (List.mem_of_getElem? (i := 58) rfl))) (by decide) (t := .byte) (t' := (.array .byte)) (by decide) (by decide))))
  have N5 := Fr.snoc X5 N3 g_t
  have K5 := Keep.wr K3 W5 (Or.inl (List.mem_of_getElem? (i := 0) rfl))
  show own_Ends _ _ _ _ _ _ _ T5 (mkF m 14 #[.val (.ref t), .val (.ref vb), .val (.int cd)] [])
  refine own_retV X5 hx hlk hret (hb hby d16_14) e5 (by decide) (by decide) ?_
  exact ⟨rfl, N5, K5, ((Et.wr W3).wr W5), (Fw3.other W5 (Or.inr (slot_ne (Or.inr (hw _ (List.mem_of_getElem? (i := 58) rfl))) (Or.inr (hw _ (List.mem_of_getElem? (i := 56) rfl))) (by decide) (t := (.array .byte)) (t' := .byte) (by decide) (by decide)))), Fw5⟩
theorem d13_0 : decode jdk_42_method_139_code 0 = .ok (.getstatic 38, 3) := by decide +kernel
theorem d13_3 : decode jdk_42_method_139_code 3 = .ok (.ifCond .eq 23, 3) := by decide +kernel
theorem d13_6 : decode jdk_42_method_139_code 6 = .ok (.iload_n 0, 1) := by decide +kernel
theorem d13_7 : decode jdk_42_method_139_code 7 = .ok (.invokestatic 1015, 3) := by decide +kernel
theorem pd__C_Z : parseMethodDescriptor "(C)Z" = some ⟨[.char], some .boolean⟩ := by decide +kernel
theorem d13_10 : decode jdk_42_method_139_code 10 = .ok (.ifCond .eq 16, 3) := by decide +kernel
theorem d13_13 : decode jdk_42_method_139_code 13 = .ok (.new 10, 3) := by decide +kernel
theorem d13_16 : decode jdk_42_method_139_code 16 = .ok (.dup, 1) := by decide +kernel
theorem d13_17 : decode jdk_42_method_139_code 17 = .ok (.iload_n 0, 1) := by decide +kernel
theorem d13_18 : decode jdk_42_method_139_code 18 = .ok (.invokestatic 1018, 3) := by decide +kernel
theorem pd__C__B : parseMethodDescriptor "(C)[B" = some ⟨[.char], some (.array .byte)⟩ := by decide +kernel
theorem d13_21 : decode jdk_42_method_139_code 21 = .ok (.iconst 0, 1) := by decide +kernel
theorem d13_22 : decode jdk_42_method_139_code 22 = .ok (.invokespecial 209, 3) := by decide +kernel
theorem pd___BB_V : parseMethodDescriptor "([BB)V" = some ⟨[(.array .byte), .byte], none⟩ := by decide +kernel
theorem d13_25 : decode jdk_42_method_139_code 25 = .ok (.areturn, 1) := by decide +kernel
theorem pn13 : plainFor (⟨"java/lang/String", "valueOf", "(C)Ljava/lang/String;"⟩ : MethodName) = true := plainFor_of_name (by first | (simp [plainName, overriddenIn]; done) | decide +kernel)
set_option maxRecDepth 65536 in
set_option maxHeartbeats 40000000 in
theorem rm13 (l : Launch) (Z : State) (a0 : Array Value) (hw : ∀ d ∈ tables_1, d.before a0 Z = true) (ws : List Jvm.Cond) (p0 : Int32) (zc : Int32) (h0 : Heap) (n0 : Nat) (Z0 : n0 ≤ h0.size) (SC : Sta Z h0 "java/lang/String" "COMPACT_STRINGS" "Z" (.int zc)) (hzc : ¬ zc = 0) (hc : ¬ (255 : Int32) < p0) :
    own_Met l (⟨"java/lang/String", "valueOf", "(C)Ljava/lang/String;"⟩ : MethodName) jdk_42_method_139_code 1 (some (.object "java/lang/String")) ({ frames := 2, cells := 2, slots := 5, locals := 27 } : Room) ws #[(.int p0)] Z h0 (fun v h L => ∃ (a b : Addr) (k : ClassId), v = some (.ref a) ∧ Fr n0 L ∧ Keep h0 h [] ∧ h0.size ≤ a ∧ Exa Z h a "java/lang/String" ∧ Fld Z h a "java/lang/String" "coder" "B" (.int 0) ∧ Fld Z h a "java/lang/String" "value" "[B" (.ref b) ∧ Arv Z h b k .byte 1 [.int p0.toInt8.toInt32] (.int 0)) := by
  refine own_met pn13 ?_
  intro p e s m below meth c s₁ hx X0 hZ e0 hby hml hown hnm hret hlk
  have N0 := Fr.nil n0
  refine own_at (f' := mkF m 0 #[.val (.int p0)] []) (by first | (simp [entryFrame, mkF, argsToLocals, Value.category]; done) | rfl) ?_
  show own_Ends _ _ _ _ _ _ _ s₁ (mkF m 0 #[.val (.int p0)] [])
  obtain ⟨T1, X1, e1, st1⟩ := getS2 X0 hx hZ hown (host := "") (Or.inl (hw _ (List.mem_of_getElem? (i := 43) rfl))) Via.refl e0 SC (g := (mkF m 0 #[.val (.int p0)] [])) rfl (hb hby d13_0)
  refine own_go st1 ?_
  show own_Ends _ _ _ _ _ _ _ T1 (mkF m 3 #[.val (.int p0)] [(.int zc)])
  refine own_go (fun t_ k_ => XS.ifNo X1.here hx rfl (hb hby d13_3) rfl ((if0 _ _).trans (feq hzc).1) k_) ?_
  show own_Ends _ _ _ _ _ _ _ T1 (mkF m 6 #[.val (.int p0)] [])
  refine own_go (fun t_ k_ => XS.iloadN X1.here hx rfl (hb hby d13_6) rfl  k_) ?_
  show own_Ends _ _ _ _ _ _ _ T1 (mkF m 7 #[.val (.int p0)] [(.int p0)])
  obtain ⟨T2, v2, L2, X2, hQ2, st2⟩ := own_callS X1 hx hZ (y := (⟨"java/lang/StringLatin1", "canEncode", "(C)Z"⟩ : MethodName)) hown (hw _ (List.mem_of_getElem? (i := 102) rfl)) (hw _ (List.mem_of_getElem? (i := 103) rfl)) (hw _ (List.mem_of_getElem? (i := 104) rfl)) (hw _ (List.mem_of_getElem? (i := 105) rfl)) (by decide) (rm14 l Z a0 hw [] p0 h0 n0 Z0 hc) e1 (g := (mkF m 7 #[.val (.int p0)] [(.int p0)])) rfl (by rw [hml]; rfl) [(.int p0)] [] rfl (lenOf pd__C_Z rfl) rfl 0 (by show 2 * 0 + _ ≤ _; exact Nat.le_of_eq rfl) (hb hby d13_7) (by decide) (by decide) (by decide) (by decide)
  obtain ⟨rfl, N2q, e2⟩ := hQ2
  refine own_go st2 ?_
  have N2 := Fr.app N0 N2q
  show own_Ends _ _ _ _ _ _ _ T2 (mkF m 10 #[.val (.int p0)] [(.int (1 : Int32))])
  refine own_go (fun t_ k_ => XS.ifNo X2.here hx rfl (hb hby d13_10) rfl ((if0 _ _).trans (feq (by decide : ¬ ((1 : Int32) = (0 : Int32)))).1) k_) ?_
  show own_Ends _ _ _ _ _ _ _ T2 (mkF m 13 #[.val (.int p0)] [])
  obtain ⟨T3, h3, X3, e3, E3, A3, D3, -, st3⟩ := newO X2 hx hZ hown (hw _ (List.mem_of_getElem? (i := 106) rfl)) (hw _ (List.mem_of_getElem? (i := 31) rfl)) (hw _ (List.mem_of_getElem? (i := 32) rfl)) e2 (g := (mkF m 13 #[.val (.int p0)] [])) rfl (hb hby d13_13) (by decide) (by decide)
  obtain ⟨b3, g3⟩ : ∃ z, z = h0.size := ⟨_, rfl⟩
  rw [← g3] at A3 D3 st3
  refine own_go st3 ?_
  have g_b3 : n0 ≤ b3 := Nat.le_trans Z0 (Nat.le_of_eq g3.symm)
  have sz_b3 : h0.size ≤ b3 := Nat.le_trans (Keep.refl h0 []).1 (Nat.le_of_eq g3.symm)
  have K3 := Keep.ext (Keep.refl h0 []) E3
  have F3_coder : Fld Z h3 b3 "java/lang/String" "coder" "B" (.int (0 : Int32)) := D3 (Or.inr (hw _ (List.mem_of_getElem? (i := 56) rfl))) (ty := .byte) (by decide)
  have F3_value : Fld Z h3 b3 "java/lang/String" "value" "[B" .null := D3 (Or.inr (hw _ (List.mem_of_getElem? (i := 58) rfl))) (ty := (.array .byte)) (by decide)
  show own_Ends _ _ _ _ _ _ _ T3 (mkF m 16 #[.val (.int p0)] [(.ref b3)])
  refine own_go (fun t_ k_ => XS.dup X3.here hx rfl (hb hby d13_16) rfl rfl k_) ?_
  show own_Ends _ _ _ _ _ _ _ T3 (mkF m 17 #[.val (.int p0)] [(.ref b3), (.ref b3)])
  refine own_go (fun t_ k_ => XS.iloadN X3.here hx rfl (hb hby d13_17) rfl  k_) ?_
  show own_Ends _ _ _ _ _ _ _ T3 (mkF m 18 #[.val (.int p0)] [(.int p0), (.ref b3), (.ref b3)])
  have Nsk4 : ∀ x ∈ ([] : List Addr), ∀ cell : Cell, h3[x]? = some cell → cell.vm.isStatics = false := ns0
  obtain ⟨T5, v5, L5, X5, hQ5, st5⟩ := own_callS X3 hx hZ (y := (⟨"java/lang/StringLatin1", "toBytes", "(C)[B"⟩ : MethodName)) hown (hw _ (List.mem_of_getElem? (i := 107) rfl)) (hw _ (List.mem_of_getElem? (i := 108) rfl)) (hw _ (List.mem_of_getElem? (i := 104) rfl)) (hw _ (List.mem_of_getElem? (i := 109) rfl)) (by decide) (rm15 l Z a0 hw [] p0 h3 n0 (Nat.le_trans Z0 E3.1)) e3 (g := (mkF m 18 #[.val (.int p0)] [(.int p0), (.ref b3), (.ref b3)])) rfl (by rw [hml]; rfl) [(.int p0)] [(.ref b3), (.ref b3)] rfl (lenOf pd__C__B rfl) rfl 2 (by show 2 * 0 + _ ≤ _; exact Nat.le_of_eq rfl) (hb hby d13_18) (by decide) (by decide) (by decide) (by decide)
  obtain ⟨tb5, kb5, rfl, N5q, Kq5, lb5, Aq5⟩ := hQ5
  refine own_go st5 ?_
  have N5 := Fr.app N2 N5q
  have K5 := Keep.trans K3 Kq5 all0
  show own_Ends _ _ _ _ _ _ _ T5 (mkF m 21 #[.val (.int p0)] [(.ref tb5), (.ref b3), (.ref b3)])
  refine own_go (fun t_ k_ => XS.iconst X5.here hx rfl (hb hby d13_21) k_) ?_
  show own_Ends _ _ _ _ _ _ _ T5 (mkF m 22 #[.val (.int p0)] [(.int (0 : Int32)), (.ref tb5), (.ref b3), (.ref b3)])
  have Nsk6 : ∀ x ∈ ([b3] : List Addr), ∀ cell : Cell, T5.heap[x]? = some cell → cell.vm.isStatics = false := (nsS (Exa.nostat (A3.keep Kq5)) ns0)
  obtain ⟨T7, v7, L7, X7, hQ7, st7⟩ := own_callN X5 hx hZ (y := (⟨"java/lang/String", "<init>", "([BB)V"⟩ : MethodName)) rfl hown (hw _ (List.mem_of_getElem? (i := 110) rfl)) (hw _ (List.mem_of_getElem? (i := 111) rfl)) (hw _ (List.mem_of_getElem? (i := 32) rfl)) (hw _ (List.mem_of_getElem? (i := 112) rfl)) (by decide) (rm16 l Z a0 hw [] b3 tb5 (0 : Int32) T5.heap n0 (Nat.le_trans (Nat.le_trans Z0 E3.1) Kq5.1)  (A3.keep Kq5) (F3_coder.keep Kq5 nin0) (F3_value.keep Kq5 nin0) g_b3) rfl (g := (mkF m 22 #[.val (.int p0)] [(.int (0 : Int32)), (.ref tb5), (.ref b3), (.ref b3)])) rfl (by rw [hml]; rfl) b3 [(.ref tb5), (.int (0 : Int32))] [(.ref b3)] rfl (lenOf pd___BB_V rfl) rfl 1 (by show 2 * 0 + _ ≤ _; exact Nat.le_of_eq rfl) (hb hby d13_22) (by decide) (by decide) (by decide) (by decide)
  obtain ⟨rfl, N7q, Kq7, Eq7, Fq7_0, Fq7_1⟩ := hQ7
  refine own_go st7 ?_
  have N7 := Fr.app N5 N7q
  have K7 := Keep.trans K5 Kq7 (allS (Or.inr sz_b3) all0)
  show own_Ends _ _ _ _ _ _ _ T7 (mkF m 25 #[.val (.int p0)] [(.ref b3)])
  refine own_retR X7 hx hlk hret rfl rfl (hb hby d13_25) rfl (by decide) (by decide) ?_
  exact ⟨b3, tb5, kb5, rfl, N7, K7, sz_b3, ((A3.keep Kq5).keep Kq7), Fq7_1, Fq7_0, (Aq5.keep Kq7 (ninS (Ne.symm (Nat.ne_of_lt (Nat.lt_of_lt_of_le A3.lt lb5))) nin0))⟩
theorem d10_0 : decode prog_2_method_1_code 0 = .ok (.aload_n 0, 1) := by decide +kernel
theorem d10_1 : decode prog_2_method_1_code 1 = .ok (.aload_n 1, 1) := by decide +kernel
theorem d10_2 : decode prog_2_method_1_code 2 = .ok (.putfield 1, 3) := by decide +kernel
theorem d10_5 : decode prog_2_method_1_code 5 = .ok (.aload_n 0, 1) := by decide +kernel
theorem d10_6 : decode prog_2_method_1_code 6 = .ok (.aload_n 2, 1) := by decide +kernel
theorem d10_7 : decode prog_2_method_1_code 7 = .ok (.putfield 7, 3) := by decide +kernel
theorem d10_10 : decode prog_2_method_1_code 10 = .ok (.aload_n 0, 1) := by decide +kernel
theorem d10_11 : decode prog_2_method_1_code 11 = .ok (.invokespecial 11, 3) := by decide +kernel
theorem d10_14 : decode prog_2_method_1_code 14 = .ok (.return_, 1) := by decide +kernel
theorem pn10 : plainFor (⟨"com/example/quayside/quayside/Answer$1", "<init>", "(Lcom/example/quayside/quayside/Outcome;Ljava/lang/String;)V"⟩ : MethodName) = true := plainFor_of_name (by first | (simp [plainName, overriddenIn]; done) | decide +kernel)
set_option maxRecDepth 65536 in
set_option maxHeartbeats 40000000 in
theorem rm10 (l : Launch) (Z : State) (a0 : Array Value) (hw : ∀ d ∈ tables_1, d.before a0 Z = true) (ws : List Jvm.Cond)  (t : Addr) (oc : Addr) (tx : Value) (h0 : Heap) (n0 : Nat) (Z0 : n0 ≤ h0.size)  (htx : tx.isRef = true) (Et : Exa Z h0 t "com/example/quayside/quayside/Answer$1") (F_val_outcome : Fld Z h0 t "com/example/quayside/quayside/Answer$1" "val$outcome" "Lcom/example/quayside/quayside/Outcome;" .null) (F_val_text : Fld Z h0 t "com/example/quayside/quayside/Answer$1" "val$text" "Ljava/lang/String;" .null) (g_t : n0 ≤ t) :
    own_Met l (⟨"com/example/quayside/quayside/Answer$1", "<init>", "(Lcom/example/quayside/quayside/Outcome;Ljava/lang/String;)V"⟩ : MethodName) prog_2_method_1_code 3 none ({ frames := 1, cells := 0, slots := 0, locals := 12 } : Room) ws #[(.ref t), (.ref oc), tx] Z h0 (fun v h L => v = none ∧ Fr n0 L ∧ Keep h0 h [t] ∧ Exa Z h t "com/example/quayside/quayside/Answer$1" ∧ Fld Z h t "com/example/quayside/quayside/Answer$1" "val$outcome" "Lcom/example/quayside/quayside/Outcome;" (.ref oc) ∧ Fld Z h t "com/example/quayside/quayside/Answer$1" "val$text" "Ljava/lang/String;" tx) := by
  refine own_met pn10 ?_
  intro p e s m below meth c s₁ hx X0 hZ e0 hby hml hown hnm hret hlk
  have N0 := Fr.nil n0
  refine own_at (f' := mkF m 0 #[.val (.ref t), .val (.ref oc), .val tx] []) (by rcases ref_cases htx with rfl | ⟨z_, rfl⟩ <;> first | (simp [entryFrame, mkF, argsToLocals, Value.category]; done) | rfl) ?_
  show own_Ends _ _ _ _ _ _ _ s₁ (mkF m 0 #[.val (.ref t), .val (.ref oc), .val tx] [])
  refine own_go (fun t_ k_ => XS.aloadN X0.here hx rfl (hb hby d10_0) rfl rfl  k_) ?_
  show own_Ends _ _ _ _ _ _ _ s₁ (mkF m 1 #[.val (.ref t), .val (.ref oc), .val tx] [(.ref t)])
  refine own_go (fun t_ k_ => XS.aloadN X0.here hx rfl (hb hby d10_1) rfl rfl  k_) ?_
  show own_Ends _ _ _ _ _ _ _ s₁ (mkF m 2 #[.val (.ref t), .val (.ref oc), .val tx] [(.ref oc), (.ref t)])
  obtain ⟨T2, h2, X2, e2, W2, st2⟩ := putF X0 hx hZ hown (host := "") (Or.inl (hw _ (List.mem_of_getElem? (i := 77) rfl))) Via.refl e0 F_val_outcome Et (Or.inr ⟨(hw _ (List.mem_of_getElem? (i := 78) rfl)), rfl, hnm⟩) (hw _ (List.mem_of_getElem? (i := 72) rfl)) (ty := (.object "com/example/quayside/quayside/Outcome")) (by decide) rfl rfl (g := (mkF m 2 #[.val (.ref t), .val (.ref oc), .val tx] [(.ref oc), (.ref t)])) rfl rfl (hb hby d10_2)
  refine own_go st2 ?_
  have Fw2 := Fld.same W2 F_val_outcome
  have N2 := Fr.snoc X2 N0 g_t
  have K2 := Keep.wr (Keep.refl h0 [t]) W2 (Or.inl (List.mem_of_getElem? (i := 0) rfl))
  show own_Ends _ _ _ _ _ _ _ T2 (mkF m 5 #[.val (.ref t), .val (.ref oc), .val tx] [])
  refine own_go (fun t_ k_ => XS.aloadN X2.here hx rfl (hb hby d10_5) rfl rfl  k_) ?_
  show own_Ends _ _ _ _ _ _ _ T2 (mkF m 6 #[.val (.ref t), .val (.ref oc), .val tx] [(.ref t)])
  refine own_go (fun t_ k_ => XS.aloadN X2.here hx rfl (hb hby d10_6) rfl htx  k_) ?_
  show own_Ends _ _ _ _ _ _ _ T2 (mkF m 7 #[.val (.ref t), .val (.ref oc), .val tx] [tx, (.ref t)])
  obtain ⟨T4, h4, X4, e4, W4, st4⟩ := putF X2 hx hZ hown (host := "") (Or.inl (hw _ (List.mem_of_getElem? (i := 79) rfl))) Via.refl e2 (F_val_text.other W2 (Or.inr (slot_ne (Or.inr (hw _ (List.mem_of_getElem? (i := 80) rfl))) (Or.inr (hw _ (List.mem_of_getElem? (i := 78) rfl))) (by decide) (t := (.object "java/lang/String")) (t' := (.object "com/example/quayside/quayside/Outcome")) (by decide) (by decide)))) (Et.wr W2) (Or.inr ⟨(hw _ (List.mem_of_getElem? (i := 80) rfl)), rfl, hnm⟩) (hw _ (List.mem_of_getElem? (i := 72) rfl)) (ty := (.object "java/lang/String")) (by decide) (own_narR rfl) (own_fitR htx rfl) (g := (mkF m 7 #[.val (.ref t), .val (.ref oc), .val tx] [tx, (.ref t)])) rfl rfl (hb hby d10_7)
  refine own_go st4 ?_
  have Fw4 := Fld.same W4 (F_val_text.other W2 (Or.inr (slot_ne (Or.inr (hw _ (List.mem_of_getElem? (i := 80) rfl))) (Or.inr (hw _ (List.mem_of_getElem? (i := 78) rfl))) (by decide) (t := (.object "java/lang/String")) (t' := (.object "com/example/quayside/quayside/Outcome")) (by decide) (by decide))))
  have N4 := Fr.snoc X4 N2 g_t
  have K4 := Keep.wr K2 W4 (Or.inl (List.mem_of_getElem? (i := 0) rfl))
  show own_Ends _ _ _ _ _ _ _ T4 (mkF m 10 #[.val (.ref t), .val (.ref oc), .val tx] [])
  refine own_go (fun t_ k_ => XS.aloadN X4.here hx rfl (hb hby d10_10) rfl rfl  k_) ?_
  show own_Ends _ _ _ _ _ _ _ T4 (mkF m 11 #[.val (.ref t), .val (.ref oc), .val tx] [(.ref t)])
  obtain ⟨T5, X5, e5, st5⟩ := initO X4 hx hZ hown (hw _ (List.mem_of_getElem? (i := 81) rfl)) (hw _ (List.mem_of_getElem? (i := 41) rfl)) (hw _ (List.mem_of_getElem? (i := 42) rfl)) e4 (g := (mkF m 11 #[.val (.ref t), .val (.ref oc), .val tx] [(.ref t)])) rfl (by rw [hml]; rfl) rfl (hb hby d10_11) (by decide) (W := 0) (by show 2 * 0 + _ ≤ _; exact Nat.le_of_eq rfl) (by decide)
  refine own_go st5 ?_
  show own_Ends _ _ _ _ _ _ _ T5 (mkF m 14 #[.val (.ref t), .val (.ref oc), .val tx] [])
  refine own_retV X5 hx hlk hret (hb hby d10_14) e5 (by decide) (by decide) ?_
  exact ⟨rfl, N4, K4, ((Et.wr W2).wr W4), (Fw2.other W4 (Or.inr (slot_ne (Or.inr (hw _ (List.mem_of_getElem? (i := 78) rfl))) (Or.inr (hw _ (List.mem_of_getElem? (i := 80) rfl))) (by decide) (t := (.object "com/example/quayside/quayside/Outcome")) (t' := (.object "java/lang/String")) (by decide) (by decide)))), Fw4⟩
theorem d11_0 : decode prog_2_method_2_code 0 = .ok (.aload_n 0, 1) := by decide +kernel
theorem d11_1 : decode prog_2_method_2_code 1 = .ok (.getfield 1, 3) := by decide +kernel
theorem d11_4 : decode prog_2_method_2_code 4 = .ok (.areturn, 1) := by decide +kernel
theorem pn11 : plainFor (⟨"com/example/quayside/quayside/Answer$1", "outcome", "()Lcom/example/quayside/quayside/Outcome;"⟩ : MethodName) = true := plainFor_of_name (by first | (simp [plainName, overriddenIn]; done) | decide +kernel)
set_option maxRecDepth 65536 in
set_option maxHeartbeats 40000000 in
theorem rm11 (l : Launch) (Z : State) (a0 : Array Value) (hw : ∀ d ∈ tables_1, d.before a0 Z = true) (ws : List Jvm.Cond)  (t : Addr) (u : Value) (h0 : Heap) (n0 : Nat) (Z0 : n0 ≤ h0.size) (hu : u.isRef = true) (Ft : Fld Z h0 t "com/example/quayside/quayside/Answer$1" "val$outcome" "Lcom/example/quayside/quayside/Outcome;" u) :
    own_Met l (⟨"com/example/quayside/quayside/Answer$1", "outcome", "()Lcom/example/quayside/quayside/Outcome;"⟩ : MethodName) prog_2_method_2_code 1 (some (.object "com/example/quayside/quayside/Outcome")) ({ frames := 0, cells := 0, slots := 0, locals := 0 } : Room) ws #[(.ref t)] Z h0 (fun v h L => v = some u ∧ Fr n0 L ∧ h = h0) := by
  refine own_met pn11 ?_
  intro p e s m below meth c s₁ hx X0 hZ e0 hby hml hown hnm hret hlk
  have N0 := Fr.nil n0
  refine own_at (f' := mkF m 0 #[.val (.ref t)] []) (by first | (simp [entryFrame, mkF, argsToLocals, Value.category]; done) | rfl) ?_
  show own_Ends _ _ _ _ _ _ _ s₁ (mkF m 0 #[.val (.ref t)] [])
  refine own_go (fun t_ k_ => XS.aloadN X0.here hx rfl (hb hby d11_0) rfl rfl  k_) ?_
  show own_Ends _ _ _ _ _ _ _ s₁ (mkF m 1 #[.val (.ref t)] [(.ref t)])
  obtain ⟨T1, X1, e1, st1⟩ := getF X0 hx hZ hown (host := "") (Or.inl (hw _ (List.mem_of_getElem? (i := 77) rfl))) Via.refl e0 Ft (g := (mkF m 1 #[.val (.ref t)] [(.ref t)])) rfl rfl (hb hby d11_1)
  refine own_go st1 ?_
  show own_Ends _ _ _ _ _ _ _ T1 (mkF m 4 #[.val (.ref t)] [u])
  refine own_retR X1 hx hlk hret rfl hu (hb hby d11_4) e1 (by decide) (by decide) ?_
  exact ⟨rfl, N0, rfl⟩
theorem d12_0 : decode prog_2_method_3_code 0 = .ok (.aload_n 0, 1) := by decide +kernel
theorem d12_1 : decode prog_2_method_3_code 1 = .ok (.getfield 7, 3) := by decide +kernel
theorem d12_4 : decode prog_2_method_3_code 4 = .ok (.areturn, 1) := by decide +kernel
theorem pn12 : plainFor (⟨"com/example/quayside/quayside/Answer$1", "text", "()Ljava/lang/String;"⟩ : MethodName) = true := plainFor_of_name (by first | (simp [plainName, overriddenIn]; done) | decide +kernel)
set_option maxRecDepth 65536 in
set_option maxHeartbeats 40000000 in
theorem rm12 (l : Launch) (Z : State) (a0 : Array Value) (hw : ∀ d ∈ tables_1, d.before a0 Z = true) (ws : List Jvm.Cond)  (t : Addr) (u : Value) (h0 : Heap) (n0 : Nat) (Z0 : n0 ≤ h0.size) (hu : u.isRef = true) (Ft : Fld Z h0 t "com/example/quayside/quayside/Answer$1" "val$text" "Ljava/lang/String;" u) :
    own_Met l (⟨"com/example/quayside/quayside/Answer$1", "text", "()Ljava/lang/String;"⟩ : MethodName) prog_2_method_3_code 1 (some (.object "java/lang/String")) ({ frames := 0, cells := 0, slots := 0, locals := 0 } : Room) ws #[(.ref t)] Z h0 (fun v h L => v = some u ∧ Fr n0 L ∧ h = h0) := by
  refine own_met pn12 ?_
  intro p e s m below meth c s₁ hx X0 hZ e0 hby hml hown hnm hret hlk
  have N0 := Fr.nil n0
  refine own_at (f' := mkF m 0 #[.val (.ref t)] []) (by first | (simp [entryFrame, mkF, argsToLocals, Value.category]; done) | rfl) ?_
  show own_Ends _ _ _ _ _ _ _ s₁ (mkF m 0 #[.val (.ref t)] [])
  refine own_go (fun t_ k_ => XS.aloadN X0.here hx rfl (hb hby d12_0) rfl rfl  k_) ?_
  show own_Ends _ _ _ _ _ _ _ s₁ (mkF m 1 #[.val (.ref t)] [(.ref t)])
  obtain ⟨T1, X1, e1, st1⟩ := getF X0 hx hZ hown (host := "") (Or.inl (hw _ (List.mem_of_getElem? (i := 79) rfl))) Via.refl e0 Ft (g := (mkF m 1 #[.val (.ref t)] [(.ref t)])) rfl rfl (hb hby d12_1)
  refine own_go st1 ?_
  show own_Ends _ _ _ _ _ _ _ T1 (mkF m 4 #[.val (.ref t)] [u])
  refine own_retR X1 hx hlk hret rfl hu (hb hby d12_4) e1 (by decide) (by decide) ?_
  exact ⟨rfl, N0, rfl⟩
theorem d9_0 : decode jdk_31_method_11_code 0 = .ok (.aload_n 0, 1) := by decide +kernel
theorem d9_1 : decode jdk_31_method_11_code 1 = .ok (.ifnonnull 12, 3) := by decide +kernel
theorem d9_13 : decode jdk_31_method_11_code 13 = .ok (.aload_n 0, 1) := by decide +kernel
theorem d9_14 : decode jdk_31_method_11_code 14 = .ok (.areturn, 1) := by decide +kernel
theorem pn9 : plainFor (⟨"java/util/Objects", "requireNonNull", "(Ljava/lang/Object;Ljava/lang/String;)Ljava/lang/Object;"⟩ : MethodName) = true := plainFor_of_name (by first | (simp [plainName, overriddenIn]; done) | decide +kernel)
set_option maxRecDepth 65536 in
set_option maxHeartbeats 40000000 in
theorem rm9 (l : Launch) (Z : State) (a0 : Array Value) (hw : ∀ d ∈ tables_1, d.before a0 Z = true) (ws : List Jvm.Cond)  (a0_ a1_ : Addr) (h0 : Heap) (n0 : Nat) (Z0 : n0 ≤ h0.size)  :
    own_Met l (⟨"java/util/Objects", "requireNonNull", "(Ljava/lang/Object;Ljava/lang/String;)Ljava/lang/Object;"⟩ : MethodName) jdk_31_method_11_code 2 (some (.object "java/lang/Object")) ({ frames := 0, cells := 0, slots := 0, locals := 0 } : Room) ws #[(.ref a0_), (.ref a1_)] Z h0 (fun v h L => v = some (.ref a0_) ∧ Fr n0 L ∧ h = h0) := by
  refine own_met pn9 ?_
  intro p e s m below meth c s₁ hx X0 hZ e0 hby hml hown hnm hret hlk
  have N0 := Fr.nil n0
  refine own_at (f' := mkF m 0 #[.val (.ref a0_), .val (.ref a1_)] []) (by first | (simp [entryFrame, mkF, argsToLocals, Value.category]; done) | rfl) ?_
  show own_Ends _ _ _ _ _ _ _ s₁ (mkF m 0 #[.val (.ref a0_), .val (.ref a1_)] [])
  refine own_go (fun t_ k_ => XS.aloadN X0.here hx rfl (hb hby d9_0) rfl rfl  k_) ?_
  show own_Ends _ _ _ _ _ _ _ s₁ (mkF m 1 #[.val (.ref a0_), .val (.ref a1_)] [(.ref a0_)])
  refine own_go (fun t_ k_ => XT.ifnonnullYes X0.here hx rfl (pc0 := 1) (pc' := 13) rfl (hb hby d9_1) rfl (by decide) (by decide) k_) ?_
  show own_Ends _ _ _ _ _ _ _ s₁ (mkF m 13 #[.val (.ref a0_), .val (.ref a1_)] [])
  refine own_go (fun t_ k_ => XS.aloadN X0.here hx rfl (hb hby d9_13) rfl rfl  k_) ?_
  show own_Ends _ _ _ _ _ _ _ s₁ (mkF m 14 #[.val (.ref a0_), .val (.ref a1_)] [(.ref a0_)])
  refine own_retR X0 hx hlk hret rfl rfl (hb hby d9_14) e0 (by decide) (by decide) ?_
  exact ⟨rfl, N0, rfl⟩
theorem d1_0 : decode method_2_code 0 = .ok (.iload_n 1, 1) := by decide +kernel
theorem d1_1 : decode method_2_code 1 = .ok (.sipush 255, 3) := by decide +kernel
theorem d1_4 : decode method_2_code 4 = .ok (.iand, 1) := by decide +kernel
theorem d1_5 : decode method_2_code 5 = .ok (.i2c, 1) := by decide +kernel
theorem d1_6 : decode method_2_code 6 = .ok (.istore_n 2, 1) := by decide +kernel
theorem d1_7 : decode method_2_code 7 = .ok (.iload_n 1, 1) := by decide +kernel
theorem d1_8 : decode method_2_code 8 = .ok (.bipush 8, 2) := by decide +kernel
theorem d1_10 : decode method_2_code 10 = .ok (.iushr, 1) := by decide +kernel
theorem d1_11 : decode method_2_code 11 = .ok (.sipush 255, 3) := by decide +kernel
theorem d1_14 : decode method_2_code 14 = .ok (.iand, 1) := by decide +kernel
theorem d1_15 : decode method_2_code 15 = .ok (.i2c, 1) := by decide +kernel
theorem d1_16 : decode method_2_code 16 = .ok (.istore_n 3, 1) := by decide +kernel
theorem d1_17 : decode method_2_code 17 = .ok (.iload_n 1, 1) := by decide +kernel
theorem d1_18 : decode method_2_code 18 = .ok (.bipush 16, 2) := by decide +kernel
theorem d1_20 : decode method_2_code 20 = .ok (.iushr, 1) := by decide +kernel
theorem d1_21 : decode method_2_code 21 = .ok (.sipush 255, 3) := by decide +kernel
theorem d1_24 : decode method_2_code 24 = .ok (.iand, 1) := by decide +kernel
theorem d1_25 : decode method_2_code 25 = .ok (.i2c, 1) := by decide +kernel
theorem d1_26 : decode method_2_code 26 = .ok (.istore 4, 2) := by decide +kernel
theorem d1_28 : decode method_2_code 28 = .ok (.iload_n 0, 1) := by decide +kernel
theorem d1_29 : decode method_2_code 29 = .ok (.ifCond .ne 5, 3) := by decide +kernel
theorem d1_32 : decode method_2_code 32 = .ok (.aconst_null, 1) := by decide +kernel
theorem d1_33 : decode method_2_code 33 = .ok (.areturn, 1) := by decide +kernel
theorem d1_34 : decode method_2_code 34 = .ok (.iload_n 0, 1) := by decide +kernel
theorem d1_35 : decode method_2_code 35 = .ok (.iconst 1, 1) := by decide +kernel
theorem d1_36 : decode method_2_code 36 = .ok (.if_icmp .ne 14, 3) := by decide +kernel
theorem d1_39 : decode method_2_code 39 = .ok (.new 7, 3) := by decide +kernel
theorem d1_42 : decode method_2_code 42 = .ok (.dup, 1) := by decide +kernel
theorem d1_43 : decode method_2_code 43 = .ok (.iconst 0, 1) := by decide +kernel
theorem d1_44 : decode method_2_code 44 = .ok (.newarray .char, 2) := by decide +kernel
theorem d1_46 : decode method_2_code 46 = .ok (.invokespecial 9, 3) := by decide +kernel
theorem pd___C_V : parseMethodDescriptor "([C)V" = some ⟨[(.array .char)], none⟩ := by decide +kernel
theorem d1_49 : decode method_2_code 49 = .ok (.areturn, 1) := by decide +kernel
theorem d1_50 : decode method_2_code 50 = .ok (.iload_n 0, 1) := by decide +kernel
theorem d1_51 : decode method_2_code 51 = .ok (.iconst 2, 1) := by decide +kernel
theorem d1_52 : decode method_2_code 52 = .ok (.if_icmp .ne 8, 3) := by decide +kernel
theorem d1_55 : decode method_2_code 55 = .ok (.iload_n 2, 1) := by decide +kernel
theorem d1_56 : decode method_2_code 56 = .ok (.invokestatic 12, 3) := by decide +kernel
theorem pd__C_Ljava_lang_String_ : parseMethodDescriptor "(C)Ljava/lang/String;" = some ⟨[.char], some (.object "java/lang/String")⟩ := by decide +kernel
theorem d1_59 : decode method_2_code 59 = .ok (.areturn, 1) := by decide +kernel
theorem d1_60 : decode method_2_code 60 = .ok (.iload_n 0, 1) := by decide +kernel
theorem d1_61 : decode method_2_code 61 = .ok (.iconst 3, 1) := by decide +kernel
theorem d1_62 : decode method_2_code 62 = .ok (.if_icmp .ne 28, 3) := by decide +kernel
theorem d1_65 : decode method_2_code 65 = .ok (.iconst 2, 1) := by decide +kernel
theorem d1_66 : decode method_2_code 66 = .ok (.newarray .char, 2) := by decide +kernel
theorem d1_68 : decode method_2_code 68 = .ok (.astore 5, 2) := by decide +kernel
theorem d1_70 : decode method_2_code 70 = .ok (.aload 5, 2) := by decide +kernel
theorem d1_72 : decode method_2_code 72 = .ok (.iconst 0, 1) := by decide +kernel
theorem d1_73 : decode method_2_code 73 = .ok (.iload_n 2, 1) := by decide +kernel
theorem d1_74 : decode method_2_code 74 = .ok (.castore, 1) := by decide +kernel
theorem d1_75 : decode method_2_code 75 = .ok (.aload 5, 2) := by decide +kernel
theorem d1_77 : decode method_2_code 77 = .ok (.iconst 1, 1) := by decide +kernel
theorem d1_78 : decode method_2_code 78 = .ok (.iload_n 3, 1) := by decide +kernel
theorem d1_79 : decode method_2_code 79 = .ok (.castore, 1) := by decide +kernel
theorem d1_80 : decode method_2_code 80 = .ok (.new 7, 3) := by decide +kernel
theorem d1_83 : decode method_2_code 83 = .ok (.dup, 1) := by decide +kernel
theorem d1_84 : decode method_2_code 84 = .ok (.aload 5, 2) := by decide +kernel
theorem d1_86 : decode method_2_code 86 = .ok (.invokespecial 9, 3) := by decide +kernel
theorem d1_89 : decode method_2_code 89 = .ok (.areturn, 1) := by decide +kernel
theorem d1_90 : decode method_2_code 90 = .ok (.iconst 3, 1) := by decide +kernel
theorem d1_91 : decode method_2_code 91 = .ok (.newarray .char, 2) := by decide +kernel
theorem d1_93 : decode method_2_code 93 = .ok (.astore 5, 2) := by decide +kernel
theorem d1_95 : decode method_2_code 95 = .ok (.aload 5, 2) := by decide +kernel
theorem d1_97 : decode method_2_code 97 = .ok (.iconst 0, 1) := by decide +kernel
theorem d1_98 : decode method_2_code 98 = .ok (.iload_n 2, 1) := by decide +kernel
theorem d1_99 : decode method_2_code 99 = .ok (.castore, 1) := by decide +kernel
theorem d1_100 : decode method_2_code 100 = .ok (.aload 5, 2) := by decide +kernel
theorem d1_102 : decode method_2_code 102 = .ok (.iconst 1, 1) := by decide +kernel
theorem d1_103 : decode method_2_code 103 = .ok (.iload_n 3, 1) := by decide +kernel
theorem d1_104 : decode method_2_code 104 = .ok (.castore, 1) := by decide +kernel
theorem d1_105 : decode method_2_code 105 = .ok (.aload 5, 2) := by decide +kernel
theorem d1_107 : decode method_2_code 107 = .ok (.iconst 2, 1) := by decide +kernel
theorem d1_108 : decode method_2_code 108 = .ok (.iload 4, 2) := by decide +kernel
theorem d1_110 : decode method_2_code 110 = .ok (.castore, 1) := by decide +kernel
theorem d1_111 : decode method_2_code 111 = .ok (.new 7, 3) := by decide +kernel
theorem d1_114 : decode method_2_code 114 = .ok (.dup, 1) := by decide +kernel
theorem d1_115 : decode method_2_code 115 = .ok (.aload 5, 2) := by decide +kernel
theorem d1_117 : decode method_2_code 117 = .ok (.invokespecial 9, 3) := by decide +kernel
theorem d1_120 : decode method_2_code 120 = .ok (.areturn, 1) := by decide +kernel
theorem pn1 : plainFor (⟨"com/example/quayside/quayside/AnswerOfPinLaw", "text", "(II)Ljava/lang/String;"⟩ : MethodName) = true := plainFor_of_name (by first | (simp [plainName, overriddenIn]; done) | decide +kernel)
set_option maxRecDepth 65536 in
set_option maxHeartbeats 40000000 in
theorem rm1 (l : Launch) (Z : State) (a0 : Array Value) (hw : ∀ d ∈ tables_1, d.before a0 Z = true) (ws : List Jvm.Cond) (p0 : Int32) (p1 : Int32) (zc : Int32) (h0 : Heap) (n0 : Nat) (Z0 : n0 ≤ h0.size) (SC : Sta Z h0 "java/lang/String" "COMPACT_STRINGS" "Z" (.int zc)) (hzc : ¬ zc = 0) :
    own_MetW l (⟨"com/example/quayside/quayside/AnswerOfPinLaw", "text", "(II)Ljava/lang/String;"⟩ : MethodName) method_2_code 6 (some (.object "java/lang/String")) ({ frames := 4, cells := 6, slots := 12, locals := 66 } : Room) ws #[(.int p0), (.int p1)] Z own_EL h0 (fun v h L => ∃ u : Value, v = some u ∧ u.isRef = true ∧ Fr n0 L ∧ Keep h0 h []) := by
  refine own_metW pn1 ?_
  intro p e s m below meth c s₁ hx X0 hZ e0 hby hml hown hnm hret hlk Iv0
  have N0 := Fr.nil n0
  refine own_atW (f' := mkF m 0 #[.val (.int p0), .val (.int p1), .unset, .unset, .unset, .unset] []) (by first | (simp [entryFrame, mkF, argsToLocals, Value.category]; done) | rfl) ?_
  show own_EndsW _ _ _ _ _ _ _ _ _ s₁ (mkF m 0 #[.val (.int p0), .val (.int p1), .unset, .unset, .unset, .unset] [])
  refine own_goW (fun t_ k_ => XS.iloadN X0.here hx rfl (hb hby d1_0) rfl  k_) ?_
  show own_EndsW _ _ _ _ _ _ _ _ _ s₁ (mkF m 1 #[.val (.int p0), .val (.int p1), .unset, .unset, .unset, .unset] [(.int p1)])
  refine own_goW (fun t_ k_ => XS.sipush X0.here hx rfl (hb hby d1_1) k_) ?_
  show own_EndsW _ _ _ _ _ _ _ _ _ s₁ (mkF m 4 #[.val (.int p0), .val (.int p1), .unset, .unset, .unset, .unset] [(.int (255 : Int32)), (.int p1)])
  refine own_goW (fun t_ k_ => XS.iand X0.here hx rfl (hb hby d1_4) rfl k_) ?_
  show own_EndsW _ _ _ _ _ _ _ _ _ s₁ (mkF m 5 #[.val (.int p0), .val (.int p1), .unset, .unset, .unset, .unset] [(.int (p1 &&& (255 : Int32)))])
  refine own_goW (fun t_ k_ => XT.i2c X0.here hx rfl (hb hby d1_5) rfl k_) ?_
  show own_EndsW _ _ _ _ _ _ _ _ _ s₁ (mkF m 6 #[.val (.int p0), .val (.int p1), .unset, .unset, .unset, .unset] [(.int ((p1 &&& (255 : Int32)).toUInt32.toUInt16.toUInt32.toInt32))])
  refine own_goW (fun t_ k_ => XS.istoreN X0.here hx rfl (hb hby d1_6) rfl (l' := #[.val (.int p0), .val (.int p1), .val (.int ((p1 &&& (255 : Int32)).toUInt32.toUInt16.toUInt32.toInt32)), .unset, .unset, .unset]) rfl k_) ?_
  show own_EndsW _ _ _ _ _ _ _ _ _ s₁ (mkF m 7 #[.val (.int p0), .val (.int p1), .val (.int ((p1 &&& (255 : Int32)).toUInt32.toUInt16.toUInt32.toInt32)), .unset, .unset, .unset] [])
  refine own_goW (fun t_ k_ => XS.iloadN X0.here hx rfl (hb hby d1_7) rfl  k_) ?_
  show own_EndsW _ _ _ _ _ _ _ _ _ s₁ (mkF m 8 #[.val (.int p0), .val (.int p1), .val (.int ((p1 &&& (255 : Int32)).toUInt32.toUInt16.toUInt32.toInt32)), .unset, .unset, .unset] [(.int p1)])
  refine own_goW (fun t_ k_ => XS.bipush X0.here hx rfl (hb hby d1_8) k_) ?_
  show own_EndsW _ _ _ _ _ _ _ _ _ s₁ (mkF m 10 #[.val (.int p0), .val (.int p1), .val (.int ((p1 &&& (255 : Int32)).toUInt32.toUInt16.toUInt32.toInt32)), .unset, .unset, .unset] [(.int (8 : Int32)), (.int p1)])
  refine own_goW (fun t_ k_ => XT.iushr X0.here hx rfl (hb hby d1_10) rfl k_) ?_
  show own_EndsW _ _ _ _ _ _ _ _ _ s₁ (mkF m 11 #[.val (.int p0), .val (.int p1), .val (.int ((p1 &&& (255 : Int32)).toUInt32.toUInt16.toUInt32.toInt32)), .unset, .unset, .unset] [(.int (XT.ushr p1 (8 : Int32)))])
  refine own_goW (fun t_ k_ => XS.sipush X0.here hx rfl (hb hby d1_11) k_) ?_
  show own_EndsW _ _ _ _ _ _ _ _ _ s₁ (mkF m 14 #[.val (.int p0), .val (.int p1), .val (.int ((p1 &&& (255 : Int32)).toUInt32.toUInt16.toUInt32.toInt32)), .unset, .unset, .unset] [(.int (255 : Int32)), (.int (XT.ushr p1 (8 : Int32)))])
  refine own_goW (fun t_ k_ => XS.iand X0.here hx rfl (hb hby d1_14) rfl k_) ?_
  show own_EndsW _ _ _ _ _ _ _ _ _ s₁ (mkF m 15 #[.val (.int p0), .val (.int p1), .val (.int ((p1 &&& (255 : Int32)).toUInt32.toUInt16.toUInt32.toInt32)), .unset, .unset, .unset] [(.int ((XT.ushr p1 (8 : Int32)) &&& (255 : Int32)))])
  refine own_goW (fun t_ k_ => XT.i2c X0.here hx rfl (hb hby d1_15) rfl k_) ?_
  show own_EndsW _ _ _ _ _ _ _ _ _ s₁ (mkF m 16 #[.val (.int p0), .val (.int p1), .val (.int ((p1 &&& (255 : Int32)).toUInt32.toUInt16.toUInt32.toInt32)), .unset, .unset, .unset] [(.int (((XT.ushr p1 (8 : Int32)) &&& (255 : Int32)).toUInt32.toUInt16.toUInt32.toInt32))])
  refine own_goW (fun t_ k_ => XS.istoreN X0.here hx rfl (hb hby d1_16) rfl (l' := #[.val (.int p0), .val (.int p1), .val (.int ((p1 &&& (255 : Int32)).toUInt32.toUInt16.toUInt32.toInt32)), .val (.int (((XT.ushr p1 (8 : Int32)) &&& (255 : Int32)).toUInt32.toUInt16.toUInt32.toInt32)), .unset, .unset]) rfl k_) ?_
  show own_EndsW _ _ _ _ _ _ _ _ _ s₁ (mkF m 17 #[.val (.int p0), .val (.int p1), .val (.int ((p1 &&& (255 : Int32)).toUInt32.toUInt16.toUInt32.toInt32)), .val (.int (((XT.ushr p1 (8 : Int32)) &&& (255 : Int32)).toUInt32.toUInt16.toUInt32.toInt32)), .unset, .unset] [])
  refine own_goW (fun t_ k_ => XS.iloadN X0.here hx rfl (hb hby d1_17) rfl  k_) ?_
  show own_EndsW _ _ _ _ _ _ _ _ _ s₁ (mkF m 18 #[.val (.int p0), .val (.int p1), .val (.int ((p1 &&& (255 : Int32)).toUInt32.toUInt16.toUInt32.toInt32)), .val (.int (((XT.ushr p1 (8 : Int32)) &&& (255 : Int32)).toUInt32.toUInt16.toUInt32.toInt32)), .unset, .unset] [(.int p1)])
  refine own_goW (fun t_ k_ => XS.bipush X0.here hx rfl (hb hby d1_18) k_) ?_
  show own_EndsW _ _ _ _ _ _ _ _ _ s₁ (mkF m 20 #[.val (.int p0), .val (.int p1), .val (.int ((p1 &&& (255 : Int32)).toUInt32.toUInt16.toUInt32.toInt32)), .val (.int (((XT.ushr p1 (8 : Int32)) &&& (255 : Int32)).toUInt32.toUInt16.toUInt32.toInt32)), .unset, .unset] [(.int (16 : Int32)), (.int p1)])
  refine own_goW (fun t_ k_ => XT.iushr X0.here hx rfl (hb hby d1_20) rfl k_) ?_
  show own_EndsW _ _ _ _ _ _ _ _ _ s₁ (mkF m 21 #[.val (.int p0), .val (.int p1), .val (.int ((p1 &&& (255 : Int32)).toUInt32.toUInt16.toUInt32.toInt32)), .val (.int (((XT.ushr p1 (8 : Int32)) &&& (255 : Int32)).toUInt32.toUInt16.toUInt32.toInt32)), .unset, .unset] [(.int (XT.ushr p1 (16 : Int32)))])
  refine own_goW (fun t_ k_ => XS.sipush X0.here hx rfl (hb hby d1_21) k_) ?_
  show own_EndsW _ _ _ _ _ _ _ _ _ s₁ (mkF m 24 #[.val (.int p0), .val (.int p1), .val (.int ((p1 &&& (255 : Int32)).toUInt32.toUInt16.toUInt32.toInt32)), .val (.int (((XT.ushr p1 (8 : Int32)) &&& (255 : Int32)).toUInt32.toUInt16.toUInt32.toInt32)), .unset, .unset] [(.int (255 : Int32)), (.int (XT.ushr p1 (16 : Int32)))])
  refine own_goW (fun t_ k_ => XS.iand X0.here hx rfl (hb hby d1_24) rfl k_) ?_
  show own_EndsW _ _ _ _ _ _ _ _ _ s₁ (mkF m 25 #[.val (.int p0), .val (.int p1), .val (.int ((p1 &&& (255 : Int32)).toUInt32.toUInt16.toUInt32.toInt32)), .val (.int (((XT.ushr p1 (8 : Int32)) &&& (255 : Int32)).toUInt32.toUInt16.toUInt32.toInt32)), .unset, .unset] [(.int ((XT.ushr p1 (16 : Int32)) &&& (255 : Int32)))])
  refine own_goW (fun t_ k_ => XT.i2c X0.here hx rfl (hb hby d1_25) rfl k_) ?_
  show own_EndsW _ _ _ _ _ _ _ _ _ s₁ (mkF m 26 #[.val (.int p0), .val (.int p1), .val (.int ((p1 &&& (255 : Int32)).toUInt32.toUInt16.toUInt32.toInt32)), .val (.int (((XT.ushr p1 (8 : Int32)) &&& (255 : Int32)).toUInt32.toUInt16.toUInt32.toInt32)), .unset, .unset] [(.int (((XT.ushr p1 (16 : Int32)) &&& (255 : Int32)).toUInt32.toUInt16.toUInt32.toInt32))])
  refine own_goW (fun t_ k_ => XS.istore X0.here hx rfl (hb hby d1_26) rfl (l' := #[.val (.int p0), .val (.int p1), .val (.int ((p1 &&& (255 : Int32)).toUInt32.toUInt16.toUInt32.toInt32)), .val (.int (((XT.ushr p1 (8 : Int32)) &&& (255 : Int32)).toUInt32.toUInt16.toUInt32.toInt32)), .val (.int (((XT.ushr p1 (16 : Int32)) &&& (255 : Int32)).toUInt32.toUInt16.toUInt32.toInt32)), .unset]) rfl k_) ?_
  show own_EndsW _ _ _ _ _ _ _ _ _ s₁ (mkF m 28 #[.val (.int p0), .val (.int p1), .val (.int ((p1 &&& (255 : Int32)).toUInt32.toUInt16.toUInt32.toInt32)), .val (.int (((XT.ushr p1 (8 : Int32)) &&& (255 : Int32)).toUInt32.toUInt16.toUInt32.toInt32)), .val (.int (((XT.ushr p1 (16 : Int32)) &&& (255 : Int32)).toUInt32.toUInt16.toUInt32.toInt32)), .unset] [])
  refine own_goW (fun t_ k_ => XS.iloadN X0.here hx rfl (hb hby d1_28) rfl  k_) ?_
  show own_EndsW _ _ _ _ _ _ _ _ _ s₁ (mkF m 29 #[.val (.int p0), .val (.int p1), .val (.int ((p1 &&& (255 : Int32)).toUInt32.toUInt16.toUInt32.toInt32)), .val (.int (((XT.ushr p1 (8 : Int32)) &&& (255 : Int32)).toUInt32.toUInt16.toUInt32.toInt32)), .val (.int (((XT.ushr p1 (16 : Int32)) &&& (255 : Int32)).toUInt32.toUInt16.toUInt32.toInt32)), .unset] [(.int p0)])
  by_cases hc1 : p0 = (0 : Int32)
  · refine own_goW (fun t_ k_ => XS.ifNo X0.here hx rfl (hb hby d1_29) rfl ((if0 _ _).trans (teq hc1).2) k_) ?_
    show own_EndsW _ _ _ _ _ _ _ _ _ s₁ (mkF m 32 #[.val (.int p0), .val (.int p1), .val (.int ((p1 &&& (255 : Int32)).toUInt32.toUInt16.toUInt32.toInt32)), .val (.int (((XT.ushr p1 (8 : Int32)) &&& (255 : Int32)).toUInt32.toUInt16.toUInt32.toInt32)), .val (.int (((XT.ushr p1 (16 : Int32)) &&& (255 : Int32)).toUInt32.toUInt16.toUInt32.toInt32)), .unset] [])
    refine own_goW (fun t_ k_ => XS.aconstNull X0.here hx rfl (hb hby d1_32) k_) ?_
    show own_EndsW _ _ _ _ _ _ _ _ _ s₁ (mkF m 33 #[.val (.int p0), .val (.int p1), .val (.int ((p1 &&& (255 : Int32)).toUInt32.toUInt16.toUInt32.toInt32)), .val (.int (((XT.ushr p1 (8 : Int32)) &&& (255 : Int32)).toUInt32.toUInt16.toUInt32.toInt32)), .val (.int (((XT.ushr p1 (16 : Int32)) &&& (255 : Int32)).toUInt32.toUInt16.toUInt32.toInt32)), .unset] [.null])
    refine own_retRW X0 hZ (own_EW hw) Iv0 hx hlk hret rfl rfl (hb hby d1_33) e0 (by decide) (by decide) ?_
    exact ⟨_, rfl, rfl, N0, (Keep.refl h0 [])⟩
  · refine own_goW (fun t_ k_ => XS.ifYes X0.here hx rfl (pc0 := 29) (pc' := 34) rfl (hb hby d1_29) rfl ((if0 _ _).trans (feq hc1).2) (by decide) (by decide) k_) ?_
    show own_EndsW _ _ _ _ _ _ _ _ _ s₁ (mkF m 34 #[.val (.int p0), .val (.int p1), .val (.int ((p1 &&& (255 : Int32)).toUInt32.toUInt16.toUInt32.toInt32)), .val (.int (((XT.ushr p1 (8 : Int32)) &&& (255 : Int32)).toUInt32.toUInt16.toUInt32.toInt32)), .val (.int (((XT.ushr p1 (16 : Int32)) &&& (255 : Int32)).toUInt32.toUInt16.toUInt32.toInt32)), .unset] [])
    refine own_goW (fun t_ k_ => XS.iloadN X0.here hx rfl (hb hby d1_34) rfl  k_) ?_
    show own_EndsW _ _ _ _ _ _ _ _ _ s₁ (mkF m 35 #[.val (.int p0), .val (.int p1), .val (.int ((p1 &&& (255 : Int32)).toUInt32.toUInt16.toUInt32.toInt32)), .val (.int (((XT.ushr p1 (8 : Int32)) &&& (255 : Int32)).toUInt32.toUInt16.toUInt32.toInt32)), .val (.int (((XT.ushr p1 (16 : Int32)) &&& (255 : Int32)).toUInt32.toUInt16.toUInt32.toInt32)), .unset] [(.int p0)])
    refine own_goW (fun t_ k_ => XS.iconst X0.here hx rfl (hb hby d1_35) k_) ?_
    show own_EndsW _ _ _ _ _ _ _ _ _ s₁ (mkF m 36 #[.val (.int p0), .val (.int p1), .val (.int ((p1 &&& (255 : Int32)).toUInt32.toUInt16.toUInt32.toInt32)), .val (.int (((XT.ushr p1 (8 : Int32)) &&& (255 : Int32)).toUInt32.toUInt16.toUInt32.toInt32)), .val (.int (((XT.ushr p1 (16 : Int32)) &&& (255 : Int32)).toUInt32.toUInt16.toUInt32.toInt32)), .unset] [(.int (1 : Int32)), (.int p0)])
    by_cases hc2 : p0 = (1 : Int32)
    · refine own_goW (fun t_ k_ => XS.icmpNo X0.here hx rfl (hb hby d1_36) rfl (teq hc2).2 k_) ?_
      show own_EndsW _ _ _ _ _ _ _ _ _ s₁ (mkF m 39 #[.val (.int p0), .val (.int p1), .val (.int ((p1 &&& (255 : Int32)).toUInt32.toUInt16.toUInt32.toInt32)), .val (.int (((XT.ushr p1 (8 : Int32)) &&& (255 : Int32)).toUInt32.toUInt16.toUInt32.toInt32)), .val (.int (((XT.ushr p1 (16 : Int32)) &&& (255 : Int32)).toUInt32.toUInt16.toUInt32.toInt32)), .unset] [])
      obtain ⟨T3, h3, X3, e3, E3, A3, D3, -, st3⟩ := newO X0 hx hZ hown (hw _ (List.mem_of_getElem? (i := 30) rfl)) (hw _ (List.mem_of_getElem? (i := 31) rfl)) (hw _ (List.mem_of_getElem? (i := 32) rfl)) e0 (g := (mkF m 39 #[.val (.int p0), .val (.int p1), .val (.int ((p1 &&& (255 : Int32)).toUInt32.toUInt16.toUInt32.toInt32)), .val (.int (((XT.ushr p1 (8 : Int32)) &&& (255 : Int32)).toUInt32.toUInt16.toUInt32.toInt32)), .val (.int (((XT.ushr p1 (16 : Int32)) &&& (255 : Int32)).toUInt32.toUInt16.toUInt32.toInt32)), .unset] [])) rfl (hb hby d1_39) (by decide) (by decide)
      obtain ⟨b3, g3⟩ : ∃ z, z = h0.size := ⟨_, rfl⟩
      rw [← g3] at A3 D3 st3
      refine own_goW st3 ?_
      have g_b3 : n0 ≤ b3 := Nat.le_trans Z0 (Nat.le_of_eq g3.symm)
      have Sf3 : Safe Z own_EL s.vm h3 b3 := Safe.ext E3 Iv0.ch (Safe.new (Nat.le_of_eq g3.symm))
      have Iv3 := Iv0.ext E3
      have sz_b3 : h0.size ≤ b3 := Nat.le_trans (Keep.refl h0 []).1 (Nat.le_of_eq g3.symm)
      have K3 := Keep.ext (Keep.refl h0 []) E3
      have F3_coder : Fld Z h3 b3 "java/lang/String" "coder" "B" (.int (0 : Int32)) := D3 (Or.inr (hw _ (List.mem_of_getElem? (i := 56) rfl))) (ty := .byte) (by decide)
      have F3_value : Fld Z h3 b3 "java/lang/String" "value" "[B" .null := D3 (Or.inr (hw _ (List.mem_of_getElem? (i := 58) rfl))) (ty := (.array .byte)) (by decide)
      show own_EndsW _ _ _ _ _ _ _ _ _ T3 (mkF m 42 #[.val (.int p0), .val (.int p1), .val (.int ((p1 &&& (255 : Int32)).toUInt32.toUInt16.toUInt32.toInt32)), .val (.int (((XT.ushr p1 (8 : Int32)) &&& (255 : Int32)).toUInt32.toUInt16.toUInt32.toInt32)), .val (.int (((XT.ushr p1 (16 : Int32)) &&& (255 : Int32)).toUInt32.toUInt16.toUInt32.toInt32)), .unset] [(.ref b3)])
      refine own_goW (fun t_ k_ => XS.dup X3.here hx rfl (hb hby d1_42) rfl rfl k_) ?_
      show own_EndsW _ _ _ _ _ _ _ _ _ T3 (mkF m 43 #[.val (.int p0), .val (.int p1), .val (.int ((p1 &&& (255 : Int32)).toUInt32.toUInt16.toUInt32.toInt32)), .val (.int (((XT.ushr p1 (8 : Int32)) &&& (255 : Int32)).toUInt32.toUInt16.toUInt32.toInt32)), .val (.int (((XT.ushr p1 (16 : Int32)) &&& (255 : Int32)).toUInt32.toUInt16.toUInt32.toInt32)), .unset] [(.ref b3), (.ref b3)])
      refine own_goW (fun t_ k_ => XS.iconst X3.here hx rfl (hb hby d1_43) k_) ?_
      show own_EndsW _ _ _ _ _ _ _ _ _ T3 (mkF m 44 #[.val (.int p0), .val (.int p1), .val (.int ((p1 &&& (255 : Int32)).toUInt32.toUInt16.toUInt32.toInt32)), .val (.int (((XT.ushr p1 (8 : Int32)) &&& (255 : Int32)).toUInt32.toUInt16.toUInt32.toInt32)), .val (.int (((XT.ushr p1 (16 : Int32)) &&& (255 : Int32)).toUInt32.toUInt16.toUInt32.toInt32)), .unset] [(.int (0 : Int32)), (.ref b3), (.ref b3)])
      obtain ⟨T4, h4, k4, X4, e4, E4, A4, st4⟩ := newP X3 hx hZ (hw _ (List.mem_of_getElem? (i := 29) rfl)) e3 (g := (mkF m 44 #[.val (.int p0), .val (.int p1), .val (.int ((p1 &&& (255 : Int32)).toUInt32.toUInt16.toUInt32.toInt32)), .val (.int (((XT.ushr p1 (8 : Int32)) &&& (255 : Int32)).toUInt32.toUInt16.toUInt32.toInt32)), .val (.int (((XT.ushr p1 (16 : Int32)) &&& (255 : Int32)).toUInt32.toUInt16.toUInt32.toInt32)), .unset] [(.int (0 : Int32)), (.ref b3), (.ref b3)])) rfl (hb hby d1_44) rfl (by decide) (cap := 0) (by decide) (by decide) (by decide) (by decide)
      obtain ⟨b4, g4⟩ : ∃ z, z = h3.size := ⟨_, rfl⟩
      rw [← g4] at A4 st4
      refine own_goW st4 ?_
      have V4 : Arv Z h4 b4 k4 .char (0 : Int32) [] (.int (0 : Int32)) := (Arv.new A4 (by decide)).pad (pad_rep [] (.int (0 : Int32)) 0)
      have g_b4 : n0 ≤ b4 := Nat.le_trans (Nat.le_trans Z0 E3.1) (Nat.le_of_eq g4.symm)
      have Sf4 : Safe Z own_EL s.vm h4 b4 := Safe.ext E4 Iv3.ch (Safe.new (Nat.le_of_eq g4.symm))
      have Iv4 := Iv3.ext E4
      have sz_b4 : h0.size ≤ b4 := Nat.le_trans K3.1 (Nat.le_of_eq g4.symm)
      have K4 := Keep.ext K3 E4
      show own_EndsW _ _ _ _ _ _ _ _ _ T4 (mkF m 46 #[.val (.int p0), .val (.int p1), .val (.int ((p1 &&& (255 : Int32)).toUInt32.toUInt16.toUInt32.toInt32)), .val (.int (((XT.ushr p1 (8 : Int32)) &&& (255 : Int32)).toUInt32.toUInt16.toUInt32.toInt32)), .val (.int (((XT.ushr p1 (16 : Int32)) &&& (255 : Int32)).toUInt32.toUInt16.toUInt32.toInt32)), .unset] [(.ref b4), (.ref b3), (.ref b3)])
      have Nsk5 : ∀ x ∈ ([b3] : List Addr), ∀ cell : Cell, h4[x]? = some cell → cell.vm.isStatics = false := (nsS (Exa.nostat (A3.ext E4)) ns0)
      have Skk5 : ∀ x ∈ ([b3] : List Addr), Safe Z own_EL s.vm h4 x := (sfS (Safe.ext E4 Iv3.ch Sf3) sf0)
      obtain ⟨T6, v6, L6, h6, X6, e6, hQ6, Iv6, hZ, hown, CH6, Gr6, st6⟩ := own_callNW X4 hx hZ (y := (⟨"java/lang/String", "<init>", "([C)V"⟩ : MethodName)) rfl hown (own_EW hw) Iv4 (hw _ (List.mem_of_getElem? (i := 33) rfl)) (hw _ (List.mem_of_getElem? (i := 34) rfl)) (hw _ (List.mem_of_getElem? (i := 32) rfl)) (hw _ (List.mem_of_getElem? (i := 35) rfl)) (by decide) (rmE2 l Z a0 hw [] b3 b4 k4 h4 n0 (Nat.le_trans (Nat.le_trans Z0 E3.1) E4.1) (A3.ext E4) (F3_value.ext E4) (F3_coder.ext E4) g_b3 V4) e4 (g := (mkF m 46 #[.val (.int p0), .val (.int p1), .val (.int ((p1 &&& (255 : Int32)).toUInt32.toUInt16.toUInt32.toInt32)), .val (.int (((XT.ushr p1 (8 : Int32)) &&& (255 : Int32)).toUInt32.toUInt16.toUInt32.toInt32)), .val (.int (((XT.ushr p1 (16 : Int32)) &&& (255 : Int32)).toUInt32.toUInt16.toUInt32.toInt32)), .unset] [(.ref b4), (.ref b3), (.ref b3)])) rfl (by rw [hml]; rfl) b3 [(.ref b4)] [(.ref b3)] rfl (lenOf pd___C_V rfl) rfl 1 (by show 2 * 0 + _ ≤ _; exact Nat.le_of_eq rfl) (hb hby d1_46) (by decide) (by decide) (by decide) (by decide)
      obtain ⟨rfl, N6q, Kq6, Eq6, Cq6, tb6, kb6, Vq6, Aq6⟩ := hQ6
      refine own_goW st6 ?_
      have N6 := Fr.app N0 N6q
      have K6 := Keep.trans K4 Kq6 (allS (Or.inr sz_b3) all0)
      show own_EndsW _ _ _ _ _ _ _ _ _ T6 (mkF m 49 #[.val (.int p0), .val (.int p1), .val (.int ((p1 &&& (255 : Int32)).toUInt32.toUInt16.toUInt32.toInt32)), .val (.int (((XT.ushr p1 (8 : Int32)) &&& (255 : Int32)).toUInt32.toUInt16.toUInt32.toInt32)), .val (.int (((XT.ushr p1 (16 : Int32)) &&& (255 : Int32)).toUInt32.toUInt16.toUInt32.toInt32)), .unset] [(.ref b3)])
      refine own_retRW X6 hZ (own_EW hw) Iv6 hx hlk hret rfl rfl (hb hby d1_49) e6 (by decide) (by decide) ?_
      exact ⟨_, rfl, rfl, N6, K6⟩
    · refine own_goW (fun t_ k_ => XS.icmpYes X0.here hx rfl (pc0 := 36) (pc' := 50) rfl (hb hby d1_36) rfl (feq hc2).2 (by decide) (by decide) k_) ?_
      show own_EndsW _ _ _ _ _ _ _ _ _ s₁ (mkF m 50 #[.val (.int p0), .val (.int p1), .val (.int ((p1 &&& (255 : Int32)).toUInt32.toUInt16.toUInt32.toInt32)), .val (.int (((XT.ushr p1 (8 : Int32)) &&& (255 : Int32)).toUInt32.toUInt16.toUInt32.toInt32)), .val (.int (((XT.ushr p1 (16 : Int32)) &&& (255 : Int32)).toUInt32.toUInt16.toUInt32.toInt32)), .unset] [])
      refine own_goW (fun t_ k_ => XS.iloadN X0.here hx rfl (hb hby d1_50) rfl  k_) ?_
      show own_EndsW _ _ _ _ _ _ _ _ _ s₁ (mkF m 51 #[.val (.int p0), .val (.int p1), .val (.int ((p1 &&& (255 : Int32)).toUInt32.toUInt16.toUInt32.toInt32)), .val (.int (((XT.ushr p1 (8 : Int32)) &&& (255 : Int32)).toUInt32.toUInt16.toUInt32.toInt32)), .val (.int (((XT.ushr p1 (16 : Int32)) &&& (255 : Int32)).toUInt32.toUInt16.toUInt32.toInt32)), .unset] [(.int p0)])
      refine own_goW (fun t_ k_ => XS.iconst X0.here hx rfl (hb hby d1_51) k_) ?_
      show own_EndsW _ _ _ _ _ _ _ _ _ s₁ (mkF m 52 #[.val (.int p0), .val (.int p1), .val (.int ((p1 &&& (255 : Int32)).toUInt32.toUInt16.toUInt32.toInt32)), .val (.int (((XT.ushr p1 (8 : Int32)) &&& (255 : Int32)).toUInt32.toUInt16.toUInt32.toInt32)), .val (.int (((XT.ushr p1 (16 : Int32)) &&& (255 : Int32)).toUInt32.toUInt16.toUInt32.toInt32)), .unset] [(.int (2 : Int32)), (.int p0)])
      by_cases hc7 : p0 = (2 : Int32)
      · refine own_goW (fun t_ k_ => XS.icmpNo X0.here hx rfl (hb hby d1_52) rfl (teq hc7).2 k_) ?_
        show own_EndsW _ _ _ _ _ _ _ _ _ s₁ (mkF m 55 #[.val (.int p0), .val (.int p1), .val (.int ((p1 &&& (255 : Int32)).toUInt32.toUInt16.toUInt32.toInt32)), .val (.int (((XT.ushr p1 (8 : Int32)) &&& (255 : Int32)).toUInt32.toUInt16.toUInt32.toInt32)), .val (.int (((XT.ushr p1 (16 : Int32)) &&& (255 : Int32)).toUInt32.toUInt16.toUInt32.toInt32)), .unset] [])
        refine own_goW (fun t_ k_ => XS.iloadN X0.here hx rfl (hb hby d1_55) rfl  k_) ?_
        show own_EndsW _ _ _ _ _ _ _ _ _ s₁ (mkF m 56 #[.val (.int p0), .val (.int p1), .val (.int ((p1 &&& (255 : Int32)).toUInt32.toUInt16.toUInt32.toInt32)), .val (.int (((XT.ushr p1 (8 : Int32)) &&& (255 : Int32)).toUInt32.toUInt16.toUInt32.toInt32)), .val (.int (((XT.ushr p1 (16 : Int32)) &&& (255 : Int32)).toUInt32.toUInt16.toUInt32.toInt32)), .unset] [(.int ((p1 &&& (255 : Int32)).toUInt32.toUInt16.toUInt32.toInt32))])
        have Nsk8 : ∀ x ∈ ([] : List Addr), ∀ cell : Cell, h0[x]? = some cell → cell.vm.isStatics = false := ns0
        have Skk8 : ∀ x ∈ ([] : List Addr), Safe Z own_EL s.vm h0 x := sf0
        obtain ⟨T9, v9, L9, X9, hQ9, st9⟩ := own_callS X0 hx hZ (y := (⟨"java/lang/String", "valueOf", "(C)Ljava/lang/String;"⟩ : MethodName)) hown (hw _ (List.mem_of_getElem? (i := 99) rfl)) (hw _ (List.mem_of_getElem? (i := 100) rfl)) (hw _ (List.mem_of_getElem? (i := 32) rfl)) (hw _ (List.mem_of_getElem? (i := 101) rfl)) (by decide) (rm13 l Z a0 hw [] ((p1 &&& (255 : Int32)).toUInt32.toUInt16.toUInt32.toInt32) zc h0 n0 Z0 SC hzc (own_i2cR (own_and255 _)).2) e0 (g := (mkF m 56 #[.val (.int p0), .val (.int p1), .val (.int ((p1 &&& (255 : Int32)).toUInt32.toUInt16.toUInt32.toInt32)), .val (.int (((XT.ushr p1 (8 : Int32)) &&& (255 : Int32)).toUInt32.toUInt16.toUInt32.toInt32)), .val (.int (((XT.ushr p1 (16 : Int32)) &&& (255 : Int32)).toUInt32.toUInt16.toUInt32.toInt32)), .unset] [(.int ((p1 &&& (255 : Int32)).toUInt32.toUInt16.toUInt32.toInt32))])) rfl (by rw [hml]; rfl) [(.int ((p1 &&& (255 : Int32)).toUInt32.toUInt16.toUInt32.toInt32))] [] rfl (lenOf pd__C_Ljava_lang_String_ rfl) rfl 0 (by show 2 * 0 + _ ≤ _; exact Nat.le_of_eq rfl) (hb hby d1_56) (by decide) (by decide) (by decide) (by decide)
        obtain ⟨sa9, tb9, kb9, rfl, N9q, Kq9, la9, Eq9, Cq9, Vq9, Aq9⟩ := hQ9
        refine own_goW st9 ?_
        have N9 := Fr.app N0 N9q
        have Iv9 := Iv0.keep Kq9 Skk8
        have K9 := Keep.trans (Keep.refl h0 []) Kq9 all0
        show own_EndsW _ _ _ _ _ _ _ _ _ T9 (mkF m 59 #[.val (.int p0), .val (.int p1), .val (.int ((p1 &&& (255 : Int32)).toUInt32.toUInt16.toUInt32.toInt32)), .val (.int (((XT.ushr p1 (8 : Int32)) &&& (255 : Int32)).toUInt32.toUInt16.toUInt32.toInt32)), .val (.int (((XT.ushr p1 (16 : Int32)) &&& (255 : Int32)).toUInt32.toUInt16.toUInt32.toInt32)), .unset] [(.ref sa9)])
        refine own_retRW X9 hZ (own_EW hw) Iv9 hx hlk hret rfl rfl (hb hby d1_59) rfl (by decide) (by decide) ?_
        exact ⟨_, rfl, rfl, N9, K9⟩
      · refine own_goW (fun t_ k_ => XS.icmpYes X0.here hx rfl (pc0 := 52) (pc' := 60) rfl (hb hby d1_52) rfl (feq hc7).2 (by decide) (by decide) k_) ?_
        show own_EndsW _ _ _ _ _ _ _ _ _ s₁ (mkF m 60 #[.val (.int p0), .val (.int p1), .val (.int ((p1 &&& (255 : Int32)).toUInt32.toUInt16.toUInt32.toInt32)), .val (.int (((XT.ushr p1 (8 : Int32)) &&& (255 : Int32)).toUInt32.toUInt16.toUInt32.toInt32)), .val (.int (((XT.ushr p1 (16 : Int32)) &&& (255 : Int32)).toUInt32.toUInt16.toUInt32.toInt32)), .unset] [])
        refine own_goW (fun t_ k_ => XS.iloadN X0.here hx rfl (hb hby d1_60) rfl  k_) ?_
        show own_EndsW _ _ _ _ _ _ _ _ _ s₁ (mkF m 61 #[.val (.int p0), .val (.int p1), .val (.int ((p1 &&& (255 : Int32)).toUInt32.toUInt16.toUInt32.toInt32)), .val (.int (((XT.ushr p1 (8 : Int32)) &&& (255 : Int32)).toUInt32.toUInt16.toUInt32.toInt32)), .val (.int (((XT.ushr p1 (16 : Int32)) &&& (255 : Int32)).toUInt32.toUInt16.toUInt32.toInt32)), .unset] [(.int p0)])
        refine own_goW (fun t_ k_ => XS.iconst X0.here hx rfl (hb hby d1_61) k_) ?_
        show own_EndsW _ _ _ _ _ _ _ _ _ s₁ (mkF m 62 #[.val (.int p0), .val (.int p1), .val (.int ((p1 &&& (255 : Int32)).toUInt32.toUInt16.toUInt32.toInt32)), .val (.int (((XT.ushr p1 (8 : Int32)) &&& (255 : Int32)).toUInt32.toUInt16.toUInt32.toInt32)), .val (.int (((XT.ushr p1 (16 : Int32)) &&& (255 : Int32)).toUInt32.toUInt16.toUInt32.toInt32)), .unset] [(.int (3 : Int32)), (.int p0)])
        by_cases hc10 : p0 = (3 : Int32)
        · refine own_goW (fun t_ k_ => XS.icmpNo X0.here hx rfl (hb hby d1_62) rfl (teq hc10).2 k_) ?_
          show own_EndsW _ _ _ _ _ _ _ _ _ s₁ (mkF m 65 #[.val (.int p0), .val (.int p1), .val (.int ((p1 &&& (255 : Int32)).toUInt32.toUInt16.toUInt32.toInt32)), .val (.int (((XT.ushr p1 (8 : Int32)) &&& (255 : Int32)).toUInt32.toUInt16.toUInt32.toInt32)), .val (.int (((XT.ushr p1 (16 : Int32)) &&& (255 : Int32)).toUInt32.toUInt16.toUInt32.toInt32)), .unset] [])
          refine own_goW (fun t_ k_ => XS.iconst X0.here hx rfl (hb hby d1_65) k_) ?_
          show own_EndsW _ _ _ _ _ _ _ _ _ s₁ (mkF m 66 #[.val (.int p0), .val (.int p1), .val (.int ((p1 &&& (255 : Int32)).toUInt32.toUInt16.toUInt32.toInt32)), .val (.int (((XT.ushr p1 (8 : Int32)) &&& (255 : Int32)).toUInt32.toUInt16.toUInt32.toInt32)), .val (.int (((XT.ushr p1 (16 : Int32)) &&& (255 : Int32)).toUInt32.toUInt16.toUInt32.toInt32)), .unset] [(.int (2 : Int32))])
          obtain ⟨T11, h11, k11, X11, e11, E11, A11, st11⟩ := newP X0 hx hZ (hw _ (List.mem_of_getElem? (i := 29) rfl)) e0 (g := (mkF m 66 #[.val (.int p0), .val (.int p1), .val (.int ((p1 &&& (255 : Int32)).toUInt32.toUInt16.toUInt32.toInt32)), .val (.int (((XT.ushr p1 (8 : Int32)) &&& (255 : Int32)).toUInt32.toUInt16.toUInt32.toInt32)), .val (.int (((XT.ushr p1 (16 : Int32)) &&& (255 : Int32)).toUInt32.toUInt16.toUInt32.toInt32)), .unset] [(.int (2 : Int32))])) rfl (hb hby d1_66) rfl (by decide) (cap := 2) (by decide) (by decide) (by decide) (by decide)
          obtain ⟨b11, g11⟩ : ∃ z, z = h0.size := ⟨_, rfl⟩
          rw [← g11] at A11 st11
          refine own_goW st11 ?_
          have V11 : Arv Z h11 b11 k11 .char (2 : Int32) [(.int (0 : Int32)), (.int (0 : Int32))] (.int (0 : Int32)) := (Arv.new A11 (by decide)).pad (pad_rep [] (.int (0 : Int32)) 2)
          have g_b11 : n0 ≤ b11 := Nat.le_trans Z0 (Nat.le_of_eq g11.symm)
          have Sf11 : Safe Z own_EL s.vm h11 b11 := Safe.ext E11 Iv0.ch (Safe.new (Nat.le_of_eq g11.symm))
          have Iv11 := Iv0.ext E11
          have sz_b11 : h0.size ≤ b11 := Nat.le_trans (Keep.refl h0 []).1 (Nat.le_of_eq g11.symm)
          have K11 := Keep.ext (Keep.refl h0 []) E11
          show own_EndsW _ _ _ _ _ _ _ _ _ T11 (mkF m 68 #[.val (.int p0), .val (.int p1), .val (.int ((p1 &&& (255 : Int32)).toUInt32.toUInt16.toUInt32.toInt32)), .val (.int (((XT.ushr p1 (8 : Int32)) &&& (255 : Int32)).toUInt32.toUInt16.toUInt32.toInt32)), .val (.int (((XT.ushr p1 (16 : Int32)) &&& (255 : Int32)).toUInt32.toUInt16.toUInt32.toInt32)), .unset] [(.ref b11)])
          refine own_goW (fun t_ k_ => XS.astore X11.here hx rfl (hb hby d1_68) rfl rfl (l' := #[.val (.int p0), .val (.int p1), .val (.int ((p1 &&& (255 : Int32)).toUInt32.toUInt16.toUInt32.toInt32)), .val (.int (((XT.ushr p1 (8 : Int32)) &&& (255 : Int32)).toUInt32.toUInt16.toUInt32.toInt32)), .val (.int (((XT.ushr p1 (16 : Int32)) &&& (255 : Int32)).toUInt32.toUInt16.toUInt32.toInt32)), .val (.ref b11)]) rfl k_) ?_
          show own_EndsW _ _ _ _ _ _ _ _ _ T11 (mkF m 70 #[.val (.int p0), .val (.int p1), .val (.int ((p1 &&& (255 : Int32)).toUInt32.toUInt16.toUInt32.toInt32)), .val (.int (((XT.ushr p1 (8 : Int32)) &&& (255 : Int32)).toUInt32.toUInt16.toUInt32.toInt32)), .val (.int (((XT.ushr p1 (16 : Int32)) &&& (255 : Int32)).toUInt32.toUInt16.toUInt32.toInt32)), .val (.ref b11)] [])
          refine own_goW (fun t_ k_ => XS.aload X11.here hx rfl (hb hby d1_70) rfl rfl  k_) ?_
          show own_EndsW _ _ _ _ _ _ _ _ _ T11 (mkF m 72 #[.val (.int p0), .val (.int p1), .val (.int ((p1 &&& (255 : Int32)).toUInt32.toUInt16.toUInt32.toInt32)), .val (.int (((XT.ushr p1 (8 : Int32)) &&& (255 : Int32)).toUInt32.toUInt16.toUInt32.toInt32)), .val (.int (((XT.ushr p1 (16 : Int32)) &&& (255 : Int32)).toUInt32.toUInt16.toUInt32.toInt32)), .val (.ref b11)] [(.ref b11)])
          refine own_goW (fun t_ k_ => XS.iconst X11.here hx rfl (hb hby d1_72) k_) ?_
          show own_EndsW _ _ _ _ _ _ _ _ _ T11 (mkF m 73 #[.val (.int p0), .val (.int p1), .val (.int ((p1 &&& (255 : Int32)).toUInt32.toUInt16.toUInt32.toInt32)), .val (.int (((XT.ushr p1 (8 : Int32)) &&& (255 : Int32)).toUInt32.toUInt16.toUInt32.toInt32)), .val (.int (((XT.ushr p1 (16 : Int32)) &&& (255 : Int32)).toUInt32.toUInt16.toUInt32.toInt32)), .val (.ref b11)] [(.int (0 : Int32)), (.ref b11)])
          refine own_goW (fun t_ k_ => XS.iloadN X11.here hx rfl (hb hby d1_73) rfl  k_) ?_
          show own_EndsW _ _ _ _ _ _ _ _ _ T11 (mkF m 74 #[.val (.int p0), .val (.int p1), .val (.int ((p1 &&& (255 : Int32)).toUInt32.toUInt16.toUInt32.toInt32)), .val (.int (((XT.ushr p1 (8 : Int32)) &&& (255 : Int32)).toUInt32.toUInt16.toUInt32.toInt32)), .val (.int (((XT.ushr p1 (16 : Int32)) &&& (255 : Int32)).toUInt32.toUInt16.toUInt32.toInt32)), .val (.ref b11)] [(.int ((p1 &&& (255 : Int32)).toUInt32.toUInt16.toUInt32.toInt32)), (.int (0 : Int32)), (.ref b11)])
          have Swp12 : Safe Z own_EL s.vm h11 b11 := (Safe.arv hZ.alike V11 (by decide))
          obtain ⟨cl13, Ar13, q13, S13, Ng13, Hs13, G13⟩ := (id V11)
          obtain ⟨T14, h14, X14, e14, W14, st14⟩ := stC X11 hx hZ e11 Ar13 (j := (0 : Int32)) (inb_of S13 ⟨by decide, by decide⟩) (g := (mkF m 74 #[.val (.int p0), .val (.int p1), .val (.int ((p1 &&& (255 : Int32)).toUInt32.toUInt16.toUInt32.toInt32)), .val (.int (((XT.ushr p1 (8 : Int32)) &&& (255 : Int32)).toUInt32.toUInt16.toUInt32.toInt32)), .val (.int (((XT.ushr p1 (16 : Int32)) &&& (255 : Int32)).toUInt32.toUInt16.toUInt32.toInt32)), .val (.ref b11)] [(.int ((p1 &&& (255 : Int32)).toUInt32.toUInt16.toUInt32.toInt32)), (.int (0 : Int32)), (.ref b11)])) rfl rfl (hb hby d1_74)
          refine own_goW st14 ?_
          have V14 : Arv Z h14 b11 k11 .char (2 : Int32) [(.int (nar .char ((p1 &&& (255 : Int32)).toUInt32.toUInt16.toUInt32.toInt32))), (.int (0 : Int32))] (.int (0 : Int32)) := Arv.set Ar13 q13 S13 Ng13 Hs13 G13 (fits_nar_char _) W14 0 rfl (Nat.le_of_ble_eq_true rfl)
          have Iv14 := Iv11.wr W14 Swp12
          have N14 := Fr.snoc X14 N0 g_b11
          have K14 := Keep.wr K11 W14 (Or.inr sz_b11)
          show own_EndsW _ _ _ _ _ _ _ _ _ T14 (mkF m 75 #[.val (.int p0), .val (.int p1), .val (.int ((p1 &&& (255 : Int32)).toUInt32.toUInt16.toUInt32.toInt32)), .val (.int (((XT.ushr p1 (8 : Int32)) &&& (255 : Int32)).toUInt32.toUInt16.toUInt32.toInt32)), .val (.int (((XT.ushr p1 (16 : Int32)) &&& (255 : Int32)).toUInt32.toUInt16.toUInt32.toInt32)), .val (.ref b11)] [])
          refine own_goW (fun t_ k_ => XS.aload X14.here hx rfl (hb hby d1_75) rfl rfl  k_) ?_
          show own_EndsW _ _ _ _ _ _ _ _ _ T14 (mkF m 77 #[.val (.int p0), .val (.int p1), .val (.int ((p1 &&& (255 : Int32)).toUInt32.toUInt16.toUInt32.toInt32)), .val (.int (((XT.ushr p1 (8 : Int32)) &&& (255 : Int32)).toUInt32.toUInt16.toUInt32.toInt32)), .val (.int (((XT.ushr p1 (16 : Int32)) &&& (255 : Int32)).toUInt32.toUInt16.toUInt32.toInt32)), .val (.ref b11)] [(.ref b11)])
          refine own_goW (fun t_ k_ => XS.iconst X14.here hx rfl (hb hby d1_77) k_) ?_
          show own_EndsW _ _ _ _ _ _ _ _ _ T14 (mkF m 78 #[.val (.int p0), .val (.int p1), .val (.int ((p1 &&& (255 : Int32)).toUInt32.toUInt16.toUInt32.toInt32)), .val (.int (((XT.ushr p1 (8 : Int32)) &&& (255 : Int32)).toUInt32.toUInt16.toUInt32.toInt32)), .val (.int (((XT.ushr p1 (16 : Int32)) &&& (255 : Int32)).toUInt32.toUInt16.toUInt32.toInt32)), .val (.ref b11)] [(.int (1 : Int32)), (.ref b11)])
          refine own_goW (fun t_ k_ => XS.iloadN X14.here hx rfl (hb hby d1_78) rfl  k_) ?_
          show own_EndsW _ _ _ _ _ _ _ _ _ T14 (mkF m 79 #[.val (.int p0), .val (.int p1), .val (.int ((p1 &&& (255 : Int32)).toUInt32.toUInt16.toUInt32.toInt32)), .val (.int (((XT.ushr p1 (8 : Int32)) &&& (255 : Int32)).toUInt32.toUInt16.toUInt32.toInt32)), .val (.int (((XT.ushr p1 (16 : Int32)) &&& (255 : Int32)).toUInt32.toUInt16.toUInt32.toInt32)), .val (.ref b11)] [(.int (((XT.ushr p1 (8 : Int32)) &&& (255 : Int32)).toUInt32.toUInt16.toUInt32.toInt32)), (.int (1 : Int32)), (.ref b11)])
          have Swp15 : Safe Z own_EL s.vm h14 b11 := (Safe.arv hZ.alike V14 (by decide))
          obtain ⟨cl16, Ar16, q16, S16, Ng16, Hs16, G16⟩ := (id V14)
          obtain ⟨T17, h17, X17, e17, W17, st17⟩ := stC X14 hx hZ e14 Ar16 (j := (1 : Int32)) (inb_of S16 ⟨by decide, by decide⟩) (g := (mkF m 79 #[.val (.int p0), .val (.int p1), .val (.int ((p1 &&& (255 : Int32)).toUInt32.toUInt16.toUInt32.toInt32)), .val (.int (((XT.ushr p1 (8 : Int32)) &&& (255 : Int32)).toUInt32.toUInt16.toUInt32.toInt32)), .val (.int (((XT.ushr p1 (16 : Int32)) &&& (255 : Int32)).toUInt32.toUInt16.toUInt32.toInt32)), .val (.ref b11)] [(.int (((XT.ushr p1 (8 : Int32)) &&& (255 : Int32)).toUInt32.toUInt16.toUInt32.toInt32)), (.int (1 : Int32)), (.ref b11)])) rfl rfl (hb hby d1_79)
          refine own_goW st17 ?_
          have V17 : Arv Z h17 b11 k11 .char (2 : Int32) [(.int (nar .char ((p1 &&& (255 : Int32)).toUInt32.toUInt16.toUInt32.toInt32))), (.int (nar .char (((XT.ushr p1 (8 : Int32)) &&& (255 : Int32)).toUInt32.toUInt16.toUInt32.toInt32)))] (.int (0 : Int32)) := Arv.set Ar16 q16 S16 Ng16 Hs16 G16 (fits_nar_char _) W17 1 rfl (Nat.le_of_ble_eq_true rfl)
          have Iv17 := Iv14.wr W17 Swp15
          have N17 := Fr.snoc X17 N14 g_b11
          have K17 := Keep.wr K14 W17 (Or.inr sz_b11)
          show own_EndsW _ _ _ _ _ _ _ _ _ T17 (mkF m 80 #[.val (.int p0), .val (.int p1), .val (.int ((p1 &&& (255 : Int32)).toUInt32.toUInt16.toUInt32.toInt32)), .val (.int (((XT.ushr p1 (8 : Int32)) &&& (255 : Int32)).toUInt32.toUInt16.toUInt32.toInt32)), .val (.int (((XT.ushr p1 (16 : Int32)) &&& (255 : Int32)).toUInt32.toUInt16.toUInt32.toInt32)), .val (.ref b11)] [])
          obtain ⟨T18, h18, X18, e18, E18, A18, D18, -, st18⟩ := newO X17 hx hZ hown (hw _ (List.mem_of_getElem? (i := 30) rfl)) (hw _ (List.mem_of_getElem? (i := 31) rfl)) (hw _ (List.mem_of_getElem? (i := 32) rfl)) e17 (g := (mkF m 80 #[.val (.int p0), .val (.int p1), .val (.int ((p1 &&& (255 : Int32)).toUInt32.toUInt16.toUInt32.toInt32)), .val (.int (((XT.ushr p1 (8 : Int32)) &&& (255 : Int32)).toUInt32.toUInt16.toUInt32.toInt32)), .val (.int (((XT.ushr p1 (16 : Int32)) &&& (255 : Int32)).toUInt32.toUInt16.toUInt32.toInt32)), .val (.ref b11)] [])) rfl (hb hby d1_80) (by decide) (by decide)
          obtain ⟨b18, g18⟩ : ∃ z, z = h17.size := ⟨_, rfl⟩
          rw [← g18] at A18 D18 st18
          refine own_goW st18 ?_
          have g_b18 : n0 ≤ b18 := Nat.le_trans (Nat.le_trans (Nat.le_trans (Nat.le_trans Z0 E11.1) (Keep.of_wr W14).1) (Keep.of_wr W17).1) (Nat.le_of_eq g18.symm)
          have Sf18 : Safe Z own_EL s.vm h18 b18 := Safe.ext E18 Iv17.ch (Safe.new (Nat.le_of_eq g18.symm))
          have Iv18 := Iv17.ext E18
          have sz_b18 : h0.size ≤ b18 := Nat.le_trans K17.1 (Nat.le_of_eq g18.symm)
          have K18 := Keep.ext K17 E18
          have F18_coder : Fld Z h18 b18 "java/lang/String" "coder" "B" (.int (0 : Int32)) := D18 (Or.inr (hw _ (List.mem_of_getElem? (i := 56) rfl))) (ty := .byte) (by decide)
          have F18_value : Fld Z h18 b18 "java/lang/String" "value" "[B" .null := D18 (Or.inr (hw _ (List.mem_of_getElem? (i := 58) rfl))) (ty := (.array .byte)) (by decide)
          show own_EndsW _ _ _ _ _ _ _ _ _ T18 (mkF m 83 #[.val (.int p0), .val (.int p1), .val (.int ((p1 &&& (255 : Int32)).toUInt32.toUInt16.toUInt32.toInt32)), .val (.int (((XT.ushr p1 (8 : Int32)) &&& (255 : Int32)).toUInt32.toUInt16.toUInt32.toInt32)), .val (.int (((XT.ushr p1 (16 : Int32)) &&& (255 : Int32)).toUInt32.toUInt16.toUInt32.toInt32)), .val (.ref b11)] [(.ref b18)])
          refine own_goW (fun t_ k_ => XS.dup X18.here hx rfl (hb hby d1_83) rfl rfl k_) ?_
          show own_EndsW _ _ _ _ _ _ _ _ _ T18 (mkF m 84 #[.val (.int p0), .val (.int p1), .val (.int ((p1 &&& (255 : Int32)).toUInt32.toUInt16.toUInt32.toInt32)), .val (.int (((XT.ushr p1 (8 : Int32)) &&& (255 : Int32)).toUInt32.toUInt16.toUInt32.toInt32)), .val (.int (((XT.ushr p1 (16 : Int32)) &&& (255 : Int32)).toUInt32.toUInt16.toUInt32.toInt32)), .val (.ref b11)] [(.ref b18), (.ref b18)])
          refine own_goW (fun t_ k_ => XS.aload X18.here hx rfl (hb hby d1_84) rfl rfl  k_) ?_
          show own_EndsW _ _ _ _ _ _ _ _ _ T18 (mkF m 86 #[.val (.int p0), .val (.int p1), .val (.int ((p1 &&& (255 : Int32)).toUInt32.toUInt16.toUInt32.toInt32)), .val (.int (((XT.ushr p1 (8 : Int32)) &&& (255 : Int32)).toUInt32.toUInt16.toUInt32.toInt32)), .val (.int (((XT.ushr p1 (16 : Int32)) &&& (255 : Int32)).toUInt32.toUInt16.toUInt32.toInt32)), .val (.ref b11)] [(.ref b11), (.ref b18), (.ref b18)])
          have hl19 : ∀ c ∈ [(nar .char ((p1 &&& (255 : Int32)).toUInt32.toUInt16.toUInt32.toInt32)), (nar .char (((XT.ushr p1 (8 : Int32)) &&& (255 : Int32)).toUInt32.toUInt16.toUInt32.toInt32))], ¬ c < 0 ∧ ¬ (255 : Int32) < c := by
            intro c hc
            simp only [List.mem_cons, List.not_mem_nil, or_false] at hc
            rcases hc with rfl | rfl
            · exact (own_latc (own_and255 _).1 (own_and255 _).2)
            · exact (own_latc (own_and255 _).1 (own_and255 _).2)
          have Nsk20 : ∀ x ∈ ([b18] : List Addr), ∀ cell : Cell, h18[x]? = some cell → cell.vm.isStatics = false := (nsS (Exa.nostat A18) ns0)
          have Skk20 : ∀ x ∈ ([b18] : List Addr), Safe Z own_EL s.vm h18 x := (sfS Sf18 sf0)
          obtain ⟨T21, v21, L21, X21, hQ21, st21⟩ := own_callNB X18 hx hZ (y := (⟨"java/lang/String", "<init>", "([C)V"⟩ : MethodName)) (rc := 1) (rs := 2) rfl hown (hw _ (List.mem_of_getElem? (i := 33) rfl)) (hw _ (List.mem_of_getElem? (i := 34) rfl)) (hw _ (List.mem_of_getElem? (i := 35) rfl)) (by decide) (StrChars.Road.backV (W := 1) hZ (own_hws hw) (kI := 4) (hw _ (List.mem_of_getElem? (i := 31) rfl)) (cs := [(nar .char ((p1 &&& (255 : Int32)).toUInt32.toUInt16.toUInt32.toInt32)), (nar .char (((XT.ushr p1 (8 : Int32)) &&& (255 : Int32)).toUInt32.toUInt16.toUInt32.toInt32))]) (bs := [((nar .char ((p1 &&& (255 : Int32)).toUInt32.toUInt16.toUInt32.toInt32))).toInt8.toInt32, ((nar .char (((XT.ushr p1 (8 : Int32)) &&& (255 : Int32)).toUInt32.toUInt16.toUInt32.toInt32))).toInt8.toInt32]) (n := 2) g_b18 (Nat.le_trans (Nat.le_trans (Nat.le_trans (Nat.le_trans Z0 E11.1) (Keep.of_wr W14).1) (Keep.of_wr W17).1) E18.1) A18 F18_value F18_coder (V17.ext E18) ((((SC.ext E11).wr W14).wr W17).ext E18) hzc rfl rfl (by decide) (by decide) hl19 rfl (by decide) (by decide)) e18 (g := (mkF m 86 #[.val (.int p0), .val (.int p1), .val (.int ((p1 &&& (255 : Int32)).toUInt32.toUInt16.toUInt32.toInt32)), .val (.int (((XT.ushr p1 (8 : Int32)) &&& (255 : Int32)).toUInt32.toUInt16.toUInt32.toInt32)), .val (.int (((XT.ushr p1 (16 : Int32)) &&& (255 : Int32)).toUInt32.toUInt16.toUInt32.toInt32)), .val (.ref b11)] [(.ref b11), (.ref b18), (.ref b18)])) rfl (by rw [hml]; rfl) b18 [(.ref b11)] [(.ref b18)] rfl (lenOf pd___C_V rfl) rfl (by show 2 * 0 + _ ≤ _; exact Nat.le_of_eq rfl) (hb hby d1_86) (by decide) (by decide)
          obtain ⟨rfl, N21q, Kq21, Eq21, Cq21, tb21, kb21, -, -, -, Vq21, Aq21⟩ := hQ21
          refine own_goW st21 ?_
          have N21 := Fr.app N17 N21q
          have Iv21 := Iv18.keep Kq21 Skk20
          have K21 := Keep.trans K18 Kq21 (allS (Or.inr sz_b18) all0)
          show own_EndsW _ _ _ _ _ _ _ _ _ T21 (mkF m 89 #[.val (.int p0), .val (.int p1), .val (.int ((p1 &&& (255 : Int32)).toUInt32.toUInt16.toUInt32.toInt32)), .val (.int (((XT.ushr p1 (8 : Int32)) &&& (255 : Int32)).toUInt32.toUInt16.toUInt32.toInt32)), .val (.int (((XT.ushr p1 (16 : Int32)) &&& (255 : Int32)).toUInt32.toUInt16.toUInt32.toInt32)), .val (.ref b11)] [(.ref b18)])
          refine own_retRW X21 hZ (own_EW hw) Iv21 hx hlk hret rfl rfl (hb hby d1_89) rfl (by decide) (by decide) ?_
          exact ⟨_, rfl, rfl, N21, K21⟩
        · refine own_goW (fun t_ k_ => XS.icmpYes X0.here hx rfl (pc0 := 62) (pc' := 90) rfl (hb hby d1_62) rfl (feq hc10).2 (by decide) (by decide) k_) ?_
          show own_EndsW _ _ _ _ _ _ _ _ _ s₁ (mkF m 90 #[.val (.int p0), .val (.int p1), .val (.int ((p1 &&& (255 : Int32)).toUInt32.toUInt16.toUInt32.toInt32)), .val (.int (((XT.ushr p1 (8 : Int32)) &&& (255 : Int32)).toUInt32.toUInt16.toUInt32.toInt32)), .val (.int (((XT.ushr p1 (16 : Int32)) &&& (255 : Int32)).toUInt32.toUInt16.toUInt32.toInt32)), .unset] [])
          refine own_goW (fun t_ k_ => XS.iconst X0.here hx rfl (hb hby d1_90) k_) ?_
          show own_EndsW _ _ _ _ _ _ _ _ _ s₁ (mkF m 91 #[.val (.int p0), .val (.int p1), .val (.int ((p1 &&& (255 : Int32)).toUInt32.toUInt16.toUInt32.toInt32)), .val (.int (((XT.ushr p1 (8 : Int32)) &&& (255 : Int32)).toUInt32.toUInt16.toUInt32.toInt32)), .val (.int (((XT.ushr p1 (16 : Int32)) &&& (255 : Int32)).toUInt32.toUInt16.toUInt32.toInt32)), .unset] [(.int (3 : Int32))])
          obtain ⟨T22, h22, k22, X22, e22, E22, A22, st22⟩ := newP X0 hx hZ (hw _ (List.mem_of_getElem? (i := 29) rfl)) e0 (g := (mkF m 91 #[.val (.int p0), .val (.int p1), .val (.int ((p1 &&& (255 : Int32)).toUInt32.toUInt16.toUInt32.toInt32)), .val (.int (((XT.ushr p1 (8 : Int32)) &&& (255 : Int32)).toUInt32.toUInt16.toUInt32.toInt32)), .val (.int (((XT.ushr p1 (16 : Int32)) &&& (255 : Int32)).toUInt32.toUInt16.toUInt32.toInt32)), .unset] [(.int (3 : Int32))])) rfl (hb hby d1_91) rfl (by decide) (cap := 3) (by decide) (by decide) (by decide) (by decide)
          obtain ⟨b22, g22⟩ : ∃ z, z = h0.size := ⟨_, rfl⟩
          rw [← g22] at A22 st22
          refine own_goW st22 ?_
          have V22 : Arv Z h22 b22 k22 .char (3 : Int32) [(.int (0 : Int32)), (.int (0 : Int32)), (.int (0 : Int32))] (.int (0 : Int32)) := (Arv.new A22 (by decide)).pad (pad_rep [] (.int (0 : Int32)) 3)
          have g_b22 : n0 ≤ b22 := Nat.le_trans Z0 (Nat.le_of_eq g22.symm)
          have Sf22 : Safe Z own_EL s.vm h22 b22 := Safe.ext E22 Iv0.ch (Safe.new (Nat.le_of_eq g22.symm))
          have Iv22 := Iv0.ext E22
          have sz_b22 : h0.size ≤ b22 := Nat.le_trans (Keep.refl h0 []).1 (Nat.le_of_eq g22.symm)
          have K22 := Keep.ext (Keep.refl h0 []) E22
          show own_EndsW _ _ _ _ _ _ _ _ _ T22 (mkF m 93 #[.val (.int p0), .val (.int p1), .val (.int ((p1 &&& (255 : Int32)).toUInt32.toUInt16.toUInt32.toInt32)), .val (.int (((XT.ushr p1 (8 : Int32)) &&& (255 : Int32)).toUInt32.toUInt16.toUInt32.toInt32)), .val (.int (((XT.ushr p1 (16 : Int32)) &&& (255 : Int32)).toUInt32.toUInt16.toUInt32.toInt32)), .unset] [(.ref b22)])
          refine own_goW (fun t_ k_ => XS.astore X22.here hx rfl (hb hby d1_93) rfl rfl (l' := #[.val (.int p0), .val (.int p1), .val (.int ((p1 &&& (255 : Int32)).toUInt32.toUInt16.toUInt32.toInt32)), .val (.int (((XT.ushr p1 (8 : Int32)) &&& (255 : Int32)).toUInt32.toUInt16.toUInt32.toInt32)), .val (.int (((XT.ushr p1 (16 : Int32)) &&& (255 : Int32)).toUInt32.toUInt16.toUInt32.toInt32)), .val (.ref b22)]) rfl k_) ?_
          show own_EndsW _ _ _ _ _ _ _ _ _ T22 (mkF m 95 #[.val (.int p0), .val (.int p1), .val (.int ((p1 &&& (255 : Int32)).toUInt32.toUInt16.toUInt32.toInt32)), .val (.int (((XT.ushr p1 (8 : Int32)) &&& (255 : Int32)).toUInt32.toUInt16.toUInt32.toInt32)), .val (.int (((XT.ushr p1 (16 : Int32)) &&& (255 : Int32)).toUInt32.toUInt16.toUInt32.toInt32)), .val (.ref b22)] [])
          refine own_goW (fun t_ k_ => XS.aload X22.here hx rfl (hb hby d1_95) rfl rfl  k_) ?_
          show own_EndsW _ _ _ _ _ _ _ _ _ T22 (mkF m 97 #[.val (.int p0), .val (.int p1), .val (.int ((p1 &&& (255 : Int32)).toUInt32.toUInt16.toUInt32.toInt32)), .val (.int (((XT.ushr p1 (8 : Int32)) &&& (255 : Int32)).toUInt32.toUInt16.toUInt32.toInt32)), .val (.int (((XT.ushr p1 (16 : Int32)) &&& (255 : Int32)).toUInt32.toUInt16.toUInt32.toInt32)), .val (.ref b22)] [(.ref b22)])
          refine own_goW (fun t_ k_ => XS.iconst X22.here hx rfl (hb hby d1_97) k_) ?_
          show own_EndsW _ _ _ _ _ _ _ _ _ T22 (mkF m 98 #[.val (.int p0), .val (.int p1), .val (.int ((p1 &&& (255 : Int32)).toUInt32.toUInt16.toUInt32.toInt32)), .val (.int (((XT.ushr p1 (8 : Int32)) &&& (255 : Int32)).toUInt32.toUInt16.toUInt32.toInt32)), .val (.int (((XT.ushr p1 (16 : Int32)) &&& (255 : Int32)).toUInt32.toUInt16.toUInt32.toInt32)), .val (.ref b22)] [(.int (0 : Int32)), (.ref b22)])
          refine own_goW (fun t_ k_ => XS.iloadN X22.here hx rfl (hb hby d1_98) rfl  k_) ?_
          show own_EndsW _ _ _ _ _ _ _ _ _ T22 (mkF m 99 #[.val (.int p0), .val (.int p1), .val (.int ((p1 &&& (255 : Int32)).toUInt32.toUInt16.toUInt32.toInt32)), .val (.int (((XT.ushr p1 (8 : Int32)) &&& (255 : Int32)).toUInt32.toUInt16.toUInt32.toInt32)), .val (.int (((XT.ushr p1 (16 : Int32)) &&& (255 : Int32)).toUInt32.toUInt16.toUInt32.toInt32)), .val (.ref b22)] [(.int ((p1 &&& (255 : Int32)).toUInt32.toUInt16.toUInt32.toInt32)), (.int (0 : Int32)), (.ref b22)])
          have Swp23 : Safe Z own_EL s.vm h22 b22 := (Safe.arv hZ.alike V22 (by decide))
          obtain ⟨cl24, Ar24, q24, S24, Ng24, Hs24, G24⟩ := (id V22)
          obtain ⟨T25, h25, X25, e25, W25, st25⟩ := stC X22 hx hZ e22 Ar24 (j := (0 : Int32)) (inb_of S24 ⟨by decide, by decide⟩) (g := (mkF m 99 #[.val (.int p0), .val (.int p1), .val (.int ((p1 &&& (255 : Int32)).toUInt32.toUInt16.toUInt32.toInt32)), .val (.int (((XT.ushr p1 (8 : Int32)) &&& (255 : Int32)).toUInt32.toUInt16.toUInt32.toInt32)), .val (.int (((XT.ushr p1 (16 : Int32)) &&& (255 : Int32)).toUInt32.toUInt16.toUInt32.toInt32)), .val (.ref b22)] [(.int ((p1 &&& (255 : Int32)).toUInt32.toUInt16.toUInt32.toInt32)), (.int (0 : Int32)), (.ref b22)])) rfl rfl (hb hby d1_99)
          refine own_goW st25 ?_
          have V25 : Arv Z h25 b22 k22 .char (3 : Int32) [(.int (nar .char ((p1 &&& (255 : Int32)).toUInt32.toUInt16.toUInt32.toInt32))), (.int (0 : Int32)), (.int (0 : Int32))] (.int (0 : Int32)) := Arv.set Ar24 q24 S24 Ng24 Hs24 G24 (fits_nar_char _) W25 0 rfl (Nat.le_of_ble_eq_true rfl)
          have Iv25 := Iv22.wr W25 Swp23
          have N25 := Fr.snoc X25 N0 g_b22
          have K25 := Keep.wr K22 W25 (Or.inr sz_b22)
          show own_EndsW _ _ _ _ _ _ _ _ _ T25 (mkF m 100 #[.val (.int p0), .val (.int p1), .val (.int ((p1 &&& (255 : Int32)).toUInt32.toUInt16.toUInt32.toInt32)), .val (.int (((XT.ushr p1 (8 : Int32)) &&& (255 : Int32)).toUInt32.toUInt16.toUInt32.toInt32)), .val (.int (((XT.ushr p1 (16 : Int32)) &&& (255 : Int32)).toUInt32.toUInt16.toUInt32.toInt32)), .val (.ref b22)] [])
          refine own_goW (fun t_ k_ => XS.aload X25.here hx rfl (hb hby d1_100) rfl rfl  k_) ?_
          show own_EndsW _ _ _ _ _ _ _ _ _ T25 (mkF m 102 #[.val (.int p0), .val (.int p1), .val (.int ((p1 &&& (255 : Int32)).toUInt32.toUInt16.toUInt32.toInt32)), .val (.int (((XT.ushr p1 (8 : Int32)) &&& (255 : Int32)).toUInt32.toUInt16.toUInt32.toInt32)), .val (.int (((XT.ushr p1 (16 : Int32)) &&& (255 : Int32)).toUInt32.toUInt16.toUInt32.toInt32)), .val (.ref b22)] [(.ref b22)])
          refine own_goW (fun t_ k_ => XS.iconst X25.here hx rfl (hb hby d1_102) k_) ?_
          show own_EndsW _ _ _ _ _ _ _ _ _ T25 (mkF m 103 #[.val (.int p0), .val (.int p1), .val (.int ((p1 &&& (255 : Int32)).toUInt32.toUInt16.toUInt32.toInt32)), .val (.int (((XT.ushr p1 (8 : Int32)) &&& (255 : Int32)).toUInt32.toUInt16.toUInt32.toInt32)), .val (.int (((XT.ushr p1 (16 : Int32)) &&& (255 : Int32)).toUInt32.toUInt16.toUInt32.toInt32)), .val (.ref b22)] [(.int (1 : Int32)), (.ref b22)])
          refine own_goW (fun t_ k_ => XS.iloadN X25.here hx rfl (hb hby d1_103) rfl  k_) ?_
          show own_EndsW _ _ _ _ _ _ _ _ _ T25 (mkF m 104 #[.val (.int p0), .val (.int p1), .val (.int ((p1 &&& (255 : Int32)).toUInt32.toUInt16.toUInt32.toInt32)), .val (.int (((XT.ushr p1 (8 : Int32)) &&& (255 : Int32)).toUInt32.toUInt16.toUInt32.toInt32)), .val (.int (((XT.ushr p1 (16 : Int32)) &&& (255 : Int32)).toUInt32.toUInt16.toUInt32.toInt32)), .val (.ref b22)] [(.int (((XT.ushr p1 (8 : Int32)) &&& (255 : Int32)).toUInt32.toUInt16.toUInt32.toInt32)), (.int (1 : Int32)), (.ref b22)])
          have Swp26 : Safe Z own_EL s.vm h25 b22 := (Safe.arv hZ.alike V25 (by decide))
          obtain ⟨cl27, Ar27, q27, S27, Ng27, Hs27, G27⟩ := (id V25)
          obtain ⟨T28, h28, X28, e28, W28, st28⟩ := stC X25 hx hZ e25 Ar27 (j := (1 : Int32)) (inb_of S27 ⟨by decide, by decide⟩) (g := (mkF m 104 #[.val (.int p0), .val (.int p1), .val (.int ((p1 &&& (255 : Int32)).toUInt32.toUInt16.toUInt32.toInt32)), .val (.int (((XT.ushr p1 (8 : Int32)) &&& (255 : Int32)).toUInt32.toUInt16.toUInt32.toInt32)), .val (.int (((XT.ushr p1 (16 : Int32)) &&& (255 : Int32)).toUInt32.toUInt16.toUInt32.toInt32)), .val (.ref b22)] [(.int (((XT.ushr p1 (8 : Int32)) &&& (255 : Int32)).toUInt32.toUInt16.toUInt32.toInt32)), (.int (1 : Int32)), (.ref b22)])) rfl rfl (hb hby d1_104)
          refine own_goW st28 ?_
          have V28 : Arv Z h28 b22 k22 .char (3 : Int32) [(.int (nar .char ((p1 &&& (255 : Int32)).toUInt32.toUInt16.toUInt32.toInt32))), (.int (nar .char (((XT.ushr p1 (8 : Int32)) &&& (255 : Int32)).toUInt32.toUInt16.toUInt32.toInt32))), (.int (0 : Int32))] (.int (0 : Int32)) := Arv.set Ar27 q27 S27 Ng27 Hs27 G27 (fits_nar_char _) W28 1 rfl (Nat.le_of_ble_eq_true rfl)
          have Iv28 := Iv25.wr W28 Swp26
          have N28 := Fr.snoc X28 N25 g_b22
          have K28 := Keep.wr K25 W28 (Or.inr sz_b22)
          show own_EndsW _ _ _ _ _ _ _ _ _ T28 (mkF m 105 #[.val (.int p0), .val (.int p1), .val (.int ((p1 &&& (255 : Int32)).toUInt32.toUInt16.toUInt32.toInt32)), .val (.int (((XT.ushr p1 (8 : Int32)) &&& (255 : Int32)).toUInt32.toUInt16.toUInt32.toInt32)), .val (.int (((XT.ushr p1 (16 : Int32)) &&& (255 : Int32)).toUInt32.toUInt16.toUInt32.toInt32)), .val (.ref b22)] [])
          refine own_goW (fun t_ k_ => XS.aload X28.here hx rfl (hb hby d1_105) rfl rfl  k_) ?_
          show own_EndsW _ _ _ _ _ _ _ _ _ T28 (mkF m 107 #[.val (.int p0), .val (.int p1), .val (.int ((p1 &&& (255 : Int32)).toUInt32.toUInt16.toUInt32.toInt32)), .val (.int (((XT.ushr p1 (8 : Int32)) &&& (255 : Int32)).toUInt32.toUInt16.toUInt32.toInt32)), .val (.int (((XT.ushr p1 (16 : Int32)) &&& (255 : Int32)).toUInt32.toUInt16.toUInt32.toInt32)), .val (.ref b22)] [(.ref b22)])
          refine own_goW (fun t_ k_ => XS.iconst X28.here hx rfl (hb hby d1_107) k_) ?_
          show own_EndsW _ _ _ _ _ _ _ _ _ T28 (mkF m 108 #[.val (.int p0), .val (.int p1), .val (.int ((p1 &&& (255 : Int32)).toUInt32.toUInt16.toUInt32.toInt32)), .val (.int (((XT.ushr p1 (8 : Int32)) &&& (255 : Int32)).toUInt32.toUInt16.toUInt32.toInt32)), .val (.int (((XT.ushr p1 (16 : Int32)) &&& (255 : Int32)).toUInt32.toUInt16.toUInt32.toInt32)), .val (.ref b22)] [(.int (2 : Int32)), (.ref b22)])
          refine own_goW (fun t_ k_ => XS.iload X28.here hx rfl (hb hby d1_108) rfl  k_) ?_
          show own_EndsW _ _ _ _ _ _ _ _ _ T28 (mkF m 110 #[.val (.int p0), .val (.int p1), .val (.int ((p1 &&& (255 : Int32)).toUInt32.toUInt16.toUInt32.toInt32)), .val (.int (((XT.ushr p1 (8 : Int32)) &&& (255 : Int32)).toUInt32.toUInt16.toUInt32.toInt32)), .val (.int (((XT.ushr p1 (16 : Int32)) &&& (255 : Int32)).toUInt32.toUInt16.toUInt32.toInt32)), .val (.ref b22)] [(.int (((XT.ushr p1 (16 : Int32)) &&& (255 : Int32)).toUInt32.toUInt16.toUInt32.toInt32)), (.int (2 : Int32)), (.ref b22)])
          have Swp29 : Safe Z own_EL s.vm h28 b22 := (Safe.arv hZ.alike V28 (by decide))
          obtain ⟨cl30, Ar30, q30, S30, Ng30, Hs30, G30⟩ := (id V28)
          obtain ⟨T31, h31, X31, e31, W31, st31⟩ := stC X28 hx hZ e28 Ar30 (j := (2 : Int32)) (inb_of S30 ⟨by decide, by decide⟩) (g := (mkF m 110 #[.val (.int p0), .val (.int p1), .val (.int ((p1 &&& (255 : Int32)).toUInt32.toUInt16.toUInt32.toInt32)), .val (.int (((XT.ushr p1 (8 : Int32)) &&& (255 : Int32)).toUInt32.toUInt16.toUInt32.toInt32)), .val (.int (((XT.ushr p1 (16 : Int32)) &&& (255 : Int32)).toUInt32.toUInt16.toUInt32.toInt32)), .val (.ref b22)] [(.int (((XT.ushr p1 (16 : Int32)) &&& (255 : Int32)).toUInt32.toUInt16.toUInt32.toInt32)), (.int (2 : Int32)), (.ref b22)])) rfl rfl (hb hby d1_110)
          refine own_goW st31 ?_
          have V31 : Arv Z h31 b22 k22 .char (3 : Int32) [(.int (nar .char ((p1 &&& (255 : Int32)).toUInt32.toUInt16.toUInt32.toInt32))), (.int (nar .char (((XT.ushr p1 (8 : Int32)) &&& (255 : Int32)).toUInt32.toUInt16.toUInt32.toInt32))), (.int (nar .char (((XT.ushr p1 (16 : Int32)) &&& (255 : Int32)).toUInt32.toUInt16.toUInt32.toInt32)))] (.int (0 : Int32)) := Arv.set Ar30 q30 S30 Ng30 Hs30 G30 (fits_nar_char _) W31 2 rfl (Nat.le_of_ble_eq_true rfl)
          have Iv31 := Iv28.wr W31 Swp29
          have N31 := Fr.snoc X31 N28 g_b22
          have K31 := Keep.wr K28 W31 (Or.inr sz_b22)
          show own_EndsW _ _ _ _ _ _ _ _ _ T31 (mkF m 111 #[.val (.int p0), .val (.int p1), .val (.int ((p1 &&& (255 : Int32)).toUInt32.toUInt16.toUInt32.toInt32)), .val (.int (((XT.ushr p1 (8 : Int32)) &&& (255 : Int32)).toUInt32.toUInt16.toUInt32.toInt32)), .val (.int (((XT.ushr p1 (16 : Int32)) &&& (255 : Int32)).toUInt32.toUInt16.toUInt32.toInt32)), .val (.ref b22)] [])
          obtain ⟨T32, h32, X32, e32, E32, A32, D32, -, st32⟩ := newO X31 hx hZ hown (hw _ (List.mem_of_getElem? (i := 30) rfl)) (hw _ (List.mem_of_getElem? (i := 31) rfl)) (hw _ (List.mem_of_getElem? (i := 32) rfl)) e31 (g := (mkF m 111 #[.val (.int p0), .val (.int p1), .val (.int ((p1 &&& (255 : Int32)).toUInt32.toUInt16.toUInt32.toInt32)), .val (.int (((XT.ushr p1 (8 : Int32)) &&& (255 : Int32)).toUInt32.toUInt16.toUInt32.toInt32)), .val (.int (((XT.ushr p1 (16 : Int32)) &&& (255 : Int32)).toUInt32.toUInt16.toUInt32.toInt32)), .val (.ref b22)] [])) rfl (hb hby d1_111) (by decide) (by decide)
          obtain ⟨b32, g32⟩ : ∃ z, z = h31.size := ⟨_, rfl⟩
          rw [← g32] at A32 D32 st32
          refine own_goW st32 ?_
          have g_b32 : n0 ≤ b32 := Nat.le_trans (Nat.le_trans (Nat.le_trans (Nat.le_trans (Nat.le_trans Z0 E22.1) (Keep.of_wr W25).1) (Keep.of_wr W28).1) (Keep.of_wr W31).1) (Nat.le_of_eq g32.symm)
          have Sf32 : Safe Z own_EL s.vm h32 b32 := Safe.ext E32 Iv31.ch (Safe.new (Nat.le_of_eq g32.symm))
          have Iv32 := Iv31.ext E32
          have sz_b32 : h0.size ≤ b32 := Nat.le_trans K31.1 (Nat.le_of_eq g32.symm)
          have K32 := Keep.ext K31 E32
          have F32_coder : Fld Z h32 b32 "java/lang/String" "coder" "B" (.int (0 : Int32)) := D32 (Or.inr (hw _ (List.mem_of_getElem? (i := 56) rfl))) (ty := .byte) (by decide)
          have F32_value : Fld Z h32 b32 "java/lang/String" "value" "[B" .null := D32 (Or.inr (hw _ (List.mem_of_getElem? (i := 58) rfl))) (ty := (.array .byte)) (by decide)
          show own_EndsW _ _ _ _ _ _ _ _ _ T32 (mkF m 114 #[.val (.int p0), .val (.int p1), .val (.int ((p1 &&& (255 : Int32)).toUInt32.toUInt16.toUInt32.toInt32)), .val (.int (((XT.ushr p1 (8 : Int32)) &&& (255 : Int32)).toUInt32.toUInt16.toUInt32.toInt32)), .val (.int (((XT.ushr p1 (16 : Int32)) &&& (255 : Int32)).toUInt32.toUInt16.toUInt32.toInt32)), .val (.ref b22)] [(.ref b32)])
          refine own_goW (fun t_ k_ => XS.dup X32.here hx rfl (hb hby d1_114) rfl rfl k_) ?_
          show own_EndsW _ _ _ _ _ _ _ _ _ T32 (mkF m 115 #[.val (.int p0), .val (.int p1), .val (.int ((p1 &&& (255 : Int32)).toUInt32.toUInt16.toUInt32.toInt32)), .val (.int (((XT.ushr p1 (8 : Int32)) &&& (255 : Int32)).toUInt32.toUInt16.toUInt32.toInt32)), .val (.int (((XT.ushr p1 (16 : Int32)) &&& (255 : Int32)).toUInt32.toUInt16.toUInt32.toInt32)), .val (.ref b22)] [(.ref b32), (.ref b32)])
          refine own_goW (fun t_ k_ => XS.aload X32.here hx rfl (hb hby d1_115) rfl rfl  k_) ?_
          show own_EndsW _ _ _ _ _ _ _ _ _ T32 (mkF m 117 #[.val (.int p0), .val (.int p1), .val (.int ((p1 &&& (255 : Int32)).toUInt32.toUInt16.toUInt32.toInt32)), .val (.int (((XT.ushr p1 (8 : Int32)) &&& (255 : Int32)).toUInt32.toUInt16.toUInt32.toInt32)), .val (.int (((XT.ushr p1 (16 : Int32)) &&& (255 : Int32)).toUInt32.toUInt16.toUInt32.toInt32)), .val (.ref b22)] [(.ref b22), (.ref b32), (.ref b32)])
          have hl33 : ∀ c ∈ [(nar .char ((p1 &&& (255 : Int32)).toUInt32.toUInt16.toUInt32.toInt32)), (nar .char (((XT.ushr p1 (8 : Int32)) &&& (255 : Int32)).toUInt32.toUInt16.toUInt32.toInt32)), (nar .char (((XT.ushr p1 (16 : Int32)) &&& (255 : Int32)).toUInt32.toUInt16.toUInt32.toInt32))], ¬ c < 0 ∧ ¬ (255 : Int32) < c := by
            intro c hc
            simp only [List.mem_cons, List.not_mem_nil, or_false] at hc
            rcases hc with rfl | rfl | rfl
            · exact (own_latc (own_and255 _).1 (own_and255 _).2)
            · exact (own_latc (own_and255 _).1 (own_and255 _).2)
            · exact (own_latc (own_and255 _).1 (own_and255 _).2)
          have Nsk34 : ∀ x ∈ ([b32] : List Addr), ∀ cell : Cell, h32[x]? = some cell → cell.vm.isStatics = false := (nsS (Exa.nostat A32) ns0)
          have Skk34 : ∀ x ∈ ([b32] : List Addr), Safe Z own_EL s.vm h32 x := (sfS Sf32 sf0)
          obtain ⟨T35, v35, L35, X35, hQ35, st35⟩ := own_callNB X32 hx hZ (y := (⟨"java/lang/String", "<init>", "([C)V"⟩ : MethodName)) (rc := 1) (rs := 3) rfl hown (hw _ (List.mem_of_getElem? (i := 33) rfl)) (hw _ (List.mem_of_getElem? (i := 34) rfl)) (hw _ (List.mem_of_getElem? (i := 35) rfl)) (by decide) (StrChars.Road.backV (W := 1) hZ (own_hws hw) (kI := 4) (hw _ (List.mem_of_getElem? (i := 31) rfl)) (cs := [(nar .char ((p1 &&& (255 : Int32)).toUInt32.toUInt16.toUInt32.toInt32)), (nar .char (((XT.ushr p1 (8 : Int32)) &&& (255 : Int32)).toUInt32.toUInt16.toUInt32.toInt32)), (nar .char (((XT.ushr p1 (16 : Int32)) &&& (255 : Int32)).toUInt32.toUInt16.toUInt32.toInt32))]) (bs := [((nar .char ((p1 &&& (255 : Int32)).toUInt32.toUInt16.toUInt32.toInt32))).toInt8.toInt32, ((nar .char (((XT.ushr p1 (8 : Int32)) &&& (255 : Int32)).toUInt32.toUInt16.toUInt32.toInt32))).toInt8.toInt32, ((nar .char (((XT.ushr p1 (16 : Int32)) &&& (255 : Int32)).toUInt32.toUInt16.toUInt32.toInt32))).toInt8.toInt32]) (n := 3) g_b32 (Nat.le_trans (Nat.le_trans (Nat.le_trans (Nat.le_trans (Nat.le_trans Z0 E22.1) (Keep.of_wr W25).1) (Keep.of_wr W28).1) (Keep.of_wr W31).1) E32.1) A32 F32_value F32_coder (V31.ext E32) (((((SC.ext E22).wr W25).wr W28).wr W31).ext E32) hzc rfl rfl (by decide) (by decide) hl33 rfl (by decide) (by decide)) e32 (g := (mkF m 117 #[.val (.int p0), .val (.int p1), .val (.int ((p1 &&& (255 : Int32)).toUInt32.toUInt16.toUInt32.toInt32)), .val (.int (((XT.ushr p1 (8 : Int32)) &&& (255 : Int32)).toUInt32.toUInt16.toUInt32.toInt32)), .val (.int (((XT.ushr p1 (16 : Int32)) &&& (255 : Int32)).toUInt32.toUInt16.toUInt32.toInt32)), .val (.ref b22)] [(.ref b22), (.ref b32), (.ref b32)])) rfl (by rw [hml]; rfl) b32 [(.ref b22)] [(.ref b32)] rfl (lenOf pd___C_V rfl) rfl (by show 2 * 0 + _ ≤ _; exact Nat.le_of_eq rfl) (hb hby d1_117) (by decide) (by decide)
          obtain ⟨rfl, N35q, Kq35, Eq35, Cq35, tb35, kb35, -, -, -, Vq35, Aq35⟩ := hQ35
          refine own_goW st35 ?_
          have N35 := Fr.app N31 N35q
          have Iv35 := Iv32.keep Kq35 Skk34
          have K35 := Keep.trans K32 Kq35 (allS (Or.inr sz_b32) all0)
          show own_EndsW _ _ _ _ _ _ _ _ _ T35 (mkF m 120 #[.val (.int p0), .val (.int p1), .val (.int ((p1 &&& (255 : Int32)).toUInt32.toUInt16.toUInt32.toInt32)), .val (.int (((XT.ushr p1 (8 : Int32)) &&& (255 : Int32)).toUInt32.toUInt16.toUInt32.toInt32)), .val (.int (((XT.ushr p1 (16 : Int32)) &&& (255 : Int32)).toUInt32.toUInt16.toUInt32.toInt32)), .val (.ref b22)] [(.ref b32)])
          refine own_retRW X35 hZ (own_EW hw) Iv35 hx hlk hret rfl rfl (hb hby d1_120) rfl (by decide) (by decide) ?_
          exact ⟨_, rfl, rfl, N35, K35⟩
theorem d8_0 : decode prog_1_method_4_code 0 = .ok (.aload_n 0, 1) := by decide +kernel
theorem d8_1 : decode prog_1_method_4_code 1 = .ok (.ldc 13, 2) := by decide +kernel
theorem d8_3 : decode prog_1_method_4_code 3 = .ok (.invokestatic 15, 3) := by decide +kernel
theorem pd__Ljava_lang_Object_Ljava_lang_String__Ljava_lang_Object_ : parseMethodDescriptor "(Ljava/lang/Object;Ljava/lang/String;)Ljava/lang/Object;" = some ⟨[(.object "java/lang/Object"), (.object "java/lang/String")], some (.object "java/lang/Object")⟩ := by decide +kernel
theorem d8_6 : decode prog_1_method_4_code 6 = .ok (.pop, 1) := by decide +kernel
theorem d8_7 : decode prog_1_method_4_code 7 = .ok (.new 21, 3) := by decide +kernel
theorem d8_10 : decode prog_1_method_4_code 10 = .ok (.dup, 1) := by decide +kernel
theorem d8_11 : decode prog_1_method_4_code 11 = .ok (.aload_n 0, 1) := by decide +kernel
theorem d8_12 : decode prog_1_method_4_code 12 = .ok (.aload_n 1, 1) := by decide +kernel
theorem d8_13 : decode prog_1_method_4_code 13 = .ok (.invokespecial 23, 3) := by decide +kernel
theorem pd__Lcom_example_quayside_quayside_Outcome_Ljava_lang_String__V : parseMethodDescriptor "(Lcom/example/quayside/quayside/Outcome;Ljava/lang/String;)V" = some ⟨[(.object "com/example/quayside/quayside/Outcome"), (.object "java/lang/String")], none⟩ := by decide +kernel
theorem d8_16 : decode prog_1_method_4_code 16 = .ok (.areturn, 1) := by decide +kernel
theorem pn8 : plainFor (⟨"com/example/quayside/quayside/Answer", "of", "(Lcom/example/quayside/quayside/Outcome;Ljava/lang/String;)Lcom/example/quayside/quayside/Answer;"⟩ : MethodName) = true := plainFor_of_name (by first | (simp [plainName, overriddenIn]; done) | decide +kernel)
set_option maxRecDepth 65536 in
set_option maxHeartbeats 40000000 in
theorem rm8 (l : Launch) (Z : State) (a0 : Array Value) (hw : ∀ d ∈ tables_1, d.before a0 Z = true) (ws : List Jvm.Cond)  (oc : Addr) (tx : Value) (h0 : Heap) (n0 : Nat) (Z0 : n0 ≤ h0.size) (htx : tx.isRef = true) :
    own_MetW l (⟨"com/example/quayside/quayside/Answer", "of", "(Lcom/example/quayside/quayside/Outcome;Ljava/lang/String;)Lcom/example/quayside/quayside/Answer;"⟩ : MethodName) prog_1_method_4_code 2 (some (.object "com/example/quayside/quayside/Answer")) ({ frames := 2, cells := 3, slots := 34, locals := 27 } : Room) ws #[(.ref oc), tx] Z own_EL h0 (fun v h L => ∃ b : Addr, v = some (.ref b) ∧ Fr n0 L ∧ Keep h0 h [] ∧ Exa Z h b "com/example/quayside/quayside/Answer$1" ∧ Fld Z h b "com/example/quayside/quayside/Answer$1" "val$outcome" "Lcom/example/quayside/quayside/Outcome;" (.ref oc) ∧ Fld Z h b "com/example/quayside/quayside/Answer$1" "val$text" "Ljava/lang/String;" tx) := by
  refine own_metW pn8 ?_
  intro p e s m below meth c s₁ hx X0 hZ e0 hby hml hown hnm hret hlk Iv0
  have N0 := Fr.nil n0
  refine own_atW (f' := mkF m 0 #[.val (.ref oc), .val tx] []) (by rcases ref_cases htx with rfl | ⟨z_, rfl⟩ <;> first | (simp [entryFrame, mkF, argsToLocals, Value.category]; done) | rfl) ?_
  show own_EndsW _ _ _ _ _ _ _ _ _ s₁ (mkF m 0 #[.val (.ref oc), .val tx] [])
  refine own_goW (fun t_ k_ => XS.aloadN X0.here hx rfl (hb hby d8_0) rfl rfl  k_) ?_
  show own_EndsW _ _ _ _ _ _ _ _ _ s₁ (mkF m 1 #[.val (.ref oc), .val tx] [(.ref oc)])
  obtain ⟨la1, T1, h1, X1, e1, E1, Iv1, hZ, hown, CH1, st1⟩ := own_ldcO X0 hx hZ (hown) (own_EW hw) (own_wS hw) (hw _ (List.mem_of_getElem? (i := 66) rfl)) e0 Iv0 (g := (mkF m 1 #[.val (.ref oc), .val tx] [(.ref oc)])) rfl (hb hby d8_1) 28 (by decide) (by decide) (by decide) (by decide)
  refine own_goW st1 ?_
  have K1 := Keep.ext (Keep.refl h0 []) E1
  show own_EndsW _ _ _ _ _ _ _ _ _ T1 (mkF m 3 #[.val (.ref oc), .val tx] [(.ref la1), (.ref oc)])
  obtain ⟨T2, v2, L2, X2, hQ2, st2⟩ := own_callS X1 hx hZ (y := (⟨"java/util/Objects", "requireNonNull", "(Ljava/lang/Object;Ljava/lang/String;)Ljava/lang/Object;"⟩ : MethodName)) hown (hw _ (List.mem_of_getElem? (i := 67) rfl)) (hw _ (List.mem_of_getElem? (i := 68) rfl)) (hw _ (List.mem_of_getElem? (i := 69) rfl)) (hw _ (List.mem_of_getElem? (i := 70) rfl)) (by decide) (rm9 l Z a0 hw [] oc la1 h1 n0 (Nat.le_trans Z0 E1.1)) e1 (g := (mkF m 3 #[.val (.ref oc), .val tx] [(.ref la1), (.ref oc)])) rfl (by rw [hml]; rfl) [(.ref oc), (.ref la1)] [] rfl (lenOf pd__Ljava_lang_Object_Ljava_lang_String__Ljava_lang_Object_ rfl) rfl 0 (by show 2 * 0 + _ ≤ _; exact Nat.le_of_eq rfl) (hb hby d8_3) (by decide) (by decide) (by decide) (by decide)
  obtain ⟨rfl, N2q, e2⟩ := hQ2
  refine own_goW st2 ?_
  have N2 := Fr.app N0 N2q
  show own_EndsW _ _ _ _ _ _ _ _ _ T2 (mkF m 6 #[.val (.ref oc), .val tx] [(.ref oc)])
  refine own_goW (fun t_ k_ => XT.pop X2.here hx rfl (hb hby d8_6) rfl rfl k_) ?_
  show own_EndsW _ _ _ _ _ _ _ _ _ T2 (mkF m 7 #[.val (.ref oc), .val tx] [])
  obtain ⟨T3, h3, X3, e3, E3, A3, D3, -, st3⟩ := newO X2 hx hZ hown (hw _ (List.mem_of_getElem? (i := 71) rfl)) (hw _ (List.mem_of_getElem? (i := 72) rfl)) (hw _ (List.mem_of_getElem? (i := 73) rfl)) e2 (g := (mkF m 7 #[.val (.ref oc), .val tx] [])) rfl (hb hby d8_7) (by decide) (by decide)
  obtain ⟨b3, g3⟩ : ∃ z, z = h1.size := ⟨_, rfl⟩
  rw [← g3] at A3 D3 st3
  refine own_goW st3 ?_
  have g_b3 : n0 ≤ b3 := Nat.le_trans (Nat.le_trans Z0 E1.1) (Nat.le_of_eq g3.symm)
  have Sf3 : Safe Z own_EL T1.vm h3 b3 := Safe.ext E3 Iv1.ch (Safe.new (Nat.le_of_eq g3.symm))
  have Iv3 := Iv1.ext E3
  have sz_b3 : h0.size ≤ b3 := Nat.le_trans K1.1 (Nat.le_of_eq g3.symm)
  have K3 := Keep.ext K1 E3
  have F3_val_outcome : Fld Z h3 b3 "com/example/quayside/quayside/Answer$1" "val$outcome" "Lcom/example/quayside/quayside/Outcome;" .null := D3 (Or.inr (hw _ (List.mem_of_getElem? (i := 78) rfl))) (ty := (.object "com/example/quayside/quayside/Outcome")) (by decide)
  have F3_val_text : Fld Z h3 b3 "com/example/quayside/quayside/Answer$1" "val$text" "Ljava/lang/String;" .null := D3 (Or.inr (hw _ (List.mem_of_getElem? (i := 80) rfl))) (ty := (.object "java/lang/String")) (by decide)
  show own_EndsW _ _ _ _ _ _ _ _ _ T3 (mkF m 10 #[.val (.ref oc), .val tx] [(.ref b3)])
  refine own_goW (fun t_ k_ => XS.dup X3.here hx rfl (hb hby d8_10) rfl rfl k_) ?_
  show own_EndsW _ _ _ _ _ _ _ _ _ T3 (mkF m 11 #[.val (.ref oc), .val tx] [(.ref b3), (.ref b3)])
  refine own_goW (fun t_ k_ => XS.aloadN X3.here hx rfl (hb hby d8_11) rfl rfl  k_) ?_
  show own_EndsW _ _ _ _ _ _ _ _ _ T3 (mkF m 12 #[.val (.ref oc), .val tx] [(.ref oc), (.ref b3), (.ref b3)])
  refine own_goW (fun t_ k_ => XS.aloadN X3.here hx rfl (hb hby d8_12) rfl htx  k_) ?_
  show own_EndsW _ _ _ _ _ _ _ _ _ T3 (mkF m 13 #[.val (.ref oc), .val tx] [tx, (.ref oc), (.ref b3), (.ref b3)])
  have Nsk4 : ∀ x ∈ ([b3] : List Addr), ∀ cell : Cell, h3[x]? = some cell → cell.vm.isStatics = false := (nsS (Exa.nostat A3) ns0)
  have Skk4 : ∀ x ∈ ([b3] : List Addr), Safe Z own_EL T1.vm h3 x := (sfS (Safe.exa hZ.alike A3 (by decide) (by decide)) sf0)
  obtain ⟨T5, v5, L5, X5, hQ5, st5⟩ := own_callN X3 hx hZ (y := (⟨"com/example/quayside/quayside/Answer$1", "<init>", "(Lcom/example/quayside/quayside/Outcome;Ljava/lang/String;)V"⟩ : MethodName)) rfl hown (hw _ (List.mem_of_getElem? (i := 74) rfl)) (hw _ (List.mem_of_getElem? (i := 75) rfl)) (hw _ (List.mem_of_getElem? (i := 73) rfl)) (hw _ (List.mem_of_getElem? (i := 76) rfl)) (by decide) (rm10 l Z a0 hw [] b3 oc tx h3 n0 (Nat.le_trans (Nat.le_trans Z0 E1.1) E3.1) htx A3 F3_val_outcome F3_val_text g_b3) e3 (g := (mkF m 13 #[.val (.ref oc), .val tx] [tx, (.ref oc), (.ref b3), (.ref b3)])) rfl (by rw [hml]; rfl) b3 [(.ref oc), tx] [(.ref b3)] rfl (lenOf pd__Lcom_example_quayside_quayside_Outcome_Ljava_lang_String__V rfl) rfl 1 (by show 2 * 0 + _ ≤ _; exact Nat.le_of_eq rfl) (hb hby d8_13) (by decide) (by decide) (by decide) (by decide)
  obtain ⟨rfl, N5q, Kq5, Eq5, Fq5_0, Fq5_1⟩ := hQ5
  refine own_goW st5 ?_
  have N5 := Fr.app N2 N5q
  have Iv5 := Iv3.keep Kq5 Skk4
  have K5 := Keep.trans K3 Kq5 (allS (Or.inr sz_b3) all0)
  show own_EndsW _ _ _ _ _ _ _ _ _ T5 (mkF m 16 #[.val (.ref oc), .val tx] [(.ref b3)])
  refine own_retRW X5 hZ (own_EW hw) Iv5 hx hlk hret rfl rfl (hb hby d8_16) rfl (by decide) (by decide) ?_
  exact ⟨b3, rfl, N5, K5, (A3.keep Kq5), Fq5_0, Fq5_1⟩
theorem pd__II_Ljava_lang_String_ : parseMethodDescriptor "(II)Ljava/lang/String;" = some ⟨[.int, .int], some (.object "java/lang/String")⟩ := by decide +kernel
theorem pd__Lcom_example_quayside_quayside_Outcome_Ljava_lang_String__Lcom_example_quayside_quayside_Answer_ : parseMethodDescriptor "(Lcom/example/quayside/quayside/Outcome;Ljava/lang/String;)Lcom/example/quayside/quayside/Answer;" = some ⟨[(.object "com/example/quayside/quayside/Outcome"), (.object "java/lang/String")], some (.object "com/example/quayside/quayside/Answer")⟩ := by decide +kernel
theorem pd___Lcom_example_quayside_quayside_Outcome_ : parseMethodDescriptor "()Lcom/example/quayside/quayside/Outcome;" = some ⟨[], some (.object "com/example/quayside/quayside/Outcome")⟩ := by decide +kernel
theorem pd___Ljava_lang_String_ : parseMethodDescriptor "()Ljava/lang/String;" = some ⟨[], some (.object "java/lang/String")⟩ := by decide +kernel
theorem pn0 : plainFor (⟨"com/example/quayside/quayside/AnswerOfPinLaw", "law", "(IIIII)Z"⟩ : MethodName) = true := plainFor_of_name (by first | (simp [plainName, overriddenIn]; done) | decide +kernel)
set_option maxRecDepth 65536 in
set_option maxHeartbeats 40000000 in
theorem rm0 (l : Launch) (Z : State) (a0 : Array Value) (hw : ∀ d ∈ tables_1, d.before a0 Z = true) (ws : List Jvm.Cond) (p0 : Int32) (p1 : Int32) (p2 : Int32) (p3 : Int32) (p4 : Int32) (w0 w1 w2 w3 w4 w5 w6 w7 w8 w9 : Addr) (zc : Int32) (h0 : Heap) (n0 : Nat) (Z0 : n0 ≤ h0.size) (Sx0 : Sta Z h0 "com/example/quayside/quayside/Outcome" "SUCCEED" "Lcom/example/quayside/quayside/Outcome;" (.ref w0)) (Ex0 : Exa Z h0 w0 "com/example/quayside/quayside/Outcome") (Sx1 : Sta Z h0 "com/example/quayside/quayside/Outcome" "VALCHANGE" "Lcom/example/quayside/quayside/Outcome;" (.ref w1)) (Ex1 : Exa Z h0 w1 "com/example/quayside/quayside/Outcome") (Sx2 : Sta Z h0 "com/example/quayside/quayside/Outcome" "MULTIPLE_HITS" "Lcom/example/quayside/quayside/Outcome;" (.ref w2)) (Ex2 : Exa Z h0 w2 "com/example/quayside/quayside/Outcome") (Sx3 : Sta Z h0 "com/example/quayside/quayside/Outcome" "FAIL" "Lcom/example/quayside/quayside/Outcome;" (.ref w3)) (Ex3 : Exa Z h0 w3 "com/example/quayside/quayside/Outcome") (Sx4 : Sta Z h0 "com/example/quayside/quayside/Outcome" "FAIL_RETRIEVE_BY_CONTENT" "Lcom/example/quayside/quayside/Outcome;" (.ref w4)) (Ex4 : Exa Z h0 w4 "com/example/quayside/quayside/Outcome") (Sx5 : Sta Z h0 "com/example/quayside/quayside/Outcome" "BO_DOES_NOT_EXIST" "Lcom/example/quayside/quayside/Outcome;" (.ref w5)) (Ex5 : Exa Z h0 w5 "com/example/quayside/quayside/Outcome") (Sx6 : Sta Z h0 "com/example/quayside/quayside/Outcome" "UNABLE_TO_LOGIN" "Lcom/example/quayside/quayside/Outcome;" (.ref w6)) (Ex6 : Exa Z h0 w6 "com/example/quayside/quayside/Outcome") (Sx7 : Sta Z h0 "com/example/quayside/quayside/Outcome" "VALDUPES" "Lcom/example/quayside/quayside/Outcome;" (.ref w7)) (Ex7 : Exa Z h0 w7 "com/example/quayside/quayside/Outcome") (Sx8 : Sta Z h0 "com/example/quayside/quayside/Outcome" "UNSUBSCRIBED" "Lcom/example/quayside/quayside/Outcome;" (.ref w8)) (Ex8 : Exa Z h0 w8 "com/example/quayside/quayside/Outcome") (Sx9 : Sta Z h0 "com/example/quayside/quayside/Outcome" "APPRESPONSETIMEOUT" "Lcom/example/quayside/quayside/Outcome;" (.ref w9)) (Ex9 : Exa Z h0 w9 "com/example/quayside/quayside/Outcome") (SC : Sta Z h0 "java/lang/String" "COMPACT_STRINGS" "Z" (.int zc)) (hzc : ¬ zc = 0) :
    own_MetW l x code maxLocals ret room_1 ws #[(.int p0), (.int p1), (.int p2), (.int p3), (.int p4)] Z own_EL h0 (fun v h L => v = some (.int 1) ∧ Fr n0 L) := by
  refine own_metW pn0 ?_
  intro p e s m below meth c s₁ hx X0 hZ e0 hby hml hown hnm hret hlk Iv0
  have N0 := Fr.nil n0
  refine own_atW (f' := mkF m 0 #[.val (.int p0), .val (.int p1), .val (.int p2), .val (.int p3), .val (.int p4), .unset, .unset, .unset, .unset, .unset, .unset, .unset, .unset] []) (by first | (simp [entryFrame, mkF, argsToLocals, Value.category, maxLocals]; done) | rfl) ?_
  show own_EndsW _ _ _ _ _ _ _ _ _ s₁ (mkF m 0 #[.val (.int p0), .val (.int p1), .val (.int p2), .val (.int p3), .val (.int p4), .unset, .unset, .unset, .unset, .unset, .unset, .unset, .unset] [])
  refine own_goW (fun t_ k_ => XS.bipush X0.here hx rfl (hb hby at_0) k_) ?_
  show own_EndsW _ _ _ _ _ _ _ _ _ s₁ (mkF m 2 #[.val (.int p0), .val (.int p1), .val (.int p2), .val (.int p3), .val (.int p4), .unset, .unset, .unset, .unset, .unset, .unset, .unset, .unset] [(.int (10 : Int32))])
  obtain ⟨T1, h1, k1, X1, e1, E1, A1, O1, st1⟩ := newR X0 hx hZ hown (hw _ (List.mem_of_getElem? (i := 0) rfl)) (hw _ (List.mem_of_getElem? (i := 1) rfl)) e0 (g := (mkF m 2 #[.val (.int p0), .val (.int p1), .val (.int p2), .val (.int p3), .val (.int p4), .unset, .unset, .unset, .unset, .unset, .unset, .unset, .unset] [(.int (10 : Int32))])) rfl (hb hby at_2) rfl (by decide) (cap := 10) (by decide) (by decide) (by decide) (by decide)
  obtain ⟨b1, g1⟩ : ∃ z, z = h0.size := ⟨_, rfl⟩
  rw [← g1] at A1 st1
  refine own_goW st1 ?_
  have V1 : Arv Z h1 b1 k1 (.object "com/example/quayside/quayside/Outcome") (10 : Int32) [.null, .null, .null, .null, .null, .null, .null, .null, .null, .null] .null := (Arv.new A1 (by decide)).pad (pad_rep [] .null 10)
  have g_b1 : n0 ≤ b1 := Nat.le_trans Z0 (Nat.le_of_eq g1.symm)
  have Sf1 : Safe Z own_EL s.vm h1 b1 := Safe.ext E1 Iv0.ch (Safe.new (Nat.le_of_eq g1.symm))
  have Iv1 := Iv0.ext E1
  show own_EndsW _ _ _ _ _ _ _ _ _ T1 (mkF m 5 #[.val (.int p0), .val (.int p1), .val (.int p2), .val (.int p3), .val (.int p4), .unset, .unset, .unset, .unset, .unset, .unset, .unset, .unset] [(.ref b1)])
  refine own_goW (fun t_ k_ => XS.dup X1.here hx rfl (hb hby at_5) rfl rfl k_) ?_
  show own_EndsW _ _ _ _ _ _ _ _ _ T1 (mkF m 6 #[.val (.int p0), .val (.int p1), .val (.int p2), .val (.int p3), .val (.int p4), .unset, .unset, .unset, .unset, .unset, .unset, .unset, .unset] [(.ref b1), (.ref b1)])
  refine own_goW (fun t_ k_ => XS.iconst X1.here hx rfl (hb hby at_6) k_) ?_
  show own_EndsW _ _ _ _ _ _ _ _ _ T1 (mkF m 7 #[.val (.int p0), .val (.int p1), .val (.int p2), .val (.int p3), .val (.int p4), .unset, .unset, .unset, .unset, .unset, .unset, .unset, .unset] [(.int (0 : Int32)), (.ref b1), (.ref b1)])
  obtain ⟨T2, X2, e2, st2⟩ := getS2 X1 hx hZ hown (host := "") (Or.inl (hw _ (List.mem_of_getElem? (i := 2) rfl))) Via.refl e1 (Sx0.ext E1) (g := (mkF m 7 #[.val (.int p0), .val (.int p1), .val (.int p2), .val (.int p3), .val (.int p4), .unset, .unset, .unset, .unset, .unset, .unset, .unset, .unset] [(.int (0 : Int32)), (.ref b1), (.ref b1)])) rfl (hb hby at_7)
  refine own_goW st2 ?_
  show own_EndsW _ _ _ _ _ _ _ _ _ T2 (mkF m 10 #[.val (.int p0), .val (.int p1), .val (.int p2), .val (.int p3), .val (.int p4), .unset, .unset, .unset, .unset, .unset, .unset, .unset, .unset] [(.ref w0), (.int (0 : Int32)), (.ref b1), (.ref b1)])
  have Swp3 : Safe Z own_EL s.vm h1 b1 := (Safe.arv hZ.alike V1 (by decide))
  obtain ⟨cl4, Ar4, q4, S4, Ng4, Hs4, G4⟩ := (id V1)
  obtain ⟨T5, h5, X5, e5, W5, st5⟩ := stR X2 hx hZ e2 Ar4 (j := (0 : Int32)) (inb_of S4 ⟨by decide, by decide⟩) rfl (Sto.ofV Ar4 q4 O1 (Ins.self (Ex0.ext E1))) (g := (mkF m 10 #[.val (.int p0), .val (.int p1), .val (.int p2), .val (.int p3), .val (.int p4), .unset, .unset, .unset, .unset, .unset, .unset, .unset, .unset] [(.ref w0), (.int (0 : Int32)), (.ref b1), (.ref b1)])) rfl rfl (hb hby at_10)
  refine own_goW st5 ?_
  have V5 : Arv Z h5 b1 k1 (.object "com/example/quayside/quayside/Outcome") (10 : Int32) [(.ref w0), .null, .null, .null, .null, .null, .null, .null, .null, .null] .null := Arv.set Ar4 q4 S4 Ng4 Hs4 G4 rfl W5 0 rfl (Nat.le_of_ble_eq_true rfl)
  have Iv5 := Iv1.wr W5 Swp3
  have N5 := Fr.snoc X5 N0 g_b1
  show own_EndsW _ _ _ _ _ _ _ _ _ T5 (mkF m 11 #[.val (.int p0), .val (.int p1), .val (.int p2), .val (.int p3), .val (.int p4), .unset, .unset, .unset, .unset, .unset, .unset, .unset, .unset] [(.ref b1)])
  refine own_goW (fun t_ k_ => XS.dup X5.here hx rfl (hb hby at_11) rfl rfl k_) ?_
  show own_EndsW _ _ _ _ _ _ _ _ _ T5 (mkF m 12 #[.val (.int p0), .val (.int p1), .val (.int p2), .val (.int p3), .val (.int p4), .unset, .unset, .unset, .unset, .unset, .unset, .unset, .unset] [(.ref b1), (.ref b1)])
  refine own_goW (fun t_ k_ => XS.iconst X5.here hx rfl (hb hby at_12) k_) ?_
  show own_EndsW _ _ _ _ _ _ _ _ _ T5 (mkF m 13 #[.val (.int p0), .val (.int p1), .val (.int p2), .val (.int p3), .val (.int p4), .unset, .unset, .unset, .unset, .unset, .unset, .unset, .unset] [(.int (1 : Int32)), (.ref b1), (.ref b1)])
  obtain ⟨T6, X6, e6, st6⟩ := getS2 X5 hx hZ hown (host := "") (Or.inl (hw _ (List.mem_of_getElem? (i := 6) rfl))) Via.refl e5 ((Sx1.ext E1).wr W5) (g := (mkF m 13 #[.val (.int p0), .val (.int p1), .val (.int p2), .val (.int p3), .val (.int p4), .unset, .unset, .unset, .unset, .unset, .unset, .unset, .unset] [(.int (1 : Int32)), (.ref b1), (.ref b1)])) rfl (hb hby at_13)
  refine own_goW st6 ?_
  show own_EndsW _ _ _ _ _ _ _ _ _ T6 (mkF m 16 #[.val (.int p0), .val (.int p1), .val (.int p2), .val (.int p3), .val (.int p4), .unset, .unset, .unset, .unset, .unset, .unset, .unset, .unset] [(.ref w1), (.int (1 : Int32)), (.ref b1), (.ref b1)])
  have Swp7 : Safe Z own_EL s.vm h5 b1 := (Safe.arv hZ.alike V5 (by decide))
  obtain ⟨cl8, Ar8, q8, S8, Ng8, Hs8, G8⟩ := (id V5)
  obtain ⟨T9, h9, X9, e9, W9, st9⟩ := stR X6 hx hZ e6 Ar8 (j := (1 : Int32)) (inb_of S8 ⟨by decide, by decide⟩) rfl (Sto.ofV Ar8 q8 O1 (Ins.self ((Ex1.ext E1).wr W5))) (g := (mkF m 16 #[.val (.int p0), .val (.int p1), .val (.int p2), .val (.int p3), .val (.int p4), .unset, .unset, .unset, .unset, .unset, .unset, .unset, .unset] [(.ref w1), (.int (1 : Int32)), (.ref b1), (.ref b1)])) rfl rfl (hb hby at_16)
  refine own_goW st9 ?_
  have V9 : Arv Z h9 b1 k1 (.object "com/example/quayside/quayside/Outcome") (10 : Int32) [(.ref w0), (.ref w1), .null, .null, .null, .null, .null, .null, .null, .null] .null := Arv.set Ar8 q8 S8 Ng8 Hs8 G8 rfl W9 1 rfl (Nat.le_of_ble_eq_true rfl)
  have Iv9 := Iv5.wr W9 Swp7
  have N9 := Fr.snoc X9 N5 g_b1
  show own_EndsW _ _ _ _ _ _ _ _ _ T9 (mkF m 17 #[.val (.int p0), .val (.int p1), .val (.int p2), .val (.int p3), .val (.int p4), .unset, .unset, .unset, .unset, .unset, .unset, .unset, .unset] [(.ref b1)])
  refine own_goW (fun t_ k_ => XS.dup X9.here hx rfl (hb hby at_17) rfl rfl k_) ?_
  show own_EndsW _ _ _ _ _ _ _ _ _ T9 (mkF m 18 #[.val (.int p0), .val (.int p1), .val (.int p2), .val (.int p3), .val (.int p4), .unset, .unset, .unset, .unset, .unset, .unset, .unset, .unset] [(.ref b1), (.ref b1)])
  refine own_goW (fun t_ k_ => XS.iconst X9.here hx rfl (hb hby at_18) k_) ?_
  show own_EndsW _ _ _ _ _ _ _ _ _ T9 (mkF m 19 #[.val (.int p0), .val (.int p1), .val (.int p2), .val (.int p3), .val (.int p4), .unset, .unset, .unset, .unset, .unset, .unset, .unset, .unset] [(.int (2 : Int32)), (.ref b1), (.ref b1)])
  obtain ⟨T10, X10, e10, st10⟩ := getS2 X9 hx hZ hown (host := "") (Or.inl (hw _ (List.mem_of_getElem? (i := 8) rfl))) Via.refl e9 (((Sx2.ext E1).wr W5).wr W9) (g := (mkF m 19 #[.val (.int p0), .val (.int p1), .val (.int p2), .val (.int p3), .val (.int p4), .unset, .unset, .unset, .unset, .unset, .unset, .unset, .unset] [(.int (2 : Int32)), (.ref b1), (.ref b1)])) rfl (hb hby at_19)
  refine own_goW st10 ?_
  show own_EndsW _ _ _ _ _ _ _ _ _ T10 (mkF m 22 #[.val (.int p0), .val (.int p1), .val (.int p2), .val (.int p3), .val (.int p4), .unset, .unset, .unset, .unset, .unset, .unset, .unset, .unset] [(.ref w2), (.int (2 : Int32)), (.ref b1), (.ref b1)])
  have Swp11 : Safe Z own_EL s.vm h9 b1 := (Safe.arv hZ.alike V9 (by decide))
  obtain ⟨cl12, Ar12, q12, S12, Ng12, Hs12, G12⟩ := (id V9)
  obtain ⟨T13, h13, X13, e13, W13, st13⟩ := stR X10 hx hZ e10 Ar12 (j := (2 : Int32)) (inb_of S12 ⟨by decide, by decide⟩) rfl (Sto.ofV Ar12 q12 O1 (Ins.self (((Ex2.ext E1).wr W5).wr W9))) (g := (mkF m 22 #[.val (.int p0), .val (.int p1), .val (.int p2), .val (.int p3), .val (.int p4), .unset, .unset, .unset, .unset, .unset, .unset, .unset, .unset] [(.ref w2), (.int (2 : Int32)), (.ref b1), (.ref b1)])) rfl rfl (hb hby at_22)
  refine own_goW st13 ?_
  have V13 : Arv Z h13 b1 k1 (.object "com/example/quayside/quayside/Outcome") (10 : Int32) [(.ref w0), (.ref w1), (.ref w2), .null, .null, .null, .null, .null, .null, .null] .null := Arv.set Ar12 q12 S12 Ng12 Hs12 G12 rfl W13 2 rfl (Nat.le_of_ble_eq_true rfl)
  have Iv13 := Iv9.wr W13 Swp11
  have N13 := Fr.snoc X13 N9 g_b1
  show own_EndsW _ _ _ _ _ _ _ _ _ T13 (mkF m 23 #[.val (.int p0), .val (.int p1), .val (.int p2), .val (.int p3), .val (.int p4), .unset, .unset, .unset, .unset, .unset, .unset, .unset, .unset] [(.ref b1)])
  refine own_goW (fun t_ k_ => XS.dup X13.here hx rfl (hb hby at_23) rfl rfl k_) ?_
  show own_EndsW _ _ _ _ _ _ _ _ _ T13 (mkF m 24 #[.val (.int p0), .val (.int p1), .val (.int p2), .val (.int p3), .val (.int p4), .unset, .unset, .unset, .unset, .unset, .unset, .unset, .unset] [(.ref b1), (.ref b1)])
  refine own_goW (fun t_ k_ => XS.iconst X13.here hx rfl (hb hby at_24) k_) ?_
  show own_EndsW _ _ _ _ _ _ _ _ _ T13 (mkF m 25 #[.val (.int p0), .val (.int p1), .val (.int p2), .val (.int p3), .val (.int p4), .unset, .unset, .unset, .unset, .unset, .unset, .unset, .unset] [(.int (3 : Int32)), (.ref b1), (.ref b1)])
  obtain ⟨T14, X14, e14, st14⟩ := getS2 X13 hx hZ hown (host := "") (Or.inl (hw _ (List.mem_of_getElem? (i := 10) rfl))) Via.refl e13 ((((Sx3.ext E1).wr W5).wr W9).wr W13) (g := (mkF m 25 #[.val (.int p0), .val (.int p1), .val (.int p2), .val (.int p3), .val (.int p4), .unset, .unset, .unset, .unset, .unset, .unset, .unset, .unset] [(.int (3 : Int32)), (.ref b1), (.ref b1)])) rfl (hb hby at_25)
  refine own_goW st14 ?_
  show own_EndsW _ _ _ _ _ _ _ _ _ T14 (mkF m 28 #[.val (.int p0), .val (.int p1), .val (.int p2), .val (.int p3), .val (.int p4), .unset, .unset, .unset, .unset, .unset, .unset, .unset, .unset] [(.ref w3), (.int (3 : Int32)), (.ref b1), (.ref b1)])
  have Swp15 : Safe Z own_EL s.vm h13 b1 := (Safe.arv hZ.alike V13 (by decide))
  obtain ⟨cl16, Ar16, q16, S16, Ng16, Hs16, G16⟩ := (id V13)
  obtain ⟨T17, h17, X17, e17, W17, st17⟩ := stR X14 hx hZ e14 Ar16 (j := (3 : Int32)) (inb_of S16 ⟨by decide, by decide⟩) rfl (Sto.ofV Ar16 q16 O1 (Ins.self ((((Ex3.ext E1).wr W5).wr W9).wr W13))) (g := (mkF m 28 #[.val (.int p0), .val (.int p1), .val (.int p2), .val (.int p3), .val (.int p4), .unset, .unset, .unset, .unset, .unset, .unset, .unset, .unset] [(.ref w3), (.int (3 : Int32)), (.ref b1), (.ref b1)])) rfl rfl (hb hby at_28)
  refine own_goW st17 ?_
  have V17 : Arv Z h17 b1 k1 (.object "com/example/quayside/quayside/Outcome") (10 : Int32) [(.ref w0), (.ref w1), (.ref w2), (.ref w3), .null, .null, .null, .null, .null, .null] .null := Arv.set Ar16 q16 S16 Ng16 Hs16 G16 rfl W17 3 rfl (Nat.le_of_ble_eq_true rfl)
  have Iv17 := Iv13.wr W17 Swp15
  have N17 := Fr.snoc X17 N13 g_b1
  show own_EndsW _ _ _ _ _ _ _ _ _ T17 (mkF m 29 #[.val (.int p0), .val (.int p1), .val (.int p2), .val (.int p3), .val (.int p4), .unset, .unset, .unset, .unset, .unset, .unset, .unset, .unset] [(.ref b1)])
  refine own_goW (fun t_ k_ => XS.dup X17.here hx rfl (hb hby at_29) rfl rfl k_) ?_
  show own_EndsW _ _ _ _ _ _ _ _ _ T17 (mkF m 30 #[.val (.int p0), .val (.int p1), .val (.int p2), .val (.int p3), .val (.int p4), .unset, .unset, .unset, .unset, .unset, .unset, .unset, .unset] [(.ref b1), (.ref b1)])
  refine own_goW (fun t_ k_ => XS.iconst X17.here hx rfl (hb hby at_30) k_) ?_
  show own_EndsW _ _ _ _ _ _ _ _ _ T17 (mkF m 31 #[.val (.int p0), .val (.int p1), .val (.int p2), .val (.int p3), .val (.int p4), .unset, .unset, .unset, .unset, .unset, .unset, .unset, .unset] [(.int (4 : Int32)), (.ref b1), (.ref b1)])
  obtain ⟨T18, X18, e18, st18⟩ := getS2 X17 hx hZ hown (host := "") (Or.inl (hw _ (List.mem_of_getElem? (i := 12) rfl))) Via.refl e17 (((((Sx4.ext E1).wr W5).wr W9).wr W13).wr W17) (g := (mkF m 31 #[.val (.int p0), .val (.int p1), .val (.int p2), .val (.int p3), .val (.int p4), .unset, .unset, .unset, .unset, .unset, .unset, .unset, .unset] [(.int (4 : Int32)), (.ref b1), (.ref b1)])) rfl (hb hby at_31)
  refine own_goW st18 ?_
  show own_EndsW _ _ _ _ _ _ _ _ _ T18 (mkF m 34 #[.val (.int p0), .val (.int p1), .val (.int p2), .val (.int p3), .val (.int p4), .unset, .unset, .unset, .unset, .unset, .unset, .unset, .unset] [(.ref w4), (.int (4 : Int32)), (.ref b1), (.ref b1)])
  have Swp19 : Safe Z own_EL s.vm h17 b1 := (Safe.arv hZ.alike V17 (by decide))
  obtain ⟨cl20, Ar20, q20, S20, Ng20, Hs20, G20⟩ := (id V17)
  obtain ⟨T21, h21, X21, e21, W21, st21⟩ := stR X18 hx hZ e18 Ar20 (j := (4 : Int32)) (inb_of S20 ⟨by decide, by decide⟩) rfl (Sto.ofV Ar20 q20 O1 (Ins.self (((((Ex4.ext E1).wr W5).wr W9).wr W13).wr W17))) (g := (mkF m 34 #[.val (.int p0), .val (.int p1), .val (.int p2), .val (.int p3), .val (.int p4), .unset, .unset, .unset, .unset, .unset, .unset, .unset, .unset] [(.ref w4), (.int (4 : Int32)), (.ref b1), (.ref b1)])) rfl rfl (hb hby at_34)
  refine own_goW st21 ?_
  have V21 : Arv Z h21 b1 k1 (.object "com/example/quayside/quayside/Outcome") (10 : Int32) [(.ref w0), (.ref w1), (.ref w2), (.ref w3), (.ref w4), .null, .null, .null, .null, .null] .null := Arv.set Ar20 q20 S20 Ng20 Hs20 G20 rfl W21 4 rfl (Nat.le_of_ble_eq_true rfl)
  have Iv21 := Iv17.wr W21 Swp19
  have N21 := Fr.snoc X21 N17 g_b1
  show own_EndsW _ _ _ _ _ _ _ _ _ T21 (mkF m 35 #[.val (.int p0), .val (.int p1), .val (.int p2), .val (.int p3), .val (.int p4), .unset, .unset, .unset, .unset, .unset, .unset, .unset, .unset] [(.ref b1)])
  refine own_goW (fun t_ k_ => XS.dup X21.here hx rfl (hb hby at_35) rfl rfl k_) ?_
  show own_EndsW _ _ _ _ _ _ _ _ _ T21 (mkF m 36 #[.val (.int p0), .val (.int p1), .val (.int p2), .val (.int p3), .val (.int p4), .unset, .unset, .unset, .unset, .unset, .unset, .unset, .unset] [(.ref b1), (.ref b1)])
  refine own_goW (fun t_ k_ => XS.iconst X21.here hx rfl (hb hby at_36) k_) ?_
  show own_EndsW _ _ _ _ _ _ _ _ _ T21 (mkF m 37 #[.val (.int p0), .val (.int p1), .val (.int p2), .val (.int p3), .val (.int p4), .unset, .unset, .unset, .unset, .unset, .unset, .unset, .unset] [(.int (5 : Int32)), (.ref b1), (.ref b1)])
  obtain ⟨T22, X22, e22, st22⟩ := getS2 X21 hx hZ hown (host := "") (Or.inl (hw _ (List.mem_of_getElem? (i := 14) rfl))) Via.refl e21 ((((((Sx5.ext E1).wr W5).wr W9).wr W13).wr W17).wr W21) (g := (mkF m 37 #[.val (.int p0), .val (.int p1), .val (.int p2), .val (.int p3), .val (.int p4), .unset, .unset, .unset, .unset, .unset, .unset, .unset, .unset] [(.int (5 : Int32)), (.ref b1), (.ref b1)])) rfl (hb hby at_37)
  refine own_goW st22 ?_
  show own_EndsW _ _ _ _ _ _ _ _ _ T22 (mkF m 40 #[.val (.int p0), .val (.int p1), .val (.int p2), .val (.int p3), .val (.int p4), .unset, .unset, .unset, .unset, .unset, .unset, .unset, .unset] [(.ref w5), (.int (5 : Int32)), (.ref b1), (.ref b1)])
  have Swp23 : Safe Z own_EL s.vm h21 b1 := (Safe.arv hZ.alike V21 (by decide))
  obtain ⟨cl24, Ar24, q24, S24, Ng24, Hs24, G24⟩ := (id V21)
  obtain ⟨T25, h25, X25, e25, W25, st25⟩ := stR X22 hx hZ e22 Ar24 (j := (5 : Int32)) (inb_of S24 ⟨by decide, by decide⟩) rfl (Sto.ofV Ar24 q24 O1 (Ins.self ((((((Ex5.ext E1).wr W5).wr W9).wr W13).wr W17).wr W21))) (g := (mkF m 40 #[.val (.int p0), .val (.int p1), .val (.int p2), .val (.int p3), .val (.int p4), .unset, .unset, .unset, .unset, .unset, .unset, .unset, .unset] [(.ref w5), (.int (5 : Int32)), (.ref b1), (.ref b1)])) rfl rfl (hb hby at_40)
  refine own_goW st25 ?_
  have V25 : Arv Z h25 b1 k1 (.object "com/example/quayside/quayside/Outcome") (10 : Int32) [(.ref w0), (.ref w1), (.ref w2), (.ref w3), (.ref w4), (.ref w5), .null, .null, .null, .null] .null := Arv.set Ar24 q24 S24 Ng24 Hs24 G24 rfl W25 5 rfl (Nat.le_of_ble_eq_true rfl)
  have Iv25 := Iv21.wr W25 Swp23
  have N25 := Fr.snoc X25 N21 g_b1
  show own_EndsW _ _ _ _ _ _ _ _ _ T25 (mkF m 41 #[.val (.int p0), .val (.int p1), .val (.int p2), .val (.int p3), .val (.int p4), .unset, .unset, .unset, .unset, .unset, .unset, .unset, .unset] [(.ref b1)])
  refine own_goW (fun t_ k_ => XS.dup X25.here hx rfl (hb hby at_41) rfl rfl k_) ?_
  show own_EndsW _ _ _ _ _ _ _ _ _ T25 (mkF m 42 #[.val (.int p0), .val (.int p1), .val (.int p2), .val (.int p3), .val (.int p4), .unset, .unset, .unset, .unset, .unset, .unset, .unset, .unset] [(.ref b1), (.ref b1)])
  refine own_goW (fun t_ k_ => XS.bipush X25.here hx rfl (hb hby at_42) k_) ?_
  show own_EndsW _ _ _ _ _ _ _ _ _ T25 (mkF m 44 #[.val (.int p0), .val (.int p1), .val (.int p2), .val (.int p3), .val (.int p4), .unset, .unset, .unset, .unset, .unset, .unset, .unset, .unset] [(.int (6 : Int32)), (.ref b1), (.ref b1)])
  obtain ⟨T26, X26, e26, st26⟩ := getS2 X25 hx hZ hown (host := "") (Or.inl (hw _ (List.mem_of_getElem? (i := 16) rfl))) Via.refl e25 (((((((Sx6.ext E1).wr W5).wr W9).wr W13).wr W17).wr W21).wr W25) (g := (mkF m 44 #[.val (.int p0), .val (.int p1), .val (.int p2), .val (.int p3), .val (.int p4), .unset, .unset, .unset, .unset, .unset, .unset, .unset, .unset] [(.int (6 : Int32)), (.ref b1), (.ref b1)])) rfl (hb hby at_44)
  refine own_goW st26 ?_
  show own_EndsW _ _ _ _ _ _ _ _ _ T26 (mkF m 47 #[.val (.int p0), .val (.int p1), .val (.int p2), .val (.int p3), .val (.int p4), .unset, .unset, .unset, .unset, .unset, .unset, .unset, .unset] [(.ref w6), (.int (6 : Int32)), (.ref b1), (.ref b1)])
  have Swp27 : Safe Z own_EL s.vm h25 b1 := (Safe.arv hZ.alike V25 (by decide))
  obtain ⟨cl28, Ar28, q28, S28, Ng28, Hs28, G28⟩ := (id V25)
  obtain ⟨T29, h29, X29, e29, W29, st29⟩ := stR X26 hx hZ e26 Ar28 (j := (6 : Int32)) (inb_of S28 ⟨by decide, by decide⟩) rfl (Sto.ofV Ar28 q28 O1 (Ins.self (((((((Ex6.ext E1).wr W5).wr W9).wr W13).wr W17).wr W21).wr W25))) (g := (mkF m 47 #[.val (.int p0), .val (.int p1), .val (.int p2), .val (.int p3), .val (.int p4), .unset, .unset, .unset, .unset, .unset, .unset, .unset, .unset] [(.ref w6), (.int (6 : Int32)), (.ref b1), (.ref b1)])) rfl rfl (hb hby at_47)
  refine own_goW st29 ?_
  have V29 : Arv Z h29 b1 k1 (.object "com/example/quayside/quayside/Outcome") (10 : Int32) [(.ref w0), (.ref w1), (.ref w2), (.ref w3), (.ref w4), (.ref w5), (.ref w6), .null, .null, .null] .null := Arv.set Ar28 q28 S28 Ng28 Hs28 G28 rfl W29 6 rfl (Nat.le_of_ble_eq_true rfl)
  have Iv29 := Iv25.wr W29 Swp27
  have N29 := Fr.snoc X29 N25 g_b1
  show own_EndsW _ _ _ _ _ _ _ _ _ T29 (mkF m 48 #[.val (.int p0), .val (.int p1), .val (.int p2), .val (.int p3), .val (.int p4), .unset, .unset, .unset, .unset, .unset, .unset, .unset, .unset] [(.ref b1)])
  refine own_goW (fun t_ k_ => XS.dup X29.here hx rfl (hb hby at_48) rfl rfl k_) ?_
  show own_EndsW _ _ _ _ _ _ _ _ _ T29 (mkF m 49 #[.val (.int p0), .val (.int p1), .val (.int p2), .val (.int p3), .val (.int p4), .unset, .unset, .unset, .unset, .unset, .unset, .unset, .unset] [(.ref b1), (.ref b1)])
  refine own_goW (fun t_ k_ => XS.bipush X29.here hx rfl (hb hby at_49) k_) ?_
  show own_EndsW _ _ _ _ _ _ _ _ _ T29 (mkF m 51 #[.val (.int p0), .val (.int p1), .val (.int p2), .val (.int p3), .val (.int p4), .unset, .unset, .unset, .unset, .unset, .unset, .unset, .unset] [(.int (7 : Int32)), (.ref b1), (.ref b1)])
  obtain ⟨T30, X30, e30, st30⟩ := getS2 X29 hx hZ hown (host := "") (Or.inl (hw _ (List.mem_of_getElem? (i := 18) rfl))) Via.refl e29 ((((((((Sx7.ext E1).wr W5).wr W9).wr W13).wr W17).wr W21).wr W25).wr W29) (g := (mkF m 51 #[.val (.int p0), .val (.int p1), .val (.int p2), .val (.int p3), .val (.int p4), .unset, .unset, .unset, .unset, .unset, .unset, .unset, .unset] [(.int (7 : Int32)), (.ref b1), (.ref b1)])) rfl (hb hby at_51)
  refine own_goW st30 ?_
  show own_EndsW _ _ _ _ _ _ _ _ _ T30 (mkF m 54 #[.val (.int p0), .val (.int p1), .val (.int p2), .val (.int p3), .val (.int p4), .unset, .unset, .unset, .unset, .unset, .unset, .unset, .unset] [(.ref w7), (.int (7 : Int32)), (.ref b1), (.ref b1)])
  have Swp31 : Safe Z own_EL s.vm h29 b1 := (Safe.arv hZ.alike V29 (by decide))
  obtain ⟨cl32, Ar32, q32, S32, Ng32, Hs32, G32⟩ := (id V29)
  obtain ⟨T33, h33, X33, e33, W33, st33⟩ := stR X30 hx hZ e30 Ar32 (j := (7 : Int32)) (inb_of S32 ⟨by decide, by decide⟩) rfl (Sto.ofV Ar32 q32 O1 (Ins.self ((((((((Ex7.ext E1).wr W5).wr W9).wr W13).wr W17).wr W21).wr W25).wr W29))) (g := (mkF m 54 #[.val (.int p0), .val (.int p1), .val (.int p2), .val (.int p3), .val (.int p4), .unset, .unset, .unset, .unset, .unset, .unset, .unset, .unset] [(.ref w7), (.int (7 : Int32)), (.ref b1), (.ref b1)])) rfl rfl (hb hby at_54)
  refine own_goW st33 ?_
  have V33 : Arv Z h33 b1 k1 (.object "com/example/quayside/quayside/Outcome") (10 : Int32) [(.ref w0), (.ref w1), (.ref w2), (.ref w3), (.ref w4), (.ref w5), (.ref w6), (.ref w7), .null, .null] .null := Arv.set Ar32 q32 S32 Ng32 Hs32 G32 rfl W33 7 rfl (Nat.le_of_ble_eq_true rfl)
  have Iv33 := Iv29.wr W33 Swp31
  have N33 := Fr.snoc X33 N29 g_b1
  show own_EndsW _ _ _ _ _ _ _ _ _ T33 (mkF m 55 #[.val (.int p0), .val (.int p1), .val (.int p2), .val (.int p3), .val (.int p4), .unset, .unset, .unset, .unset, .unset, .unset, .unset, .unset] [(.ref b1)])
  refine own_goW (fun t_ k_ => XS.dup X33.here hx rfl (hb hby at_55) rfl rfl k_) ?_
  show own_EndsW _ _ _ _ _ _ _ _ _ T33 (mkF m 56 #[.val (.int p0), .val (.int p1), .val (.int p2), .val (.int p3), .val (.int p4), .unset, .unset, .unset, .unset, .unset, .unset, .unset, .unset] [(.ref b1), (.ref b1)])
  refine own_goW (fun t_ k_ => XS.bipush X33.here hx rfl (hb hby at_56) k_) ?_
  show own_EndsW _ _ _ _ _ _ _ _ _ T33 (mkF m 58 #[.val (.int p0), .val (.int p1), .val (.int p2), .val (.int p3), .val (.int p4), .unset, .unset, .unset, .unset, .unset, .unset, .unset, .unset] [(.int (8 : Int32)), (.ref b1), (.ref b1)])
  obtain ⟨T34, X34, e34, st34⟩ := getS2 X33 hx hZ hown (host := "") (Or.inl (hw _ (List.mem_of_getElem? (i := 20) rfl))) Via.refl e33 (((((((((Sx8.ext E1).wr W5).wr W9).wr W13).wr W17).wr W21).wr W25).wr W29).wr W33) (g := (mkF m 58 #[.val (.int p0), .val (.int p1), .val (.int p2), .val (.int p3), .val (.int p4), .unset, .unset, .unset, .unset, .unset, .unset, .unset, .unset] [(.int (8 : Int32)), (.ref b1), (.ref b1)])) rfl (hb hby at_58)
  refine own_goW st34 ?_
  show own_EndsW _ _ _ _ _ _ _ _ _ T34 (mkF m 61 #[.val (.int p0), .val (.int p1), .val (.int p2), .val (.int p3), .val (.int p4), .unset, .unset, .unset, .unset, .unset, .unset, .unset, .unset] [(.ref w8), (.int (8 : Int32)), (.ref b1), (.ref b1)])
  have Swp35 : Safe Z own_EL s.vm h33 b1 := (Safe.arv hZ.alike V33 (by decide))
  obtain ⟨cl36, Ar36, q36, S36, Ng36, Hs36, G36⟩ := (id V33)
  obtain ⟨T37, h37, X37, e37, W37, st37⟩ := stR X34 hx hZ e34 Ar36 (j := (8 : Int32)) (inb_of S36 ⟨by decide, by decide⟩) rfl (Sto.ofV Ar36 q36 O1 (Ins.self (((((((((Ex8.ext E1).wr W5).wr W9).wr W13).wr W17).wr W21).wr W25).wr W29).wr W33))) (g := (mkF m 61 #[.val (.int p0), .val (.int p1), .val (.int p2), .val (.int p3), .val (.int p4), .unset, .unset, .unset, .unset, .unset, .unset, .unset, .unset] [(.ref w8), (.int (8 : Int32)), (.ref b1), (.ref b1)])) rfl rfl (hb hby at_61)
  refine own_goW st37 ?_
  have V37 : Arv Z h37 b1 k1 (.object "com/example/quayside/quayside/Outcome") (10 : Int32) [(.ref w0), (.ref w1), (.ref w2), (.ref w3), (.ref w4), (.ref w5), (.ref w6), (.ref w7), (.ref w8), .null] .null := Arv.set Ar36 q36 S36 Ng36 Hs36 G36 rfl W37 8 rfl (Nat.le_of_ble_eq_true rfl)
  have Iv37 := Iv33.wr W37 Swp35
  have N37 := Fr.snoc X37 N33 g_b1
  show own_EndsW _ _ _ _ _ _ _ _ _ T37 (mkF m 62 #[.val (.int p0), .val (.int p1), .val (.int p2), .val (.int p3), .val (.int p4), .unset, .unset, .unset, .unset, .unset, .unset, .unset, .unset] [(.ref b1)])
  refine own_goW (fun t_ k_ => XS.dup X37.here hx rfl (hb hby at_62) rfl rfl k_) ?_
  show own_EndsW _ _ _ _ _ _ _ _ _ T37 (mkF m 63 #[.val (.int p0), .val (.int p1), .val (.int p2), .val (.int p3), .val (.int p4), .unset, .unset, .unset, .unset, .unset, .unset, .unset, .unset] [(.ref b1), (.ref b1)])
  refine own_goW (fun t_ k_ => XS.bipush X37.here hx rfl (hb hby at_63) k_) ?_
  show own_EndsW _ _ _ _ _ _ _ _ _ T37 (mkF m 65 #[.val (.int p0), .val (.int p1), .val (.int p2), .val (.int p3), .val (.int p4), .unset, .unset, .unset, .unset, .unset, .unset, .unset, .unset] [(.int (9 : Int32)), (.ref b1), (.ref b1)])
  obtain ⟨T38, X38, e38, st38⟩ := getS2 X37 hx hZ hown (host := "") (Or.inl (hw _ (List.mem_of_getElem? (i := 22) rfl))) Via.refl e37 ((((((((((Sx9.ext E1).wr W5).wr W9).wr W13).wr W17).wr W21).wr W25).wr W29).wr W33).wr W37) (g := (mkF m 65 #[.val (.int p0), .val (.int p1), .val (.int p2), .val (.int p3), .val (.int p4), .unset, .unset, .unset, .unset, .unset, .unset, .unset, .unset] [(.int (9 : Int32)), (.ref b1), (.ref b1)])) rfl (hb hby at_65)
  refine own_goW st38 ?_
  show own_EndsW _ _ _ _ _ _ _ _ _ T38 (mkF m 68 #[.val (.int p0), .val (.int p1), .val (.int p2), .val (.int p3), .val (.int p4), .unset, .unset, .unset, .unset, .unset, .unset, .unset, .unset] [(.ref w9), (.int (9 : Int32)), (.ref b1), (.ref b1)])
  have Swp39 : Safe Z own_EL s.vm h37 b1 := (Safe.arv hZ.alike V37 (by decide))
  obtain ⟨cl40, Ar40, q40, S40, Ng40, Hs40, G40⟩ := (id V37)
  obtain ⟨T41, h41, X41, e41, W41, st41⟩ := stR X38 hx hZ e38 Ar40 (j := (9 : Int32)) (inb_of S40 ⟨by decide, by decide⟩) rfl (Sto.ofV Ar40 q40 O1 (Ins.self ((((((((((Ex9.ext E1).wr W5).wr W9).wr W13).wr W17).wr W21).wr W25).wr W29).wr W33).wr W37))) (g := (mkF m 68 #[.val (.int p0), .val (.int p1), .val (.int p2), .val (.int p3), .val (.int p4), .unset, .unset, .unset, .unset, .unset, .unset, .unset, .unset] [(.ref w9), (.int (9 : Int32)), (.ref b1), (.ref b1)])) rfl rfl (hb hby at_68)
  refine own_goW st41 ?_
  have V41 : Arv Z h41 b1 k1 (.object "com/example/quayside/quayside/Outcome") (10 : Int32) [(.ref w0), (.ref w1), (.ref w2), (.ref w3), (.ref w4), (.ref w5), (.ref w6), (.ref w7), (.ref w8), (.ref w9)] .null := Arv.set Ar40 q40 S40 Ng40 Hs40 G40 rfl W41 9 rfl (Nat.le_of_ble_eq_true rfl)
  have Iv41 := Iv37.wr W41 Swp39
  have N41 := Fr.snoc X41 N37 g_b1
  show own_EndsW _ _ _ _ _ _ _ _ _ T41 (mkF m 69 #[.val (.int p0), .val (.int p1), .val (.int p2), .val (.int p3), .val (.int p4), .unset, .unset, .unset, .unset, .unset, .unset, .unset, .unset] [(.ref b1)])
  refine own_goW (fun t_ k_ => XS.astore X41.here hx rfl (hb hby at_69) rfl rfl (l' := #[.val (.int p0), .val (.int p1), .val (.int p2), .val (.int p3), .val (.int p4), .val (.ref b1), .unset, .unset, .unset, .unset, .unset, .unset, .unset]) rfl k_) ?_
  show own_EndsW _ _ _ _ _ _ _ _ _ T41 (mkF m 71 #[.val (.int p0), .val (.int p1), .val (.int p2), .val (.int p3), .val (.int p4), .val (.ref b1), .unset, .unset, .unset, .unset, .unset, .unset, .unset] [])
  refine own_goW (fun t_ k_ => XS.iloadN X41.here hx rfl (hb hby at_71) rfl  k_) ?_
  show own_EndsW _ _ _ _ _ _ _ _ _ T41 (mkF m 72 #[.val (.int p0), .val (.int p1), .val (.int p2), .val (.int p3), .val (.int p4), .val (.ref b1), .unset, .unset, .unset, .unset, .unset, .unset, .unset] [(.int p0)])
  refine own_goW (X41.ldcInt hx hown (mvT hZ (hw _ (List.mem_of_getElem? (i := 24) rfl))) (g := (mkF m 72 #[.val (.int p0), .val (.int p1), .val (.int p2), .val (.int p3), .val (.int p4), .val (.ref b1), .unset, .unset, .unset, .unset, .unset, .unset, .unset] [(.int p0)])) rfl (hb hby at_72)) ?_
  show own_EndsW _ _ _ _ _ _ _ _ _ T41 (mkF m 74 #[.val (.int p0), .val (.int p1), .val (.int p2), .val (.int p3), .val (.int p4), .val (.ref b1), .unset, .unset, .unset, .unset, .unset, .unset, .unset] [(.int (2147483647 : Int32)), (.int p0)])
  refine own_goW (fun t_ k_ => XS.iand X41.here hx rfl (hb hby at_74) rfl k_) ?_
  show own_EndsW _ _ _ _ _ _ _ _ _ T41 (mkF m 75 #[.val (.int p0), .val (.int p1), .val (.int p2), .val (.int p3), .val (.int p4), .val (.ref b1), .unset, .unset, .unset, .unset, .unset, .unset, .unset] [(.int (p0 &&& (2147483647 : Int32)))])
  refine own_goW (fun t_ k_ => XS.bipush X41.here hx rfl (hb hby at_75) k_) ?_
  show own_EndsW _ _ _ _ _ _ _ _ _ T41 (mkF m 77 #[.val (.int p0), .val (.int p1), .val (.int p2), .val (.int p3), .val (.int p4), .val (.ref b1), .unset, .unset, .unset, .unset, .unset, .unset, .unset] [(.int (10 : Int32)), (.int (p0 &&& (2147483647 : Int32)))])
  refine own_goW (fun t_ k_ => own_irem X41 hx rfl (hb hby at_77) rfl (by decide) k_) ?_
  show own_EndsW _ _ _ _ _ _ _ _ _ T41 (mkF m 78 #[.val (.int p0), .val (.int p1), .val (.int p2), .val (.int p3), .val (.int p4), .val (.ref b1), .unset, .unset, .unset, .unset, .unset, .unset, .unset] [(.int ((p0 &&& (2147483647 : Int32)) % (10 : Int32)))])
  refine own_goW (fun t_ k_ => XS.istore X41.here hx rfl (hb hby at_78) rfl (l' := #[.val (.int p0), .val (.int p1), .val (.int p2), .val (.int p3), .val (.int p4), .val (.ref b1), .val (.int ((p0 &&& (2147483647 : Int32)) % (10 : Int32))), .unset, .unset, .unset, .unset, .unset, .unset]) rfl k_) ?_
  show own_EndsW _ _ _ _ _ _ _ _ _ T41 (mkF m 80 #[.val (.int p0), .val (.int p1), .val (.int p2), .val (.int p3), .val (.int p4), .val (.ref b1), .val (.int ((p0 &&& (2147483647 : Int32)) % (10 : Int32))), .unset, .unset, .unset, .unset, .unset, .unset] [])
  refine own_goW (fun t_ k_ => XS.aload X41.here hx rfl (hb hby at_80) rfl rfl  k_) ?_
  show own_EndsW _ _ _ _ _ _ _ _ _ T41 (mkF m 82 #[.val (.int p0), .val (.int p1), .val (.int p2), .val (.int p3), .val (.int p4), .val (.ref b1), .val (.int ((p0 &&& (2147483647 : Int32)) % (10 : Int32))), .unset, .unset, .unset, .unset, .unset, .unset] [(.ref b1)])
  refine own_goW (fun t_ k_ => XS.iload X41.here hx rfl (hb hby at_82) rfl  k_) ?_
  show own_EndsW _ _ _ _ _ _ _ _ _ T41 (mkF m 84 #[.val (.int p0), .val (.int p1), .val (.int p2), .val (.int p3), .val (.int p4), .val (.ref b1), .val (.int ((p0 &&& (2147483647 : Int32)) % (10 : Int32))), .unset, .unset, .unset, .unset, .unset, .unset] [(.int ((p0 &&& (2147483647 : Int32)) % (10 : Int32))), (.ref b1)])
  obtain ⟨o1, ho1⟩ : ∃ z, z = own_pick ((p0 &&& (2147483647 : Int32)) % (10 : Int32)) w0 w1 w2 w3 w4 w5 w6 w7 w8 w9 := ⟨_, rfl⟩
  obtain ⟨cl42, Ar42, -, S42, -, Hs42, -⟩ := (id V41)
  have hin42 := inb_of (j := ((p0 &&& (2147483647 : Int32)) % (10 : Int32))) S42 (own_in (own_ix p0))
  refine own_goW (fun t_ k_ => X41.aaload hx (j := ((p0 &&& (2147483647 : Int32)) % (10 : Int32))) (v := (.ref o1)) (by rw [e41]; exact Ar42.1) (State.isArrayOf_alike hZ.alike Ar42.2.1) rfl Ar42.2.2 hin42 (Has.at Hs42 hin42 ((own_sel (own_ix p0)).trans (congrArg Value.ref ho1.symm))) (g := (mkF m 84 #[.val (.int p0), .val (.int p1), .val (.int p2), .val (.int p3), .val (.int p4), .val (.ref b1), .val (.int ((p0 &&& (2147483647 : Int32)) % (10 : Int32))), .unset, .unset, .unset, .unset, .unset, .unset] [(.int ((p0 &&& (2147483647 : Int32)) % (10 : Int32))), (.ref b1)])) rfl rfl (hb hby at_84) t_ k_) ?_
  show own_EndsW _ _ _ _ _ _ _ _ _ T41 (mkF m 85 #[.val (.int p0), .val (.int p1), .val (.int p2), .val (.int p3), .val (.int p4), .val (.ref b1), .val (.int ((p0 &&& (2147483647 : Int32)) % (10 : Int32))), .unset, .unset, .unset, .unset, .unset, .unset] [(.ref o1)])
  refine own_goW (fun t_ k_ => XS.astore X41.here hx rfl (hb hby at_85) rfl rfl (l' := #[.val (.int p0), .val (.int p1), .val (.int p2), .val (.int p3), .val (.int p4), .val (.ref b1), .val (.int ((p0 &&& (2147483647 : Int32)) % (10 : Int32))), .val (.ref o1), .unset, .unset, .unset, .unset, .unset]) rfl k_) ?_
  show own_EndsW _ _ _ _ _ _ _ _ _ T41 (mkF m 87 #[.val (.int p0), .val (.int p1), .val (.int p2), .val (.int p3), .val (.int p4), .val (.ref b1), .val (.int ((p0 &&& (2147483647 : Int32)) % (10 : Int32))), .val (.ref o1), .unset, .unset, .unset, .unset, .unset] [])
  refine own_goW (fun t_ k_ => XS.aload X41.here hx rfl (hb hby at_87) rfl rfl  k_) ?_
  show own_EndsW _ _ _ _ _ _ _ _ _ T41 (mkF m 89 #[.val (.int p0), .val (.int p1), .val (.int p2), .val (.int p3), .val (.int p4), .val (.ref b1), .val (.int ((p0 &&& (2147483647 : Int32)) % (10 : Int32))), .val (.ref o1), .unset, .unset, .unset, .unset, .unset] [(.ref b1)])
  refine own_goW (fun t_ k_ => XS.iload X41.here hx rfl (hb hby at_89) rfl  k_) ?_
  show own_EndsW _ _ _ _ _ _ _ _ _ T41 (mkF m 91 #[.val (.int p0), .val (.int p1), .val (.int p2), .val (.int p3), .val (.int p4), .val (.ref b1), .val (.int ((p0 &&& (2147483647 : Int32)) % (10 : Int32))), .val (.ref o1), .unset, .unset, .unset, .unset, .unset] [(.int ((p0 &&& (2147483647 : Int32)) % (10 : Int32))), (.ref b1)])
  refine own_goW (fun t_ k_ => XS.iconst X41.here hx rfl (hb hby at_91) k_) ?_
  show own_EndsW _ _ _ _ _ _ _ _ _ T41 (mkF m 92 #[.val (.int p0), .val (.int p1), .val (.int p2), .val (.int p3), .val (.int p4), .val (.ref b1), .val (.int ((p0 &&& (2147483647 : Int32)) % (10 : Int32))), .val (.ref o1), .unset, .unset, .unset, .unset, .unset] [(.int (1 : Int32)), (.int ((p0 &&& (2147483647 : Int32)) % (10 : Int32))), (.ref b1)])
  refine own_goW (fun t_ k_ => XS.iadd X41.here hx rfl (hb hby at_92) rfl k_) ?_
  show own_EndsW _ _ _ _ _ _ _ _ _ T41 (mkF m 93 #[.val (.int p0), .val (.int p1), .val (.int p2), .val (.int p3), .val (.int p4), .val (.ref b1), .val (.int ((p0 &&& (2147483647 : Int32)) % (10 : Int32))), .val (.ref o1), .unset, .unset, .unset, .unset, .unset] [(.int (((p0 &&& (2147483647 : Int32)) % (10 : Int32)) + (1 : Int32))), (.ref b1)])
  refine own_goW (fun t_ k_ => XS.bipush X41.here hx rfl (hb hby at_93) k_) ?_
  show own_EndsW _ _ _ _ _ _ _ _ _ T41 (mkF m 95 #[.val (.int p0), .val (.int p1), .val (.int p2), .val (.int p3), .val (.int p4), .val (.ref b1), .val (.int ((p0 &&& (2147483647 : Int32)) % (10 : Int32))), .val (.ref o1), .unset, .unset, .unset, .unset, .unset] [(.int (10 : Int32)), (.int (((p0 &&& (2147483647 : Int32)) % (10 : Int32)) + (1 : Int32))), (.ref b1)])
  refine own_goW (fun t_ k_ => own_irem X41 hx rfl (hb hby at_95) rfl (by decide) k_) ?_
  show own_EndsW _ _ _ _ _ _ _ _ _ T41 (mkF m 96 #[.val (.int p0), .val (.int p1), .val (.int p2), .val (.int p3), .val (.int p4), .val (.ref b1), .val (.int ((p0 &&& (2147483647 : Int32)) % (10 : Int32))), .val (.ref o1), .unset, .unset, .unset, .unset, .unset] [(.int ((((p0 &&& (2147483647 : Int32)) % (10 : Int32)) + (1 : Int32)) % (10 : Int32))), (.ref b1)])
  obtain ⟨o2, ho2⟩ : ∃ z, z = own_pick ((((p0 &&& (2147483647 : Int32)) % (10 : Int32)) + (1 : Int32)) % (10 : Int32)) w0 w1 w2 w3 w4 w5 w6 w7 w8 w9 := ⟨_, rfl⟩
  obtain ⟨cl43, Ar43, -, S43, -, Hs43, -⟩ := (id V41)
  have hin43 := inb_of (j := ((((p0 &&& (2147483647 : Int32)) % (10 : Int32)) + (1 : Int32)) % (10 : Int32))) S43 (own_in (own_ix2 (own_ix p0).1 (own_ix p0).2))
  refine own_goW (fun t_ k_ => X41.aaload hx (j := ((((p0 &&& (2147483647 : Int32)) % (10 : Int32)) + (1 : Int32)) % (10 : Int32))) (v := (.ref o2)) (by rw [e41]; exact Ar43.1) (State.isArrayOf_alike hZ.alike Ar43.2.1) rfl Ar43.2.2 hin43 (Has.at Hs43 hin43 ((own_sel (own_ix2 (own_ix p0).1 (own_ix p0).2)).trans (congrArg Value.ref ho2.symm))) (g := (mkF m 96 #[.val (.int p0), .val (.int p1), .val (.int p2), .val (.int p3), .val (.int p4), .val (.ref b1), .val (.int ((p0 &&& (2147483647 : Int32)) % (10 : Int32))), .val (.ref o1), .unset, .unset, .unset, .unset, .unset] [(.int ((((p0 &&& (2147483647 : Int32)) % (10 : Int32)) + (1 : Int32)) % (10 : Int32))), (.ref b1)])) rfl rfl (hb hby at_96) t_ k_) ?_
  show own_EndsW _ _ _ _ _ _ _ _ _ T41 (mkF m 97 #[.val (.int p0), .val (.int p1), .val (.int p2), .val (.int p3), .val (.int p4), .val (.ref b1), .val (.int ((p0 &&& (2147483647 : Int32)) % (10 : Int32))), .val (.ref o1), .unset, .unset, .unset, .unset, .unset] [(.ref o2)])
  refine own_goW (fun t_ k_ => XS.astore X41.here hx rfl (hb hby at_97) rfl rfl (l' := #[.val (.int p0), .val (.int p1), .val (.int p2), .val (.int p3), .val (.int p4), .val (.ref b1), .val (.int ((p0 &&& (2147483647 : Int32)) % (10 : Int32))), .val (.ref o1), .val (.ref o2), .unset, .unset, .unset, .unset]) rfl k_) ?_
  show own_EndsW _ _ _ _ _ _ _ _ _ T41 (mkF m 99 #[.val (.int p0), .val (.int p1), .val (.int p2), .val (.int p3), .val (.int p4), .val (.ref b1), .val (.int ((p0 &&& (2147483647 : Int32)) % (10 : Int32))), .val (.ref o1), .val (.ref o2), .unset, .unset, .unset, .unset] [])
  refine own_goW (fun t_ k_ => XS.iloadN X41.here hx rfl (hb hby at_99) rfl  k_) ?_
  show own_EndsW _ _ _ _ _ _ _ _ _ T41 (mkF m 100 #[.val (.int p0), .val (.int p1), .val (.int p2), .val (.int p3), .val (.int p4), .val (.ref b1), .val (.int ((p0 &&& (2147483647 : Int32)) % (10 : Int32))), .val (.ref o1), .val (.ref o2), .unset, .unset, .unset, .unset] [(.int p1)])
  refine own_goW (X41.ldcInt hx hown (mvT hZ (hw _ (List.mem_of_getElem? (i := 24) rfl))) (g := (mkF m 100 #[.val (.int p0), .val (.int p1), .val (.int p2), .val (.int p3), .val (.int p4), .val (.ref b1), .val (.int ((p0 &&& (2147483647 : Int32)) % (10 : Int32))), .val (.ref o1), .val (.ref o2), .unset, .unset, .unset, .unset] [(.int p1)])) rfl (hb hby at_100)) ?_
  show own_EndsW _ _ _ _ _ _ _ _ _ T41 (mkF m 102 #[.val (.int p0), .val (.int p1), .val (.int p2), .val (.int p3), .val (.int p4), .val (.ref b1), .val (.int ((p0 &&& (2147483647 : Int32)) % (10 : Int32))), .val (.ref o1), .val (.ref o2), .unset, .unset, .unset, .unset] [(.int (2147483647 : Int32)), (.int p1)])
  refine own_goW (fun t_ k_ => XS.iand X41.here hx rfl (hb hby at_102) rfl k_) ?_
  show own_EndsW _ _ _ _ _ _ _ _ _ T41 (mkF m 103 #[.val (.int p0), .val (.int p1), .val (.int p2), .val (.int p3), .val (.int p4), .val (.ref b1), .val (.int ((p0 &&& (2147483647 : Int32)) % (10 : Int32))), .val (.ref o1), .val (.ref o2), .unset, .unset, .unset, .unset] [(.int (p1 &&& (2147483647 : Int32)))])
  refine own_goW (fun t_ k_ => XS.iconst X41.here hx rfl (hb hby at_103) k_) ?_
  show own_EndsW _ _ _ _ _ _ _ _ _ T41 (mkF m 104 #[.val (.int p0), .val (.int p1), .val (.int p2), .val (.int p3), .val (.int p4), .val (.ref b1), .val (.int ((p0 &&& (2147483647 : Int32)) % (10 : Int32))), .val (.ref o1), .val (.ref o2), .unset, .unset, .unset, .unset] [(.int (5 : Int32)), (.int (p1 &&& (2147483647 : Int32)))])
  refine own_goW (fun t_ k_ => own_irem X41 hx rfl (hb hby at_104) rfl (by decide) k_) ?_
  show own_EndsW _ _ _ _ _ _ _ _ _ T41 (mkF m 105 #[.val (.int p0), .val (.int p1), .val (.int p2), .val (.int p3), .val (.int p4), .val (.ref b1), .val (.int ((p0 &&& (2147483647 : Int32)) % (10 : Int32))), .val (.ref o1), .val (.ref o2), .unset, .unset, .unset, .unset] [(.int ((p1 &&& (2147483647 : Int32)) % (5 : Int32)))])
  refine own_goW (fun t_ k_ => XS.iloadN X41.here hx rfl (hb hby at_105) rfl  k_) ?_
  show own_EndsW _ _ _ _ _ _ _ _ _ T41 (mkF m 106 #[.val (.int p0), .val (.int p1), .val (.int p2), .val (.int p3), .val (.int p4), .val (.ref b1), .val (.int ((p0 &&& (2147483647 : Int32)) % (10 : Int32))), .val (.ref o1), .val (.ref o2), .unset, .unset, .unset, .unset] [(.int p2), (.int ((p1 &&& (2147483647 : Int32)) % (5 : Int32)))])
  have Nsk44 : ∀ x ∈ ([] : List Addr), ∀ cell : Cell, h41[x]? = some cell → cell.vm.isStatics = false := ns0
  have Skk44 : ∀ x ∈ ([] : List Addr), Safe Z own_EL s.vm h41 x := sf0
  obtain ⟨T45, v45, L45, h45, X45, e45, hQ45, Iv45, hZ, hown, CH45, Gr45, st45⟩ := own_callSW X41 hx hZ (y := (⟨"com/example/quayside/quayside/AnswerOfPinLaw", "text", "(II)Ljava/lang/String;"⟩ : MethodName)) hown (own_EW hw) Iv41 (hw _ (List.mem_of_getElem? (i := 25) rfl)) (hw _ (List.mem_of_getElem? (i := 26) rfl)) (hw _ (List.mem_of_getElem? (i := 27) rfl)) (hw _ (List.mem_of_getElem? (i := 28) rfl)) (by decide) (rm1 l Z a0 hw [] ((p1 &&& (2147483647 : Int32)) % (5 : Int32)) p2 zc h41 n0 (Nat.le_trans (Nat.le_trans (Nat.le_trans (Nat.le_trans (Nat.le_trans (Nat.le_trans (Nat.le_trans (Nat.le_trans (Nat.le_trans (Nat.le_trans (Nat.le_trans Z0 E1.1) (Keep.of_wr W5).1) (Keep.of_wr W9).1) (Keep.of_wr W13).1) (Keep.of_wr W17).1) (Keep.of_wr W21).1) (Keep.of_wr W25).1) (Keep.of_wr W29).1) (Keep.of_wr W33).1) (Keep.of_wr W37).1) (Keep.of_wr W41).1) (((((((((((SC.ext E1).wr W5).wr W9).wr W13).wr W17).wr W21).wr W25).wr W29).wr W33).wr W37).wr W41) hzc) e41 (g := (mkF m 106 #[.val (.int p0), .val (.int p1), .val (.int p2), .val (.int p3), .val (.int p4), .val (.ref b1), .val (.int ((p0 &&& (2147483647 : Int32)) % (10 : Int32))), .val (.ref o1), .val (.ref o2), .unset, .unset, .unset, .unset] [(.int p2), (.int ((p1 &&& (2147483647 : Int32)) % (5 : Int32)))])) rfl (by rw [hml]; rfl) [(.int ((p1 &&& (2147483647 : Int32)) % (5 : Int32))), (.int p2)] [] rfl (lenOf pd__II_Ljava_lang_String_ rfl) rfl 0 (by show 2 * 0 + _ ≤ _; exact Nat.le_of_eq rfl) (hb hby at_106) (by decide) (by decide) (by decide) (by decide)
  obtain ⟨u1, rfl, hu1, N45q, Kq45⟩ := hQ45
  refine own_goW st45 ?_
  have N45 := Fr.app N41 N45q
  show own_EndsW _ _ _ _ _ _ _ _ _ T45 (mkF m 109 #[.val (.int p0), .val (.int p1), .val (.int p2), .val (.int p3), .val (.int p4), .val (.ref b1), .val (.int ((p0 &&& (2147483647 : Int32)) % (10 : Int32))), .val (.ref o1), .val (.ref o2), .unset, .unset, .unset, .unset] [u1])
  refine own_goW (fun t_ k_ => XS.astore X45.here hx rfl (hb hby at_109) rfl hu1 (l' := #[.val (.int p0), .val (.int p1), .val (.int p2), .val (.int p3), .val (.int p4), .val (.ref b1), .val (.int ((p0 &&& (2147483647 : Int32)) % (10 : Int32))), .val (.ref o1), .val (.ref o2), .val u1, .unset, .unset, .unset]) (XS.store1 (by rfl) (Or.inl rfl) (XT.cat1 hu1)) k_) ?_
  show own_EndsW _ _ _ _ _ _ _ _ _ T45 (mkF m 111 #[.val (.int p0), .val (.int p1), .val (.int p2), .val (.int p3), .val (.int p4), .val (.ref b1), .val (.int ((p0 &&& (2147483647 : Int32)) % (10 : Int32))), .val (.ref o1), .val (.ref o2), .val u1, .unset, .unset, .unset] [])
  refine own_goW (fun t_ k_ => XS.iloadN X45.here hx rfl (hb hby at_111) rfl  k_) ?_
  show own_EndsW _ _ _ _ _ _ _ _ _ T45 (mkF m 112 #[.val (.int p0), .val (.int p1), .val (.int p2), .val (.int p3), .val (.int p4), .val (.ref b1), .val (.int ((p0 &&& (2147483647 : Int32)) % (10 : Int32))), .val (.ref o1), .val (.ref o2), .val u1, .unset, .unset, .unset] [(.int p3)])
  refine own_goW (X45.ldcInt hx hown (mvT hZ (hw _ (List.mem_of_getElem? (i := 24) rfl))) (g := (mkF m 112 #[.val (.int p0), .val (.int p1), .val (.int p2), .val (.int p3), .val (.int p4), .val (.ref b1), .val (.int ((p0 &&& (2147483647 : Int32)) % (10 : Int32))), .val (.ref o1), .val (.ref o2), .val u1, .unset, .unset, .unset] [(.int p3)])) rfl (hb hby at_112)) ?_
  show own_EndsW _ _ _ _ _ _ _ _ _ T45 (mkF m 114 #[.val (.int p0), .val (.int p1), .val (.int p2), .val (.int p3), .val (.int p4), .val (.ref b1), .val (.int ((p0 &&& (2147483647 : Int32)) % (10 : Int32))), .val (.ref o1), .val (.ref o2), .val u1, .unset, .unset, .unset] [(.int (2147483647 : Int32)), (.int p3)])
  refine own_goW (fun t_ k_ => XS.iand X45.here hx rfl (hb hby at_114) rfl k_) ?_
  show own_EndsW _ _ _ _ _ _ _ _ _ T45 (mkF m 115 #[.val (.int p0), .val (.int p1), .val (.int p2), .val (.int p3), .val (.int p4), .val (.ref b1), .val (.int ((p0 &&& (2147483647 : Int32)) % (10 : Int32))), .val (.ref o1), .val (.ref o2), .val u1, .unset, .unset, .unset] [(.int (p3 &&& (2147483647 : Int32)))])
  refine own_goW (fun t_ k_ => XS.iconst X45.here hx rfl (hb hby at_115) k_) ?_
  show own_EndsW _ _ _ _ _ _ _ _ _ T45 (mkF m 116 #[.val (.int p0), .val (.int p1), .val (.int p2), .val (.int p3), .val (.int p4), .val (.ref b1), .val (.int ((p0 &&& (2147483647 : Int32)) % (10 : Int32))), .val (.ref o1), .val (.ref o2), .val u1, .unset, .unset, .unset] [(.int (5 : Int32)), (.int (p3 &&& (2147483647 : Int32)))])
  refine own_goW (fun t_ k_ => own_irem X45 hx rfl (hb hby at_116) rfl (by decide) k_) ?_
  show own_EndsW _ _ _ _ _ _ _ _ _ T45 (mkF m 117 #[.val (.int p0), .val (.int p1), .val (.int p2), .val (.int p3), .val (.int p4), .val (.ref b1), .val (.int ((p0 &&& (2147483647 : Int32)) % (10 : Int32))), .val (.ref o1), .val (.ref o2), .val u1, .unset, .unset, .unset] [(.int ((p3 &&& (2147483647 : Int32)) % (5 : Int32)))])
  refine own_goW (fun t_ k_ => XS.iload X45.here hx rfl (hb hby at_117) rfl  k_) ?_
  show own_EndsW _ _ _ _ _ _ _ _ _ T45 (mkF m 119 #[.val (.int p0), .val (.int p1), .val (.int p2), .val (.int p3), .val (.int p4), .val (.ref b1), .val (.int ((p0 &&& (2147483647 : Int32)) % (10 : Int32))), .val (.ref o1), .val (.ref o2), .val u1, .unset, .unset, .unset] [(.int p4), (.int ((p3 &&& (2147483647 : Int32)) % (5 : Int32)))])
  have Nsk46 : ∀ x ∈ ([] : List Addr), ∀ cell : Cell, h45[x]? = some cell → cell.vm.isStatics = false := ns0
  have Skk46 : ∀ x ∈ ([] : List Addr), Safe Z own_EL T45.vm h45 x := sf0
  obtain ⟨T47, v47, L47, h47, X47, e47, hQ47, Iv47, hZ, hown, CH47, Gr47, st47⟩ := own_callSW X45 hx hZ (y := (⟨"com/example/quayside/quayside/AnswerOfPinLaw", "text", "(II)Ljava/lang/String;"⟩ : MethodName)) hown (own_EW hw) Iv45 (hw _ (List.mem_of_getElem? (i := 25) rfl)) (hw _ (List.mem_of_getElem? (i := 26) rfl)) (hw _ (List.mem_of_getElem? (i := 27) rfl)) (hw _ (List.mem_of_getElem? (i := 28) rfl)) (by decide) (rm1 l Z a0 hw [] ((p3 &&& (2147483647 : Int32)) % (5 : Int32)) p4 zc h45 n0 (Nat.le_trans (Nat.le_trans (Nat.le_trans (Nat.le_trans (Nat.le_trans (Nat.le_trans (Nat.le_trans (Nat.le_trans (Nat.le_trans (Nat.le_trans (Nat.le_trans (Nat.le_trans Z0 E1.1) (Keep.of_wr W5).1) (Keep.of_wr W9).1) (Keep.of_wr W13).1) (Keep.of_wr W17).1) (Keep.of_wr W21).1) (Keep.of_wr W25).1) (Keep.of_wr W29).1) (Keep.of_wr W33).1) (Keep.of_wr W37).1) (Keep.of_wr W41).1) Kq45.1) (own_staK (((((((((((SC.ext E1).wr W5).wr W9).wr W13).wr W17).wr W21).wr W25).wr W29).wr W33).wr W37).wr W41) Kq45 Nsk44) hzc) e45 (g := (mkF m 119 #[.val (.int p0), .val (.int p1), .val (.int p2), .val (.int p3), .val (.int p4), .val (.ref b1), .val (.int ((p0 &&& (2147483647 : Int32)) % (10 : Int32))), .val (.ref o1), .val (.ref o2), .val u1, .unset, .unset, .unset] [(.int p4), (.int ((p3 &&& (2147483647 : Int32)) % (5 : Int32)))])) rfl (by rw [hml]; rfl) [(.int ((p3 &&& (2147483647 : Int32)) % (5 : Int32))), (.int p4)] [] rfl (lenOf pd__II_Ljava_lang_String_ rfl) rfl 0 (by show 2 * 0 + _ ≤ _; exact Nat.le_of_eq rfl) (hb hby at_119) (by decide) (by decide) (by decide) (by decide)
  obtain ⟨u2, rfl, hu2, N47q, Kq47⟩ := hQ47
  refine own_goW st47 ?_
  have N47 := Fr.app N45 N47q
  show own_EndsW _ _ _ _ _ _ _ _ _ T47 (mkF m 122 #[.val (.int p0), .val (.int p1), .val (.int p2), .val (.int p3), .val (.int p4), .val (.ref b1), .val (.int ((p0 &&& (2147483647 : Int32)) % (10 : Int32))), .val (.ref o1), .val (.ref o2), .val u1, .unset, .unset, .unset] [u2])
  refine own_goW (fun t_ k_ => XS.astore X47.here hx rfl (hb hby at_122) rfl hu2 (l' := #[.val (.int p0), .val (.int p1), .val (.int p2), .val (.int p3), .val (.int p4), .val (.ref b1), .val (.int ((p0 &&& (2147483647 : Int32)) % (10 : Int32))), .val (.ref o1), .val (.ref o2), .val u1, .val u2, .unset, .unset]) (XS.store1 (by rfl) (Or.inl rfl) (XT.cat1 hu2)) k_) ?_
  show own_EndsW _ _ _ _ _ _ _ _ _ T47 (mkF m 124 #[.val (.int p0), .val (.int p1), .val (.int p2), .val (.int p3), .val (.int p4), .val (.ref b1), .val (.int ((p0 &&& (2147483647 : Int32)) % (10 : Int32))), .val (.ref o1), .val (.ref o2), .val u1, .val u2, .unset, .unset] [])
  refine own_goW (fun t_ k_ => XS.aload X47.here hx rfl (hb hby at_124) rfl rfl  k_) ?_
  show own_EndsW _ _ _ _ _ _ _ _ _ T47 (mkF m 126 #[.val (.int p0), .val (.int p1), .val (.int p2), .val (.int p3), .val (.int p4), .val (.ref b1), .val (.int ((p0 &&& (2147483647 : Int32)) % (10 : Int32))), .val (.ref o1), .val (.ref o2), .val u1, .val u2, .unset, .unset] [(.ref o1)])
  refine own_goW (fun t_ k_ => XS.aload X47.here hx rfl (hb hby at_126) rfl hu1  k_) ?_
  show own_EndsW _ _ _ _ _ _ _ _ _ T47 (mkF m 128 #[.val (.int p0), .val (.int p1), .val (.int p2), .val (.int p3), .val (.int p4), .val (.ref b1), .val (.int ((p0 &&& (2147483647 : Int32)) % (10 : Int32))), .val (.ref o1), .val (.ref o2), .val u1, .val u2, .unset, .unset] [u1, (.ref o1)])
  have Nsk48 : ∀ x ∈ ([] : List Addr), ∀ cell : Cell, h47[x]? = some cell → cell.vm.isStatics = false := ns0
  have Skk48 : ∀ x ∈ ([] : List Addr), Safe Z own_EL T47.vm h47 x := sf0
  obtain ⟨T49, v49, L49, h49, X49, e49, hQ49, Iv49, hZ, hown, CH49, Gr49, st49⟩ := own_callSW X47 hx hZ (y := (⟨"com/example/quayside/quayside/Answer", "of", "(Lcom/example/quayside/quayside/Outcome;Ljava/lang/String;)Lcom/example/quayside/quayside/Answer;"⟩ : MethodName)) hown (own_EW hw) Iv47 (hw _ (List.mem_of_getElem? (i := 62) rfl)) (hw _ (List.mem_of_getElem? (i := 63) rfl)) (hw _ (List.mem_of_getElem? (i := 64) rfl)) (hw _ (List.mem_of_getElem? (i := 65) rfl)) (by decide) (rm8 l Z a0 hw [] o1 u1 h47 n0 (Nat.le_trans (Nat.le_trans (Nat.le_trans (Nat.le_trans (Nat.le_trans (Nat.le_trans (Nat.le_trans (Nat.le_trans (Nat.le_trans (Nat.le_trans (Nat.le_trans (Nat.le_trans (Nat.le_trans Z0 E1.1) (Keep.of_wr W5).1) (Keep.of_wr W9).1) (Keep.of_wr W13).1) (Keep.of_wr W17).1) (Keep.of_wr W21).1) (Keep.of_wr W25).1) (Keep.of_wr W29).1) (Keep.of_wr W33).1) (Keep.of_wr W37).1) (Keep.of_wr W41).1) Kq45.1) Kq47.1) hu1) e47 (g := (mkF m 128 #[.val (.int p0), .val (.int p1), .val (.int p2), .val (.int p3), .val (.int p4), .val (.ref b1), .val (.int ((p0 &&& (2147483647 : Int32)) % (10 : Int32))), .val (.ref o1), .val (.ref o2), .val u1, .val u2, .unset, .unset] [u1, (.ref o1)])) rfl (by rw [hml]; rfl) [(.ref o1), u1] [] rfl (lenOf pd__Lcom_example_quayside_quayside_Outcome_Ljava_lang_String__Lcom_example_quayside_quayside_Answer_ rfl) rfl 0 (by show 2 * 0 + _ ≤ _; exact Nat.le_of_eq rfl) (hb hby at_128) (by decide) (by decide) (by decide) (by decide)
  obtain ⟨ba, rfl, N49q, Kq49, Eq49, Fo49, Ft49⟩ := hQ49
  refine own_goW st49 ?_
  have N49 := Fr.app N47 N49q
  show own_EndsW _ _ _ _ _ _ _ _ _ T49 (mkF m 131 #[.val (.int p0), .val (.int p1), .val (.int p2), .val (.int p3), .val (.int p4), .val (.ref b1), .val (.int ((p0 &&& (2147483647 : Int32)) % (10 : Int32))), .val (.ref o1), .val (.ref o2), .val u1, .val u2, .unset, .unset] [(.ref ba)])
  refine own_goW (fun t_ k_ => XS.astore X49.here hx rfl (hb hby at_131) rfl rfl (l' := #[.val (.int p0), .val (.int p1), .val (.int p2), .val (.int p3), .val (.int p4), .val (.ref b1), .val (.int ((p0 &&& (2147483647 : Int32)) % (10 : Int32))), .val (.ref o1), .val (.ref o2), .val u1, .val u2, .val (.ref ba), .unset]) rfl k_) ?_
  show own_EndsW _ _ _ _ _ _ _ _ _ T49 (mkF m 133 #[.val (.int p0), .val (.int p1), .val (.int p2), .val (.int p3), .val (.int p4), .val (.ref b1), .val (.int ((p0 &&& (2147483647 : Int32)) % (10 : Int32))), .val (.ref o1), .val (.ref o2), .val u1, .val u2, .val (.ref ba), .unset] [])
  refine own_goW (fun t_ k_ => XS.aload X49.here hx rfl (hb hby at_133) rfl rfl  k_) ?_
  show own_EndsW _ _ _ _ _ _ _ _ _ T49 (mkF m 135 #[.val (.int p0), .val (.int p1), .val (.int p2), .val (.int p3), .val (.int p4), .val (.ref b1), .val (.int ((p0 &&& (2147483647 : Int32)) % (10 : Int32))), .val (.ref o1), .val (.ref o2), .val u1, .val u2, .val (.ref ba), .unset] [(.ref ba)])
  refine own_goW (fun t_ k_ => XT.ifnonnullYes X49.here hx rfl (pc0 := 135) (pc' := 140) rfl (hb hby at_135) rfl (by decide) (by decide) k_) ?_
  show own_EndsW _ _ _ _ _ _ _ _ _ T49 (mkF m 140 #[.val (.int p0), .val (.int p1), .val (.int p2), .val (.int p3), .val (.int p4), .val (.ref b1), .val (.int ((p0 &&& (2147483647 : Int32)) % (10 : Int32))), .val (.ref o1), .val (.ref o2), .val u1, .val u2, .val (.ref ba), .unset] [])
  refine own_goW (fun t_ k_ => XS.aload X49.here hx rfl (hb hby at_140) rfl rfl  k_) ?_
  show own_EndsW _ _ _ _ _ _ _ _ _ T49 (mkF m 142 #[.val (.int p0), .val (.int p1), .val (.int p2), .val (.int p3), .val (.int p4), .val (.ref b1), .val (.int ((p0 &&& (2147483647 : Int32)) % (10 : Int32))), .val (.ref o1), .val (.ref o2), .val u1, .val u2, .val (.ref ba), .unset] [(.ref ba)])
  obtain ⟨T50, v50, L50, X50, hQ50, st50⟩ := own_callI X49 hx hZ (xi := (⟨"com/example/quayside/quayside/Answer", "outcome", "()Lcom/example/quayside/quayside/Outcome;"⟩ : MethodName)) (y := (⟨"com/example/quayside/quayside/Answer$1", "outcome", "()Lcom/example/quayside/quayside/Outcome;"⟩ : MethodName)) hown (hw _ (List.mem_of_getElem? (i := 82) rfl)) (hw _ (List.mem_of_getElem? (i := 83) rfl)) (hw _ (List.mem_of_getElem? (i := 84) rfl)) (hw _ (List.mem_of_getElem? (i := 85) rfl)) (hw _ (List.mem_of_getElem? (i := 86) rfl)) (hw _ (List.mem_of_getElem? (i := 87) rfl)) (hw _ (List.mem_of_getElem? (i := 88) rfl)) (hw _ (List.mem_of_getElem? (i := 89) rfl)) (hw _ (List.mem_of_getElem? (i := 73) rfl)) (hw _ (List.mem_of_getElem? (i := 90) rfl)) (by decide) (rm11 l Z a0 hw [] ba (.ref o1) h49 n0 (Nat.le_trans (Nat.le_trans (Nat.le_trans (Nat.le_trans (Nat.le_trans (Nat.le_trans (Nat.le_trans (Nat.le_trans (Nat.le_trans (Nat.le_trans (Nat.le_trans (Nat.le_trans (Nat.le_trans (Nat.le_trans Z0 E1.1) (Keep.of_wr W5).1) (Keep.of_wr W9).1) (Keep.of_wr W13).1) (Keep.of_wr W17).1) (Keep.of_wr W21).1) (Keep.of_wr W25).1) (Keep.of_wr W29).1) (Keep.of_wr W33).1) (Keep.of_wr W37).1) (Keep.of_wr W41).1) Kq45.1) Kq47.1) Kq49.1) rfl Fo49) e49 (g := (mkF m 142 #[.val (.int p0), .val (.int p1), .val (.int p2), .val (.int p3), .val (.int p4), .val (.ref b1), .val (.int ((p0 &&& (2147483647 : Int32)) % (10 : Int32))), .val (.ref o1), .val (.ref o2), .val u1, .val u2, .val (.ref ba), .unset] [(.ref ba)])) rfl (by rw [hml]; rfl) ba Eq49 [] [] rfl (lenOf pd___Lcom_example_quayside_quayside_Outcome_ rfl) rfl 0 (by show 2 * 0 + _ ≤ _; exact Nat.le_of_eq rfl) (hb hby at_142) (by decide) (by decide) (by decide) (by decide)
  obtain ⟨rfl, N50q, e50⟩ := hQ50
  refine own_goW st50 ?_
  have N50 := Fr.app N49 N50q
  show own_EndsW _ _ _ _ _ _ _ _ _ T50 (mkF m 147 #[.val (.int p0), .val (.int p1), .val (.int p2), .val (.int p3), .val (.int p4), .val (.ref b1), .val (.int ((p0 &&& (2147483647 : Int32)) % (10 : Int32))), .val (.ref o1), .val (.ref o2), .val u1, .val u2, .val (.ref ba), .unset] [(.ref o1)])
  refine own_goW (fun t_ k_ => XS.aload X50.here hx rfl (hb hby at_147) rfl rfl  k_) ?_
  show own_EndsW _ _ _ _ _ _ _ _ _ T50 (mkF m 149 #[.val (.int p0), .val (.int p1), .val (.int p2), .val (.int p3), .val (.int p4), .val (.ref b1), .val (.int ((p0 &&& (2147483647 : Int32)) % (10 : Int32))), .val (.ref o1), .val (.ref o2), .val u1, .val u2, .val (.ref ba), .unset] [(.ref o1), (.ref o1)])
  refine own_goW (fun t_ k_ => XT.acmpYes X50.here hx rfl (pc0 := 149) (pc' := 154) rfl (hb hby at_149) rfl rfl rfl (XT.aa_eq_t rfl) (by decide) (by decide) k_) ?_
  show own_EndsW _ _ _ _ _ _ _ _ _ T50 (mkF m 154 #[.val (.int p0), .val (.int p1), .val (.int p2), .val (.int p3), .val (.int p4), .val (.ref b1), .val (.int ((p0 &&& (2147483647 : Int32)) % (10 : Int32))), .val (.ref o1), .val (.ref o2), .val u1, .val u2, .val (.ref ba), .unset] [])
  refine own_goW (fun t_ k_ => XS.aload X50.here hx rfl (hb hby at_154) rfl rfl  k_) ?_
  show own_EndsW _ _ _ _ _ _ _ _ _ T50 (mkF m 156 #[.val (.int p0), .val (.int p1), .val (.int p2), .val (.int p3), .val (.int p4), .val (.ref b1), .val (.int ((p0 &&& (2147483647 : Int32)) % (10 : Int32))), .val (.ref o1), .val (.ref o2), .val u1, .val u2, .val (.ref ba), .unset] [(.ref ba)])
  obtain ⟨T51, v51, L51, X51, hQ51, st51⟩ := own_callI X50 hx hZ (xi := (⟨"com/example/quayside/quayside/Answer", "text", "()Ljava/lang/String;"⟩ : MethodName)) (y := (⟨"com/example/quayside/quayside/Answer$1", "text", "()Ljava/lang/String;"⟩ : MethodName)) hown (hw _ (List.mem_of_getElem? (i := 91) rfl)) (hw _ (List.mem_of_getElem? (i := 92) rfl)) (hw _ (List.mem_of_getElem? (i := 93) rfl)) (hw _ (List.mem_of_getElem? (i := 94) rfl)) (hw _ (List.mem_of_getElem? (i := 95) rfl)) (hw _ (List.mem_of_getElem? (i := 96) rfl)) (hw _ (List.mem_of_getElem? (i := 97) rfl)) (hw _ (List.mem_of_getElem? (i := 89) rfl)) (hw _ (List.mem_of_getElem? (i := 73) rfl)) (hw _ (List.mem_of_getElem? (i := 98) rfl)) (by decide) (rm12 l Z a0 hw [] ba u1 h49 n0 (Nat.le_trans (Nat.le_trans (Nat.le_trans (Nat.le_trans (Nat.le_trans (Nat.le_trans (Nat.le_trans (Nat.le_trans (Nat.le_trans (Nat.le_trans (Nat.le_trans (Nat.le_trans (Nat.le_trans (Nat.le_trans Z0 E1.1) (Keep.of_wr W5).1) (Keep.of_wr W9).1) (Keep.of_wr W13).1) (Keep.of_wr W17).1) (Keep.of_wr W21).1) (Keep.of_wr W25).1) (Keep.of_wr W29).1) (Keep.of_wr W33).1) (Keep.of_wr W37).1) (Keep.of_wr W41).1) Kq45.1) Kq47.1) Kq49.1) hu1 Ft49) e50 (g := (mkF m 156 #[.val (.int p0), .val (.int p1), .val (.int p2), .val (.int p3), .val (.int p4), .val (.ref b1), .val (.int ((p0 &&& (2147483647 : Int32)) % (10 : Int32))), .val (.ref o1), .val (.ref o2), .val u1, .val u2, .val (.ref ba), .unset] [(.ref ba)])) rfl (by rw [hml]; rfl) ba Eq49 [] [] rfl (lenOf pd___Ljava_lang_String_ rfl) rfl 0 (by show 2 * 0 + _ ≤ _; exact Nat.le_of_eq rfl) (hb hby at_156) (by decide) (by decide) (by decide) (by decide)
  obtain ⟨rfl, N51q, e51⟩ := hQ51
  refine own_goW st51 ?_
  have N51 := Fr.app N50 N51q
  show own_EndsW _ _ _ _ _ _ _ _ _ T51 (mkF m 161 #[.val (.int p0), .val (.int p1), .val (.int p2), .val (.int p3), .val (.int p4), .val (.ref b1), .val (.int ((p0 &&& (2147483647 : Int32)) % (10 : Int32))), .val (.ref o1), .val (.ref o2), .val u1, .val u2, .val (.ref ba), .unset] [u1])
  refine own_goW (fun t_ k_ => XS.aload X51.here hx rfl (hb hby at_161) rfl hu1  k_) ?_
  show own_EndsW _ _ _ _ _ _ _ _ _ T51 (mkF m 163 #[.val (.int p0), .val (.int p1), .val (.int p2), .val (.int p3), .val (.int p4), .val (.ref b1), .val (.int ((p0 &&& (2147483647 : Int32)) % (10 : Int32))), .val (.ref o1), .val (.ref o2), .val u1, .val u2, .val (.ref ba), .unset] [u1, u1])
  refine own_goW (fun t_ k_ => XT.acmpYes X51.here hx rfl (pc0 := 163) (pc' := 168) rfl (hb hby at_163) rfl hu1 hu1 (XT.aa_eq_t rfl) (by decide) (by decide) k_) ?_
  show own_EndsW _ _ _ _ _ _ _ _ _ T51 (mkF m 168 #[.val (.int p0), .val (.int p1), .val (.int p2), .val (.int p3), .val (.int p4), .val (.ref b1), .val (.int ((p0 &&& (2147483647 : Int32)) % (10 : Int32))), .val (.ref o1), .val (.ref o2), .val u1, .val u2, .val (.ref ba), .unset] [])
  refine own_goW (fun t_ k_ => XS.aload X51.here hx rfl (hb hby at_168) rfl rfl  k_) ?_
  show own_EndsW _ _ _ _ _ _ _ _ _ T51 (mkF m 170 #[.val (.int p0), .val (.int p1), .val (.int p2), .val (.int p3), .val (.int p4), .val (.ref b1), .val (.int ((p0 &&& (2147483647 : Int32)) % (10 : Int32))), .val (.ref o1), .val (.ref o2), .val u1, .val u2, .val (.ref ba), .unset] [(.ref o2)])
  refine own_goW (fun t_ k_ => XS.aload X51.here hx rfl (hb hby at_170) rfl hu2  k_) ?_
  show own_EndsW _ _ _ _ _ _ _ _ _ T51 (mkF m 172 #[.val (.int p0), .val (.int p1), .val (.int p2), .val (.int p3), .val (.int p4), .val (.ref b1), .val (.int ((p0 &&& (2147483647 : Int32)) % (10 : Int32))), .val (.ref o1), .val (.ref o2), .val u1, .val u2, .val (.ref ba), .unset] [u2, (.ref o2)])
  have Nsk52 : ∀ x ∈ ([] : List Addr), ∀ cell : Cell, h49[x]? = some cell → cell.vm.isStatics = false := ns0
  have Skk52 : ∀ x ∈ ([] : List Addr), Safe Z own_EL T49.vm h49 x := sf0
  obtain ⟨T53, v53, L53, h53, X53, e53, hQ53, Iv53, hZ, hown, CH53, Gr53, st53⟩ := own_callSW X51 hx hZ (y := (⟨"com/example/quayside/quayside/Answer", "of", "(Lcom/example/quayside/quayside/Outcome;Ljava/lang/String;)Lcom/example/quayside/quayside/Answer;"⟩ : MethodName)) hown (own_EW hw) Iv49 (hw _ (List.mem_of_getElem? (i := 62) rfl)) (hw _ (List.mem_of_getElem? (i := 63) rfl)) (hw _ (List.mem_of_getElem? (i := 64) rfl)) (hw _ (List.mem_of_getElem? (i := 65) rfl)) (by decide) (rm8 l Z a0 hw [] o2 u2 h49 n0 (Nat.le_trans (Nat.le_trans (Nat.le_trans (Nat.le_trans (Nat.le_trans (Nat.le_trans (Nat.le_trans (Nat.le_trans (Nat.le_trans (Nat.le_trans (Nat.le_trans (Nat.le_trans (Nat.le_trans (Nat.le_trans Z0 E1.1) (Keep.of_wr W5).1) (Keep.of_wr W9).1) (Keep.of_wr W13).1) (Keep.of_wr W17).1) (Keep.of_wr W21).1) (Keep.of_wr W25).1) (Keep.of_wr W29).1) (Keep.of_wr W33).1) (Keep.of_wr W37).1) (Keep.of_wr W41).1) Kq45.1) Kq47.1) Kq49.1) hu2) e51 (g := (mkF m 172 #[.val (.int p0), .val (.int p1), .val (.int p2), .val (.int p3), .val (.int p4), .val (.ref b1), .val (.int ((p0 &&& (2147483647 : Int32)) % (10 : Int32))), .val (.ref o1), .val (.ref o2), .val u1, .val u2, .val (.ref ba), .unset] [u2, (.ref o2)])) rfl (by rw [hml]; rfl) [(.ref o2), u2] [] rfl (lenOf pd__Lcom_example_quayside_quayside_Outcome_Ljava_lang_String__Lcom_example_quayside_quayside_Answer_ rfl) rfl 0 (by show 2 * 0 + _ ≤ _; exact Nat.le_of_eq rfl) (hb hby at_172) (by decide) (by decide) (by decide) (by decide)
  obtain ⟨bb, rfl, N53q, Kq53, Eq53, Fo53, Ft53⟩ := hQ53
  refine own_goW st53 ?_
  have N53 := Fr.app N51 N53q
  show own_EndsW _ _ _ _ _ _ _ _ _ T53 (mkF m 175 #[.val (.int p0), .val (.int p1), .val (.int p2), .val (.int p3), .val (.int p4), .val (.ref b1), .val (.int ((p0 &&& (2147483647 : Int32)) % (10 : Int32))), .val (.ref o1), .val (.ref o2), .val u1, .val u2, .val (.ref ba), .unset] [(.ref bb)])
  refine own_goW (fun t_ k_ => XS.astore X53.here hx rfl (hb hby at_175) rfl rfl (l' := #[.val (.int p0), .val (.int p1), .val (.int p2), .val (.int p3), .val (.int p4), .val (.ref b1), .val (.int ((p0 &&& (2147483647 : Int32)) % (10 : Int32))), .val (.ref o1), .val (.ref o2), .val u1, .val u2, .val (.ref ba), .val (.ref bb)]) rfl k_) ?_
  show own_EndsW _ _ _ _ _ _ _ _ _ T53 (mkF m 177 #[.val (.int p0), .val (.int p1), .val (.int p2), .val (.int p3), .val (.int p4), .val (.ref b1), .val (.int ((p0 &&& (2147483647 : Int32)) % (10 : Int32))), .val (.ref o1), .val (.ref o2), .val u1, .val u2, .val (.ref ba), .val (.ref bb)] [])
  refine own_goW (fun t_ k_ => XS.aload X53.here hx rfl (hb hby at_177) rfl rfl  k_) ?_
  show own_EndsW _ _ _ _ _ _ _ _ _ T53 (mkF m 179 #[.val (.int p0), .val (.int p1), .val (.int p2), .val (.int p3), .val (.int p4), .val (.ref b1), .val (.int ((p0 &&& (2147483647 : Int32)) % (10 : Int32))), .val (.ref o1), .val (.ref o2), .val u1, .val u2, .val (.ref ba), .val (.ref bb)] [(.ref bb)])
  refine own_goW (fun t_ k_ => XT.ifnonnullYes X53.here hx rfl (pc0 := 179) (pc' := 184) rfl (hb hby at_179) rfl (by decide) (by decide) k_) ?_
  show own_EndsW _ _ _ _ _ _ _ _ _ T53 (mkF m 184 #[.val (.int p0), .val (.int p1), .val (.int p2), .val (.int p3), .val (.int p4), .val (.ref b1), .val (.int ((p0 &&& (2147483647 : Int32)) % (10 : Int32))), .val (.ref o1), .val (.ref o2), .val u1, .val u2, .val (.ref ba), .val (.ref bb)] [])
  refine own_goW (fun t_ k_ => XS.aload X53.here hx rfl (hb hby at_184) rfl rfl  k_) ?_
  show own_EndsW _ _ _ _ _ _ _ _ _ T53 (mkF m 186 #[.val (.int p0), .val (.int p1), .val (.int p2), .val (.int p3), .val (.int p4), .val (.ref b1), .val (.int ((p0 &&& (2147483647 : Int32)) % (10 : Int32))), .val (.ref o1), .val (.ref o2), .val u1, .val u2, .val (.ref ba), .val (.ref bb)] [(.ref bb)])
  obtain ⟨T54, v54, L54, X54, hQ54, st54⟩ := own_callI X53 hx hZ (xi := (⟨"com/example/quayside/quayside/Answer", "outcome", "()Lcom/example/quayside/quayside/Outcome;"⟩ : MethodName)) (y := (⟨"com/example/quayside/quayside/Answer$1", "outcome", "()Lcom/example/quayside/quayside/Outcome;"⟩ : MethodName)) hown (hw _ (List.mem_of_getElem? (i := 82) rfl)) (hw _ (List.mem_of_getElem? (i := 83) rfl)) (hw _ (List.mem_of_getElem? (i := 84) rfl)) (hw _ (List.mem_of_getElem? (i := 85) rfl)) (hw _ (List.mem_of_getElem? (i := 86) rfl)) (hw _ (List.mem_of_getElem? (i := 87) rfl)) (hw _ (List.mem_of_getElem? (i := 88) rfl)) (hw _ (List.mem_of_getElem? (i := 89) rfl)) (hw _ (List.mem_of_getElem? (i := 73) rfl)) (hw _ (List.mem_of_getElem? (i := 90) rfl)) (by decide) (rm11 l Z a0 hw [] bb (.ref o2) h53 n0 (Nat.le_trans (Nat.le_trans (Nat.le_trans (Nat.le_trans (Nat.le_trans (Nat.le_trans (Nat.le_trans (Nat.le_trans (Nat.le_trans (Nat.le_trans (Nat.le_trans (Nat.le_trans (Nat.le_trans (Nat.le_trans (Nat.le_trans Z0 E1.1) (Keep.of_wr W5).1) (Keep.of_wr W9).1) (Keep.of_wr W13).1) (Keep.of_wr W17).1) (Keep.of_wr W21).1) (Keep.of_wr W25).1) (Keep.of_wr W29).1) (Keep.of_wr W33).1) (Keep.of_wr W37).1) (Keep.of_wr W41).1) Kq45.1) Kq47.1) Kq49.1) Kq53.1) rfl Fo53) e53 (g := (mkF m 186 #[.val (.int p0), .val (.int p1), .val (.int p2), .val (.int p3), .val (.int p4), .val (.ref b1), .val (.int ((p0 &&& (2147483647 : Int32)) % (10 : Int32))), .val (.ref o1), .val (.ref o2), .val u1, .val u2, .val (.ref ba), .val (.ref bb)] [(.ref bb)])) rfl (by rw [hml]; rfl) bb Eq53 [] [] rfl (lenOf pd___Lcom_example_quayside_quayside_Outcome_ rfl) rfl 0 (by show 2 * 0 + _ ≤ _; exact Nat.le_of_eq rfl) (hb hby at_186) (by decide) (by decide) (by decide) (by decide)
  obtain ⟨rfl, N54q, e54⟩ := hQ54
  refine own_goW st54 ?_
  have N54 := Fr.app N53 N54q
  show own_EndsW _ _ _ _ _ _ _ _ _ T54 (mkF m 191 #[.val (.int p0), .val (.int p1), .val (.int p2), .val (.int p3), .val (.int p4), .val (.ref b1), .val (.int ((p0 &&& (2147483647 : Int32)) % (10 : Int32))), .val (.ref o1), .val (.ref o2), .val u1, .val u2, .val (.ref ba), .val (.ref bb)] [(.ref o2)])
  refine own_goW (fun t_ k_ => XS.aload X54.here hx rfl (hb hby at_191) rfl rfl  k_) ?_
  show own_EndsW _ _ _ _ _ _ _ _ _ T54 (mkF m 193 #[.val (.int p0), .val (.int p1), .val (.int p2), .val (.int p3), .val (.int p4), .val (.ref b1), .val (.int ((p0 &&& (2147483647 : Int32)) % (10 : Int32))), .val (.ref o1), .val (.ref o2), .val u1, .val u2, .val (.ref ba), .val (.ref bb)] [(.ref o2), (.ref o2)])
  refine own_goW (fun t_ k_ => XT.acmpNo X54.here hx rfl (hb hby at_193) rfl rfl rfl (XT.aa_ne_f rfl) k_) ?_
  show own_EndsW _ _ _ _ _ _ _ _ _ T54 (mkF m 196 #[.val (.int p0), .val (.int p1), .val (.int p2), .val (.int p3), .val (.int p4), .val (.ref b1), .val (.int ((p0 &&& (2147483647 : Int32)) % (10 : Int32))), .val (.ref o1), .val (.ref o2), .val u1, .val u2, .val (.ref ba), .val (.ref bb)] [])
  refine own_goW (fun t_ k_ => XS.aload X54.here hx rfl (hb hby at_196) rfl rfl  k_) ?_
  show own_EndsW _ _ _ _ _ _ _ _ _ T54 (mkF m 198 #[.val (.int p0), .val (.int p1), .val (.int p2), .val (.int p3), .val (.int p4), .val (.ref b1), .val (.int ((p0 &&& (2147483647 : Int32)) % (10 : Int32))), .val (.ref o1), .val (.ref o2), .val u1, .val u2, .val (.ref ba), .val (.ref bb)] [(.ref bb)])
  obtain ⟨T55, v55, L55, X55, hQ55, st55⟩ := own_callI X54 hx hZ (xi := (⟨"com/example/quayside/quayside/Answer", "text", "()Ljava/lang/String;"⟩ : MethodName)) (y := (⟨"com/example/quayside/quayside/Answer$1", "text", "()Ljava/lang/String;"⟩ : MethodName)) hown (hw _ (List.mem_of_getElem? (i := 91) rfl)) (hw _ (List.mem_of_getElem? (i := 92) rfl)) (hw _ (List.mem_of_getElem? (i := 93) rfl)) (hw _ (List.mem_of_getElem? (i := 94) rfl)) (hw _ (List.mem_of_getElem? (i := 95) rfl)) (hw _ (List.mem_of_getElem? (i := 96) rfl)) (hw _ (List.mem_of_getElem? (i := 97) rfl)) (hw _ (List.mem_of_getElem? (i := 89) rfl)) (hw _ (List.mem_of_getElem? (i := 73) rfl)) (hw _ (List.mem_of_getElem? (i := 98) rfl)) (by decide) (rm12 l Z a0 hw [] bb u2 h53 n0 (Nat.le_trans (Nat.le_trans (Nat.le_trans (Nat.le_trans (Nat.le_trans (Nat.le_trans (Nat.le_trans (Nat.le_trans (Nat.le_trans (Nat.le_trans (Nat.le_trans (Nat.le_trans (Nat.le_trans (Nat.le_trans (Nat.le_trans Z0 E1.1) (Keep.of_wr W5).1) (Keep.of_wr W9).1) (Keep.of_wr W13).1) (Keep.of_wr W17).1) (Keep.of_wr W21).1) (Keep.of_wr W25).1) (Keep.of_wr W29).1) (Keep.of_wr W33).1) (Keep.of_wr W37).1) (Keep.of_wr W41).1) Kq45.1) Kq47.1) Kq49.1) Kq53.1) hu2 Ft53) e54 (g := (mkF m 198 #[.val (.int p0), .val (.int p1), .val (.int p2), .val (.int p3), .val (.int p4), .val (.ref b1), .val (.int ((p0 &&& (2147483647 : Int32)) % (10 : Int32))), .val (.ref o1), .val (.ref o2), .val u1, .val u2, .val (.ref ba), .val (.ref bb)] [(.ref bb)])) rfl (by rw [hml]; rfl) bb Eq53 [] [] rfl (lenOf pd___Ljava_lang_String_ rfl) rfl 0 (by show 2 * 0 + _ ≤ _; exact Nat.le_of_eq rfl) (hb hby at_198) (by decide) (by decide) (by decide) (by decide)
  obtain ⟨rfl, N55q, e55⟩ := hQ55
  refine own_goW st55 ?_
  have N55 := Fr.app N54 N55q
  show own_EndsW _ _ _ _ _ _ _ _ _ T55 (mkF m 203 #[.val (.int p0), .val (.int p1), .val (.int p2), .val (.int p3), .val (.int p4), .val (.ref b1), .val (.int ((p0 &&& (2147483647 : Int32)) % (10 : Int32))), .val (.ref o1), .val (.ref o2), .val u1, .val u2, .val (.ref ba), .val (.ref bb)] [u2])
  refine own_goW (fun t_ k_ => XS.aload X55.here hx rfl (hb hby at_203) rfl hu2  k_) ?_
  show own_EndsW _ _ _ _ _ _ _ _ _ T55 (mkF m 205 #[.val (.int p0), .val (.int p1), .val (.int p2), .val (.int p3), .val (.int p4), .val (.ref b1), .val (.int ((p0 &&& (2147483647 : Int32)) % (10 : Int32))), .val (.ref o1), .val (.ref o2), .val u1, .val u2, .val (.ref ba), .val (.ref bb)] [u2, u2])
  refine own_goW (fun t_ k_ => XT.acmpYes X55.here hx rfl (pc0 := 205) (pc' := 210) rfl (hb hby at_205) rfl hu2 hu2 (XT.aa_eq_t rfl) (by decide) (by decide) k_) ?_
  show own_EndsW _ _ _ _ _ _ _ _ _ T55 (mkF m 210 #[.val (.int p0), .val (.int p1), .val (.int p2), .val (.int p3), .val (.int p4), .val (.ref b1), .val (.int ((p0 &&& (2147483647 : Int32)) % (10 : Int32))), .val (.ref o1), .val (.ref o2), .val u1, .val u2, .val (.ref ba), .val (.ref bb)] [])
  refine own_goW (fun t_ k_ => XS.aload X55.here hx rfl (hb hby at_210) rfl rfl  k_) ?_
  show own_EndsW _ _ _ _ _ _ _ _ _ T55 (mkF m 212 #[.val (.int p0), .val (.int p1), .val (.int p2), .val (.int p3), .val (.int p4), .val (.ref b1), .val (.int ((p0 &&& (2147483647 : Int32)) % (10 : Int32))), .val (.ref o1), .val (.ref o2), .val u1, .val u2, .val (.ref ba), .val (.ref bb)] [(.ref ba)])
  obtain ⟨T56, v56, L56, X56, hQ56, st56⟩ := own_callI X55 hx hZ (xi := (⟨"com/example/quayside/quayside/Answer", "outcome", "()Lcom/example/quayside/quayside/Outcome;"⟩ : MethodName)) (y := (⟨"com/example/quayside/quayside/Answer$1", "outcome", "()Lcom/example/quayside/quayside/Outcome;"⟩ : MethodName)) hown (hw _ (List.mem_of_getElem? (i := 82) rfl)) (hw _ (List.mem_of_getElem? (i := 83) rfl)) (hw _ (List.mem_of_getElem? (i := 84) rfl)) (hw _ (List.mem_of_getElem? (i := 85) rfl)) (hw _ (List.mem_of_getElem? (i := 86) rfl)) (hw _ (List.mem_of_getElem? (i := 87) rfl)) (hw _ (List.mem_of_getElem? (i := 88) rfl)) (hw _ (List.mem_of_getElem? (i := 89) rfl)) (hw _ (List.mem_of_getElem? (i := 73) rfl)) (hw _ (List.mem_of_getElem? (i := 90) rfl)) (by decide) (rm11 l Z a0 hw [] ba (.ref o1) h53 n0 (Nat.le_trans (Nat.le_trans (Nat.le_trans (Nat.le_trans (Nat.le_trans (Nat.le_trans (Nat.le_trans (Nat.le_trans (Nat.le_trans (Nat.le_trans (Nat.le_trans (Nat.le_trans (Nat.le_trans (Nat.le_trans (Nat.le_trans Z0 E1.1) (Keep.of_wr W5).1) (Keep.of_wr W9).1) (Keep.of_wr W13).1) (Keep.of_wr W17).1) (Keep.of_wr W21).1) (Keep.of_wr W25).1) (Keep.of_wr W29).1) (Keep.of_wr W33).1) (Keep.of_wr W37).1) (Keep.of_wr W41).1) Kq45.1) Kq47.1) Kq49.1) Kq53.1) rfl (Fo49.keep Kq53 nin0)) e55 (g := (mkF m 212 #[.val (.int p0), .val (.int p1), .val (.int p2), .val (.int p3), .val (.int p4), .val (.ref b1), .val (.int ((p0 &&& (2147483647 : Int32)) % (10 : Int32))), .val (.ref o1), .val (.ref o2), .val u1, .val u2, .val (.ref ba), .val (.ref bb)] [(.ref ba)])) rfl (by rw [hml]; rfl) ba (Eq49.keep Kq53) [] [] rfl (lenOf pd___Lcom_example_quayside_quayside_Outcome_ rfl) rfl 0 (by show 2 * 0 + _ ≤ _; exact Nat.le_of_eq rfl) (hb hby at_212) (by decide) (by decide) (by decide) (by decide)
  obtain ⟨rfl, N56q, e56⟩ := hQ56
  refine own_goW st56 ?_
  have N56 := Fr.app N55 N56q
  show own_EndsW _ _ _ _ _ _ _ _ _ T56 (mkF m 217 #[.val (.int p0), .val (.int p1), .val (.int p2), .val (.int p3), .val (.int p4), .val (.ref b1), .val (.int ((p0 &&& (2147483647 : Int32)) % (10 : Int32))), .val (.ref o1), .val (.ref o2), .val u1, .val u2, .val (.ref ba), .val (.ref bb)] [(.ref o1)])
  refine own_goW (fun t_ k_ => XS.aload X56.here hx rfl (hb hby at_217) rfl rfl  k_) ?_
  show own_EndsW _ _ _ _ _ _ _ _ _ T56 (mkF m 219 #[.val (.int p0), .val (.int p1), .val (.int p2), .val (.int p3), .val (.int p4), .val (.ref b1), .val (.int ((p0 &&& (2147483647 : Int32)) % (10 : Int32))), .val (.ref o1), .val (.ref o2), .val u1, .val u2, .val (.ref ba), .val (.ref bb)] [(.ref o1), (.ref o1)])
  refine own_goW (fun t_ k_ => XT.acmpNo X56.here hx rfl (hb hby at_219) rfl rfl rfl (XT.aa_ne_f rfl) k_) ?_
  show own_EndsW _ _ _ _ _ _ _ _ _ T56 (mkF m 222 #[.val (.int p0), .val (.int p1), .val (.int p2), .val (.int p3), .val (.int p4), .val (.ref b1), .val (.int ((p0 &&& (2147483647 : Int32)) % (10 : Int32))), .val (.ref o1), .val (.ref o2), .val u1, .val u2, .val (.ref ba), .val (.ref bb)] [])
  refine own_goW (fun t_ k_ => XS.aload X56.here hx rfl (hb hby at_222) rfl rfl  k_) ?_
  show own_EndsW _ _ _ _ _ _ _ _ _ T56 (mkF m 224 #[.val (.int p0), .val (.int p1), .val (.int p2), .val (.int p3), .val (.int p4), .val (.ref b1), .val (.int ((p0 &&& (2147483647 : Int32)) % (10 : Int32))), .val (.ref o1), .val (.ref o2), .val u1, .val u2, .val (.ref ba), .val (.ref bb)] [(.ref ba)])
  obtain ⟨T57, v57, L57, X57, hQ57, st57⟩ := own_callI X56 hx hZ (xi := (⟨"com/example/quayside/quayside/Answer", "text", "()Ljava/lang/String;"⟩ : MethodName)) (y := (⟨"com/example/quayside/quayside/Answer$1", "text", "()Ljava/lang/String;"⟩ : MethodName)) hown (hw _ (List.mem_of_getElem? (i := 91) rfl)) (hw _ (List.mem_of_getElem? (i := 92) rfl)) (hw _ (List.mem_of_getElem? (i := 93) rfl)) (hw _ (List.mem_of_getElem? (i := 94) rfl)) (hw _ (List.mem_of_getElem? (i := 95) rfl)) (hw _ (List.mem_of_getElem? (i := 96) rfl)) (hw _ (List.mem_of_getElem? (i := 97) rfl)) (hw _ (List.mem_of_getElem? (i := 89) rfl)) (hw _ (List.mem_of_getElem? (i := 73) rfl)) (hw _ (List.mem_of_getElem? (i := 98) rfl)) (by decide) (rm12 l Z a0 hw [] ba u1 h53 n0 (Nat.le_trans (Nat.le_trans (Nat.le_trans (Nat.le_trans (Nat.le_trans (Nat.le_trans (Nat.le_trans (Nat.le_trans (Nat.le_trans (Nat.le_trans (Nat.le_trans (Nat.le_trans (Nat.le_trans (Nat.le_trans (Nat.le_trans Z0 E1.1) (Keep.of_wr W5).1) (Keep.of_wr W9).1) (Keep.of_wr W13).1) (Keep.of_wr W17).1) (Keep.of_wr W21).1) (Keep.of_wr W25).1) (Keep.of_wr W29).1) (Keep.of_wr W33).1) (Keep.of_wr W37).1) (Keep.of_wr W41).1) Kq45.1) Kq47.1) Kq49.1) Kq53.1) hu1 (Ft49.keep Kq53 nin0)) e56 (g := (mkF m 224 #[.val (.int p0), .val (.int p1), .val (.int p2), .val (.int p3), .val (.int p4), .val (.ref b1), .val (.int ((p0 &&& (2147483647 : Int32)) % (10 : Int32))), .val (.ref o1), .val (.ref o2), .val u1, .val u2, .val (.ref ba), .val (.ref bb)] [(.ref ba)])) rfl (by rw [hml]; rfl) ba (Eq49.keep Kq53) [] [] rfl (lenOf pd___Ljava_lang_String_ rfl) rfl 0 (by show 2 * 0 + _ ≤ _; exact Nat.le_of_eq rfl) (hb hby at_224) (by decide) (by decide) (by decide) (by decide)
  obtain ⟨rfl, N57q, e57⟩ := hQ57
  refine own_goW st57 ?_
  have N57 := Fr.app N56 N57q
  show own_EndsW _ _ _ _ _ _ _ _ _ T57 (mkF m 229 #[.val (.int p0), .val (.int p1), .val (.int p2), .val (.int p3), .val (.int p4), .val (.ref b1), .val (.int ((p0 &&& (2147483647 : Int32)) % (10 : Int32))), .val (.ref o1), .val (.ref o2), .val u1, .val u2, .val (.ref ba), .val (.ref bb)] [u1])
  refine own_goW (fun t_ k_ => XS.aload X57.here hx rfl (hb hby at_229) rfl hu1  k_) ?_
  show own_EndsW _ _ _ _ _ _ _ _ _ T57 (mkF m 231 #[.val (.int p0), .val (.int p1), .val (.int p2), .val (.int p3), .val (.int p4), .val (.ref b1), .val (.int ((p0 &&& (2147483647 : Int32)) % (10 : Int32))), .val (.ref o1), .val (.ref o2), .val u1, .val u2, .val (.ref ba), .val (.ref bb)] [u1, u1])
  refine own_goW (fun t_ k_ => XT.acmpNo X57.here hx rfl (hb hby at_231) rfl hu1 hu1 (XT.aa_ne_f rfl) k_) ?_
  show own_EndsW _ _ _ _ _ _ _ _ _ T57 (mkF m 234 #[.val (.int p0), .val (.int p1), .val (.int p2), .val (.int p3), .val (.int p4), .val (.ref b1), .val (.int ((p0 &&& (2147483647 : Int32)) % (10 : Int32))), .val (.ref o1), .val (.ref o2), .val u1, .val u2, .val (.ref ba), .val (.ref bb)] [])
  refine own_goW (fun t_ k_ => XS.iconst X57.here hx rfl (hb hby at_234) k_) ?_
  show own_EndsW _ _ _ _ _ _ _ _ _ T57 (mkF m 235 #[.val (.int p0), .val (.int p1), .val (.int p2), .val (.int p3), .val (.int p4), .val (.ref b1), .val (.int ((p0 &&& (2147483647 : Int32)) % (10 : Int32))), .val (.ref o1), .val (.ref o2), .val u1, .val u2, .val (.ref ba), .val (.ref bb)] [(.int (1 : Int32))])
  refine own_goW (fun t_ k_ => XS.goto X57.here hx rfl (pc0 := 235) (pc' := 239) rfl (hb hby at_235) (by decide) (by decide) k_) ?_
  show own_EndsW _ _ _ _ _ _ _ _ _ T57 (mkF m 239 #[.val (.int p0), .val (.int p1), .val (.int p2), .val (.int p3), .val (.int p4), .val (.ref b1), .val (.int ((p0 &&& (2147483647 : Int32)) % (10 : Int32))), .val (.ref o1), .val (.ref o2), .val u1, .val u2, .val (.ref ba), .val (.ref bb)] [(.int (1 : Int32))])
  refine own_retNW X57 hZ (own_EW hw) Iv53 hx hlk (t := .boolean) hret (by simp) (hb hby at_239) e57 (by decide) (by decide) ?_
  exact ⟨rfl, N57⟩
set_option maxRecDepth 65536 in
set_option maxHeartbeats 40000000 in
theorem comes_1 {Post : Tables → Env → Array Value → State → Outcome → State → Prop} (hpost : ∀ tb e args s v u, (limb_1_1.after args s (.returned v) u = true ∧ limb_1_2.after args s (.returned v) u = true ∧ True) → ReturnedEndW s (.returned v) u (Jvm.fieldLocs frame_1_writes args s ++ Jvm.arrayLocs frame_1_arrays args s ++ Jvm.staticLocs frame_1_statics s) 32 2240 → Post tb e args s (.returned v) u) :
    ArmFor flags0 classFile x code maxLocals ret World_1 tables_1 room_1 Calls_1 rest_1 Pre_1 Post := by
  intro l hfl _ _ p e ha hc hk s m args below hf hA hF happ hP
  obtain ⟨hcalls, hrest, hpre⟩ := hP
  obtain ⟨-, -, -, hnamed, -, -, -, hat⟩ := (Spec.applies_iff hf).mp happ
  obtain ⟨hg, hn⟩ := and_e (Cond.before_iff.mp (show (Jvm.Cond.and given_1 narrow_1).before args s = true from hpre))
  obtain ⟨g1, g2⟩ := and_e hg
  obtain ⟨g3, g4⟩ := and_e g2
  obtain ⟨g5, g6⟩ := and_e g4
  obtain ⟨g7, g8⟩ := and_e g6
  obtain ⟨g9, g10⟩ := and_e g8
  obtain ⟨w0, w1, w2, w3, w4, rfl⟩ : ∃ w0 w1 w2 w3 w4 : Value, args = #[w0, w1, w2, w3, w4] := by
    have hs : args.size = 5 := by simpa [Cond.value, given_1] using g1
    obtain ⟨L⟩ := args
    match L, hs with
    | [w0, w1, w2, w3, w4], _ => exact ⟨w0, w1, w2, w3, w4, rfl⟩
  have hw := fun d (hd : d ∈ tables_1) => atoms_spec (ws := Jvm.Cond.code x code maxLocals ret :: tables_1) hat d (List.mem_cons_of_mem _ hd)
  have hfit : Fit s := fun {y c} hc i hi => by
    obtain ⟨ha, rfl⟩ := Array.getElem?_eq_some_iff.mp hc
    have q := List.all_eq_true.mp ((Array.all_eq_true_iff_forall_mem.mp hF) _ (Array.getElem_mem ha)) i (List.mem_range.mpr hi)
    simpa [Array.getElem?_eq_getElem hi] using q
  obtain ⟨hsets, hown0⟩ := atoms_of _ (rest_1_c_eq ▸ (show rest_1_c.before _ s = true from hrest))
  obtain ⟨i0, ei0⟩ := is_v g3
  obtain rfl : w0 = (.int i0) := Option.some.inj ei0
  obtain ⟨i1, ei1⟩ := is_v g5
  obtain rfl : w1 = (.int i1) := Option.some.inj ei1
  obtain ⟨i2, ei2⟩ := is_v g7
  obtain rfl : w2 = (.int i2) := Option.some.inj ei2
  obtain ⟨i3, ei3⟩ := is_v g9
  obtain rfl : w3 = (.int i3) := Option.some.inj ei3
  obtain ⟨i4, ei4⟩ := is_v g10
  obtain rfl : w4 = (.int i4) := Option.some.inj ei4
  unfold narrow_1 at hn
  obtain ⟨g11, g12⟩ := and_e hn
  obtain ⟨g13, g14⟩ := and_e g12
  obtain ⟨g15, g16⟩ := and_e g14
  obtain ⟨g17, g18⟩ := and_e g16
  obtain ⟨g19, g20⟩ := and_e g18
  obtain ⟨g21, g22⟩ := and_e g20
  obtain ⟨g23, g24⟩ := and_e g22
  obtain ⟨g25, g26⟩ := and_e g24
  obtain ⟨g27, g28⟩ := and_e g26
  obtain ⟨a_SUCCEED, ev_SUCCEED⟩ := exa_v g11
  have E_SUCCEED := Exa.start ev_SUCCEED g11
  have S_SUCCEED := Sta.start ev_SUCCEED (Or.inr ⟨(hw _ (List.mem_of_getElem? (i := 3) rfl)), (hw _ (List.mem_of_getElem? (i := 4) rfl))⟩)
  obtain ⟨a_VALCHANGE, ev_VALCHANGE⟩ := exa_v g13
  have E_VALCHANGE := Exa.start ev_VALCHANGE g13
  have S_VALCHANGE := Sta.start ev_VALCHANGE (Or.inr ⟨(hw _ (List.mem_of_getElem? (i := 3) rfl)), (hw _ (List.mem_of_getElem? (i := 7) rfl))⟩)
  obtain ⟨a_MULTIPLE_HITS, ev_MULTIPLE_HITS⟩ := exa_v g15
  have E_MULTIPLE_HITS := Exa.start ev_MULTIPLE_HITS g15
  have S_MULTIPLE_HITS := Sta.start ev_MULTIPLE_HITS (Or.inr ⟨(hw _ (List.mem_of_getElem? (i := 3) rfl)), (hw _ (List.mem_of_getElem? (i := 9) rfl))⟩)
  obtain ⟨a_FAIL, ev_FAIL⟩ := exa_v g17
  have E_FAIL := Exa.start ev_FAIL g17
  have S_FAIL := Sta.start ev_FAIL (Or.inr ⟨(hw _ (List.mem_of_getElem? (i := 3) rfl)), (hw _ (List.mem_of_getElem? (i := 11) rfl))⟩)
  obtain ⟨a_FAIL_RETRIEVE_BY_CONTENT, ev_FAIL_RETRIEVE_BY_CONTENT⟩ := exa_v g19
  have E_FAIL_RETRIEVE_BY_CONTENT := Exa.start ev_FAIL_RETRIEVE_BY_CONTENT g19
  have S_FAIL_RETRIEVE_BY_CONTENT := Sta.start ev_FAIL_RETRIEVE_BY_CONTENT (Or.inr ⟨(hw _ (List.mem_of_getElem? (i := 3) rfl)), (hw _ (List.mem_of_getElem? (i := 13) rfl))⟩)
  obtain ⟨a_BO_DOES_NOT_EXIST, ev_BO_DOES_NOT_EXIST⟩ := exa_v g21
  have E_BO_DOES_NOT_EXIST := Exa.start ev_BO_DOES_NOT_EXIST g21
  have S_BO_DOES_NOT_EXIST := Sta.start ev_BO_DOES_NOT_EXIST (Or.inr ⟨(hw _ (List.mem_of_getElem? (i := 3) rfl)), (hw _ (List.mem_of_getElem? (i := 15) rfl))⟩)
  obtain ⟨a_UNABLE_TO_LOGIN, ev_UNABLE_TO_LOGIN⟩ := exa_v g23
  have E_UNABLE_TO_LOGIN := Exa.start ev_UNABLE_TO_LOGIN g23
  have S_UNABLE_TO_LOGIN := Sta.start ev_UNABLE_TO_LOGIN (Or.inr ⟨(hw _ (List.mem_of_getElem? (i := 3) rfl)), (hw _ (List.mem_of_getElem? (i := 17) rfl))⟩)
  obtain ⟨a_VALDUPES, ev_VALDUPES⟩ := exa_v g25
  have E_VALDUPES := Exa.start ev_VALDUPES g25
  have S_VALDUPES := Sta.start ev_VALDUPES (Or.inr ⟨(hw _ (List.mem_of_getElem? (i := 3) rfl)), (hw _ (List.mem_of_getElem? (i := 19) rfl))⟩)
  obtain ⟨a_UNSUBSCRIBED, ev_UNSUBSCRIBED⟩ := exa_v g27
  have E_UNSUBSCRIBED := Exa.start ev_UNSUBSCRIBED g27
  have S_UNSUBSCRIBED := Sta.start ev_UNSUBSCRIBED (Or.inr ⟨(hw _ (List.mem_of_getElem? (i := 3) rfl)), (hw _ (List.mem_of_getElem? (i := 21) rfl))⟩)
  obtain ⟨a_APPRESPONSETIMEOUT, ev_APPRESPONSETIMEOUT⟩ := exa_v g28
  have E_APPRESPONSETIMEOUT := Exa.start ev_APPRESPONSETIMEOUT g28
  have S_APPRESPONSETIMEOUT := Sta.start ev_APPRESPONSETIMEOUT (Or.inr ⟨(hw _ (List.mem_of_getElem? (i := 3) rfl)), (hw _ (List.mem_of_getElem? (i := 23) rfl))⟩)
  obtain ⟨zc, evc⟩ := is_v (Cond.before_iff.mp (hsets _ (List.mem_of_getElem? (i := 1) rfl)))
  have SC := Sta.start evc (Or.inl (hsets _ (List.mem_of_getElem? (i := 0) rfl)))
  have hzc : ¬ zc = 0 := own_nz evc (Cond.before_iff.mp (hsets _ (List.mem_of_getElem? (i := 2) rfl)))
  have hCH : CHv s own_EL s.vm s.heap := CHv.start (own_EW hw) (fun p hp => hcalls.1 p (by simp only [own_EL, List.mem_singleton] at hp; subst hp; simp [consts_1])) (hsets _ (List.mem_of_getElem? (i := 2) rfl)) (own_wS hw _ (by simp [Bundle.stringAtoms])) (own_wS hw _ (by simp [Bundle.stringAtoms, Bundle.sN]))
  obtain ⟨n, o, h1, h2, h3, _, L, rfl, ⟨rfl, N⟩, -, hq⟩ := rm0 l s _ hw tables_1 i0 i1 i2 i3 i4 a_SUCCEED a_VALCHANGE a_MULTIPLE_HITS a_FAIL a_FAIL_RETRIEVE_BY_CONTENT a_BO_DOES_NOT_EXIST a_UNABLE_TO_LOGIN a_VALDUPES a_UNSUBSCRIBED a_APPRESPONSETIMEOUT zc s.heap s.heap.size (Nat.le_refl _) S_SUCCEED E_SUCCEED S_VALCHANGE E_VALCHANGE S_MULTIPLE_HITS E_MULTIPLE_HITS S_FAIL E_FAIL S_FAIL_RETRIEVE_BY_CONTENT E_FAIL_RETRIEVE_BY_CONTENT S_BO_DOES_NOT_EXIST E_BO_DOES_NOT_EXIST S_UNABLE_TO_LOGIN E_UNABLE_TO_LOGIN S_VALDUPES E_VALDUPES S_UNSUBSCRIBED E_UNSUBSCRIBED S_APPRESPONSETIMEOUT E_APPRESPONSETIMEOUT SC hzc p e ha hc hk s m _ below hf ((Spec.applies_iff_loose hf).mp happ).1 ⟨rfl, State.Warmed39.refl s, rfl, hCH⟩ trivial
  refine ⟨n, _, h1, h2, h3, hpost _ _ _ _ _ _ ⟨Cond.after_iff.mpr rfl, Cond.after_iff.mpr (eq_i res_at (Term.int_eval (1)) rfl), trivial⟩ ⟨hq.1, hq.2.1, hq.2.2.1, (hq.2.2.2.sift fun y hy => Or.inr (N y hy)).mono (by decide) (by decide)⟩⟩
theorem main_1_1 : Claimed_1_1 := comes_1 fun _ _ _ _ _ _ h hF => ⟨h.1, hF⟩
theorem main_1_2 : Claimed_1_2 := comes_1 fun _ _ _ _ _ _ h hF => ⟨h.2.1, hF⟩
end Jvm.Pilot.@@N@@
namespace Jvm.Pilot.@@N@@
open Jvm Jvm.ClassFile Sem Op Lib Jvm.Free Jvm.Stand Jvm.Pilot.@@N@@.Jvm.D
/-! MADE BY PROGRAM (witnessworld.py) out of the Statement's table words and the real class files: 25 classes; the members and pool entries that the words name. The judged class is class 1, her method 2. -/
namespace start1
open Jvm.ClassFile
def u (s : String) : CpInfo := .utf8 (stringToUtf16 s)
/-- a pool by its gaps: so many unusable entries, then the entry; so many at the end -/
def gap : Nat → List CpInfo → List CpInfo
  | 0, r => r
  | n + 1, r => .unusable :: gap n r
def poolList (es : List (Nat × CpInfo)) (last : Nat) : List CpInfo := es.foldr (fun e r => gap e.1 (e.2 :: r)) (gap last [])
def pool (es : List (Nat × CpInfo)) (last : Nat) : Array CpInfo := ⟨poolList es last⟩
def fileOf (pool : Array CpInfo) (this : Nat) (attrs : Array Attribute := #[]) (ms : Array MethodInfo := #[]) (fl : Nat := 33) (sup : Nat := 0) (ifs : Array Nat := #[]) (fds : Array FieldInfo := #[]) : ClassFile where
  minorVersion := 0
  majorVersion := 65
  constantPool := pool
  accessFlags := fl
  thisClass := this
  superClass := sup
  interfaces := ifs
  fields := fds
  methods := ms
  attributes := attrs
def plain (name : String) (sup : Option ClassId) : Class where
  name := name
  kind := .ordinary
  loader := none
  accessFlags := 33
  super := sup
  interfaces := #[]
  cf := none
  fields := #[]
  methods := #[]
  instanceTypes := #[]
  staticTypes := #[]
  resolved := #[]
  callSites := []
  init := .initialized
  statics := none
  mirror := none

def pool0 : Array CpInfo := pool [(5, u "<init>"), (0, u "()V"), (1, .class_ 10), (1, u "java/lang/Object")] 113

def k0c0 : Code := { maxStack := 0, maxLocals := 1, code := object_method_1_code, exceptionTable := #[], attributes := #[] }
def k0m0 : Method := { name := "<init>", desc := "()V", sig := { parameters := [], returnType := none }, accessFlags := 1, code := some k0c0 }
/-- java/lang/Object -/
def k0 : Class := { plain "java/lang/Object" none with
  accessFlags := 33
  interfaces := #[]
  cf := some (fileOf pool0 8 #[] #[{ accessFlags := 1, nameIndex := 5, descriptorIndex := 6, attributes := #[] }] 33 0 #[] #[])
  fields := #[]
  methods := #[k0m0]
  instanceTypes := #[]
  staticTypes := #[]
  resolved := Array.replicate 124 none
  statics := none }

def pool1 : Array CpInfo := pool [(2, .class_ 4), (1, u "java/lang/Object"), (0, u "<init>"), (0, u "()V"), (0, .class_ 8), (0, u "java/lang/String"), (0, .methodref 7 10), (0, .nameAndType 5 11), (0, u "([C)V"), (0, .methodref 7 13), (0, .nameAndType 14 15), (0, u "valueOf"), (0, u "(C)Ljava/lang/String;"), (0, .class_ 17), (0, u "com/example/quayside/quayside/Outcome"), (0, .fieldref 16 19), (0, .nameAndType 20 21), (0, u "SUCCEED"), (0, u "Lcom/example/quayside/quayside/Outcome;"), (0, .fieldref 16 23), (0, .nameAndType 24 21), (0, u "VALCHANGE"), (0, .fieldref 16 26), (0, .nameAndType 27 21), (0, u "MULTIPLE_HITS"), (0, .fieldref 16 29), (0, .nameAndType 30 21), (0, u "FAIL"), (0, .fieldref 16 32), (0, .nameAndType 33 21), (0, u "FAIL_RETRIEVE_BY_CONTENT"), (0, .fieldref 16 35), (0, .nameAndType 36 21), (0, u "BO_DOES_NOT_EXIST"), (0, .fieldref 16 38), (0, .nameAndType 39 21), (0, u "UNABLE_TO_LOGIN"), (0, .fieldref 16 41), (0, .nameAndType 42 21), (0, u "VALDUPES"), (0, .fieldref 16 44), (0, .nameAndType 45 21), (0, u "UNSUBSCRIBED"), (0, .fieldref 16 47), (0, .nameAndType 48 21), (0, u "APPRESPONSETIMEOUT"), (0, .integer 2147483647), (0, .methodref 51 52), (0, .class_ 53), (0, .nameAndType 54 55), (0, u "com/example/quayside/quayside/AnswerOfPinLaw"), (0, u "text"), (0, u "(II)Ljava/lang/String;"), (0, .interfaceMethodref 57 58), (0, .class_ 59), (0, .nameAndType 60 61), (0, u "com/example/quayside/quayside/Answer"), (0, u "of"), (0, u "(Lcom/example/quayside/quayside/Outcome;Ljava/lang/String;)Lcom/example/quayside/quayside/Answer;"), (0, .interfaceMethodref 57 63), (0, .nameAndType 64 65), (0, u "outcome"), (0, u "()Lcom/example/quayside/quayside/Outcome;"), (0, .interfaceMethodref 57 67), (0, .nameAndType 54 68), (0, u "()Ljava/lang/String;"), (3, u "law"), (0, u "(IIIII)Z")] 4

def k1m0 : Method := { name := "<init>", desc := "()V", sig := { parameters := [], returnType := none }, accessFlags := 1, code := none }
def k1c1 : Code := { maxStack := 3, maxLocals := 6, code := method_2_code, exceptionTable := #[], attributes := #[] }
def k1m1 : Method := { name := "text", desc := "(II)Ljava/lang/String;", sig := { parameters := [.int, .int], returnType := some (.object "java/lang/String") }, accessFlags := 10, code := some k1c1 }
def k1c2 : Code := { maxStack := 4, maxLocals := 13, code := code, exceptionTable := #[], attributes := #[] }
def k1m2 : Method := { name := "law", desc := "(IIIII)Z", sig := { parameters := [.int, .int, .int, .int, .int], returnType := some .boolean }, accessFlags := 9, code := some k1c2 }
/-- com/example/quayside/quayside/AnswerOfPinLaw -/
def k1 : Class := { plain "com/example/quayside/quayside/AnswerOfPinLaw" (some 0) with
  accessFlags := 49
  interfaces := #[]
  cf := some (fileOf pool1 51 #[] #[{ accessFlags := 1, nameIndex := 5, descriptorIndex := 6, attributes := #[] }, { accessFlags := 10, nameIndex := 54, descriptorIndex := 55, attributes := #[] }, { accessFlags := 9, nameIndex := 72, descriptorIndex := 73, attributes := #[] }] 49 2 #[] #[])
  fields := #[]
  methods := #[k1m0, k1m1, k1m2]
  instanceTypes := #[]
  staticTypes := #[]
  resolved := Array.replicate 78 none
  statics := none }

def pool2 : Array CpInfo := pool [(1, .class_ 2), (0, u "java/lang/constant/Constable"), (0, .class_ 4), (0, u "java/lang/Object")] 6

/-- java/lang/constant/Constable -/
def k2 : Class := { plain "java/lang/constant/Constable" (some 0) with
  accessFlags := 1537
  interfaces := #[]
  cf := some (fileOf pool2 1 #[] #[] 1537 3 #[] #[])
  fields := #[]
  methods := #[]
  instanceTypes := #[]
  staticTypes := #[]
  resolved := Array.replicate 11 none
  statics := none }

def pool3 : Array CpInfo := pool [(1, .class_ 2), (0, u "java/lang/Comparable"), (0, .class_ 4), (0, u "java/lang/Object")] 7

/-- java/lang/Comparable -/
def k3 : Class := { plain "java/lang/Comparable" (some 0) with
  accessFlags := 1537
  interfaces := #[]
  cf := some (fileOf pool3 1 #[] #[] 1537 3 #[] #[])
  fields := #[]
  methods := #[]
  instanceTypes := #[]
  staticTypes := #[]
  resolved := Array.replicate 12 none
  statics := none }

def pool4 : Array CpInfo := pool [(1, .class_ 2), (0, u "java/io/Serializable"), (0, .class_ 4), (0, u "java/lang/Object")] 2

/-- java/io/Serializable -/
def k4 : Class := { plain "java/io/Serializable" (some 0) with
  accessFlags := 1537
  interfaces := #[]
  cf := some (fileOf pool4 1 #[] #[] 1537 3 #[] #[])
  fields := #[]
  methods := #[]
  instanceTypes := #[]
  staticTypes := #[]
  resolved := Array.replicate 7 none
  statics := none }

def pool5 : Array CpInfo := pool [(2, .class_ 4), (1, u "java/lang/Enum"), (0, u "name"), (0, u "Ljava/lang/String;"), (2, u "ordinal"), (0, u "I"), (1, .class_ 14), (1, u "java/lang/Object"), (4, u "hash"), (86, .class_ 108), (1, u "java/lang/Enum$EnumDesc"), (2, .class_ 112), (0, u "java/lang/constant/Constable"), (0, .class_ 114), (0, u "java/lang/Comparable"), (0, .class_ 116), (0, u "java/io/Serializable")] 87

/-- java/lang/Enum -/
def k5 : Class := { plain "java/lang/Enum" (some 0) with
  accessFlags := 1057
  interfaces := #[2, 3, 4]
  cf := some (fileOf pool5 2 #[.nestMembers #[106]] #[] 1057 12 #[111, 113, 115] #[{ accessFlags := 18, nameIndex := 5, descriptorIndex := 6, attributes := #[] }, { accessFlags := 18, nameIndex := 9, descriptorIndex := 10, attributes := #[] }, { accessFlags := 2, nameIndex := 19, descriptorIndex := 10, attributes := #[] }])
  fields := #[{ name := "name", type := (.object "java/lang/String"), accessFlags := 18, slot := 0, constantValue := 0 }, { name := "ordinal", type := .int, accessFlags := 18, slot := 1, constantValue := 0 }, { name := "hash", type := .int, accessFlags := 2, slot := 2, constantValue := 0 }]
  methods := #[]
  instanceTypes := #[(.object "java/lang/String"), .int, .int]
  staticTypes := #[]
  resolved := Array.replicate 204 none
  statics := none }

def pool6 : Array CpInfo := pool [(8, .class_ 10), (1, u "com/example/quayside/quayside/Answer"), (0, u "of"), (0, u "(Lcom/example/quayside/quayside/Outcome;Ljava/lang/String;)Lcom/example/quayside/quayside/Answer;"), (0, .string 14), (0, u "outcome"), (0, .methodref 16 17), (0, .class_ 18), (0, .nameAndType 19 20), (0, u "java/util/Objects"), (0, u "requireNonNull"), (0, u "(Ljava/lang/Object;Ljava/lang/String;)Ljava/lang/Object;"), (0, .class_ 22), (0, u "com/example/quayside/quayside/Answer$1"), (0, .methodref 21 24), (0, .nameAndType 25 26), (0, u "<init>"), (0, u "(Lcom/example/quayside/quayside/Outcome;Ljava/lang/String;)V"), (0, .class_ 28), (0, u "java/lang/Object"), (0, u "()Lcom/example/quayside/quayside/Outcome;"), (0, u "text"), (0, u "()Ljava/lang/String;")] 8

def k6m0 : Method := { name := "outcome", desc := "()Lcom/example/quayside/quayside/Outcome;", sig := { parameters := [], returnType := some (.object "com/example/quayside/quayside/Outcome") }, accessFlags := 1025, code := none }
def k6m1 : Method := { name := "text", desc := "()Ljava/lang/String;", sig := { parameters := [], returnType := some (.object "java/lang/String") }, accessFlags := 1025, code := none }
def k6c2 : Code := { maxStack := 4, maxLocals := 2, code := prog_1_method_4_code, exceptionTable := #[], attributes := #[] }
def k6m2 : Method := { name := "of", desc := "(Lcom/example/quayside/quayside/Outcome;Ljava/lang/String;)Lcom/example/quayside/quayside/Answer;", sig := { parameters := [(.object "com/example/quayside/quayside/Outcome"), (.object "java/lang/String")], returnType := some (.object "com/example/quayside/quayside/Answer") }, accessFlags := 9, code := some k6c2 }
/-- com/example/quayside/quayside/Answer -/
def k6 : Class := { plain "com/example/quayside/quayside/Answer" (some 0) with
  accessFlags := 1537
  interfaces := #[]
  cf := some (fileOf pool6 8 #[.nestMembers #[21]] #[{ accessFlags := 1025, nameIndex := 14, descriptorIndex := 29, attributes := #[] }, { accessFlags := 1025, nameIndex := 30, descriptorIndex := 31, attributes := #[] }, { accessFlags := 9, nameIndex := 11, descriptorIndex := 12, attributes := #[] }] 1537 27 #[] #[])
  fields := #[]
  methods := #[k6m0, k6m1, k6m2]
  instanceTypes := #[]
  staticTypes := #[]
  resolved := Array.replicate 40 none
  statics := none }

def pool7 : Array CpInfo := pool [(1, .class_ 2), (0, u "com/example/quayside/quayside/Outcome"), (2, u "SUCCEED"), (0, u "Lcom/example/quayside/quayside/Outcome;"), (2, u "VALCHANGE"), (2, u "MULTIPLE_HITS"), (2, u "FAIL"), (2, u "FAIL_RETRIEVE_BY_CONTENT"), (2, u "BO_DOES_NOT_EXIST"), (2, u "UNABLE_TO_LOGIN"), (2, u "VALDUPES"), (2, u "UNSUBSCRIBED"), (2, u "APPRESPONSETIMEOUT"), (2, u "$VALUES"), (0, u "[Lcom/example/quayside/quayside/Outcome;"), (6, .class_ 46), (1, u "java/lang/Enum"), (30, .class_ 78), (0, u "com/example/quayside/quayside/Answer")] 17

/-- com/example/quayside/quayside/Outcome -/
def k7 : Class := { plain "com/example/quayside/quayside/Outcome" (some 5) with
  accessFlags := 16433
  interfaces := #[6]
  cf := some (fileOf pool7 1 #[] #[] 16433 44 #[77] #[{ accessFlags := 16409, nameIndex := 5, descriptorIndex := 6, attributes := #[] }, { accessFlags := 16409, nameIndex := 9, descriptorIndex := 6, attributes := #[] }, { accessFlags := 16409, nameIndex := 12, descriptorIndex := 6, attributes := #[] }, { accessFlags := 16409, nameIndex := 15, descriptorIndex := 6, attributes := #[] }, { accessFlags := 16409, nameIndex := 18, descriptorIndex := 6, attributes := #[] }, { accessFlags := 16409, nameIndex := 21, descriptorIndex := 6, attributes := #[] }, { accessFlags := 16409, nameIndex := 24, descriptorIndex := 6, attributes := #[] }, { accessFlags := 16409, nameIndex := 27, descriptorIndex := 6, attributes := #[] }, { accessFlags := 16409, nameIndex := 30, descriptorIndex := 6, attributes := #[] }, { accessFlags := 16409, nameIndex := 33, descriptorIndex := 6, attributes := #[] }, { accessFlags := 4122, nameIndex := 36, descriptorIndex := 37, attributes := #[] }])
  fields := #[{ name := "SUCCEED", type := (.object "com/example/quayside/quayside/Outcome"), accessFlags := 16409, slot := 0, constantValue := 0 }, { name := "VALCHANGE", type := (.object "com/example/quayside/quayside/Outcome"), accessFlags := 16409, slot := 1, constantValue := 0 }, { name := "MULTIPLE_HITS", type := (.object "com/example/quayside/quayside/Outcome"), accessFlags := 16409, slot := 2, constantValue := 0 }, { name := "FAIL", type := (.object "com/example/quayside/quayside/Outcome"), accessFlags := 16409, slot := 3, constantValue := 0 }, { name := "FAIL_RETRIEVE_BY_CONTENT", type := (.object "com/example/quayside/quayside/Outcome"), accessFlags := 16409, slot := 4, constantValue := 0 }, { name := "BO_DOES_NOT_EXIST", type := (.object "com/example/quayside/quayside/Outcome"), accessFlags := 16409, slot := 5, constantValue := 0 }, { name := "UNABLE_TO_LOGIN", type := (.object "com/example/quayside/quayside/Outcome"), accessFlags := 16409, slot := 6, constantValue := 0 }, { name := "VALDUPES", type := (.object "com/example/quayside/quayside/Outcome"), accessFlags := 16409, slot := 7, constantValue := 0 }, { name := "UNSUBSCRIBED", type := (.object "com/example/quayside/quayside/Outcome"), accessFlags := 16409, slot := 8, constantValue := 0 }, { name := "APPRESPONSETIMEOUT", type := (.object "com/example/quayside/quayside/Outcome"), accessFlags := 16409, slot := 9, constantValue := 0 }, { name := "$VALUES", type := (.array (.object "com/example/quayside/quayside/Outcome")), accessFlags := 4122, slot := 10, constantValue := 0 }]
  methods := #[]
  instanceTypes := #[(.object "java/lang/String"), .int, .int]
  staticTypes := #[(.object "com/example/quayside/quayside/Outcome"), (.object "com/example/quayside/quayside/Outcome"), (.object "com/example/quayside/quayside/Outcome"), (.object "com/example/quayside/quayside/Outcome"), (.object "com/example/quayside/quayside/Outcome"), (.object "com/example/quayside/quayside/Outcome"), (.object "com/example/quayside/quayside/Outcome"), (.object "com/example/quayside/quayside/Outcome"), (.object "com/example/quayside/quayside/Outcome"), (.object "com/example/quayside/quayside/Outcome"), (.array (.object "com/example/quayside/quayside/Outcome"))]
  resolved := Array.replicate 96 none
  statics := some 0 }

def pool8 : Array CpInfo := pool [(2, .class_ 4), (1, u "java/lang/CharSequence"), (42, .class_ 48), (0, u "java/lang/CharSequence$1CodePointIterator"), (10, .class_ 60), (0, u "java/lang/CharSequence$1CharIterator"), (5, .class_ 67), (0, u "java/lang/Object")] 63

/-- java/lang/CharSequence -/
def k8 : Class := { plain "java/lang/CharSequence" (some 0) with
  accessFlags := 1537
  interfaces := #[]
  cf := some (fileOf pool8 2 #[.nestMembers #[47, 59]] #[] 1537 66 #[] #[])
  fields := #[]
  methods := #[]
  instanceTypes := #[]
  staticTypes := #[]
  resolved := Array.replicate 131 none
  statics := none }

def pool9 : Array CpInfo := pool [(1, .class_ 2), (0, u "java/lang/constant/ConstantDesc"), (0, .class_ 4), (0, u "java/lang/Object")] 32

/-- java/lang/constant/ConstantDesc -/
def k9 : Class := { plain "java/lang/constant/ConstantDesc" (some 0) with
  accessFlags := 1537
  interfaces := #[]
  cf := some (fileOf pool9 1 #[] #[] 1537 3 #[] #[])
  fields := #[]
  methods := #[]
  instanceTypes := #[]
  staticTypes := #[]
  resolved := Array.replicate 37 none
  statics := none }

def pool10 : Array CpInfo := pool [(1, .methodref 2 3), (0, .class_ 4), (0, .nameAndType 5 6), (0, u "java/lang/Object"), (0, u "<init>"), (0, u "()V"), (0, .string 8), (0, u ""), (0, .fieldref 10 11), (0, .class_ 12), (0, .nameAndType 13 14), (0, u "java/lang/String"), (0, u "value"), (0, u "[B"), (0, .fieldref 10 16), (0, .nameAndType 17 18), (0, u "coder"), (0, u "B"), (2, u "hash"), (0, u "I"), (2, u "hashIsZero"), (0, u "Z"), (0, .methodref 10 28), (0, .nameAndType 5 29), (0, u "([CIILjava/lang/Void;)V"), (8, .fieldref 10 39), (0, .nameAndType 40 26), (0, u "COMPACT_STRINGS"), (1, .class_ 44), (1, u "java/lang/StringUTF16"), (0, u "compress"), (1, .methodref 42 48), (0, .nameAndType 49 50), (0, u "coderFromArrayLen"), (0, u "([BI)B"), (2, u "toBytes"), (53, .class_ 109), (1, u "java/lang/StringLatin1"), (67, .methodref 42 178), (0, .nameAndType 45 179), (0, u "([CII)[B"), (29, .methodref 10 210), (0, .nameAndType 5 211), (0, u "([BB)V"), (157, u "(C)Z"), (205, .class_ 576), (0, u "java/lang/CharSequence"), (22, u "CASE_INSENSITIVE_ORDER"), (0, u "Ljava/util/Comparator;"), (181, u "valueOf"), (0, u "(C)Ljava/lang/String;"), (226, u "([C)V"), (4, .methodref 107 1016), (0, .nameAndType 1017 369), (0, u "canEncode"), (0, .methodref 107 1019), (0, .nameAndType 53 1020), (0, u "(C)[B"), (80, u "serialPersistentFields"), (0, u "[Ljava/io/ObjectStreamField;"), (0, .class_ 1104), (0, u "java/lang/String$CaseInsensitiveComparator"), (1, .class_ 1107), (0, u "java/io/Serializable"), (0, .class_ 1109), (0, u "java/lang/Comparable"), (0, .class_ 1111), (0, u "java/lang/constant/Constable"), (0, .class_ 1113), (0, u "java/lang/constant/ConstantDesc"), (2, u "serialVersionUID"), (0, u "J"), (3, u "REPL"), (0, u "C"), (2, u "LATIN1"), (1, u "UTF16")] 323

def k10m0 : Method := { name := "<init>", desc := "()V", sig := { parameters := [], returnType := none }, accessFlags := 1, code := none }
def k10c1 : Code := { maxStack := 5, maxLocals := 2, code := jdk_42_method_3_code, exceptionTable := #[], attributes := #[] }
def k10m1 : Method := { name := "<init>", desc := "([C)V", sig := { parameters := [(.array .char)], returnType := none }, accessFlags := 1, code := some k10c1 }
def k10c2 : Code := { maxStack := 4, maxLocals := 1, code := jdk_42_method_139_code, exceptionTable := #[], attributes := #[] }
def k10m2 : Method := { name := "valueOf", desc := "(C)Ljava/lang/String;", sig := { parameters := [.char], returnType := some (.object "java/lang/String") }, accessFlags := 9, code := some k10c2 }
def k10c3 : Code := { maxStack := 4, maxLocals := 6, code := jdk_42_method_149_code, exceptionTable := #[], attributes := #[] }
def k10m3 : Method := { name := "<init>", desc := "([CIILjava/lang/Void;)V", sig := { parameters := [(.array .char), .int, .int, (.object "java/lang/Void")], returnType := none }, accessFlags := 2, code := some k10c3 }
def k10c4 : Code := { maxStack := 2, maxLocals := 3, code := jdk_42_method_151_code, exceptionTable := #[], attributes := #[] }
def k10m4 : Method := { name := "<init>", desc := "([BB)V", sig := { parameters := [(.array .byte), .byte], returnType := none }, accessFlags := 0, code := some k10c4 }
/-- java/lang/String -/
def k10 : Class := { plain "java/lang/String" (some 0) with
  accessFlags := 49
  interfaces := #[4, 3, 8, 2, 9]
  cf := some (fileOf pool10 10 #[.nestMembers #[1103]] #[{ accessFlags := 1, nameIndex := 5, descriptorIndex := 6, attributes := #[] }, { accessFlags := 1, nameIndex := 5, descriptorIndex := 1010, attributes := #[] }, { accessFlags := 9, nameIndex := 782, descriptorIndex := 783, attributes := #[] }, { accessFlags := 2, nameIndex := 5, descriptorIndex := 29, attributes := #[] }, { accessFlags := 0, nameIndex := 5, descriptorIndex := 211, attributes := #[] }] 49 2 #[1106, 1108, 575, 1110, 1112] #[{ accessFlags := 18, nameIndex := 13, descriptorIndex := 14, attributes := #[] }, { accessFlags := 18, nameIndex := 17, descriptorIndex := 18, attributes := #[] }, { accessFlags := 2, nameIndex := 21, descriptorIndex := 22, attributes := #[] }, { accessFlags := 2, nameIndex := 25, descriptorIndex := 26, attributes := #[] }, { accessFlags := 26, nameIndex := 1116, descriptorIndex := 1117, attributes := #[] }, { accessFlags := 24, nameIndex := 40, descriptorIndex := 26, attributes := #[] }, { accessFlags := 26, nameIndex := 1101, descriptorIndex := 1102, attributes := #[] }, { accessFlags := 26, nameIndex := 1121, descriptorIndex := 1122, attributes := #[] }, { accessFlags := 25, nameIndex := 599, descriptorIndex := 600, attributes := #[] }, { accessFlags := 24, nameIndex := 1125, descriptorIndex := 18, attributes := #[] }, { accessFlags := 24, nameIndex := 1127, descriptorIndex := 18, attributes := #[] }])
  fields := #[{ name := "value", type := (.array .byte), accessFlags := 18, slot := 0, constantValue := 0 }, { name := "coder", type := .byte, accessFlags := 18, slot := 1, constantValue := 0 }, { name := "hash", type := .int, accessFlags := 2, slot := 2, constantValue := 0 }, { name := "hashIsZero", type := .boolean, accessFlags := 2, slot := 3, constantValue := 0 }, { name := "serialVersionUID", type := .long, accessFlags := 26, slot := 0, constantValue := 0 }, { name := "COMPACT_STRINGS", type := .boolean, accessFlags := 24, slot := 1, constantValue := 0 }, { name := "serialPersistentFields", type := (.array (.object "java/io/ObjectStreamField")), accessFlags := 26, slot := 2, constantValue := 0 }, { name := "REPL", type := .char, accessFlags := 26, slot := 3, constantValue := 0 }, { name := "CASE_INSENSITIVE_ORDER", type := (.object "java/util/Comparator"), accessFlags := 25, slot := 4, constantValue := 0 }, { name := "LATIN1", type := .byte, accessFlags := 24, slot := 5, constantValue := 0 }, { name := "UTF16", type := .byte, accessFlags := 24, slot := 6, constantValue := 0 }]
  methods := #[k10m0, k10m1, k10m2, k10m3, k10m4]
  instanceTypes := #[(.array .byte), .byte, .int, .boolean]
  staticTypes := #[.long, .boolean, (.array (.object "java/io/ObjectStreamField")), .char, (.object "java/util/Comparator"), .byte, .byte]
  resolved := Array.replicate 1451 none
  statics := some 1 }

def pool11 : Array CpInfo := pool [(6, .class_ 8), (1, u "java/lang/Object"), (0, u "<init>"), (0, u "()V"), (1, .class_ 14), (1, u "java/lang/StringUTF16"), (31, u "$assertionsDisabled"), (0, u "Z"), (13, u "HI_BYTE_SHIFT"), (0, u "I"), (2, u "LO_BYTE_SHIFT"), (49, .methodref 12 116), (0, .nameAndType 117 118), (0, u "compress"), (0, u "([CI[BII)I"), (3, u "([CII)[B"), (138, u "coderFromArrayLen"), (0, u "([BI)B"), (106, .class_ 371), (1, u "java/lang/StringUTF16$LinesSpliterator"), (58, u "MAX_LENGTH"), (196, .class_ 628), (0, u "java/lang/StringUTF16$CodePointsSpliterator"), (0, .class_ 630), (0, u "java/lang/StringUTF16$CharsSpliterator")] 4

def k11m0 : Method := { name := "<init>", desc := "()V", sig := { parameters := [], returnType := none }, accessFlags := 0, code := none }
def k11c1 : Code := { maxStack := 2, maxLocals := 2, code := jdk_52_method_15_code, exceptionTable := #[], attributes := #[] }
def k11m1 : Method := { name := "coderFromArrayLen", desc := "([BI)B", sig := { parameters := [(.array .byte), .int], returnType := some .byte }, accessFlags := 8, code := some k11c1 }
def k11c2 : Code := { maxStack := 5, maxLocals := 6, code := jdk_52_method_16_code, exceptionTable := #[], attributes := #[] }
def k11m2 : Method := { name := "compress", desc := "([CII)[B", sig := { parameters := [(.array .char), .int, .int], returnType := some (.array .byte) }, accessFlags := 9, code := some k11c2 }
def k11c3 : Code := { maxStack := 3, maxLocals := 7, code := jdk_52_method_21_code, exceptionTable := #[], attributes := #[] }
def k11m3 : Method := { name := "compress", desc := "([CI[BII)I", sig := { parameters := [(.array .char), .int, (.array .byte), .int, .int], returnType := some .int }, accessFlags := 9, code := some k11c3 }
/-- java/lang/StringUTF16 -/
def k11 : Class := { plain "java/lang/StringUTF16" (some 0) with
  accessFlags := 48
  interfaces := #[]
  cf := some (fileOf pool11 12 #[.nestMembers #[627, 629, 369]] #[{ accessFlags := 0, nameIndex := 9, descriptorIndex := 10, attributes := #[] }, { accessFlags := 8, nameIndex := 261, descriptorIndex := 262, attributes := #[] }, { accessFlags := 9, nameIndex := 117, descriptorIndex := 122, attributes := #[] }, { accessFlags := 9, nameIndex := 117, descriptorIndex := 118, attributes := #[] }] 48 6 #[] #[{ accessFlags := 26, nameIndex := 61, descriptorIndex := 62, attributes := #[] }, { accessFlags := 26, nameIndex := 65, descriptorIndex := 62, attributes := #[] }, { accessFlags := 24, nameIndex := 430, descriptorIndex := 62, attributes := #[] }, { accessFlags := 4120, nameIndex := 46, descriptorIndex := 47, attributes := #[] }])
  fields := #[{ name := "HI_BYTE_SHIFT", type := .int, accessFlags := 26, slot := 0, constantValue := 0 }, { name := "LO_BYTE_SHIFT", type := .int, accessFlags := 26, slot := 1, constantValue := 0 }, { name := "MAX_LENGTH", type := .int, accessFlags := 24, slot := 2, constantValue := 0 }, { name := "$assertionsDisabled", type := .boolean, accessFlags := 4120, slot := 3, constantValue := 0 }]
  methods := #[k11m0, k11m1, k11m2, k11m3]
  instanceTypes := #[]
  staticTypes := #[.int, .int, .int, .boolean]
  resolved := Array.replicate 635 none
  statics := none }

def pool12 : Array CpInfo := pool [(2, .class_ 4), (1, u "java/lang/Object"), (0, u "<init>"), (0, u "()V"), (35, .class_ 44), (1, u "java/util/Objects"), (0, u "requireNonNull"), (48, u "(Ljava/lang/Object;Ljava/lang/String;)Ljava/lang/Object;")] 89

def k12m0 : Method := { name := "<init>", desc := "()V", sig := { parameters := [], returnType := none }, accessFlags := 2, code := none }
def k12c1 : Code := { maxStack := 3, maxLocals := 2, code := jdk_31_method_11_code, exceptionTable := #[], attributes := #[] }
def k12m1 : Method := { name := "requireNonNull", desc := "(Ljava/lang/Object;Ljava/lang/String;)Ljava/lang/Object;", sig := { parameters := [(.object "java/lang/Object"), (.object "java/lang/String")], returnType := some (.object "java/lang/Object") }, accessFlags := 9, code := some k12c1 }
/-- java/util/Objects -/
def k12 : Class := { plain "java/util/Objects" (some 0) with
  accessFlags := 49
  interfaces := #[]
  cf := some (fileOf pool12 42 #[] #[{ accessFlags := 2, nameIndex := 5, descriptorIndex := 6, attributes := #[] }, { accessFlags := 9, nameIndex := 45, descriptorIndex := 94, attributes := #[] }] 49 2 #[] #[])
  fields := #[]
  methods := #[k12m0, k12m1]
  instanceTypes := #[]
  staticTypes := #[]
  resolved := Array.replicate 184 none
  statics := none }

def pool13 : Array CpInfo := pool [(1, .fieldref 2 3), (0, .class_ 4), (0, .nameAndType 5 6), (0, u "com/example/quayside/quayside/Answer$1"), (0, u "val$outcome"), (0, u "Lcom/example/quayside/quayside/Outcome;"), (0, .fieldref 2 8), (0, .nameAndType 9 10), (0, u "val$text"), (0, u "Ljava/lang/String;"), (0, .methodref 12 13), (0, .class_ 14), (0, .nameAndType 15 16), (0, u "java/lang/Object"), (0, u "<init>"), (0, u "()V"), (10, .class_ 28), (0, u "com/example/quayside/quayside/Answer"), (0, u "(Lcom/example/quayside/quayside/Outcome;Ljava/lang/String;)V"), (3, u "outcome"), (0, u "()Lcom/example/quayside/quayside/Outcome;"), (0, u "text"), (0, u "()Ljava/lang/String;")] 23

def k13c0 : Code := { maxStack := 2, maxLocals := 3, code := prog_2_method_1_code, exceptionTable := #[], attributes := #[] }
def k13m0 : Method := { name := "<init>", desc := "(Lcom/example/quayside/quayside/Outcome;Ljava/lang/String;)V", sig := { parameters := [(.object "com/example/quayside/quayside/Outcome"), (.object "java/lang/String")], returnType := none }, accessFlags := 0, code := some k13c0 }
def k13c1 : Code := { maxStack := 1, maxLocals := 1, code := prog_2_method_2_code, exceptionTable := #[], attributes := #[] }
def k13m1 : Method := { name := "outcome", desc := "()Lcom/example/quayside/quayside/Outcome;", sig := { parameters := [], returnType := some (.object "com/example/quayside/quayside/Outcome") }, accessFlags := 1, code := some k13c1 }
def k13c2 : Code := { maxStack := 1, maxLocals := 1, code := prog_2_method_3_code, exceptionTable := #[], attributes := #[] }
def k13m2 : Method := { name := "text", desc := "()Ljava/lang/String;", sig := { parameters := [], returnType := some (.object "java/lang/String") }, accessFlags := 1, code := some k13c2 }
/-- com/example/quayside/quayside/Answer$1 -/
def k13 : Class := { plain "com/example/quayside/quayside/Answer$1" (some 0) with
  accessFlags := 32
  interfaces := #[6]
  cf := some (fileOf pool13 2 #[.nestHost 27] #[{ accessFlags := 0, nameIndex := 15, descriptorIndex := 29, attributes := #[] }, { accessFlags := 1, nameIndex := 33, descriptorIndex := 34, attributes := #[] }, { accessFlags := 1, nameIndex := 35, descriptorIndex := 36, attributes := #[] }] 32 12 #[27] #[{ accessFlags := 4112, nameIndex := 5, descriptorIndex := 6, attributes := #[] }, { accessFlags := 4112, nameIndex := 9, descriptorIndex := 10, attributes := #[] }])
  fields := #[{ name := "val$outcome", type := (.object "com/example/quayside/quayside/Outcome"), accessFlags := 4112, slot := 0, constantValue := 0 }, { name := "val$text", type := (.object "java/lang/String"), accessFlags := 4112, slot := 1, constantValue := 0 }]
  methods := #[k13m0, k13m1, k13m2]
  instanceTypes := #[(.object "com/example/quayside/quayside/Outcome"), (.object "java/lang/String")]
  staticTypes := #[]
  resolved := Array.replicate 60 none
  statics := none }

def pool14 : Array CpInfo := pool [(4, .class_ 6), (1, u "java/lang/Object"), (0, u "<init>"), (0, u "()V"), (5, .class_ 16), (1, u "java/lang/StringLatin1"), (73, u "canEncode"), (14, u "(C)Z"), (15, u "$assertionsDisabled"), (0, u "Z"), (98, .class_ 223), (1, u "java/lang/StringLatin1$LinesSpliterator"), (156, u "toBytes"), (1, u "(C)[B"), (7, .class_ 391), (0, u "java/lang/StringLatin1$CharsSpliterator")] 3

def k14m0 : Method := { name := "<init>", desc := "()V", sig := { parameters := [], returnType := none }, accessFlags := 0, code := none }
def k14c1 : Code := { maxStack := 2, maxLocals := 1, code := jdk_43_method_3_code, exceptionTable := #[], attributes := #[] }
def k14m1 : Method := { name := "canEncode", desc := "(C)Z", sig := { parameters := [.char], returnType := some .boolean }, accessFlags := 9, code := some k14c1 }
def k14c2 : Code := { maxStack := 4, maxLocals := 1, code := jdk_43_method_46_code, exceptionTable := #[], attributes := #[] }
def k14m2 : Method := { name := "toBytes", desc := "(C)[B", sig := { parameters := [.char], returnType := some (.array .byte) }, accessFlags := 9, code := some k14c2 }
/-- java/lang/StringLatin1 -/
def k14 : Class := { plain "java/lang/StringLatin1" (some 0) with
  accessFlags := 48
  interfaces := #[]
  cf := some (fileOf pool14 14 #[.nestMembers #[390, 221]] #[{ accessFlags := 0, nameIndex := 7, descriptorIndex := 8, attributes := #[] }, { accessFlags := 9, nameIndex := 90, descriptorIndex := 105, attributes := #[] }, { accessFlags := 9, nameIndex := 380, descriptorIndex := 382, attributes := #[] }] 48 4 #[] #[{ accessFlags := 4120, nameIndex := 121, descriptorIndex := 122, attributes := #[] }])
  fields := #[{ name := "$assertionsDisabled", type := .boolean, accessFlags := 4120, slot := 0, constantValue := 0 }]
  methods := #[k14m0, k14m1, k14m2]
  instanceTypes := #[]
  staticTypes := #[.boolean]
  resolved := Array.replicate 395 none
  statics := none }

def pool15 : Array CpInfo := pool [(2, .class_ 4), (1, u "java/lang/Object"), (0, u "<init>"), (0, u "()V"), (17, .class_ 26), (1, u "jdk/internal/util/Preconditions"), (28, .class_ 56), (0, u "jdk/internal/util/Preconditions$4"), (57, .class_ 115), (0, u "jdk/internal/util/Preconditions$1"), (7, u "SIOOBE_FORMATTER"), (0, u "Ljava/util/function/BiFunction;"), (0, .class_ 126), (0, u "jdk/internal/util/Preconditions$2"), (3, u "AIOOBE_FORMATTER"), (0, .class_ 132), (0, u "jdk/internal/util/Preconditions$3"), (3, u "IOOBE_FORMATTER")] 57

def k15m0 : Method := { name := "<init>", desc := "()V", sig := { parameters := [], returnType := none }, accessFlags := 1, code := none }
/-- jdk/internal/util/Preconditions -/
def k15 : Class := { plain "jdk/internal/util/Preconditions" (some 0) with
  accessFlags := 33
  interfaces := #[]
  cf := some (fileOf pool15 24 #[.nestMembers #[55, 131, 125, 114]] #[{ accessFlags := 1, nameIndex := 5, descriptorIndex := 6, attributes := #[] }] 33 2 #[] #[{ accessFlags := 25, nameIndex := 123, descriptorIndex := 124, attributes := #[] }, { accessFlags := 25, nameIndex := 130, descriptorIndex := 124, attributes := #[] }, { accessFlags := 25, nameIndex := 136, descriptorIndex := 124, attributes := #[] }])
  fields := #[{ name := "SIOOBE_FORMATTER", type := (.object "java/util/function/BiFunction"), accessFlags := 25, slot := 0, constantValue := 0 }, { name := "AIOOBE_FORMATTER", type := (.object "java/util/function/BiFunction"), accessFlags := 25, slot := 1, constantValue := 0 }, { name := "IOOBE_FORMATTER", type := (.object "java/util/function/BiFunction"), accessFlags := 25, slot := 2, constantValue := 0 }]
  methods := #[k15m0]
  instanceTypes := #[]
  staticTypes := #[(.object "java/util/function/BiFunction"), (.object "java/util/function/BiFunction"), (.object "java/util/function/BiFunction")]
  resolved := Array.replicate 194 none
  statics := some 2 }

def pool16 : Array CpInfo := pool [(9, u "<init>"), (6, .class_ 18), (1, u "java/lang/Object"), (0, u "()V"), (1, .class_ 23), (1, u "jdk/internal/util/ArraysSupport"), (0, u "LOG2_ARRAY_LONG_INDEX_SCALE"), (0, u "I"), (2, u "U"), (0, u "Ljdk/internal/misc/Unsafe;"), (8, u "BIG_ENDIAN"), (0, u "Z"), (8, u "LOG2_BYTE_BIT_SIZE"), (4, u "LOG2_ARRAY_INT_INDEX_SCALE"), (54, u "JLA"), (0, u "Ljdk/internal/access/JavaLangAccess;"), (11, u "LOG2_ARRAY_BOOLEAN_INDEX_SCALE"), (9, u "LOG2_ARRAY_BYTE_INDEX_SCALE"), (5, u "LOG2_ARRAY_CHAR_INDEX_SCALE"), (5, u "LOG2_ARRAY_SHORT_INDEX_SCALE"), (18, u "LOG2_ARRAY_FLOAT_INDEX_SCALE"), (24, u "LOG2_ARRAY_DOUBLE_INDEX_SCALE"), (89, u "T_BOOLEAN"), (2, u "T_CHAR"), (1, u "T_FLOAT"), (1, u "T_DOUBLE"), (1, u "T_BYTE"), (1, u "T_SHORT"), (1, u "T_INT"), (1, u "T_LONG"), (1, u "SOFT_MAX_ARRAY_LENGTH")] 83

def k16m0 : Method := { name := "<init>", desc := "()V", sig := { parameters := [], returnType := none }, accessFlags := 2, code := none }
/-- jdk/internal/util/ArraysSupport -/
def k16 : Class := { plain "jdk/internal/util/ArraysSupport" (some 0) with
  accessFlags := 33
  interfaces := #[]
  cf := some (fileOf pool16 21 #[] #[{ accessFlags := 2, nameIndex := 9, descriptorIndex := 19, attributes := #[] }] 33 16 #[] #[{ accessFlags := 24, nameIndex := 28, descriptorIndex := 29, attributes := #[] }, { accessFlags := 26, nameIndex := 38, descriptorIndex := 39, attributes := #[] }, { accessFlags := 25, nameIndex := 121, descriptorIndex := 25, attributes := #[] }, { accessFlags := 25, nameIndex := 131, descriptorIndex := 25, attributes := #[] }, { accessFlags := 25, nameIndex := 137, descriptorIndex := 25, attributes := #[] }, { accessFlags := 25, nameIndex := 143, descriptorIndex := 25, attributes := #[] }, { accessFlags := 25, nameIndex := 53, descriptorIndex := 25, attributes := #[] }, { accessFlags := 25, nameIndex := 24, descriptorIndex := 25, attributes := #[] }, { accessFlags := 25, nameIndex := 162, descriptorIndex := 25, attributes := #[] }, { accessFlags := 25, nameIndex := 187, descriptorIndex := 25, attributes := #[] }, { accessFlags := 26, nameIndex := 48, descriptorIndex := 25, attributes := #[] }, { accessFlags := 25, nameIndex := 277, descriptorIndex := 25, attributes := #[] }, { accessFlags := 25, nameIndex := 280, descriptorIndex := 25, attributes := #[] }, { accessFlags := 25, nameIndex := 282, descriptorIndex := 25, attributes := #[] }, { accessFlags := 25, nameIndex := 284, descriptorIndex := 25, attributes := #[] }, { accessFlags := 25, nameIndex := 286, descriptorIndex := 25, attributes := #[] }, { accessFlags := 25, nameIndex := 288, descriptorIndex := 25, attributes := #[] }, { accessFlags := 25, nameIndex := 290, descriptorIndex := 25, attributes := #[] }, { accessFlags := 25, nameIndex := 292, descriptorIndex := 25, attributes := #[] }, { accessFlags := 26, nameIndex := 108, descriptorIndex := 109, attributes := #[] }, { accessFlags := 25, nameIndex := 294, descriptorIndex := 25, attributes := #[] }])
  fields := #[{ name := "U", type := (.object "jdk/internal/misc/Unsafe"), accessFlags := 24, slot := 0, constantValue := 0 }, { name := "BIG_ENDIAN", type := .boolean, accessFlags := 26, slot := 1, constantValue := 0 }, { name := "LOG2_ARRAY_BOOLEAN_INDEX_SCALE", type := .int, accessFlags := 25, slot := 2, constantValue := 0 }, { name := "LOG2_ARRAY_BYTE_INDEX_SCALE", type := .int, accessFlags := 25, slot := 3, constantValue := 0 }, { name := "LOG2_ARRAY_CHAR_INDEX_SCALE", type := .int, accessFlags := 25, slot := 4, constantValue := 0 }, { name := "LOG2_ARRAY_SHORT_INDEX_SCALE", type := .int, accessFlags := 25, slot := 5, constantValue := 0 }, { name := "LOG2_ARRAY_INT_INDEX_SCALE", type := .int, accessFlags := 25, slot := 6, constantValue := 0 }, { name := "LOG2_ARRAY_LONG_INDEX_SCALE", type := .int, accessFlags := 25, slot := 7, constantValue := 0 }, { name := "LOG2_ARRAY_FLOAT_INDEX_SCALE", type := .int, accessFlags := 25, slot := 8, constantValue := 0 }, { name := "LOG2_ARRAY_DOUBLE_INDEX_SCALE", type := .int, accessFlags := 25, slot := 9, constantValue := 0 }, { name := "LOG2_BYTE_BIT_SIZE", type := .int, accessFlags := 26, slot := 10, constantValue := 0 }, { name := "T_BOOLEAN", type := .int, accessFlags := 25, slot := 11, constantValue := 0 }, { name := "T_CHAR", type := .int, accessFlags := 25, slot := 12, constantValue := 0 }, { name := "T_FLOAT", type := .int, accessFlags := 25, slot := 13, constantValue := 0 }, { name := "T_DOUBLE", type := .int, accessFlags := 25, slot := 14, constantValue := 0 }, { name := "T_BYTE", type := .int, accessFlags := 25, slot := 15, constantValue := 0 }, { name := "T_SHORT", type := .int, accessFlags := 25, slot := 16, constantValue := 0 }, { name := "T_INT", type := .int, accessFlags := 25, slot := 17, constantValue := 0 }, { name := "T_LONG", type := .int, accessFlags := 25, slot := 18, constantValue := 0 }, { name := "JLA", type := (.object "jdk/internal/access/JavaLangAccess"), accessFlags := 26, slot := 19, constantValue := 0 }, { name := "SOFT_MAX_ARRAY_LENGTH", type := .int, accessFlags := 25, slot := 20, constantValue := 0 }]
  methods := #[k16m0]
  instanceTypes := #[]
  staticTypes := #[(.object "jdk/internal/misc/Unsafe"), .boolean, .int, .int, .int, .int, .int, .int, .int, .int, .int, .int, .int, .int, .int, .int, .int, .int, .int, (.object "jdk/internal/access/JavaLangAccess"), .int]
  resolved := Array.replicate 378 none
  statics := none }

def pool17 : Array CpInfo := pool [(1, u "java/lang/Cloneable"), (0, .class_ 1), (0, u "java/lang/Object"), (0, .class_ 3)] 3

/-- java/lang/Cloneable -/
def k17 : Class := { plain "java/lang/Cloneable" (some 0) with
  accessFlags := 1537
  interfaces := #[]
  cf := some (fileOf pool17 2 #[] #[] 1537 4 #[] #[])
  fields := #[]
  methods := #[]
  instanceTypes := #[]
  staticTypes := #[]
  resolved := Array.replicate 8 none
  statics := none }

/-- the primitive byte -/
def k18 : Class := { plain "byte" none with kind := .primitive 'B', accessFlags := 0x411 }
/-- [B -/
def k19 : Class := { plain "[B" (some 0) with kind := .array 18 .byte, interfaces := #[17, 4], accessFlags := 1041 }

/-- the primitive char -/
def k20 : Class := { plain "char" none with kind := .primitive 'C', accessFlags := 0x411 }
/-- [C -/
def k21 : Class := { plain "[C" (some 0) with kind := .array 20 .char, interfaces := #[17, 4], accessFlags := 1041 }

/-- the primitive int -/
def k22 : Class := { plain "int" none with kind := .primitive 'I', accessFlags := 0x411 }
/-- [I -/
def k23 : Class := { plain "[I" (some 0) with kind := .array 22 .int, interfaces := #[17, 4], accessFlags := 1041 }

/-- [Lcom/example/quayside/quayside/Outcome; -/
def k24 : Class := { plain "[Lcom/example/quayside/quayside/Outcome;" (some 0) with kind := .array 7 (.object "com/example/quayside/quayside/Outcome"), interfaces := #[17, 4], accessFlags := 1041 }

def heap : Heap := #[{ cls := 7, slots := #[.ref 3, .ref 4, .ref 5, .ref 6, .ref 7, .ref 8, .ref 9, .ref 10, .ref 11, .ref 12, .null], vm := .statics 7 },
  { cls := 10, slots := #[.long 0, .int 1, .null, .int 0, .null, .int 0, .int 0], vm := .statics 10 },
  { cls := 15, slots := #[.null, .null, .null], vm := .statics 15 },
  { cls := 7, slots := #[.null, .int 0, .int 0], vm := .none },
  { cls := 7, slots := #[.null, .int 1, .int 0], vm := .none },
  { cls := 7, slots := #[.null, .int 2, .int 0], vm := .none },
  { cls := 7, slots := #[.null, .int 3, .int 0], vm := .none },
  { cls := 7, slots := #[.null, .int 4, .int 0], vm := .none },
  { cls := 7, slots := #[.null, .int 5, .int 0], vm := .none },
  { cls := 7, slots := #[.null, .int 6, .int 0], vm := .none },
  { cls := 7, slots := #[.null, .int 7, .int 0], vm := .none },
  { cls := 7, slots := #[.null, .int 8, .int 0], vm := .none },
  { cls := 7, slots := #[.null, .int 9, .int 0], vm := .none }]
def classes : Array Class := #[k0, k1, k2, k3, k4, k5, k6, k7, k8, k9, k10, k11, k12, k13, k14, k15, k16, k17, k18, k19, k20, k21, k22, k23, k24]
def interned : List (Array UInt16 × Addr) := []
def slotsUsed : Nat := 51
def theMethod : MethodId := ⟨1, 2⟩
def args0 : Array Value := #[.int 5, .int 3, .int 1, .int 1, .int 1]
def aboutOver (below : List Frame) : State where
  vm := { classes := classes, interned := interned.toArray }
  heap := heap
  slotsUsed := slotsUsed
  threads := #[{ frames := .invoking theMethod args0 :: below }]
def below0 : List Frame := [.native { method := ⟨0, 0⟩, args := #[] }]
def about1 : State := aboutOver below0
def p0 : Program := .bare "" "" ""
def e0 : Env := launch0.env 0 0 0
theorem w_frames : about1.frames = Frame.invoking theMethod args0 :: below0 := rfl
set_option maxRecDepth 65536 in
theorem w_args : argsFit about1.vm theMethod args0 = true := by decide +kernel
set_option maxRecDepth 65536 in
theorem w_heap : heapFits about1 = true := by decide +kernel
set_option maxRecDepth 65536 in
theorem w_runnable : about1.curStatus? = some .runnable := by decide +kernel
set_option maxRecDepth 65536 in
theorem w_alone : about1.alone = true := by decide +kernel
set_option maxRecDepth 65536 in
theorem w_named : about1.methodNamed? x = some theMethod := by decide +kernel
set_option maxRecDepth 65536 in
theorem w_hears : about1.hears theMethod below0 = true := by decide +kernel
set_option maxRecDepth 65536 in
theorem w_ripe : about1.ripe theMethod args0 below0 = true := by decide +kernel
theorem w_running : about1.status = .running := rfl
set_option maxRecDepth 65536 in
theorem w_room : about1.hasRoom e0.platform room_1 = true :=
  launch0.hasRoom_least _ room_1 (by decide +kernel) (by decide +kernel) (by decide +kernel) (by decide +kernel) (by decide +kernel) (by decide +kernel)
theorem allAtoms_all (ts : List Jvm.Cond) (a : Array Jvm.Value) (st : Jvm.State) : (allAtoms ts).before a st = ts.all (fun c => c.before a st) := by
  induction ts with
  | nil => rfl
  | cons c t ih =>
    show (Jvm.Cond.and c (allAtoms t)).before a st = _
    rw [Jvm.Cond.before_and, ih, List.all_cons]
def words1 : List Jvm.Cond := Jvm.Cond.code x code maxLocals ret :: tables_1
/-- a 'code' word, met by the world's own term for the bytes: nothing is compared byte by byte -/
theorem code_word {y : MethodName} {bytes : ByteArray} {mx : Nat} {rt : Option FieldType} {a : Array Value} {s : State} {m : MethodId} {meth : Method} {c : Code} (h1 : s.methodNamed? y = some m) (h2 : s.vm.method? m = some meth) (h3 : meth.code = some c) (h4 : c.code = bytes)
    (h5 : (c.maxLocals == mx && c.exceptionTable.isEmpty && decide (c.maxStack ≤ mostOperands) && decide (meth.sig.returnType = rt) && !meth.locks && decide (parseMethodDescriptor y.desc = some meth.sig)) = true) : (Jvm.Cond.code y bytes mx rt).before a s = true := by
  simp only [Bool.and_eq_true, beq_iff_eq, Bool.not_eq_true', decide_eq_true_eq] at h5
  obtain ⟨⟨⟨⟨⟨g1, g2⟩, g3⟩, g4⟩, g5⟩, g6⟩ := h5
  simp [Cond.before, Cond.holds, Cond.value, h1, h2, h3, h4, g1, g2, g3, g4, g5, g6]
def isCode : Jvm.Cond → Bool
  | .code _ _ _ _ => true
  | _ => false
theorem all_split {L : List Jvm.Cond} {P : Jvm.Cond → Bool} (h1 : L.all (fun c => isCode c || P c) = true) (h2 : ∀ c ∈ L.filter isCode, P c = true) : L.all P = true := by
  refine List.all_eq_true.mpr fun c hc => ?_
  have h := List.all_eq_true.mp h1 c hc
  rcases Bool.eq_false_or_eq_true (isCode c) with hi | hi
  · exact h2 c (List.mem_filter.mpr ⟨hc, hi⟩)
  · simpa [hi] using h
set_option maxRecDepth 65536 in
theorem w_c0 : (Jvm.Cond.code x code maxLocals ret).before args0 about1 = true := code_word (m := ⟨1, 2⟩) (meth := k1m2) (c := k1c2) (by decide +kernel) rfl rfl rfl (by decide +kernel)
set_option maxRecDepth 65536 in
theorem w_c1 : (Jvm.Cond.code ({ cls := "com/example/quayside/quayside/AnswerOfPinLaw", name := "text", desc := "(II)Ljava/lang/String;" } : Jvm.MethodName) method_2_code (6 : Nat) (Option.some (Jvm.ClassFile.FieldType.object "java/lang/String"))).before args0 about1 = true := code_word (m := ⟨1, 1⟩) (meth := k1m1) (c := k1c1) (by decide +kernel) rfl rfl rfl (by decide +kernel)
set_option maxRecDepth 65536 in
theorem w_c2 : (Jvm.Cond.code ({ cls := "java/lang/String", name := "<init>", desc := "([C)V" } : Jvm.MethodName) jdk_42_method_3_code (2 : Nat) (Option.none : Option Jvm.ClassFile.FieldType)).before args0 about1 = true := code_word (m := ⟨10, 1⟩) (meth := k10m1) (c := k10c1) (by decide +kernel) rfl rfl rfl (by decide +kernel)
set_option maxRecDepth 65536 in
theorem w_c3 : (Jvm.Cond.code ({ cls := "java/lang/String", name := "<init>", desc := "([CIILjava/lang/Void;)V" } : Jvm.MethodName) jdk_42_method_149_code (6 : Nat) (Option.none : Option Jvm.ClassFile.FieldType)).before args0 about1 = true := code_word (m := ⟨10, 3⟩) (meth := k10m3) (c := k10c3) (by decide +kernel) rfl rfl rfl (by decide +kernel)
set_option maxRecDepth 65536 in
theorem w_c4 : (Jvm.Cond.code ({ cls := "java/lang/Object", name := "<init>", desc := "()V" } : Jvm.MethodName) object_method_1_code (1 : Nat) (Option.none : Option Jvm.ClassFile.FieldType)).before args0 about1 = true := code_word (m := ⟨0, 0⟩) (meth := k0m0) (c := k0c0) (by decide +kernel) rfl rfl rfl (by decide +kernel)
set_option maxRecDepth 65536 in
theorem w_c5 : (Jvm.Cond.code ({ cls := "java/lang/StringUTF16", name := "compress", desc := "([CII)[B" } : Jvm.MethodName) jdk_52_method_16_code (6 : Nat) (Option.some (Jvm.ClassFile.FieldType.array Jvm.ClassFile.FieldType.byte))).before args0 about1 = true := code_word (m := ⟨11, 2⟩) (meth := k11m2) (c := k11c2) (by decide +kernel) rfl rfl rfl (by decide +kernel)
set_option maxRecDepth 65536 in
theorem w_c6 : (Jvm.Cond.code ({ cls := "java/lang/StringUTF16", name := "compress", desc := "([CI[BII)I" } : Jvm.MethodName) jdk_52_method_21_code (7 : Nat) (Option.some Jvm.ClassFile.FieldType.int)).before args0 about1 = true := code_word (m := ⟨11, 3⟩) (meth := k11m3) (c := k11c3) (by decide +kernel) rfl rfl rfl (by decide +kernel)
set_option maxRecDepth 65536 in
theorem w_c7 : (Jvm.Cond.code ({ cls := "java/lang/StringUTF16", name := "coderFromArrayLen", desc := "([BI)B" } : Jvm.MethodName) jdk_52_method_15_code (2 : Nat) (Option.some Jvm.ClassFile.FieldType.byte)).before args0 about1 = true := code_word (m := ⟨11, 1⟩) (meth := k11m1) (c := k11c1) (by decide +kernel) rfl rfl rfl (by decide +kernel)
set_option maxRecDepth 65536 in
theorem w_c8 : (Jvm.Cond.code ({ cls := "com/example/quayside/quayside/Answer", name := "of", desc := "(Lcom/example/quayside/quayside/Outcome;Ljava/lang/String;)Lcom/example/quayside/quayside/Answer;" } : Jvm.MethodName) prog_1_method_4_code (2 : Nat) (Option.some (Jvm.ClassFile.FieldType.object "com/example/quayside/quayside/Answer"))).before args0 about1 = true := code_word (m := ⟨6, 2⟩) (meth := k6m2) (c := k6c2) (by decide +kernel) rfl rfl rfl (by decide +kernel)
set_option maxRecDepth 65536 in
theorem w_c9 : (Jvm.Cond.code ({ cls := "java/util/Objects", name := "requireNonNull", desc := "(Ljava/lang/Object;Ljava/lang/String;)Ljava/lang/Object;" } : Jvm.MethodName) jdk_31_method_11_code (2 : Nat) (Option.some (Jvm.ClassFile.FieldType.object "java/lang/Object"))).before args0 about1 = true := code_word (m := ⟨12, 1⟩) (meth := k12m1) (c := k12c1) (by decide +kernel) rfl rfl rfl (by decide +kernel)
set_option maxRecDepth 65536 in
theorem w_c10 : (Jvm.Cond.code ({ cls := "com/example/quayside/quayside/Answer$1", name := "<init>", desc := "(Lcom/example/quayside/quayside/Outcome;Ljava/lang/String;)V" } : Jvm.MethodName) prog_2_method_1_code (3 : Nat) (Option.none : Option Jvm.ClassFile.FieldType)).before args0 about1 = true := code_word (m := ⟨13, 0⟩) (meth := k13m0) (c := k13c0) (by decide +kernel) rfl rfl rfl (by decide +kernel)
set_option maxRecDepth 65536 in
theorem w_c11 : (Jvm.Cond.code ({ cls := "com/example/quayside/quayside/Answer$1", name := "outcome", desc := "()Lcom/example/quayside/quayside/Outcome;" } : Jvm.MethodName) prog_2_method_2_code (1 : Nat) (Option.some (Jvm.ClassFile.FieldType.object "com/example/quayside/quayside/Outcome"))).before args0 about1 = true := code_word (m := ⟨13, 1⟩) (meth := k13m1) (c := k13c1) (by decide +kernel) rfl rfl rfl (by decide +kernel)
set_option maxRecDepth 65536 in
theorem w_c12 : (Jvm.Cond.code ({ cls := "com/example/quayside/quayside/Answer$1", name := "text", desc := "()Ljava/lang/String;" } : Jvm.MethodName) prog_2_method_3_code (1 : Nat) (Option.some (Jvm.ClassFile.FieldType.object "java/lang/String"))).before args0 about1 = true := code_word (m := ⟨13, 2⟩) (meth := k13m2) (c := k13c2) (by decide +kernel) rfl rfl rfl (by decide +kernel)
set_option maxRecDepth 65536 in
theorem w_c13 : (Jvm.Cond.code ({ cls := "java/lang/String", name := "valueOf", desc := "(C)Ljava/lang/String;" } : Jvm.MethodName) jdk_42_method_139_code (1 : Nat) (Option.some (Jvm.ClassFile.FieldType.object "java/lang/String"))).before args0 about1 = true := code_word (m := ⟨10, 2⟩) (meth := k10m2) (c := k10c2) (by decide +kernel) rfl rfl rfl (by decide +kernel)
set_option maxRecDepth 65536 in
theorem w_c14 : (Jvm.Cond.code ({ cls := "java/lang/StringLatin1", name := "canEncode", desc := "(C)Z" } : Jvm.MethodName) jdk_43_method_3_code (1 : Nat) (Option.some Jvm.ClassFile.FieldType.boolean)).before args0 about1 = true := code_word (m := ⟨14, 1⟩) (meth := k14m1) (c := k14c1) (by decide +kernel) rfl rfl rfl (by decide +kernel)
set_option maxRecDepth 65536 in
theorem w_c15 : (Jvm.Cond.code ({ cls := "java/lang/StringLatin1", name := "toBytes", desc := "(C)[B" } : Jvm.MethodName) jdk_43_method_46_code (1 : Nat) (Option.some (Jvm.ClassFile.FieldType.array Jvm.ClassFile.FieldType.byte))).before args0 about1 = true := code_word (m := ⟨14, 2⟩) (meth := k14m2) (c := k14c2) (by decide +kernel) rfl rfl rfl (by decide +kernel)
set_option maxRecDepth 65536 in
theorem w_c16 : (Jvm.Cond.code ({ cls := "java/lang/String", name := "<init>", desc := "([BB)V" } : Jvm.MethodName) jdk_42_method_151_code (3 : Nat) (Option.none : Option Jvm.ClassFile.FieldType)).before args0 about1 = true := code_word (m := ⟨10, 4⟩) (meth := k10m4) (c := k10c4) (by decide +kernel) rfl rfl rfl (by decide +kernel)
def codes1 : List Jvm.Cond := [Jvm.Cond.code x code maxLocals ret, Jvm.Cond.code ({ cls := "com/example/quayside/quayside/AnswerOfPinLaw", name := "text", desc := "(II)Ljava/lang/String;" } : Jvm.MethodName) method_2_code (6 : Nat) (Option.some (Jvm.ClassFile.FieldType.object "java/lang/String")), Jvm.Cond.code ({ cls := "java/lang/String", name := "<init>", desc := "([C)V" } : Jvm.MethodName) jdk_42_method_3_code (2 : Nat) (Option.none : Option Jvm.ClassFile.FieldType), Jvm.Cond.code ({ cls := "java/lang/String", name := "<init>", desc := "([CIILjava/lang/Void;)V" } : Jvm.MethodName) jdk_42_method_149_code (6 : Nat) (Option.none : Option Jvm.ClassFile.FieldType), Jvm.Cond.code ({ cls := "java/lang/Object", name := "<init>", desc := "()V" } : Jvm.MethodName) object_method_1_code (1 : Nat) (Option.none : Option Jvm.ClassFile.FieldType), Jvm.Cond.code ({ cls := "java/lang/StringUTF16", name := "compress", desc := "([CII)[B" } : Jvm.MethodName) jdk_52_method_16_code (6 : Nat) (Option.some (Jvm.ClassFile.FieldType.array Jvm.ClassFile.FieldType.byte)), Jvm.Cond.code ({ cls := "java/lang/StringUTF16", name := "compress", desc := "([CI[BII)I" } : Jvm.MethodName) jdk_52_method_21_code (7 : Nat) (Option.some Jvm.ClassFile.FieldType.int), Jvm.Cond.code ({ cls := "java/lang/StringUTF16", name := "coderFromArrayLen", desc := "([BI)B" } : Jvm.MethodName) jdk_52_method_15_code (2 : Nat) (Option.some Jvm.ClassFile.FieldType.byte), Jvm.Cond.code ({ cls := "com/example/quayside/quayside/Answer", name := "of", desc := "(Lcom/example/quayside/quayside/Outcome;Ljava/lang/String;)Lcom/example/quayside/quayside/Answer;" } : Jvm.MethodName) prog_1_method_4_code (2 : Nat) (Option.some (Jvm.ClassFile.FieldType.object "com/example/quayside/quayside/Answer")), Jvm.Cond.code ({ cls := "java/util/Objects", name := "requireNonNull", desc := "(Ljava/lang/Object;Ljava/lang/String;)Ljava/lang/Object;" } : Jvm.MethodName) jdk_31_method_11_code (2 : Nat) (Option.some (Jvm.ClassFile.FieldType.object "java/lang/Object")), Jvm.Cond.code ({ cls := "com/example/quayside/quayside/Answer$1", name := "<init>", desc := "(Lcom/example/quayside/quayside/Outcome;Ljava/lang/String;)V" } : Jvm.MethodName) prog_2_method_1_code (3 : Nat) (Option.none : Option Jvm.ClassFile.FieldType), Jvm.Cond.code ({ cls := "com/example/quayside/quayside/Answer$1", name := "outcome", desc := "()Lcom/example/quayside/quayside/Outcome;" } : Jvm.MethodName) prog_2_method_2_code (1 : Nat) (Option.some (Jvm.ClassFile.FieldType.object "com/example/quayside/quayside/Outcome")), Jvm.Cond.code ({ cls := "com/example/quayside/quayside/Answer$1", name := "text", desc := "()Ljava/lang/String;" } : Jvm.MethodName) prog_2_method_3_code (1 : Nat) (Option.some (Jvm.ClassFile.FieldType.object "java/lang/String")), Jvm.Cond.code ({ cls := "java/lang/String", name := "valueOf", desc := "(C)Ljava/lang/String;" } : Jvm.MethodName) jdk_42_method_139_code (1 : Nat) (Option.some (Jvm.ClassFile.FieldType.object "java/lang/String")), Jvm.Cond.code ({ cls := "java/lang/StringLatin1", name := "canEncode", desc := "(C)Z" } : Jvm.MethodName) jdk_43_method_3_code (1 : Nat) (Option.some Jvm.ClassFile.FieldType.boolean), Jvm.Cond.code ({ cls := "java/lang/StringLatin1", name := "toBytes", desc := "(C)[B" } : Jvm.MethodName) jdk_43_method_46_code (1 : Nat) (Option.some (Jvm.ClassFile.FieldType.array Jvm.ClassFile.FieldType.byte)), Jvm.Cond.code ({ cls := "java/lang/String", name := "<init>", desc := "([BB)V" } : Jvm.MethodName) jdk_42_method_151_code (3 : Nat) (Option.none : Option Jvm.ClassFile.FieldType)]
set_option maxRecDepth 65536 in
theorem codes_eq : words1.filter isCode = codes1 := rfl
theorem w_codes : ∀ c ∈ words1.filter isCode, c.before args0 about1 = true := by
  rw [codes_eq]
  intro c hc
  simp only [codes1, List.mem_cons, List.not_mem_nil, or_false] at hc
  rcases hc with rfl | rfl | rfl | rfl | rfl | rfl | rfl | rfl | rfl | rfl | rfl | rfl | rfl | rfl | rfl | rfl | rfl
  · exact w_c0
  · exact w_c1
  · exact w_c2
  · exact w_c3
  · exact w_c4
  · exact w_c5
  · exact w_c6
  · exact w_c7
  · exact w_c8
  · exact w_c9
  · exact w_c10
  · exact w_c11
  · exact w_c12
  · exact w_c13
  · exact w_c14
  · exact w_c15
  · exact w_c16
set_option maxRecDepth 65536 in
theorem w_t1 : (words1.take 24).all (fun c => isCode c || c.before args0 about1) = true := by decide +kernel
set_option maxRecDepth 65536 in
theorem w_t2 : ((words1.drop 24).take 24).all (fun c => isCode c || c.before args0 about1) = true := by decide +kernel
set_option maxRecDepth 65536 in
theorem w_t3 : (((words1.drop 24).drop 24).take 24).all (fun c => isCode c || c.before args0 about1) = true := by decide +kernel
set_option maxRecDepth 65536 in
theorem w_t4 : ((((words1.drop 24).drop 24).drop 24).take 24).all (fun c => isCode c || c.before args0 about1) = true := by decide +kernel
set_option maxRecDepth 65536 in
theorem w_t5 : ((((words1.drop 24).drop 24).drop 24).drop 24).all (fun c => isCode c || c.before args0 about1) = true := by decide +kernel
theorem w_tables : (allAtoms (Jvm.Cond.code x code maxLocals ret :: tables_1)).before args0 about1 = true := by
  rw [allAtoms_all]
  show words1.all (fun c => c.before args0 about1) = true
  refine all_split ?_ w_codes
  rw [← List.take_append_drop 24 words1, List.all_append, w_t1, ← List.take_append_drop 24 (words1.drop 24), List.all_append, w_t2, ← List.take_append_drop 24 ((words1.drop 24).drop 24), List.all_append, w_t3, ← List.take_append_drop 24 (((words1.drop 24).drop 24).drop 24), List.all_append, w_t4, w_t5]
  rfl
set_option maxRecDepth 65536 in
theorem w_rest : rest_1_c.before args0 about1 = true := by decide +kernel
set_option maxRecDepth 65536 in
theorem w_case : (Jvm.Cond.and given_1 narrow_1).before args0 about1 = true := by decide +kernel
set_option maxRecDepth 65536 in
theorem w_consts : constsHeld consts_1 about1 := Jvm.Lit.constsHeldB_iff.mp (by decide +kernel)
theorem w_applies : (headSpec (Jvm.Cond.code x code maxLocals ret :: tables_1) room_1).applies x e0.platform about1 = true :=
  (Spec.applies_iff w_frames).mpr ⟨w_running, w_runnable, w_alone, w_named, w_hears, w_ripe, w_room, w_tables⟩
theorem atStart : AtStart classFile x code maxLocals ret World_1 tables_1 room_1 Calls_1 rest_1 Pre_1 launch0 p0 e0 about1 theMethod args0 below0 :=
  ⟨lists_1, trivial, launch0.admits_env _ _ _, launch0.least_env, fairChoices_fair.cas, fairChoices_fair.clock, w_frames, w_args, w_heap, w_applies, ⟨w_consts, trivial⟩, w_rest, w_case⟩
end start1
theorem witness_1 : WitnessClaimed_1 := ⟨start1.p0, start1.e0, start1.about1, start1.theMethod, start1.args0, start1.below0, start1.atStart⟩
end Jvm.Pilot.@@N@@
