import JvmDerived
import JvmDerived.Pilot.@@N@@Statement
import JvmDerived.Pilot.@@N@@Code
set_option linter.unusedVariables false
set_option linter.unusedSimpArgs false
/- laws to paste: Road.backV (cut by pick.py; bodies as the Statement names them) -/
namespace Jvm.Pilot.@@N@@
namespace StrChars
open Jvm Sem ClassFile Op Lib Jvm.Stand Jvm.Free.XT Jvm.Free.ALB Jvm.Free.JM Jvm.Free
open Jvm.Lib.Cold (StaticIs)
/-- a char array whose places are chars -/
def Ch (a : Addr) (A : Cell) (U : State) : Prop := Arr .char a A U ∧ Typed .char A
theorem Ch.mv {a : Addr} {A : Cell} {U U' : State} (h : Ch a A U) (hal : U.vm.Alike U'.vm) (hh : U'.heap = U.heap) : Ch a A U' := ⟨h.1.mv hal hh, h.2⟩
theorem Ch.keep {a : Addr} {A : Cell} {U U' : State} (h : Ch a A U) (hal : U.vm.Alike U'.vm) (hk : U'.heap[a]? = some A) : Ch a A U' := ⟨h.1.keep hal hk, h.2⟩
/-- what place i of a char[]'s cell holds -/
def cv (A : Cell) (i : Nat) : Int32 := match A.slots[i]? with | some (.int x) => x | _ => 0
theorem Ch.get {a : Addr} {A : Cell} {U : State} (h : Ch a A U) {i : Nat} (hi : i < A.slots.size) : A.slots[i]? = some (.int (cv A i)) := by
  have e := Array.getElem?_eq_getElem hi
  have f := h.2 i _ e
  unfold cv; rw [e]
  generalize A.slots[i] = v at f
  cases v <;> simp [fits] at f ⊢
/-- the byte that i2b leaves of a char -/
def lo8 (x : Int32) : Int32 := x.toInt8.toInt32
theorem fits_lo8 (y : Int32) : fits .byte (.int (lo8 y)) = true := by
  have h1 := y.toInt8.le_toInt
  have h2 := y.toInt8.toInt_lt
  simp only [lo8, fits, Bool.and_eq_true, decide_eq_true_eq, Int32.le_iff_toInt_le, Int8.toInt_toInt32, show (-128 : Int32).toInt = -128 from by decide, show (127 : Int32).toInt = 127 from by decide]
  omega
/-- A' is A but that each place j of lo .. hi - 1 holds f j -/
def Laid (A A' : Cell) (lo hi : Nat) (f : Nat → Value) : Prop := A'.cls = A.cls ∧ A'.vm = A.vm ∧ A'.slots.size = A.slots.size ∧ ∀ i, A'.slots[i]? = if lo ≤ i ∧ i < hi then some (f i) else A.slots[i]?
theorem Laid.zero (A : Cell) (lo : Nat) (f : Nat → Value) : Laid A A lo (lo + 0) f := ⟨rfl, rfl, rfl, fun i => by rw [if_neg (by omega)]⟩
theorem Laid.step {A Ak : Cell} {lo k : Nat} {f : Nat → Value} {v : Value} (h : Laid A Ak lo k f) (hlo : lo ≤ k) (hk : k < Ak.slots.size) (hv : v = f k) : Laid A (Ak.setSlot k v) lo (k + 1) f := by
  refine ⟨h.1, h.2.1, by simpa [Cell.setSlot] using h.2.2.1, fun i => ?_⟩
  by_cases e : k = i
  · subst e; rw [Cell.slots_setSlot_self v hk, if_pos (by omega), hv]
  · rw [Cell.slots_setSlot_ne v e, h.2.2.2 i]
    by_cases q : lo ≤ i ∧ i < k
    · rw [if_pos q, if_pos (by omega)]
    · rw [if_neg q, if_neg (by omega)]
def U16 : String := "java/lang/StringUTF16"
namespace Cmp5
def yN : MethodName := ⟨"java/lang/StringUTF16", "compress", "([CI[BII)I"⟩
abbrev yB : ByteArray := jdk_52_method_21_code
theorem d0 : decode yB 0 = .ok (.iconst 0, 1) := by decide +kernel
theorem d1 : decode yB 1 = .ok (.istore 5, 2) := by decide +kernel
theorem d3 : decode yB 3 = .ok (.iload 5, 2) := by decide +kernel
theorem d5 : decode yB 5 = .ok (.iload 4, 2) := by decide +kernel
theorem d7 : decode yB 7 = .ok (.if_icmp (.ge) 37, 3) := by decide +kernel
theorem d10 : decode yB 10 = .ok (.aload_n 0, 1) := by decide +kernel
theorem d11 : decode yB 11 = .ok (.iload_n 1, 1) := by decide +kernel
theorem d12 : decode yB 12 = .ok (.caload, 1) := by decide +kernel
theorem d13 : decode yB 13 = .ok (.istore 6, 2) := by decide +kernel
theorem d15 : decode yB 15 = .ok (.iload 6, 2) := by decide +kernel
theorem d17 : decode yB 17 = .ok (.sipush 255, 3) := by decide +kernel
theorem d20 : decode yB 20 = .ok (.if_icmp (.le) 6, 3) := by decide +kernel
theorem d26 : decode yB 26 = .ok (.aload_n 2, 1) := by decide +kernel
theorem d27 : decode yB 27 = .ok (.iload_n 3, 1) := by decide +kernel
theorem d28 : decode yB 28 = .ok (.iload 6, 2) := by decide +kernel
theorem d30 : decode yB 30 = .ok (.i2b, 1) := by decide +kernel
theorem d31 : decode yB 31 = .ok (.bastore, 1) := by decide +kernel
theorem d32 : decode yB 32 = .ok (.iinc 1 1, 3) := by decide +kernel
theorem d35 : decode yB 35 = .ok (.iinc 3 1, 3) := by decide +kernel
theorem d38 : decode yB 38 = .ok (.iinc 5 1, 3) := by decide +kernel
theorem d41 : decode yB 41 = .ok (.goto (-38), 3) := by decide +kernel
theorem d44 : decode yB 44 = .ok (.iload 4, 2) := by decide +kernel
theorem d46 : decode yB 46 = .ok (.ireturn, 1) := by decide +kernel
def site : List Cond := []
def tab : Cond := tabOf yN yB 7 (some .int) site
def P (b : Addr) (A : Cell) (d : Addr) (B : Cell) (o q len : Nat) (args : Array Value) (s : State) : Prop := args = #[.ref b, .int (Int32.ofNat o), .ref d, .int (Int32.ofNat q), .int (Int32.ofNat len)] ∧ Ch b A s ∧ Arr .byte d B s ∧ b ≠ d ∧ o + len ≤ A.slots.size ∧ q + len ≤ B.slots.size ∧ ∀ i, i < len → ¬ 255 < cv A (o + i)
def E (b : Addr) (A : Cell) (d : Addr) (B : Cell) (o q len : Nat) (r : Option Value) (s u : State) : Prop := r = some (.int (Int32.ofNat len)) ∧ ∃ B', Put d B' s u ∧ Laid B B' q (q + len) (fun j => Value.int (lo8 (cv A (o + (j - q)))))
/-- no char of the range above 255: len; the places written hold each char's low byte -/
theorem law (l : Launch) (b : Addr) (A : Cell) (d : Addr) (B : Cell) (o q len : Nat) : Law l yN 5 5 0 0 yB 7 (some .int) site (P b A d B o q len) (E b A d B o q len) (copyLocs d q len) 0 0 := by
  refine Law.of_walk (plainFor_of_name (by decide +kernel)) (by decide +kernel) (by decide +kernel) (by decide) (fun _ _ h => by rw [h.1]; rfl) (fun _ U U' hal hh h => ⟨h.1, h.2.1.mv hal hh, h.2.2.1.mv hal hh, h.2.2.2⟩) (fun r U U' V V' h1 hal h2 h => ⟨h.1, h.2.elim fun B' q => ⟨B', q.1.mv h1 h2, q.2⟩⟩) ?_
  intro p e s m args below meth c s₁ X0 hexec hbytes hml hret hlk hnm hown hh0 W hP
  obtain ⟨rfl, hA, hB, hne, l1, l2, hp⟩ := hP
  have c1 : Steps p.tables e below (s₁.setTop (entryFrame m #[.ref b, .int (Int32.ofNat o), .ref d, .int (Int32.ofNat q), .int (Int32.ofNat len)] 7)) (s₁.setTop (mkF m 0 #[.val (.ref b), .val (.int (Int32.ofNat o)), .val (.ref d), .val (.int (Int32.ofNat q)), .val (.int (Int32.ofNat len)), .unset, .unset] [])) := entry rfl
  have hA0 := hA.1.mv X0.warmed.alike hh0
  have hB0 := hB.mv X0.warmed.alike hh0
  have a31 := hA.1.2.2.2
  have c2 : Steps p.tables e below (s₁.setTop (entryFrame m #[.ref b, .int (Int32.ofNat o), .ref d, .int (Int32.ofNat q), .int (Int32.ofNat len)] 7)) (s₁.setTop (mkF m 3 #[.val (.ref b), .val (.int (Int32.ofNat o)), .val (.ref d), .val (.int (Int32.ofNat q)), .val (.int (Int32.ofNat len)), .val (.int 0), .unset] [])) := c1.trans (by
    refine iconstV X0.here hexec rfl 0 (hb hbytes d0) (by decide) ?_
    refine XS.istore X0.here hexec rfl (hb hbytes d1) rfl rfl ?_
    exact Steps.refl _)
  have loop : ∀ (r i : Nat), i + r = len → ∀ (z : Slot), (z = .unset ∨ ∃ w, z = .val w ∧ w.category = 1) → ∀ (Tl : State) (Bk : Cell), Stand p l e { frames := 0, locals := 0, cells := 0, slots := 0 } s m #[.ref b, .int (Int32.ofNat o), .ref d, .int (Int32.ofNat q), .int (Int32.ofNat len)] below meth c Tl ([] ++ copyLocs d q i) 0 0 → Put d Bk s₁ Tl → Laid B Bk q (q + i) (fun j => Value.int (lo8 (cv A (o + (j - q))))) →
      Steps p.tables e below (s₁.setTop (entryFrame m #[.ref b, .int (Int32.ofNat o), .ref d, .int (Int32.ofNat q), .int (Int32.ofNat len)] 7)) (Tl.setTop (mkF m 3 #[.val (.ref b), .val (.int (Int32.ofNat (o + i))), .val (.ref d), .val (.int (Int32.ofNat (q + i))), .val (.int (Int32.ofNat len)), .val (.int (Int32.ofNat i)), z] [])) → ∃ (T' : State) (B' : Cell) (z' : Slot), Stand p l e { frames := 0, locals := 0, cells := 0, slots := 0 } s m #[.ref b, .int (Int32.ofNat o), .ref d, .int (Int32.ofNat q), .int (Int32.ofNat len)] below meth c T' ([] ++ copyLocs d q len) 0 0 ∧ Put d B' s₁ T' ∧ Laid B B' q (q + len) (fun j => Value.int (lo8 (cv A (o + (j - q))))) ∧
      Steps p.tables e below (s₁.setTop (entryFrame m #[.ref b, .int (Int32.ofNat o), .ref d, .int (Int32.ofNat q), .int (Int32.ofNat len)] 7)) (T'.setTop (mkF m 3 #[.val (.ref b), .val (.int (Int32.ofNat (o + len))), .val (.ref d), .val (.int (Int32.ofNat (q + len))), .val (.int (Int32.ofNat len)), .val (.int (Int32.ofNat len)), z'] [])) := by
    intro r
    induction r with
    | zero =>
      intro i hi z hz Tl Bk Xl pl fl cl
      have hil : i = len := by omega
      rw [hil] at Xl fl cl
      exact ⟨Tl, Bk, z, Xl, pl, fl, cl⟩
    | succ r ih =>
      intro i hi z hz Tl Bk Xl pl fl cl
      have all := X0.warmed.alike.symm.trans Xl.warmed.alike
      have hAl := hA0.keep all (pl.other hne hA0.1)
      have hBk := hB0.like all pl.1 fl.1 fl.2.1 fl.2.2.1
      have hlt : q + i < Bk.slots.size := by rw [fl.2.2.1]; omega
      have c3 : Steps p.tables e below (s₁.setTop (entryFrame m #[.ref b, .int (Int32.ofNat o), .ref d, .int (Int32.ofNat q), .int (Int32.ofNat len)] 7)) (Tl.setTop (mkF m 12 #[.val (.ref b), .val (.int (Int32.ofNat (o + i))), .val (.ref d), .val (.int (Int32.ofNat (q + i))), .val (.int (Int32.ofNat len)), .val (.int (Int32.ofNat i)), z] [.int (Int32.ofNat (o + i)), .ref b])) := cl.trans (by
        refine XS.iload Xl.here hexec rfl (hb hbytes d3) rfl ?_
        refine XS.iload Xl.here hexec rfl (hb hbytes d5) rfl ?_
        refine XS.icmpNo Xl.here hexec rfl (hb hbytes d7) rfl (ii_ge_f (lt32 (by omega) (by omega))) ?_
        refine XS.aloadN Xl.here hexec rfl (hb hbytes d10) rfl rfl ?_
        refine XS.iloadN Xl.here hexec rfl (hb hbytes d11) rfl ?_
        exact Steps.refl _)
      have c4 : Steps p.tables e below (s₁.setTop (entryFrame m #[.ref b, .int (Int32.ofNat o), .ref d, .int (Int32.ofNat q), .int (Int32.ofNat len)] 7)) (Tl.setTop (mkF m 13 #[.val (.ref b), .val (.int (Int32.ofNat (o + i))), .val (.ref d), .val (.int (Int32.ofNat (q + i))), .val (.int (Int32.ofNat len)), .val (.int (Int32.ofNat i)), z] [.int (cv A (o + i))])) := c3.trans (by
        refine Xl.aget hexec hAl rfl (hA.get (i := o + i) (by omega)) rfl rfl (hb hbytes d12) ?_
        exact Steps.refl _)
      have c5 : Steps p.tables e below (s₁.setTop (entryFrame m #[.ref b, .int (Int32.ofNat o), .ref d, .int (Int32.ofNat q), .int (Int32.ofNat len)] 7)) (Tl.setTop (mkF m 15 #[.val (.ref b), .val (.int (Int32.ofNat (o + i))), .val (.ref d), .val (.int (Int32.ofNat (q + i))), .val (.int (Int32.ofNat len)), .val (.int (Int32.ofNat i)), .val (.int (cv A (o + i)))] [])) := c4.trans (by
        refine XS.istoreS Xl.here hexec rfl (hb hbytes d13) rfl rfl hz ?_
        exact Steps.refl _)
      have c6 : Steps p.tables e below (s₁.setTop (entryFrame m #[.ref b, .int (Int32.ofNat o), .ref d, .int (Int32.ofNat q), .int (Int32.ofNat len)] 7)) (Tl.setTop (mkF m 31 #[.val (.ref b), .val (.int (Int32.ofNat (o + i))), .val (.ref d), .val (.int (Int32.ofNat (q + i))), .val (.int (Int32.ofNat len)), .val (.int (Int32.ofNat i)), .val (.int (cv A (o + i)))] [.int (lo8 (cv A (o + i))), .int (Int32.ofNat (q + i)), .ref d])) := c5.trans (by
        refine XS.iload Xl.here hexec rfl (hb hbytes d15) rfl ?_
        refine sipushV Xl.here hexec rfl 255 (hb hbytes d17) (by decide) ?_
        refine XS.icmpYes Xl.here hexec rfl (pc0 := 20) rfl (hb hbytes d20) rfl (ii_le_t (hp i (by omega))) (by decide) rfl ?_
        refine XS.aloadN Xl.here hexec rfl (hb hbytes d26) rfl rfl ?_
        refine XS.iloadN Xl.here hexec rfl (hb hbytes d27) rfl ?_
        refine XS.iload Xl.here hexec rfl (hb hbytes d28) rfl ?_
        refine i2b Xl.here hexec rfl (hb hbytes d30) rfl ?_
        exact Steps.refl _)
      obtain ⟨T7, X7, p7, st7⟩ := Xl.aput hexec hBk rfl hlt rfl (fits_lo8 (cv A (o + i))) (g := (mkF m 31 #[.val (.ref b), .val (.int (Int32.ofNat (o + i))), .val (.ref d), .val (.int (Int32.ofNat (q + i))), .val (.int (Int32.ofNat len)), .val (.int (Int32.ofNat i)), .val (.int (cv A (o + i)))] [.int (lo8 (cv A (o + i))), .int (Int32.ofNat (q + i)), .ref d])) rfl (rest := []) rfl (hb hbytes d31)
      have c8 : Steps p.tables e below (s₁.setTop (entryFrame m #[.ref b, .int (Int32.ofNat o), .ref d, .int (Int32.ofNat q), .int (Int32.ofNat len)] 7)) (T7.setTop (mkF m 32 #[.val (.ref b), .val (.int (Int32.ofNat (o + i))), .val (.ref d), .val (.int (Int32.ofNat (q + i))), .val (.int (Int32.ofNat len)), .val (.int (Int32.ofNat i)), .val (.int (cv A (o + i)))] [])) := c6.trans (st7 _ (Steps.refl _))
      have c9 : Steps p.tables e below (s₁.setTop (entryFrame m #[.ref b, .int (Int32.ofNat o), .ref d, .int (Int32.ofNat q), .int (Int32.ofNat len)] 7)) (T7.setTop (mkF m 3 #[.val (.ref b), .val (.int (Int32.ofNat (o + i) + 1)), .val (.ref d), .val (.int (Int32.ofNat (q + i) + 1)), .val (.int (Int32.ofNat len)), .val (.int (Int32.ofNat i + 1)), .val (.int (cv A (o + i)))] [])) := c8.trans (by
        refine iincV X7.here hexec rfl 1 (hb hbytes d32) (by decide) rfl rfl ?_
        refine iincV X7.here hexec rfl 1 (hb hbytes d35) (by decide) rfl rfl ?_
        refine iincV X7.here hexec rfl 1 (hb hbytes d38) (by decide) rfl rfl ?_
        refine XS.goto X7.here hexec rfl (pc0 := 41) rfl (hb hbytes d41) (by decide) rfl ?_
        exact Steps.refl _)
      have c10 : Steps p.tables e below (s₁.setTop (entryFrame m #[.ref b, .int (Int32.ofNat o), .ref d, .int (Int32.ofNat q), .int (Int32.ofNat len)] 7)) (T7.setTop (mkF m 3 #[.val (.ref b), .val (.int (Int32.ofNat (o + (i + 1)))), .val (.ref d), .val (.int (Int32.ofNat (q + (i + 1)))), .val (.int (Int32.ofNat len)), .val (.int (Int32.ofNat (i + 1))), .val (.int (cv A (o + i)))] [])) := by
        have := c9
        rw [succ32, succ32, succ32] at this
        exact this
      exact ih (i + 1) (by omega) _ (Or.inr ⟨_, rfl, rfl⟩) T7 _ (by rw [copyLocs_step, ← List.append_assoc]; exact X7) (pl.trans p7) (fl.step (by omega) hlt (by simp)) c10
  obtain ⟨T9, B9, z9, X9, p9, f9, g9⟩ := loop len 0 (by omega) .unset (Or.inl rfl) s₁ B (by simpa [copyLocs] using X0) ⟨hB0.1, fun _ _ => rfl, rfl⟩ (Laid.zero _ _ _) c2
  have c11 : Steps p.tables e below (s₁.setTop (entryFrame m #[.ref b, .int (Int32.ofNat o), .ref d, .int (Int32.ofNat q), .int (Int32.ofNat len)] 7)) (T9.setTop (mkF m 46 #[.val (.ref b), .val (.int (Int32.ofNat (o + len))), .val (.ref d), .val (.int (Int32.ofNat (q + len))), .val (.int (Int32.ofNat len)), .val (.int (Int32.ofNat len)), z9] [.int (Int32.ofNat len)])) := g9.trans (by
    refine XS.iload X9.here hexec rfl (hb hbytes d3) rfl ?_
    refine XS.iload X9.here hexec rfl (hb hbytes d5) rfl ?_
    refine XS.icmpYes X9.here hexec rfl (pc0 := 7) rfl (hb hbytes d7) rfl (ii_ge_t (nlt32 (by omega) (Nat.le_refl _))) (by decide) rfl ?_
    refine XS.iload X9.here hexec rfl (hb hbytes d44) rfl ?_
    exact Steps.refl _)
  exact ⟨T9, some (.int (Int32.ofNat len)), _, _, _, X9, by simp, rfl, rfl, (fun h => by cases h), ⟨rfl, B9, p9.from hh0, f9⟩, fun fs hl => c11.trans (X9.ireturnOut hexec hret rfl (Or.inl rfl) (hb hbytes d46) hl)⟩
end Cmp5
namespace Cmp3
def yN : MethodName := ⟨"java/lang/StringUTF16", "compress", "([CII)[B"⟩
abbrev yB : ByteArray := jdk_52_method_16_code
theorem d0 : decode yB 0 = .ok (.iload_n 2, 1) := by decide +kernel
theorem d1 : decode yB 1 = .ok (.newarray .byte, 2) := by decide +kernel
theorem d3 : decode yB 3 = .ok (.astore_n 3, 1) := by decide +kernel
theorem d4 : decode yB 4 = .ok (.aload_n 0, 1) := by decide +kernel
theorem d5 : decode yB 5 = .ok (.iload_n 1, 1) := by decide +kernel
theorem d6 : decode yB 6 = .ok (.aload_n 3, 1) := by decide +kernel
theorem d7 : decode yB 7 = .ok (.iconst 0, 1) := by decide +kernel
theorem d8 : decode yB 8 = .ok (.iload_n 2, 1) := by decide +kernel
theorem d9 : decode yB 9 = .ok (.invokestatic 115, 3) := by decide +kernel
theorem d12 : decode yB 12 = .ok (.istore 4, 2) := by decide +kernel
theorem d14 : decode yB 14 = .ok (.iload 4, 2) := by decide +kernel
theorem d16 : decode yB 16 = .ok (.iload_n 2, 1) := by decide +kernel
theorem d17 : decode yB 17 = .ok (.if_icmp (.eq) 40, 3) := by decide +kernel
theorem d57 : decode yB 57 = .ok (.aload_n 3, 1) := by decide +kernel
theorem d58 : decode yB 58 = .ok (.areturn, 1) := by decide +kernel
def site : List Cond := [.arrayClass .byte, Cmp5.tab] ++ staticW U16 115 Cmp5.yN
def tab : Cond := tabOf yN yB 6 (some (.array .byte)) site
def P (b : Addr) (A : Cell) (o len : Nat) (args : Array Value) (s : State) : Prop := args = #[.ref b, .int (Int32.ofNat o), .int (Int32.ofNat len)] ∧ Ch b A s ∧ o + len ≤ A.slots.size ∧ len ≤ 536870912 ∧ ∀ i, i < len → ¬ 255 < cv A (o + i)
def E (b : Addr) (A : Cell) (o len : Nat) (r : Option Value) (s u : State) : Prop := NewArr .byte "[B" len (fun j => .int (lo8 (cv A (o + j)))) r s u ∧ u.heap.size = s.heap.size + 1
/-- no char of the range above 255: a new byte[] of their low bytes -/
theorem law (l : Launch) (b : Addr) (A : Cell) (o len : Nat) : Law l yN 3 3 1 18 yB 6 (some (.array .byte)) site (P b A o len) (E b A o len) [] 1 len := by
  refine Law.of_walk (plainFor_of_name (by decide +kernel)) (by decide +kernel) (by decide +kernel) (by decide) (fun _ _ h => by rw [h.1]; rfl) (fun _ U U' hal hh h => ⟨h.1, h.2.1.mv hal hh, h.2.2⟩) (fun r U U' V V' h1 hal h2 h => ⟨NewArr.mv r U U' V V' h1 hal h2 h.1, by rw [h1, h2]; exact h.2⟩) ?_
  intro p e s m args below meth c s₁ X0 hexec hbytes hml hret hlk hnm hown hh0 W hP
  obtain ⟨rfl, hA, l1, l2, hp⟩ := hP
  have a31 := hA.1.2.2.2
  have c1 : Steps p.tables e below (s₁.setTop (entryFrame m #[.ref b, .int (Int32.ofNat o), .int (Int32.ofNat len)] 6)) (s₁.setTop (mkF m 0 #[.val (.ref b), .val (.int (Int32.ofNat o)), .val (.int (Int32.ofNat len)), .unset, .unset, .unset] [])) := entry rfl
  have c2 : Steps p.tables e below (s₁.setTop (entryFrame m #[.ref b, .int (Int32.ofNat o), .int (Int32.ofNat len)] 6)) (s₁.setTop (mkF m 1 #[.val (.ref b), .val (.int (Int32.ofNat o)), .val (.int (Int32.ofNat len)), .unset, .unset, .unset] [.int (Int32.ofNat len)])) := c1.trans (by
    refine XS.iloadN X0.here hexec rfl (hb hbytes d0) rfl ?_
    exact Steps.refl _)
  obtain ⟨T3, B3, X3, ba3, bs3, bv3, bh3, bf3, st3⟩ := X0.anew hexec (atype := .byte) (wk W (.arrayClass .byte)) rfl (by show len * 1 ≤ _; omega) (by omega) (g := (mkF m 1 #[.val (.ref b), .val (.int (Int32.ofNat o)), .val (.int (Int32.ofNat len)), .unset, .unset, .unset] [.int (Int32.ofNat len)])) rfl (hb hbytes d1) (rest := []) rfl (Nat.le_refl _) (by show 0 + len ≤ len; omega)
  rw [hh0] at ba3 st3
  have kp3 : XT.Kept s T3 := (XT.Kept.of_eq hh0).push bh3
  have hA3 := hA.keep X3.warmed.alike (kp3 _ _ hA.1.1)
  have hne : b ≠ s.heap.size := hA.1.ne
  have c4 : Steps p.tables e below (s₁.setTop (entryFrame m #[.ref b, .int (Int32.ofNat o), .int (Int32.ofNat len)] 6)) (T3.setTop (mkF m 3 #[.val (.ref b), .val (.int (Int32.ofNat o)), .val (.int (Int32.ofNat len)), .unset, .unset, .unset] [.ref s.heap.size])) := c2.trans (st3 _ (Steps.refl _))
  have c5 : Steps p.tables e below (s₁.setTop (entryFrame m #[.ref b, .int (Int32.ofNat o), .int (Int32.ofNat len)] 6)) (T3.setTop (mkF m 9 #[.val (.ref b), .val (.int (Int32.ofNat o)), .val (.int (Int32.ofNat len)), .val (.ref s.heap.size), .unset, .unset] [.int (Int32.ofNat len), .int 0, .ref s.heap.size, .int (Int32.ofNat o), .ref b])) := c4.trans (by
    refine XS.astoreN X3.here hexec rfl (hb hbytes d3) rfl rfl rfl ?_
    refine XS.aloadN X3.here hexec rfl (hb hbytes d4) rfl rfl ?_
    refine XS.iloadN X3.here hexec rfl (hb hbytes d5) rfl ?_
    refine XS.aloadN X3.here hexec rfl (hb hbytes d6) rfl rfl ?_
    refine iconstV X3.here hexec rfl 0 (hb hbytes d7) (by decide) ?_
    refine XS.iloadN X3.here hexec rfl (hb hbytes d8) rfl ?_
    exact Steps.refl _)
  obtain ⟨v6, T6, X6, E6, g6⟩ := X3.callS hexec (Cmp5.law l b A s.heap.size B3 o 0 len) hown (wks W (staticW U16 115 Cmp5.yN)) (wk W Cmp5.tab) (W := 0) (Nat.le_of_ble_eq_true rfl) (Nat.le_of_ble_eq_true rfl) (Nat.le_refl _) (by show 0 + len + 0 ≤ len; omega) (g := (mkF m 9 #[.val (.ref b), .val (.int (Int32.ofNat o)), .val (.int (Int32.ofNat len)), .val (.ref s.heap.size), .unset, .unset] [.int (Int32.ofNat len), .int (Int32.ofNat 0), .ref s.heap.size, .int (Int32.ofNat o), .ref b])) rfl (by rw [hml]; rfl) c5 (argsL := [.ref b, .int (Int32.ofNat o), .ref s.heap.size, .int (Int32.ofNat 0), .int (Int32.ofNat len)]) (rest := []) rfl rfl (by show 2 * 0 + 0 ≤ _; decide) (hb hbytes d9) (⟨rfl, hA3, ba3, hne, l1, by rw [bs3]; simp, hp⟩)
  obtain ⟨rfl, B6, p6, f6⟩ := E6
  have c7 : Steps p.tables e below (s₁.setTop (entryFrame m #[.ref b, .int (Int32.ofNat o), .int (Int32.ofNat len)] 6)) (T6.setTop (mkF m 12 #[.val (.ref b), .val (.int (Int32.ofNat o)), .val (.int (Int32.ofNat len)), .val (.ref s.heap.size), .unset, .unset] [.int (Int32.ofNat len)])) := g6
  have c8 : Steps p.tables e below (s₁.setTop (entryFrame m #[.ref b, .int (Int32.ofNat o), .int (Int32.ofNat len)] 6)) (T6.setTop (mkF m 58 #[.val (.ref b), .val (.int (Int32.ofNat o)), .val (.int (Int32.ofNat len)), .val (.ref s.heap.size), .val (.int (Int32.ofNat len)), .unset] [.ref s.heap.size])) := c7.trans (by
    refine XS.istore X6.here hexec rfl (hb hbytes d12) rfl rfl ?_
    refine XS.iload X6.here hexec rfl (hb hbytes d14) rfl ?_
    refine XS.iloadN X6.here hexec rfl (hb hbytes d16) rfl ?_
    refine XS.icmpYes X6.here hexec rfl (pc0 := 17) rfl (hb hbytes d17) rfl (ii_eq_t rfl) (by decide) rfl ?_
    refine XS.aloadN X6.here hexec rfl (hb hbytes d57) rfl rfl ?_
    exact Steps.refl _)
  have X8 := X6.wide (L' := []) (cells' := 1) (slots' := len) (fun x hx hlt => by
    simp only [List.nil_append, copyLocs, List.mem_map, List.mem_range] at hx
    obtain ⟨i, -, rfl⟩ := hx
    exact absurd hlt (Nat.lt_irrefl _)) (Nat.le_refl _) (by omega)
  exact ⟨T6, some (.ref s.heap.size), _, _, _, X8, rfl, rfl, rfl, (fun h => by cases h), ⟨⟨rfl, B6, ba3.like (X3.warmed.alike.symm.trans X6.warmed.alike) p6.1 f6.1 f6.2.1 f6.2.2.1, f6.2.1.trans bv3, by rw [X6.warmed.alike.findClass, f6.1]; exact bf3, by rw [f6.2.2.1, bs3]; simp, fun j hj => by rw [f6.2.2.2 j, if_pos (by omega)]; rfl, kp3.put p6 (Nat.le_refl _)⟩, by rw [p6.2.2, bh3, hh0]; simp⟩, fun fs hl => c8.trans (X8.areturnOut hexec rfl hret rfl (hb hbytes d58) hl)⟩
end Cmp3
namespace CodL
def yN : MethodName := ⟨"java/lang/StringUTF16", "coderFromArrayLen", "([BI)B"⟩
abbrev yB : ByteArray := jdk_52_method_15_code
theorem d0 : decode yB 0 = .ok (.iload_n 1, 1) := by decide +kernel
theorem d1 : decode yB 1 = .ok (.aload_n 0, 1) := by decide +kernel
theorem d2 : decode yB 2 = .ok (.arraylength, 1) := by decide +kernel
theorem d3 : decode yB 3 = .ok (.isub, 1) := by decide +kernel
theorem d4 : decode yB 4 = .ok (.bipush 31, 2) := by decide +kernel
theorem d6 : decode yB 6 = .ok (.iushr, 1) := by decide +kernel
theorem d7 : decode yB 7 = .ok (.i2b, 1) := by decide +kernel
theorem d8 : decode yB 8 = .ok (.ireturn, 1) := by decide +kernel
def site : List Cond := []
def tab : Cond := tabOf yN yB 2 (some .byte) site
def P (d : Addr) (B : Cell) (args : Array Value) (s : State) : Prop := args = #[.ref d, .int (Int32.ofNat B.slots.size)] ∧ Arr .byte d B s
def E (r : Option Value) (s u : State) : Prop := XT.PureE (some (.int 0)) r s u
/-- an array as long as the number of chars: LATIN1 -/
theorem law (l : Launch) (d : Addr) (B : Cell) : Law l yN 2 2 0 0 yB 2 (some .byte) site (P d B) E [] 0 0 := by
  refine Law.of_walk (plainFor_of_name (by decide +kernel)) (by decide +kernel) (by decide +kernel) (by decide) (fun _ _ h => by rw [h.1]; rfl) (fun _ U U' hal hh h => ⟨h.1, h.2.mv hal hh⟩) (fun r U U' V V' h1 hal h2 h => XT.PureE.mv r U U' V V' h1 hal h2 h) ?_
  intro p e s m args below meth c s₁ X0 hexec hbytes hml hret hlk hnm hown hh0 W hP
  obtain ⟨rfl, hB⟩ := hP
  have hB0 := hB.mv X0.warmed.alike hh0
  have c1 : Steps p.tables e below (s₁.setTop (entryFrame m #[.ref d, .int (Int32.ofNat B.slots.size)] 2)) (s₁.setTop (mkF m 0 #[.val (.ref d), .val (.int (Int32.ofNat B.slots.size))] [])) := entry rfl
  have c2 : Steps p.tables e below (s₁.setTop (entryFrame m #[.ref d, .int (Int32.ofNat B.slots.size)] 2)) (s₁.setTop (mkF m 2 #[.val (.ref d), .val (.int (Int32.ofNat B.slots.size))] [.ref d, .int (Int32.ofNat B.slots.size)])) := c1.trans (by
    refine XS.iloadN X0.here hexec rfl (hb hbytes d0) rfl ?_
    refine XS.aloadN X0.here hexec rfl (hb hbytes d1) rfl rfl ?_
    exact Steps.refl _)
  have c3 : Steps p.tables e below (s₁.setTop (entryFrame m #[.ref d, .int (Int32.ofNat B.slots.size)] 2)) (s₁.setTop (mkF m 8 #[.val (.ref d), .val (.int (Int32.ofNat B.slots.size))] [.int (lo8 (ushr (Int32.ofNat B.slots.size - Int32.ofNat B.slots.size) 31))])) := c2.trans (by
    refine X0.alen hexec hB0 rfl rfl (hb hbytes d2) ?_
    refine XS.isub X0.here hexec rfl (hb hbytes d3) rfl ?_
    refine bipushV X0.here hexec rfl 31 (hb hbytes d4) (by decide) ?_
    refine iushr X0.here hexec rfl (hb hbytes d6) rfl ?_
    refine i2b X0.here hexec rfl (hb hbytes d7) rfl ?_
    exact Steps.refl _)
  have e0 : lo8 (ushr (Int32.ofNat B.slots.size - Int32.ofNat B.slots.size) 31) = 0 := by rw [Int32.sub_self]; decide
  rw [e0] at c3
  exact ⟨s₁, some (.int 0), _, _, _, X0, rfl, rfl, rfl, (fun h => by cases h), ⟨rfl, hh0⟩, fun fs hl => c3.trans (X0.ireturnOut hexec hret rfl (Or.inr (Or.inr (Or.inl rfl))) (hb hbytes d8) hl)⟩
end CodL
/-- the String at a is Latin-1 over a new byte[] (the heap's one new cell): the low bytes of the len chars of A from o on; every cell but a is kept -/
def Got (a : Addr) (D : Cell) (fV fC : Field) (A : Cell) (o len : Nat) (r : Option Value) (s u : State) : Prop := r = none ∧ ∃ D' V : Cell, Blank "java/lang/String" a D' u ∧ Same D D' [fV.slot, fC.slot] ∧ D'.slots[fV.slot]? = some (.ref s.heap.size) ∧ D'.slots[fC.slot]? = some (.int 0) ∧ Arr .byte s.heap.size V u ∧ V.vm = .none ∧ u.vm.findClass "[B" = some V.cls ∧ V.slots.size = len ∧ (∀ j, j < len → V.slots[j]? = some (.int (lo8 (cv A (o + j))))) ∧ (∀ (y : Addr) (c : Cell), y ≠ a → s.heap[y]? = some c → u.heap[y]? = some c) ∧ u.heap.size = s.heap.size + 1
theorem Got.mv {a : Addr} {D A : Cell} {fV fC : Field} {o len : Nat} : ∀ r (U U' V V' : State), U'.heap = U.heap → V.vm.Alike V'.vm → V'.heap = V.heap → Got a D fV fC A o len r U V → Got a D fV fC A o len r U' V' :=
  fun r U U' V V' h1 hal h2 ⟨e0, D', X, a1, a2, a3, a4, a5, a6, a7, a8, a9, a10, a11⟩ => ⟨e0, D', X, a1.mv hal h2, a2, by rw [h1]; exact a3, a4, by rw [h1]; exact a5.mv hal h2, a6, by rw [hal.findClass]; exact a7, a8, a9, by rw [h1, h2]; exact a10, by rw [h1, h2]; exact a11⟩
namespace New4
def yN : MethodName := ⟨"java/lang/String", "<init>", "([CIILjava/lang/Void;)V"⟩
abbrev yB : ByteArray := jdk_42_method_149_code
theorem d0 : decode yB 0 = .ok (.aload_n 0, 1) := by decide +kernel
theorem d1 : decode yB 1 = .ok (.invokespecial 1, 3) := by decide +kernel
theorem d4 : decode yB 4 = .ok (.iload_n 3, 1) := by decide +kernel
theorem d5 : decode yB 5 = .ok (.ifCond (.ne) 22, 3) := by decide +kernel
theorem d27 : decode yB 27 = .ok (.getstatic 38, 3) := by decide +kernel
theorem d30 : decode yB 30 = .ok (.ifCond (.eq) 28, 3) := by decide +kernel
theorem d33 : decode yB 33 = .ok (.aload_n 1, 1) := by decide +kernel
theorem d34 : decode yB 34 = .ok (.iload_n 2, 1) := by decide +kernel
theorem d35 : decode yB 35 = .ok (.iload_n 3, 1) := by decide +kernel
theorem d36 : decode yB 36 = .ok (.invokestatic 177, 3) := by decide +kernel
theorem d39 : decode yB 39 = .ok (.astore 5, 2) := by decide +kernel
theorem d41 : decode yB 41 = .ok (.aload_n 0, 1) := by decide +kernel
theorem d42 : decode yB 42 = .ok (.aload 5, 2) := by decide +kernel
theorem d44 : decode yB 44 = .ok (.iload_n 3, 1) := by decide +kernel
theorem d45 : decode yB 45 = .ok (.invokestatic 47, 3) := by decide +kernel
theorem d48 : decode yB 48 = .ok (.putfield 15, 3) := by decide +kernel
theorem d51 : decode yB 51 = .ok (.aload_n 0, 1) := by decide +kernel
theorem d52 : decode yB 52 = .ok (.aload 5, 2) := by decide +kernel
theorem d54 : decode yB 54 = .ok (.putfield 9, 3) := by decide +kernel
theorem d57 : decode yB 57 = .ok (.return_, 1) := by decide +kernel
def site : List Cond := [.fieldLink "java/lang/String" 38 "java/lang/String" "COMPACT_STRINGS" "Z", Cmp3.tab, CodL.tab, .laysFinal "java/lang/String" "java/lang/String" "value" "[B", .fieldLink "java/lang/String" 9 "java/lang/String" "value" "[B", .laysFinal "java/lang/String" "java/lang/String" "coder" "B", .fieldLink "java/lang/String" 15 "java/lang/String" "coder" "B"] ++ objW "java/lang/String" 1 ++ staticW "java/lang/String" 177 Cmp3.yN ++ staticW "java/lang/String" 47 CodL.yN
def tab : Cond := tabOf yN yB 6 none site
def P (a : Addr) (D : Cell) (fV fC : Field) (b : Addr) (A : Cell) (z : Int32) (o len : Nat) (args : Array Value) (s : State) : Prop := args = #[.ref a, .ref b, .int (Int32.ofNat o), .int (Int32.ofNat len), .null] ∧ Blank "java/lang/String" a D s ∧ Found "java/lang/String" "value" "[B" fV s ∧ Found "java/lang/String" "coder" "B" fC s ∧ Ch b A s ∧ StaticIs s "java/lang/String" "COMPACT_STRINGS" "Z" (.int z) ∧ ¬ z = 0 ∧ 0 < len ∧ o + len ≤ A.slots.size ∧ len ≤ 536870912 ∧ ∀ i, i < len → ¬ 255 < cv A (o + i)
def E (a : Addr) (D : Cell) (fV fC : Field) (A : Cell) (o len : Nat) (r : Option Value) (s u : State) : Prop := Got a D fV fC A o len r s u
/-- len > 0, no char of the range above 255: a Latin-1 String of their low bytes -/
theorem law (l : Launch) (a : Addr) (D : Cell) (fV fC : Field) (b : Addr) (A : Cell) (z : Int32) (o len : Nat) : Law l yN 5 4 2 35 yB 6 none site (P a D fV fC b A z o len) (E a D fV fC A o len) [⟨a, fC.slot⟩, ⟨a, fV.slot⟩] 1 len := by
  refine Law.of_walk (plainFor_of_name (by decide +kernel)) (by decide +kernel) (by decide +kernel) (by decide) (fun _ _ h => by rw [h.1]; rfl) (fun _ U U' hal hh h => ⟨h.1, h.2.1.mv hal hh, h.2.2.1.al hal, h.2.2.2.1.al hal, h.2.2.2.2.1.mv hal hh, h.2.2.2.2.2.1.there hal hh, h.2.2.2.2.2.2⟩) (fun r U U' V V' h1 hal h2 h => Got.mv r U U' V V' h1 hal h2 h) ?_
  intro p e s m args below meth c s₁ X0 hexec hbytes hml hret hlk hnm hown hh0 W hP
  obtain ⟨rfl, hB, f1, f2, hA, s1, hz, l0, l1, l2, hp⟩ := hP
  have a31 := hA.1.2.2.2
  have c1 : Steps p.tables e below (s₁.setTop (entryFrame m #[.ref a, .ref b, .int (Int32.ofNat o), .int (Int32.ofNat len), .null] 6)) (s₁.setTop (mkF m 0 #[.val (.ref a), .val (.ref b), .val (.int (Int32.ofNat o)), .val (.int (Int32.ofNat len)), .val .null, .unset] [])) := entry rfl
  have c2 : Steps p.tables e below (s₁.setTop (entryFrame m #[.ref a, .ref b, .int (Int32.ofNat o), .int (Int32.ofNat len), .null] 6)) (s₁.setTop (mkF m 1 #[.val (.ref a), .val (.ref b), .val (.int (Int32.ofNat o)), .val (.int (Int32.ofNat len)), .val .null, .unset] [.ref a])) := c1.trans (by
    refine XS.aloadN X0.here hexec rfl (hb hbytes d0) rfl rfl ?_
    exact Steps.refl _)
  obtain ⟨T3, X3, q3, st3⟩ := X0.oinit hexec hown (wks W (objW "java/lang/String" 1)) (g := (mkF m 1 #[.val (.ref a), .val (.ref b), .val (.int (Int32.ofNat o)), .val (.int (Int32.ofNat len)), .val .null, .unset] [.ref a])) rfl (by rw [hml]; rfl) (rest := []) rfl (hb hbytes d1) (W := 0) (by show 2 * 0 + 0 ≤ _; decide) (Nat.le_of_ble_eq_true rfl) (Nat.le_of_ble_eq_true rfl)
  have hh3 := q3.trans hh0
  have c4 : Steps p.tables e below (s₁.setTop (entryFrame m #[.ref a, .ref b, .int (Int32.ofNat o), .int (Int32.ofNat len), .null] 6)) (T3.setTop (mkF m 27 #[.val (.ref a), .val (.ref b), .val (.int (Int32.ofNat o)), .val (.int (Int32.ofNat len)), .val .null, .unset] [])) := (c2.trans (st3 _ (Steps.refl _))).trans (by
    refine XS.iloadN X3.here hexec rfl (hb hbytes d4) rfl ?_
    refine XS.ifYes X3.here hexec rfl (pc0 := 5) rfl (hb hbytes d5) rfl (i0_ne_t (nz32 (by omega) l0)) (by decide) rfl ?_
    exact Steps.refl _)
  obtain ⟨T5, X5, q5, st5⟩ := X3.sget hexec hown (wk W (.fieldLink "java/lang/String" 38 "java/lang/String" "COMPACT_STRINGS" "Z")) s1 (fun _ _ h => by rw [hh3]; exact h) (g := (mkF m 27 #[.val (.ref a), .val (.ref b), .val (.int (Int32.ofNat o)), .val (.int (Int32.ofNat len)), .val .null, .unset] [])) rfl (hb hbytes d27)
  have hh5 := q5.trans hh3
  have c6 : Steps p.tables e below (s₁.setTop (entryFrame m #[.ref a, .ref b, .int (Int32.ofNat o), .int (Int32.ofNat len), .null] 6)) (T5.setTop (mkF m 30 #[.val (.ref a), .val (.ref b), .val (.int (Int32.ofNat o)), .val (.int (Int32.ofNat len)), .val .null, .unset] [.int z])) := c4.trans (st5 _ (Steps.refl _))
  have c7 : Steps p.tables e below (s₁.setTop (entryFrame m #[.ref a, .ref b, .int (Int32.ofNat o), .int (Int32.ofNat len), .null] 6)) (T5.setTop (mkF m 36 #[.val (.ref a), .val (.ref b), .val (.int (Int32.ofNat o)), .val (.int (Int32.ofNat len)), .val .null, .unset] [.int (Int32.ofNat len), .int (Int32.ofNat o), .ref b])) := c6.trans (by
    refine XS.ifNo X5.here hexec rfl (hb hbytes d30) rfl (i0_eq_f hz) ?_
    refine XS.aloadN X5.here hexec rfl (hb hbytes d33) rfl rfl ?_
    refine XS.iloadN X5.here hexec rfl (hb hbytes d34) rfl ?_
    refine XS.iloadN X5.here hexec rfl (hb hbytes d35) rfl ?_
    exact Steps.refl _)
  obtain ⟨v8, T8, X8, E8, g8⟩ := X5.callS hexec (Cmp3.law l b A o len) hown (wks W (staticW "java/lang/String" 177 Cmp3.yN)) (wk W Cmp3.tab) (W := 0) (Nat.le_of_ble_eq_true rfl) (Nat.le_of_ble_eq_true rfl) (Nat.le_refl _) (by show 0 + len ≤ len; omega) (g := (mkF m 36 #[.val (.ref a), .val (.ref b), .val (.int (Int32.ofNat o)), .val (.int (Int32.ofNat len)), .val .null, .unset] [.int (Int32.ofNat len), .int (Int32.ofNat o), .ref b])) rfl (by rw [hml]; rfl) c7 (argsL := [.ref b, .int (Int32.ofNat o), .int (Int32.ofNat len)]) (rest := []) rfl rfl (by show 2 * 0 + 0 ≤ _; decide) (hb hbytes d36) (⟨rfl, hA.mv X5.warmed.alike hh5, l1, l2, hp⟩)
  obtain ⟨e8, z8⟩ := E8
  obtain ⟨rfl, N, n1, n2, n3, n4, n5, n6⟩ := NewArr.mv _ T5 s _ _ hh5.symm (Vm.Alike.refl _) rfl e8
  rw [hh5] at z8
  have hB1 := hB.keep X8.warmed.alike (n6 _ _ hB.1)
  have hne : s.heap.size ≠ a := (Nat.ne_of_lt (Array.getElem?_eq_some_iff.mp hB.1).1).symm
  have c9 : Steps p.tables e below (s₁.setTop (entryFrame m #[.ref a, .ref b, .int (Int32.ofNat o), .int (Int32.ofNat len), .null] 6)) (T8.setTop (mkF m 39 #[.val (.ref a), .val (.ref b), .val (.int (Int32.ofNat o)), .val (.int (Int32.ofNat len)), .val .null, .unset] [.ref s.heap.size])) := g8
  have c10 : Steps p.tables e below (s₁.setTop (entryFrame m #[.ref a, .ref b, .int (Int32.ofNat o), .int (Int32.ofNat len), .null] 6)) (T8.setTop (mkF m 45 #[.val (.ref a), .val (.ref b), .val (.int (Int32.ofNat o)), .val (.int (Int32.ofNat len)), .val .null, .val (.ref s.heap.size)] [.int (Int32.ofNat N.slots.size), .ref s.heap.size, .ref a])) := by
    have hc : Steps p.tables e below (s₁.setTop (entryFrame m #[.ref a, .ref b, .int (Int32.ofNat o), .int (Int32.ofNat len), .null] 6)) (T8.setTop (mkF m 45 #[.val (.ref a), .val (.ref b), .val (.int (Int32.ofNat o)), .val (.int (Int32.ofNat len)), .val .null, .val (.ref s.heap.size)] [.int (Int32.ofNat len), .ref s.heap.size, .ref a])) := c9.trans (by
      refine XS.astore X8.here hexec rfl (hb hbytes d39) rfl rfl rfl ?_
      refine XS.aloadN X8.here hexec rfl (hb hbytes d41) rfl rfl ?_
      refine XS.aload X8.here hexec rfl (hb hbytes d42) rfl rfl ?_
      refine XS.iloadN X8.here hexec rfl (hb hbytes d44) rfl ?_
      exact Steps.refl _)
    rw [n4]; exact hc
  obtain ⟨v11, T11, X11, E11, g11⟩ := X8.callS hexec (CodL.law l s.heap.size N) hown (wks W (staticW "java/lang/String" 47 CodL.yN)) (wk W CodL.tab) (W := 1) (Nat.le_of_ble_eq_true rfl) (Nat.le_of_ble_eq_true rfl) (Nat.le_refl _) (by show 0 + len + 0 ≤ len; omega) (g := (mkF m 45 #[.val (.ref a), .val (.ref b), .val (.int (Int32.ofNat o)), .val (.int (Int32.ofNat len)), .val .null, .val (.ref s.heap.size)] [.int (Int32.ofNat N.slots.size), .ref s.heap.size, .ref a])) rfl (by rw [hml]; rfl) c10 (argsL := [.ref s.heap.size, .int (Int32.ofNat N.slots.size)]) (rest := [.ref a]) rfl rfl (by show 2 * 0 + (1 + 0) ≤ _; decide) (hb hbytes d45) (⟨rfl, n1⟩)
  obtain ⟨rfl, q11⟩ := E11
  have hB11 := hB1.mv (X8.warmed.alike.symm.trans X11.warmed.alike) q11
  have c12 : Steps p.tables e below (s₁.setTop (entryFrame m #[.ref a, .ref b, .int (Int32.ofNat o), .int (Int32.ofNat len), .null] 6)) (T11.setTop (mkF m 48 #[.val (.ref a), .val (.ref b), .val (.int (Int32.ofNat o)), .val (.int (Int32.ofNat len)), .val .null, .val (.ref s.heap.size)] [.int 0, .ref a])) := g11
  obtain ⟨T13, X13, p13, bl13, sl13, st13⟩ := X11.finit hexec hown (wk W (.fieldLink "java/lang/String" 15 "java/lang/String" "coder" "B")) (Or.inr ⟨_, (wk W (.laysFinal "java/lang/String" "java/lang/String" "coder" "B"))⟩) (Or.inl ⟨rfl, hnm⟩) f2 (Or.inl rfl) hB11 (t := .byte) (by decide +kernel) rfl (g := (mkF m 48 #[.val (.ref a), .val (.ref b), .val (.int (Int32.ofNat o)), .val (.int (Int32.ofNat len)), .val .null, .val (.ref s.heap.size)] [.int 0, .ref a])) rfl (rest := []) rfl (hb hbytes d48)
  have c14 : Steps p.tables e below (s₁.setTop (entryFrame m #[.ref a, .ref b, .int (Int32.ofNat o), .int (Int32.ofNat len), .null] 6)) (T13.setTop (mkF m 54 #[.val (.ref a), .val (.ref b), .val (.int (Int32.ofNat o)), .val (.int (Int32.ofNat len)), .val .null, .val (.ref s.heap.size)] [.ref s.heap.size, .ref a])) := (c12.trans (st13 _ (Steps.refl _))).trans (by
    refine XS.aloadN X13.here hexec rfl (hb hbytes d51) rfl rfl ?_
    refine XS.aload X13.here hexec rfl (hb hbytes d52) rfl rfl ?_
    exact Steps.refl _)
  obtain ⟨T15, X15, p15, bl15, sl15, st15⟩ := X13.finit hexec hown (wk W (.fieldLink "java/lang/String" 9 "java/lang/String" "value" "[B")) (Or.inr ⟨_, (wk W (.laysFinal "java/lang/String" "java/lang/String" "value" "[B"))⟩) (Or.inl ⟨rfl, hnm⟩) f1 (Or.inl rfl) bl13 (t := (.array .byte)) (by decide +kernel) rfl (g := (mkF m 54 #[.val (.ref a), .val (.ref b), .val (.int (Int32.ofNat o)), .val (.int (Int32.ofNat len)), .val .null, .val (.ref s.heap.size)] [.ref s.heap.size, .ref a])) rfl (rest := []) rfl (hb hbytes d54)
  have c16 : Steps p.tables e below (s₁.setTop (entryFrame m #[.ref a, .ref b, .int (Int32.ofNat o), .int (Int32.ofNat len), .null] 6)) (T15.setTop (mkF m 57 #[.val (.ref a), .val (.ref b), .val (.int (Int32.ofNat o)), .val (.int (Int32.ofNat len)), .val .null, .val (.ref s.heap.size)] [])) := c14.trans (st15 _ (Steps.refl _))
  have ap := apart (Or.inr ⟨_, (wk W (.laysFinal "java/lang/String" "java/lang/String" "value" "[B"))⟩) (Or.inr ⟨_, (wk W (.laysFinal "java/lang/String" "java/lang/String" "coder" "B"))⟩) f1 f2 (t₁ := .array .byte) (t₂ := .byte) (by decide +kernel) (by decide +kernel) (by decide)
  have al := X8.warmed.alike.symm.trans X15.warmed.alike
  have n7 : T11.heap[s.heap.size]? = some N := by rw [q11]; exact n1.1
  exact ⟨T15, none, _, _, _, X15, by simp, rfl, by omega, (fun _ => rfl), ⟨rfl, _, N, bl15, ((Same.refl D _).set _ (by simp)).set _ (by simp), sl15, (Cell.slots_setSlot_ne _ ap).trans sl13, n1.keep al (p15.other hne (p13.other hne n7)), n2, by rw [al.findClass]; exact n3, n4, n5, fun y c h1 h2 => p15.other h1 (p13.other h1 (by rw [q11]; exact n6 y c h2)), by rw [p15.2.2, p13.2.2, q11]; exact z8⟩, fun fs hl => c16.trans (X15.returnOut hexec hret (hb hbytes d57) hl)⟩
end New4
namespace New1
def yN : MethodName := ⟨"java/lang/String", "<init>", "([C)V"⟩
abbrev yB : ByteArray := jdk_42_method_3_code
theorem d0 : decode yB 0 = .ok (.aload_n 0, 1) := by decide +kernel
theorem d1 : decode yB 1 = .ok (.aload_n 1, 1) := by decide +kernel
theorem d2 : decode yB 2 = .ok (.iconst 0, 1) := by decide +kernel
theorem d3 : decode yB 3 = .ok (.aload_n 1, 1) := by decide +kernel
theorem d4 : decode yB 4 = .ok (.arraylength, 1) := by decide +kernel
theorem d5 : decode yB 5 = .ok (.aconst_null, 1) := by decide +kernel
theorem d6 : decode yB 6 = .ok (.invokespecial 27, 3) := by decide +kernel
theorem d9 : decode yB 9 = .ok (.return_, 1) := by decide +kernel
def site : List Cond := [New4.tab] ++ initW "java/lang/String" 27 New4.yN
def tab : Cond := tabOf yN yB 2 none site
def P (a : Addr) (D : Cell) (fV fC : Field) (b : Addr) (A : Cell) (z : Int32) (args : Array Value) (s : State) : Prop := args = #[.ref a, .ref b] ∧ Blank "java/lang/String" a D s ∧ Found "java/lang/String" "value" "[B" fV s ∧ Found "java/lang/String" "coder" "B" fC s ∧ Ch b A s ∧ StaticIs s "java/lang/String" "COMPACT_STRINGS" "Z" (.int z) ∧ ¬ z = 0 ∧ 0 < A.slots.size ∧ A.slots.size ≤ 536870912 ∧ ∀ i, i < A.slots.size → ¬ 255 < cv A i
def E (a : Addr) (D : Cell) (fV fC : Field) (A : Cell) (r : Option Value) (s u : State) : Prop := Got a D fV fC A 0 A.slots.size r s u
/-- new String(chars), not empty, no char above 255: a Latin-1 String of their low bytes -/
theorem law (l : Launch) (a : Addr) (D : Cell) (fV fC : Field) (b : Addr) (A : Cell) (z : Int32) : Law l yN 2 1 3 52 yB 2 none site (P a D fV fC b A z) (E a D fV fC A) [⟨a, fC.slot⟩, ⟨a, fV.slot⟩] 1 A.slots.size := by
  refine Law.of_walk (plainFor_of_name (by decide +kernel)) (by decide +kernel) (by decide +kernel) (by decide) (fun _ _ h => by rw [h.1]; rfl) (fun _ U U' hal hh h => ⟨h.1, h.2.1.mv hal hh, h.2.2.1.al hal, h.2.2.2.1.al hal, h.2.2.2.2.1.mv hal hh, h.2.2.2.2.2.1.there hal hh, h.2.2.2.2.2.2⟩) (fun r U U' V V' h1 hal h2 h => Got.mv r U U' V V' h1 hal h2 h) ?_
  intro p e s m args below meth c s₁ X0 hexec hbytes hml hret hlk hnm hown hh0 W hP
  obtain ⟨rfl, hB, f1, f2, hA, s1, hz, l0, l2, hp⟩ := hP
  have c1 : Steps p.tables e below (s₁.setTop (entryFrame m #[.ref a, .ref b] 2)) (s₁.setTop (mkF m 0 #[.val (.ref a), .val (.ref b)] [])) := entry rfl
  have c2 : Steps p.tables e below (s₁.setTop (entryFrame m #[.ref a, .ref b] 2)) (s₁.setTop (mkF m 6 #[.val (.ref a), .val (.ref b)] [.null, .int (Int32.ofNat A.slots.size), .int 0, .ref b, .ref a])) := c1.trans (by
    refine XS.aloadN X0.here hexec rfl (hb hbytes d0) rfl rfl ?_
    refine XS.aloadN X0.here hexec rfl (hb hbytes d1) rfl rfl ?_
    refine iconstV X0.here hexec rfl 0 (hb hbytes d2) (by decide) ?_
    refine XS.aloadN X0.here hexec rfl (hb hbytes d3) rfl rfl ?_
    refine X0.alen hexec (hA.1.mv X0.warmed.alike hh0) rfl rfl (hb hbytes d4) ?_
    refine XS.aconstNull X0.here hexec rfl (hb hbytes d5) ?_
    exact Steps.refl _)
  obtain ⟨v3, T3, X3, E3, g3⟩ := X0.callN hexec (New4.law l a D fV fC b A z 0 A.slots.size) rfl hown (wks W (initW "java/lang/String" 27 New4.yN)) (W New4.tab (by simp only [site, List.mem_cons, List.mem_append, true_or, or_true])) (W := 0) (Nat.le_of_ble_eq_true rfl) (Nat.le_of_ble_eq_true rfl) (Nat.le_refl _) (by show 0 + A.slots.size ≤ A.slots.size; omega) (g := (mkF m 6 #[.val (.ref a), .val (.ref b)] [.null, .int (Int32.ofNat A.slots.size), .int (Int32.ofNat 0), .ref b, .ref a])) rfl (by rw [hml]; rfl) c2 (argsL := [.ref b, .int (Int32.ofNat 0), .int (Int32.ofNat A.slots.size), .null]) (rest := []) rfl rfl (by show 2 * 0 + 0 ≤ _; decide) (hb hbytes d6) (⟨rfl, hB.mv X0.warmed.alike hh0, f1.al X0.warmed.alike, f2.al X0.warmed.alike, hA.mv X0.warmed.alike hh0, s1.there X0.warmed.alike hh0, hz, l0, by omega, l2, fun i hi => by rw [Nat.zero_add]; exact hp i hi⟩)
  have e0 := Got.mv _ s₁ s _ _ hh0.symm (Vm.Alike.refl _) rfl E3
  obtain rfl := e0.1
  have c4 : Steps p.tables e below (s₁.setTop (entryFrame m #[.ref a, .ref b] 2)) (T3.setTop (mkF m 9 #[.val (.ref a), .val (.ref b)] [])) := g3
  exact ⟨T3, none, _, _, _, X3, by simp, rfl, by omega, (fun _ => rfl), e0, fun fs hl => c4.trans (X3.returnOut hexec hret (hb hbytes d9) hl)⟩
theorem pays {l : Launch} {R : Room} {p : Program} {e : Env} {below : List Frame} {s : State} {sargs : Array Value} {len W : Nat} (a : Addr) (D : Cell) (fV fC : Field) (b : Addr) (A : Cell) (z : Int32) (htab : tab.before sargs s = true) (hfr : 4 ≤ R.frames) (hlo : W + 65 ≤ R.locals) :
    Back l R p e below s sargs yN len W (fun A₁ a₁ => A₁.cells + 1 ≤ R.cells ∧ A₁.slots + A.slots.size ≤ R.slots ∧ P a D fV fC b A z a₁ A₁.U) (fun A₁ _ v₁ B₁ => E a D fV fC A v₁ A₁.U B₁.U ∧ B₁.locs = A₁.locs ++ [⟨a, fC.slot⟩, ⟨a, fV.slot⟩] ∧ B₁.cells = A₁.cells + 1 ∧ B₁.slots = A₁.slots + A.slots.size) :=
  (law l a D fV fC b A z).pays htab hfr (by omega)
end New1
end StrChars
namespace StrChars.Road
open Jvm Sem ClassFile Op Lib Jvm.Stand Jvm.Free Jvm.Free.XT
open Jvm.Lib.Cold (StaticIs)
abbrev ST : String := "java/lang/String"
/-- every table word that New1's law asks, flat -/
abbrev words : List Jvm.Cond := [.code New1.yN New1.yB 2 none, .initialized ST, .methodLink ST 27 New4.yN, .instanceMethod New4.yN,
  .code New4.yN New4.yB 6 none, .fieldLink ST 38 ST "COMPACT_STRINGS" "Z", .laysFinal ST ST "value" "[B", .fieldLink ST 9 ST "value" "[B", .laysFinal ST ST "coder" "B", .fieldLink ST 15 ST "coder" "B",
  .methodLink ST 1 Lib.objectInit, .instanceMethod Lib.objectInit, .code Lib.objectInit ⟨#[0xb1]⟩ 1 none, .methodLink ST 177 Cmp3.yN, .static Cmp3.yN, .methodLink ST 47 CodL.yN, .static CodL.yN,
  .code Cmp3.yN Cmp3.yB 6 (some (.array .byte)), .initialized U16, .arrayClass .byte, .methodLink U16 115 Cmp5.yN, .static Cmp5.yN, .code Cmp5.yN Cmp5.yB 7 (some .int), .code CodL.yN CodL.yB 2 (some .byte)]
theorem tab_of {a : Array Value} {s : State} (h : ∀ w ∈ words, w.before a s = true) : New1.tab.before a s = true := by
  have h5 : Cmp5.tab.before a s = true := unparts (wk h (.code Cmp5.yN Cmp5.yB 7 (some .int))) (wks h (.initialized Cmp5.yN.cls :: Cmp5.site))
  have hc : CodL.tab.before a s = true := unparts (wk h (.code CodL.yN CodL.yB 2 (some .byte))) (wks h (.initialized CodL.yN.cls :: CodL.site))
  have q5 : ∀ w ∈ Cmp5.tab :: words, w.before a s = true := fun w hw => (List.mem_cons.mp hw).elim (fun e => e ▸ h5) (h w)
  have h3 : Cmp3.tab.before a s = true := unparts (wk q5 (.code Cmp3.yN Cmp3.yB 6 (some (.array .byte)))) (wks q5 (.initialized Cmp3.yN.cls :: Cmp3.site))
  have q3 : ∀ w ∈ Cmp3.tab :: CodL.tab :: words, w.before a s = true := fun w hw => (List.mem_cons.mp hw).elim (fun e => e ▸ h3) fun hw => (List.mem_cons.mp hw).elim (fun e => e ▸ hc) (h w)
  have h4 : New4.tab.before a s = true := unparts (wk q3 (.code New4.yN New4.yB 6 none)) (wks q3 (.initialized New4.yN.cls :: New4.site))
  have q4 : ∀ w ∈ New4.tab :: words, w.before a s = true := fun w hw => (List.mem_cons.mp hw).elim (fun e => e ▸ h4) (h w)
  exact unparts (wk q4 (.code New1.yN New1.yB 2 none)) (wks q4 (.initialized New1.yN.cls :: New1.site))
/-- the words ride from the start Z to the walk's own state -/
theorem moved {Z s : State} {a0 args : Array Value} (hZ : Z.Warmed39 s.vm) (hw : ∀ d ∈ words, d.before a0 Z = true) : ∀ d ∈ words, d.before args s = true := fun d hd => by
  have q := hw d hd
  have t : ∀ d ∈ words, d = .arrayClass .byte ∨ (d.onTables && d.keepsFace) = true := by decide +kernel
  rcases t d hd with rfl | t
  · exact RoadKit.mvA hZ q
  · exact RoadKit.mv hZ q t
/-- WHAT COMES BACK, over the tables of the start Z: h the heap at the call, h' behind it -/
def Q (Z : State) (x : Addr) (A : Cell) (h : Heap) (v : Option Value) (h' : Heap) (L : List Loc) : Prop := v = none ∧ (∀ y ∈ L, y.base = x) ∧ RoadKit.Keep h h' [x] ∧ h'.size = h.size + 1 ∧ RoadKit.Exa Z h' x ST ∧ RoadKit.Fld Z h' x ST "value" "[B" (.ref h.size) ∧ RoadKit.Fld Z h' x ST "coder" "B" (.int 0) ∧
  (∃ V : Cell, RoadKit.Arr Z h' h.size V .byte ∧ V.vm = .none ∧ Z.vm.findClass "[B" = some V.cls ∧ V.slots.size = A.slots.size ∧ ∀ j, j < A.slots.size → V.slots[j]? = some (.int (lo8 (cv A j)))) ∧
  ∀ (O n d : String) (w : Value), RoadKit.Fld Z h x O n d w → RoadKit.slotOf Z O n d ≠ RoadKit.slotOf Z ST "value" "[B" → RoadKit.slotOf Z O n d ≠ RoadKit.slotOf Z ST "coder" "B" → RoadKit.Fld Z h' x O n d w
/-- **new String(chars) AT A CALL, IN THE ROAD'S FORM**: for specialBack behind newO: x the fresh String, b the char[] with the cell A -/
theorem back {p : Program} {l : Launch} {e : Env} {R : Room} {s : State} {args : Array Value} {below : List Frame} {len W : Nat} {Z : State} {a0 : Array Value} {h : Heap} (hZ : Z.Warmed39 s.vm) (hw : ∀ d ∈ words, d.before a0 Z = true) {kI : Nat} (wi : (Jvm.Cond.instantiable ST kI).before a0 Z = true)
    {x b : Addr} {A : Cell} {z : Int32} {v0 c0 : Value} (E : RoadKit.Exa Z h x ST) (V : RoadKit.Fld Z h x ST "value" "[B" v0) (C : RoadKit.Fld Z h x ST "coder" "B" c0) (K : RoadKit.Arr Z h b A .char) (hty : Typed .char A) (S : RoadKit.Sta Z h ST "COMPACT_STRINGS" "Z" (.int z)) (hz : ¬ z = 0)
    (l0 : 0 < A.slots.size) (l2 : A.slots.size ≤ 536870912) (hp : ∀ i, i < A.slots.size → ¬ 255 < cv A i) (hfr : 4 ≤ R.frames) (hlo : W + 65 ≤ R.locals) :
    Back l R p e below s args New1.yN len W (fun P a => a = #[.ref x, .ref b] ∧ P.U.heap = h ∧ P.cells + 1 ≤ R.cells ∧ P.slots + A.slots.size ≤ R.slots)
      (fun P _ v B => ∃ L, Q Z x A h v B.U.heap L ∧ B.locs = P.locs ++ L ∧ B.cells = P.cells + 1 ∧ B.slots = P.slots + A.slots.size) := by
  intro m meth c P g ig mk a X hg hsize hdg hW hn hp'
  obtain ⟨rfl, rfl, r1, r2⟩ := hp'
  have al : Z.vm.Alike P.U.vm := hZ.alike.trans X.warmed.alike
  obtain ⟨D, cfV, kV, iV, fV, hD, gV, stV, knV, obV, asV, slV⟩ := id V
  obtain ⟨D', cfC, kC, iC, fC, hD', gC, stC, -, -, asC, slC⟩ := id C
  cases hD.symm.trans hD'
  obtain ⟨D2, kD, e1, e2, e3, e4, e5⟩ := id E
  cases hD.symm.trans e1
  obtain ⟨c2, k2, i1, i2, i3, -⟩ := Cond.instantiable_spec wi
  cases e2.symm.trans i1
  cases e3.symm.trans i2
  obtain ⟨kU, u1, u2⟩ := al.2.2 _ _ e3
  have hB : Blank ST x D P.U := ⟨hD, ⟨knV, fun q hq => by rw [hq] at obV; cases obV⟩, by rw [al.findClass]; exact e2, kU, u1, by rw [u2]; exact i3, by rw [u2]; exact e5 i3⟩
  have F1 : Found ST "value" "[B" fV P.U := ⟨SBG.found_only al ⟨cfV, kV, iV, gV⟩, stV⟩
  have F2 : Found ST "coder" "B" fC P.U := ⟨SBG.found_only al ⟨cfC, kC, iC, gC⟩, stC⟩
  have hA : Ch b A P.U := ⟨⟨K.1, State.isArrayOf_alike al K.2.1, K.2.2, by omega⟩, hty⟩
  have hS : StaticIs P.U ST "COMPACT_STRINGS" "Z" (.int z) := by
    obtain ⟨cfS, iS, kS, fS, st, cS, t1, t2, t3, t4, t5, t6, t7⟩ := S
    exact StaticIs.there (s := { Z with heap := P.U.heap }) ⟨cfS, iS, kS, fS, st, cS, t1, t2, t3, t4, t5, (fun q => by rw [q] at t6; cases t6), t7⟩ al rfl
  obtain ⟨v, B, X', ⟨⟨hv, E', V', q1, q2, q3, q4, q5, q6, q7, q8, q9, q10, q11⟩, hl, hc, hs⟩, st⟩ := New1.pays x D fV fC b A z (tab_of (moved hZ hw)) hfr hlo m meth c P g ig mk _ X hg hsize hdg hW hn ⟨r1, r2, rfl, hB, F1, F2, hA, hS, hz, l0, l2, hp⟩
  have al' : Z.vm.Alike B.U.vm := hZ.alike.trans X'.warmed.alike
  have hsz : E'.slots.size = D.slots.size := by
    obtain ⟨-, -, -, kB, w1, w2, w3⟩ := q1
    obtain ⟨kB', y1, y2⟩ := al'.2.2 _ _ e3
    rw [q2.2.1] at w1
    cases w1.symm.trans y1
    rw [w3, e5 i3, y2]
  refine ⟨v, B, X', ⟨_, ⟨hv, ?_, ⟨by omega, fun y cy hy hn' => q10 y cy (by simpa using hn') hy, fun y cy hy => ?_⟩, q11, ⟨E', _, q1.1, by rw [q2.2.1]; exact e2, by rw [q2.2.1]; exact e3, by rw [q2.1]; exact obV, fun _ => by rw [hsz]; exact e5 i3⟩,
    ⟨E', cfV, kV, iV, fV, q1.1, gV, stV, by rw [q2.1]; exact knV, by rw [q2.1]; exact obV, by rw [q2.2.1]; exact asV, q3⟩, ⟨E', cfC, kC, iC, fC, q1.1, gC, stC, by rw [q2.1]; exact knV, by rw [q2.1]; exact obV, by rw [q2.2.1]; exact asC, q4⟩,
    ⟨V', ⟨q5.1, State.isArrayOf_alike al'.symm q5.2.1, q5.2.2.1⟩, q6, by rw [← al'.findClass]; exact q7, q8, fun j hj => by have := q9 j hj; rwa [Nat.zero_add] at this⟩, fun O n d w F n1 n2 => ?_⟩, hl, hc, hs⟩, st⟩
  · intro y hy
    simp only [List.mem_cons, List.not_mem_nil, or_false] at hy
    rcases hy with rfl | rfl <;> rfl
  · by_cases q : y = x
    · subst q
      cases hD.symm.trans hy
      exact ⟨E', q1.1, q2.2.1, q2.1, hsz⟩
    · exact ⟨cy, q10 y cy q hy, rfl, rfl, rfl⟩
  · obtain ⟨D3, cf, k, i, f, g1, g2, g3, g4, g5, g6, g7⟩ := F
    cases hD.symm.trans g1
    simp only [RoadKit.slotOf, g2, gV, gC, Option.map_some, Option.getD_some] at n1 n2
    exact ⟨E', cf, k, i, f, q1.1, g2, g3, by rw [q2.1]; exact g4, by rw [q2.1]; exact g5, by rw [q2.2.1]; exact g6, by rw [q2.2.2 f.slot (by simp [n1, n2])]; exact g7⟩
end StrChars.Road
namespace StrChars.Road
open Jvm Sem ClassFile Op Lib Jvm.Stand Jvm.Free Jvm.Free.XT
/-- WHAT COMES BACK, the byte[] as a list of values -/
def QA (Z : State) (x : Addr) (zn : Int32) (cs : List Int32) (h : Heap) (v : Option Value) (h' : Heap) (L : List Loc) : Prop := v = none ∧ (∀ y ∈ L, y.base = x) ∧ RoadKit.Keep h h' [x] ∧ h'.size = h.size + 1 ∧ RoadKit.Exa Z h' x ST ∧ RoadKit.Fld Z h' x ST "value" "[B" (.ref h.size) ∧ RoadKit.Fld Z h' x ST "coder" "B" (.int 0) ∧
  (∃ kb, Z.vm.findClass "[B" = some kb ∧ RoadKit.Arv Z h' h.size kb .byte zn (cs.map fun c => .int (lo8 c)) (.int 0)) ∧
  ∀ (O n d : String) (w : Value), RoadKit.Fld Z h x O n d w → RoadKit.slotOf Z O n d ≠ RoadKit.slotOf Z ST "value" "[B" → RoadKit.slotOf Z O n d ≠ RoadKit.slotOf Z ST "coder" "B" → RoadKit.Fld Z h' x O n d w
/-- **new String(chars) AT A CALL, THE ARRAYS AS LISTS**: the char[] at b holds cs, not empty, no char above 255 -/
theorem backArv {p : Program} {l : Launch} {e : Env} {R : Room} {s : State} {args : Array Value} {below : List Frame} {len W : Nat} {Z : State} {a0 : Array Value} {h : Heap} (hZ : Z.Warmed39 s.vm) (hw : ∀ d ∈ words, d.before a0 Z = true) {kI : Nat} (wi : (Jvm.Cond.instantiable ST kI).before a0 Z = true)
    {x b : Addr} {k : ClassId} {zn z : Int32} {cs : List Int32} {dv v0 c0 : Value} (E : RoadKit.Exa Z h x ST) (V : RoadKit.Fld Z h x ST "value" "[B" v0) (C : RoadKit.Fld Z h x ST "coder" "B" c0) (K : RoadKit.Arv Z h b k .char zn (cs.map Value.int) dv) (S : RoadKit.Sta Z h ST "COMPACT_STRINGS" "Z" (.int z)) (hz : ¬ z = 0)
    (hlen : zn.toNatClampNeg = cs.length) (h0 : 0 < cs.length) (hbig : cs.length ≤ 536870912) (hall : ∀ c ∈ cs, ¬ 255 < c) (hfr : 4 ≤ R.frames) (hlo : W + 65 ≤ R.locals) :
    Back l R p e below s args New1.yN len W (fun P a => a = #[.ref x, .ref b] ∧ P.U.heap = h ∧ P.cells + 1 ≤ R.cells ∧ P.slots + cs.length ≤ R.slots)
      (fun P _ v B => ∃ L, QA Z x zn cs h v B.U.heap L ∧ B.locs = P.locs ++ L ∧ B.cells = P.cells + 1 ∧ B.slots = P.slots + cs.length) := by
  obtain ⟨A, K1, K2, K3, K4, K5, K6⟩ := K
  have e : A.slots.size = cs.length := K3.trans hlen
  have hat : ∀ (i : Nat) (hi : i < cs.length), A.slots[i]? = some (.int cs[i]) := fun i hi => by rw [K5 i (by omega)]; simp [List.getD_eq_getElem?_getD, hi]
  have hcv : ∀ (i : Nat) (hi : i < cs.length), cv A i = cs[i] := fun i hi => by unfold cv; rw [hat i hi]
  have hty : Typed .char A := fun i v hv => by
    have hi : i < A.slots.size := (Array.getElem?_eq_some_iff.mp hv).1
    have q := K5 i hi
    rw [hv] at q
    rw [Option.some.inj q]
    exact K6 i hi
  refine Back.mono (back hZ hw wi E V C K1 hty S hz (by omega) (by omega) (fun i hi => by rw [hcv i (by omega)]; exact hall _ (List.getElem_mem _)) hfr hlo) (fun P a hp => ⟨hp.1, hp.2.1, hp.2.2.1, by rw [e]; exact hp.2.2.2⟩) (fun P a v B hp hq => ?_)
  obtain ⟨L, ⟨q1, q2, q3, q4, q5, q6, q7, ⟨V', v1, v2, v3, v4, v5⟩, q9⟩, hl, hc, hs⟩ := hq
  refine ⟨L, ⟨q1, q2, q3, q4, q5, q6, q7, ⟨V'.cls, v3, V', v1, rfl, by rw [v4, e, hlen], K4, fun i hi => ?_, fun i hi => ?_⟩, q9⟩, hl, hc, by rw [hs, e]⟩
  · have hi' : i < cs.length := by omega
    rw [v5 i (by omega), hcv i hi']; simp [List.getD_eq_getElem?_getD, hi']
  · have hi' : i < cs.length := by omega
    simp only [List.getD_eq_getElem?_getD, List.getElem?_map, List.getElem?_eq_getElem hi', Option.map_some, Option.getD_some]
    exact fits_lo8 _
end StrChars.Road
namespace StrChars.Road
open Jvm Sem ClassFile Op Lib Jvm.Stand Jvm.Free Jvm.Free.XT
/-- WHAT COMES BACK, in the writer's own shape -/
def QV (Z : State) (x : Addr) (N : Int32) (bs : List Int32) (h : Heap) (n0 : Nat) (v : Option Value) (h' : Heap) (L : List Loc) : Prop := v = none ∧ RoadKit.Fr n0 L ∧ RoadKit.Keep h h' [x] ∧ RoadKit.Exa Z h' x ST ∧ RoadKit.Fld Z h' x ST "coder" "B" (.int 0) ∧
  ∃ (t : Addr) (kb : ClassId), n0 ≤ t ∧ h.size ≤ t ∧ ¬ t = x ∧ RoadKit.Fld Z h' x ST "value" "[B" (.ref t) ∧ RoadKit.Arv Z h' t kb .byte N (bs.map Value.int) (.int 0)
/-- **new String(chars) AT A CALL, FOR THE WRITER**: a char[] of n known ints, each 0 to 255 -/
theorem backV {p : Program} {l : Launch} {e : Env} {R : Room} {s : State} {args : Array Value} {below : List Frame} {len W : Nat} {Z : State} {a0 : Array Value} {h : Heap} (hZ : Z.Warmed39 s.vm) (hw : ∀ d ∈ words, d.before a0 Z = true) {kI : Nat} (wi : (Jvm.Cond.instantiable ST kI).before a0 Z = true)
    {x b : Addr} {kC : ClassId} {cs bs : List Int32} {d v0 c0 : Value} {z N : Int32} {n n0 : Nat} (hx0 : n0 ≤ x) (hh0 : n0 ≤ h.size) (E : RoadKit.Exa Z h x ST) (V : RoadKit.Fld Z h x ST "value" "[B" v0) (C : RoadKit.Fld Z h x ST "coder" "B" c0) (K : RoadKit.Arv Z h b kC .char N (cs.map Value.int) d) (S : RoadKit.Sta Z h ST "COMPACT_STRINGS" "Z" (.int z)) (hz : ¬ z = 0)
    (hn : cs.length = n) (hN : N = Int32.ofNat n) (l0 : 0 < n) (l2 : n ≤ 4000) (hp : ∀ c ∈ cs, ¬ c < 0 ∧ ¬ (255 : Int32) < c) (hb : bs = cs.map (fun c => c.toInt8.toInt32)) (hfr : 4 ≤ R.frames) (hlo : W + 65 ≤ R.locals) :
    Back l R p e below s args (⟨"java/lang/String", "<init>", "([C)V"⟩ : MethodName) len W (fun P a => a = #[.ref x, .ref b] ∧ P.U.heap = h ∧ P.cells + 1 ≤ R.cells ∧ P.slots + n ≤ R.slots)
      (fun P _ v B => ∃ L, QV Z x N bs h n0 v B.U.heap L ∧ B.locs = P.locs ++ L ∧ B.cells = P.cells + 1 ∧ B.slots = P.slots + n) := by
  subst hn hN hb
  refine Back.mono (backArv hZ hw wi E V C K S hz (n32 (by omega)) l0 (by omega) (fun c hc => (hp c hc).2) hfr hlo) (fun P a hp => hp) (fun P a v B hp hq => ?_)
  obtain ⟨L, ⟨q1, q2, q3, q4, q5, q6, q7, ⟨kb, v1, v2⟩, q9⟩, hl, hc, hs⟩ := hq
  exact ⟨L, ⟨q1, fun y hy => by rw [q2 y hy]; exact hx0, q3, q5, q7, h.size, kb, hh0, Nat.le_refl _, Nat.ne_of_gt E.lt, q6, by rw [List.map_map]; exact v2⟩, hl, hc, hs⟩
end StrChars.Road
end Jvm.Pilot.@@N@@

namespace Jvm.Pilot.@@N@@
open Jvm Jvm.ClassFile Sem Op Lib Jvm.Free Jvm.Stand Jvm.LawKit Jvm.RoadKit Bundle Jvm.Pilot.@@N@@.Jvm.D
section OwnKit
variable {p : Program} {l : Launch} {e : Env} {R : Room} {s : State} {m : MethodId} {args : Array Value} {below : List Frame} {meth : Method} {c : Code} {T T' : State} {locs : List Loc} {cells slots : Nat} {Z : State} {a0 : Array Value} {h h0 : Heap} {Q : Option Value → Heap → List Loc → Prop} {kc ks : Nat} {f f' : JFrame}
/-- from T with the frame f on top the run ends as Q says -/
def own_Ends (p : Program) (e : Env) (below : List Frame) (s : State) (Q : Option Value → Heap → List Loc → Prop) (kc ks : Nat) (T : State) (f : JFrame) : Prop :=
  ∃ s₂ o, Steps p.tables e below (T.setTop f) s₂ ∧ s₂.status = .running ∧ Ended s₂ below o ∧ ∃ v L, o = .returned v ∧ Q v s₂.heap L ∧ FrameEnd s o s₂ L kc ks
theorem own_go (st : ∀ target, Steps p.tables e below (T'.setTop f') target → Steps p.tables e below (T.setTop f) target) (k : own_Ends p e below s Q kc ks T' f') : own_Ends p e below s Q kc ks T f := by
  obtain ⟨s₂, o, h1, r⟩ := k
  exact ⟨s₂, o, st _ h1, r⟩
theorem own_fin (X : Stand p l e R s m args below meth c T locs cells slots) (v : Option Value) (hlk : meth.locks = false) (hv : meth.sig.returnType = none → v = none)
    (st : ∀ fs, (∀ (f : JFrame) (acts : List Action), f.method = m → f.locked = none → f.entered = [] → (doReturn e (T.setTop f) acts v).1 = T.setFrames fs) → Steps p.tables e below (T.setTop f) (T.setFrames fs))
    (eT : T.heap = h) (hQ : Q v h locs) (hc : cells ≤ kc) (hs : slots ≤ ks) : own_Ends p e below s Q kc ks T f := by
  subst eT
  obtain ⟨fs, hr, hrun, hended, hW, hsame⟩ := X.leave (v := v) hv hlk
  exact ⟨_, _, st fs hr, hrun, hended, v, locs, rfl, hQ, ⟨_, rfl⟩, hW, hsame.mono hc hs⟩
theorem own_retN (X : Stand p l e R s m args below meth c T locs cells slots) (hx : p.tables.exec = Jvm.exec) (hlk : meth.locks = false) {pc : Nat} {Ls : Array Slot} {z : Int32} {t : FieldType} {rest : List Value} (hret : meth.sig.returnType = some t) (ht : t = .boolean ∨ t = .byte ∨ t = .char ∨ t = .short)
    (hd : decode c.code pc = .ok (.ireturn, 1)) (eT : T.heap = h) (hc : cells ≤ kc) (hs : slots ≤ ks) (hQ : Q (some (.int (nar t z))) h locs) : own_Ends p e below s Q kc ks T (mkF m pc Ls (.int z :: rest)) :=
  own_fin X _ hlk (fun q => by rw [hret] at q; cases q) (fun fs hr => Jvm.RoadKit.retN X hx hret ht hd hr) eT hQ hc hs
theorem own_retI (X : Stand p l e R s m args below meth c T locs cells slots) (hx : p.tables.exec = Jvm.exec) (hlk : meth.locks = false) {pc : Nat} {Ls : Array Slot} {z : Int32} {rest : List Value} (hret : meth.sig.returnType = some .int)
    (hd : decode c.code pc = .ok (.ireturn, 1)) (eT : T.heap = h) (hc : cells ≤ kc) (hs : slots ≤ ks) (hQ : Q (some (.int z)) h locs) : own_Ends p e below s Q kc ks T (mkF m pc Ls (.int z :: rest)) :=
  own_fin X _ hlk (fun q => by rw [hret] at q; cases q) (fun fs hr => Jvm.RoadKit.retOut X hx hret rfl (Or.inl ⟨rfl, Or.inl rfl, _, rfl⟩) hd hr) eT hQ hc hs
theorem own_retJ (X : Stand p l e R s m args below meth c T locs cells slots) (hx : p.tables.exec = Jvm.exec) (hlk : meth.locks = false) {pc : Nat} {Ls : Array Slot} {z : Int64} {rest : List Value} (hret : meth.sig.returnType = some .long)
    (hd : decode c.code pc = .ok (.lreturn, 1)) (eT : T.heap = h) (hc : cells ≤ kc) (hs : slots ≤ ks) (hQ : Q (some (.long z)) h locs) : own_Ends p e below s Q kc ks T (mkF m pc Ls (.long z :: rest)) :=
  own_fin X _ hlk (fun q => by rw [hret] at q; cases q) (fun fs hr => Jvm.RoadKit.retOut X hx hret rfl (Or.inr (Or.inl ⟨rfl, rfl, _, rfl⟩)) hd hr) eT hQ hc hs
theorem own_retD (X : Stand p l e R s m args below meth c T locs cells slots) (hx : p.tables.exec = Jvm.exec) (hlk : meth.locks = false) {pc : Nat} {Ls : Array Slot} {z : UInt64} {rest : List Value} (hret : meth.sig.returnType = some .double)
    (hd : decode c.code pc = .ok (.dreturn, 1)) (eT : T.heap = h) (hc : cells ≤ kc) (hs : slots ≤ ks) (hQ : Q (some (.double z)) h locs) : own_Ends p e below s Q kc ks T (mkF m pc Ls (.double z :: rest)) :=
  own_fin X _ hlk (fun q => by rw [hret] at q; cases q) (fun fs hr => Jvm.RoadKit.retOut X hx hret rfl (Or.inr (Or.inr (Or.inl ⟨rfl, rfl, _, rfl⟩))) hd hr) eT hQ hc hs
theorem own_narR {t : FieldType} {v : Value} (ht : t.isReference = true) : narrow t v = v := by cases t <;> first | (cases ht; done) | (cases v <;> rfl)
theorem own_retR (X : Stand p l e R s m args below meth c T locs cells slots) (hx : p.tables.exec = Jvm.exec) (hlk : meth.locks = false) {pc : Nat} {Ls : Array Slot} {v : Value} {t : FieldType} {rest : List Value} (hret : meth.sig.returnType = some t) (ht : t.isReference = true) (hv : v.isRef = true)
    (hd : decode c.code pc = .ok (.areturn, 1)) (eT : T.heap = h) (hc : cells ≤ kc) (hs : slots ≤ ks) (hQ : Q (some v) h locs) : own_Ends p e below s Q kc ks T (mkF m pc Ls (v :: rest)) :=
  own_fin X _ hlk (fun q => by rw [hret] at q; cases q) (fun fs hr => Jvm.RoadKit.retOut X hx hret (own_narR ht) (Or.inr (Or.inr (Or.inr (Or.inr ⟨rfl, ht, hv⟩)))) hd hr) eT hQ hc hs
theorem own_retV (X : Stand p l e R s m args below meth c T locs cells slots) (hx : p.tables.exec = Jvm.exec) (hlk : meth.locks = false) {pc : Nat} {Ls : Array Slot} (hret : meth.sig.returnType = none)
    (hd : decode c.code pc = .ok (.return_, 1)) (eT : T.heap = h) (hc : cells ≤ kc) (hs : slots ≤ ks) (hQ : Q none h locs) : own_Ends p e below s Q kc ks T (mkF m pc Ls []) :=
  own_fin X none hlk (fun _ => rfl) (fun fs hr => X.returnOut hx hret hd hr) eT hQ hc hs
/-- a body's contract: called with the arguments as' on the heap h0, over tables warmer than Z's, it returns as Q says -/
abbrev own_Met (l : Launch) (y : MethodName) (bytes : ByteArray) (maxL : Nat) (ret : Option FieldType) (rm : Room) (ws : List Jvm.Cond) (as' : Array Value) (Z : State) (h0 : Heap) (Q : Option Value → Heap → List Loc → Prop) : Prop :=
  MetFree l y (head1 (Jvm.Cond.code y bytes maxL ret :: ws) rm) (fun a U => a = as' ∧ Z.Warmed39 U.vm ∧ U.heap = h0) (fun _ _ _ _ _ => True) (fun _ U o U' => ∃ v L, o = .returned v ∧ Q v U'.heap L ∧ FrameEnd U o U' L rm.cells rm.slots)
theorem own_met {y : MethodName} {bytes : ByteArray} {maxL : Nat} {ret : Option FieldType} {rm : Room} {ws : List Jvm.Cond} {as' : Array Value} (hy : plainFor y = true)
    (body : ∀ (p : Program) (e : Env) (s : State) (m : MethodId) (below : List Frame) (meth : Method) (c : Code) (s₁ : State), p.tables.exec = Jvm.exec → Stand p l e rm s m as' below meth c s₁ [] 0 0 → Z.Warmed39 s.vm → s₁.heap = h0 → c.code = bytes → c.maxLocals = maxL →
      s.vm.findClass y.cls = some m.cls → meth.name = y.name → meth.sig.returnType = ret → meth.locks = false → own_Ends p e below s Q rm.cells rm.slots s₁ (entryFrame m as' maxL)) :
    own_Met l y bytes maxL ret rm ws as' Z h0 Q := by
  refine MetFree.of_bodySF hy hisR ?_
  intro p e s m args below meth c s₁ Bd hml0 hP hK
  obtain ⟨rfl, hZ, hh⟩ := hP
  exact body p e s m below meth c s₁ Bd.exec (Stand.of_body Bd) hZ (by rw [← hh, Bd.state]; rfl) Bd.bytes hml0 (findClass_of_methodNamed Bd.named) (name_of_methodNamed Bd.named Bd.method).1 Bd.returns Bd.notSynchronized
theorem own_at {f f' : JFrame} (q : f = f') (k : own_Ends p e below s Q kc ks T f') : own_Ends p e below s Q kc ks T f := q ▸ k
/-- a static call -/
theorem own_callS (X : Stand p l e R s m args below meth c T locs cells slots) (hx : p.tables.exec = Jvm.exec) (hZ : Z.Warmed39 s.vm) {own : String} {index : Nat} {y : MethodName} {bytes : ByteArray} {maxL : Nat} {ret : Option FieldType} {rm : Room} {as' : Array Value} {Q' : Option Value → Heap → List Loc → Prop}
    (hown : s.vm.findClass own = some m.cls) (w1 : (Jvm.Cond.methodLink own index y).before a0 Z = true) (w2 : (Jvm.Cond.static y).before a0 Z = true) (w3 : (Jvm.Cond.initialized y.cls).before a0 Z = true) (w4 : (Jvm.Cond.code y bytes maxL ret).before a0 Z = true)
    (hy : y.cls ≠ "java/lang/invoke/MethodHandle" ∧ y.cls ≠ "java/lang/invoke/VarHandle") (hM : own_Met l y bytes maxL ret rm [] as' Z h Q') (eT : T.heap = h) {g : JFrame} (hg : g.method = m) (hsize : g.locals.size = c.maxLocals) (argsL rest : List Value) (has : argsL.toArray = as')
    (hlen : ∀ sig, parseMethodDescriptor y.desc = some sig → argsL.length = sig.parameters.length) (hstack : g.stack = argsL.reverse ++ rest) (W : Nat) (hW : 2 * g.monitorRoom + (rest.map fun v => v.category).sum ≤ W) (hdg : decode c.code g.pc = .ok (.invokestatic index, 3))
    (hf : rm.frames + 1 ≤ R.frames) (hl : W + (maxL + 11) + rm.locals ≤ R.locals) (hc : cells + rm.cells ≤ R.cells) (hs : slots + rm.slots ≤ R.slots) :
    ∃ (T' : State) (v : Option Value) (L : List Loc), Stand p l e R s m args below meth c T' (locs ++ L) (cells + rm.cells) (slots + rm.slots) ∧ Q' v T'.heap L ∧ ∀ target, Steps p.tables e below (T'.setTop { g with pc := g.pc + 3, stack := v.toList ++ rest }) target → Steps p.tables e below (T.setTop g) target := by
  obtain ⟨v, vm1, ⟨T1, L1, k1, n1⟩, -, X1, ⟨Lc, hQ, l1, y1, z1⟩, st⟩ := Jvm.LawKit.callS X hx hown (mvT hZ w1) (mvT hZ w2) (mvT hZ w3) (mvT hZ w4) hy (backOf (W := W) hM hZ w4 w3 hf hl) hg hsize hlen hstack hW hdg (fun _ _ => ⟨has, eT, hc, hs⟩)
  dsimp only [Pt.U, Pt.locs, Pt.cells, Pt.slots] at X1 l1 y1 z1 st hQ
  subst l1 y1 z1
  exact ⟨T1, v, Lc, X1, hQ, st⟩
/-- a constructor -/
theorem own_callN (X : Stand p l e R s m args below meth c T locs cells slots) (hx : p.tables.exec = Jvm.exec) (hZ : Z.Warmed39 s.vm) {own : String} {index : Nat} {y : MethodName} {bytes : ByteArray} {maxL : Nat} {rm : Room} {as' : Array Value} {Q' : Option Value → Heap → List Loc → Prop}
    (hy1 : y.name = "<init>") (hown : s.vm.findClass own = some m.cls) (w1 : (Jvm.Cond.methodLink own index y).before a0 Z = true) (w2 : (Jvm.Cond.instanceMethod y).before a0 Z = true) (w3 : (Jvm.Cond.initialized y.cls).before a0 Z = true) (w4 : (Jvm.Cond.code y bytes maxL none).before a0 Z = true)
    (hy : y.cls ≠ "java/lang/invoke/MethodHandle" ∧ y.cls ≠ "java/lang/invoke/VarHandle") (hM : own_Met l y bytes maxL none rm [] as' Z h Q') (eT : T.heap = h) {g : JFrame} (hg : g.method = m) (hsize : g.locals.size = c.maxLocals) (b : Addr) (argsL rest : List Value) (has : (.ref b :: argsL).toArray = as')
    (hlen : ∀ sig, parseMethodDescriptor y.desc = some sig → argsL.length = sig.parameters.length) (hstack : g.stack = argsL.reverse ++ .ref b :: rest) (W : Nat) (hW : 2 * g.monitorRoom + (rest.map fun v => v.category).sum ≤ W) (hdg : decode c.code g.pc = .ok (.invokespecial index, 3))
    (hf : rm.frames + 1 ≤ R.frames) (hl : W + (maxL + 11) + rm.locals ≤ R.locals) (hc : cells + rm.cells ≤ R.cells) (hs : slots + rm.slots ≤ R.slots) :
    ∃ (T' : State) (v : Option Value) (L : List Loc), Stand p l e R s m args below meth c T' (locs ++ L) (cells + rm.cells) (slots + rm.slots) ∧ Q' v T'.heap L ∧ ∀ target, Steps p.tables e below (T'.setTop { g with pc := g.pc + 3, stack := v.toList ++ rest }) target → Steps p.tables e below (T.setTop g) target := by
  obtain ⟨v, vm1, ⟨T1, L1, k1, n1⟩, -, X1, ⟨Lc, hQ, l1, y1, z1⟩, st⟩ := X.specialBack hx hy1 hown (mvT hZ w1) (mvT hZ w2) (mvT hZ w4) hy (backOf (W := W) hM hZ w4 w3 hf hl) hg hsize (Steps.refl _) (a := b) hlen hstack hW hdg (fun _ _ => ⟨has, eT, hc, hs⟩)
  dsimp only [Pt.U, Pt.locs, Pt.cells, Pt.slots] at X1 l1 y1 z1 st hQ
  subst l1 y1 z1
  exact ⟨T1, v, Lc, X1, hQ, fun t k => st.trans k⟩
/-- a virtual call: y resolved, z selected by the class C -/
theorem own_callV (X : Stand p l e R s m args below meth c T locs cells slots) (hx : p.tables.exec = Jvm.exec) (hZ : Z.Warmed39 s.vm) {own C : String} {index : Nat} {y z : MethodName} {bytes : ByteArray} {maxL : Nat} {ret : Option FieldType} {rm : Room} {as' : Array Value} {Q' : Option Value → Heap → List Loc → Prop}
    (hown : s.vm.findClass own = some m.cls) (w1 : (Jvm.Cond.methodLink own index y).before a0 Z = true) (w2 : (Jvm.Cond.declares y).before a0 Z = true) (hnf : NotFace s y) (w5 : (Jvm.Cond.selects C y z).before a0 Z = true) (w6 : (Jvm.Cond.instanceMethod z).before a0 Z = true)
    (w3 : (Jvm.Cond.initialized z.cls).before a0 Z = true) (w4 : (Jvm.Cond.code z bytes maxL ret).before a0 Z = true)
    (hy : y.cls ≠ "java/lang/invoke/MethodHandle" ∧ y.cls ≠ "java/lang/invoke/VarHandle") (hM : own_Met l z bytes maxL ret rm [] as' Z h Q') (eT : T.heap = h) {g : JFrame} (hg : g.method = m) (hsize : g.locals.size = c.maxLocals) (b : Addr) (hE : Exa Z h b C) (argsL rest : List Value) (has : (.ref b :: argsL).toArray = as')
    (hlen : ∀ sig, parseMethodDescriptor y.desc = some sig → argsL.length = sig.parameters.length) (hstack : g.stack = argsL.reverse ++ .ref b :: rest) (W : Nat) (hW : 2 * g.monitorRoom + (rest.map fun v => v.category).sum ≤ W) (hdg : decode c.code g.pc = .ok (.invokevirtual index, 3))
    (hf : rm.frames + 1 ≤ R.frames) (hl : W + (maxL + 11) + rm.locals ≤ R.locals) (hc : cells + rm.cells ≤ R.cells) (hs : slots + rm.slots ≤ R.slots) :
    ∃ (T' : State) (v : Option Value) (L : List Loc), Stand p l e R s m args below meth c T' (locs ++ L) (cells + rm.cells) (slots + rm.slots) ∧ Q' v T'.heap L ∧ ∀ target, Steps p.tables e below (T'.setTop { g with pc := g.pc + 3, stack := v.toList ++ rest }) target → Steps p.tables e below (T.setTop g) target := by
  obtain ⟨cq, kq, qa, qb, qc⟩ := isOf hZ eT hE
  obtain ⟨v, vm1, ⟨T1, L1, k1, n1⟩, -, X1, ⟨Lc, hQ, l1, y1, z1⟩, st⟩ := X.virtualBack hx hown (mvT hZ w1) (mvT hZ w2) hnf (mvT hZ w5) (mvT hZ w6) hy (backOf (W := W) hM hZ w4 w3 hf hl) qa qc hg hsize (Steps.refl _) hlen hstack hW hdg (fun _ _ => ⟨has, eT, hc, hs⟩)
  dsimp only [Pt.U, Pt.locs, Pt.cells, Pt.slots] at X1 l1 y1 z1 st hQ
  subst l1 y1 z1
  exact ⟨T1, v, Lc, X1, hQ, fun t k => st.trans k⟩
/-- a virtual call whose method is declared further up, by the class 'owner' -/
theorem own_callVU (X : Stand p l e R s m args below meth c T locs cells slots) (hx : p.tables.exec = Jvm.exec) (hZ : Z.Warmed39 s.vm) {own C owner : String} {index : Nat} {y z : MethodName} {bytes : ByteArray} {maxL : Nat} {ret : Option FieldType} {rm : Room} {as' : Array Value} {Q' : Option Value → Heap → List Loc → Prop}
    (hown : s.vm.findClass own = some m.cls) (w1 : (Jvm.Cond.methodLink own index y).before a0 Z = true) (w2 : (Jvm.Cond.sameMethod y.cls owner y.name y.desc).before a0 Z = true) (w7 : (Jvm.Cond.declares ⟨owner, y.name, y.desc⟩).before a0 Z = true) (w5 : (Jvm.Cond.selects C y z).before a0 Z = true) (w6 : (Jvm.Cond.instanceMethod z).before a0 Z = true)
    (w3 : (Jvm.Cond.initialized z.cls).before a0 Z = true) (w4 : (Jvm.Cond.code z bytes maxL ret).before a0 Z = true)
    (hy : owner ≠ "java/lang/invoke/MethodHandle" ∧ owner ≠ "java/lang/invoke/VarHandle") (hM : own_Met l z bytes maxL ret rm [] as' Z h Q') (eT : T.heap = h) {g : JFrame} (hg : g.method = m) (hsize : g.locals.size = c.maxLocals) (b : Addr) (hE : Exa Z h b C) (argsL rest : List Value) (has : (.ref b :: argsL).toArray = as')
    (hlen : ∀ sig, parseMethodDescriptor y.desc = some sig → argsL.length = sig.parameters.length) (hstack : g.stack = argsL.reverse ++ .ref b :: rest) (W : Nat) (hW : 2 * g.monitorRoom + (rest.map fun v => v.category).sum ≤ W) (hdg : decode c.code g.pc = .ok (.invokevirtual index, 3))
    (hf : rm.frames + 1 ≤ R.frames) (hl : W + (maxL + 11) + rm.locals ≤ R.locals) (hc : cells + rm.cells ≤ R.cells) (hs : slots + rm.slots ≤ R.slots) :
    ∃ (T' : State) (v : Option Value) (L : List Loc), Stand p l e R s m args below meth c T' (locs ++ L) (cells + rm.cells) (slots + rm.slots) ∧ Q' v T'.heap L ∧ ∀ target, Steps p.tables e below (T'.setTop { g with pc := g.pc + 3, stack := v.toList ++ rest }) target → Steps p.tables e below (T.setTop g) target := by
  obtain ⟨cq, kq, qa, qb, qc⟩ := isOf hZ eT hE
  obtain ⟨v, vm1, ⟨T1, L1, k1, n1⟩, -, X1, ⟨Lc, hQ, l1, y1, z1⟩, st⟩ := X.virtualBackUp hx hown (mvT hZ w1) (mvT hZ w2) (mvT hZ w7) hy (mvT hZ w5) (mvT hZ w6) (backOf (W := W) hM hZ w4 w3 hf hl) qa qc hg hsize (Steps.refl _) hlen hstack hW hdg (fun _ _ => ⟨has, eT, hc, hs⟩)
  dsimp only [Pt.U, Pt.locs, Pt.cells, Pt.slots] at X1 l1 y1 z1 st hQ
  subst l1 y1 z1
  exact ⟨T1, v, Lc, X1, hQ, fun t k => st.trans k⟩
/-- calls by a 'Back' -/
theorem own_callNB (X : Stand p l e R s m args below meth c T locs cells slots) (hx : p.tables.exec = Jvm.exec) (hZ : Z.Warmed39 s.vm) {own : String} {index : Nat} {y : MethodName} {bytes : ByteArray} {maxL : Nat} {as' : Array Value} {Q' : Option Value → Heap → List Loc → Prop} {W rc rs : Nat}
    (hy1 : y.name = "<init>") (hown : s.vm.findClass own = some m.cls) (w1 : (Jvm.Cond.methodLink own index y).before a0 Z = true) (w2 : (Jvm.Cond.instanceMethod y).before a0 Z = true) (w4 : (Jvm.Cond.code y bytes maxL none).before a0 Z = true)
    (hy : y.cls ≠ "java/lang/invoke/MethodHandle" ∧ y.cls ≠ "java/lang/invoke/VarHandle")
    (hK : Back l R p e below s args y 3 W (fun A a => a = as' ∧ A.U.heap = h ∧ A.cells + rc ≤ R.cells ∧ A.slots + rs ≤ R.slots) (fun A _ v B => ∃ L, Q' v B.U.heap L ∧ B.locs = A.locs ++ L ∧ B.cells = A.cells + rc ∧ B.slots = A.slots + rs))
    (eT : T.heap = h) {g : JFrame} (hg : g.method = m) (hsize : g.locals.size = c.maxLocals) (b : Addr) (argsL rest : List Value) (has : (.ref b :: argsL).toArray = as')
    (hlen : ∀ sig, parseMethodDescriptor y.desc = some sig → argsL.length = sig.parameters.length) (hstack : g.stack = argsL.reverse ++ .ref b :: rest) (hW : 2 * g.monitorRoom + (rest.map fun v => v.category).sum ≤ W) (hdg : decode c.code g.pc = .ok (.invokespecial index, 3))
    (hc : cells + rc ≤ R.cells) (hs : slots + rs ≤ R.slots) :
    ∃ (T' : State) (v : Option Value) (L : List Loc), Stand p l e R s m args below meth c T' (locs ++ L) (cells + rc) (slots + rs) ∧ Q' v T'.heap L ∧ ∀ target, Steps p.tables e below (T'.setTop { g with pc := g.pc + 3, stack := v.toList ++ rest }) target → Steps p.tables e below (T.setTop g) target := by
  obtain ⟨v, vm1, ⟨T1, L1, k1, n1⟩, -, X1, ⟨Lc, hQ, l1, y1, z1⟩, st⟩ := X.specialBack hx hy1 hown (mvT hZ w1) (mvT hZ w2) (mvT hZ w4) hy hK hg hsize (Steps.refl _) (a := b) hlen hstack hW hdg (fun _ _ => ⟨has, eT, hc, hs⟩)
  dsimp only [Pt.U, Pt.locs, Pt.cells, Pt.slots] at X1 l1 y1 z1 st hQ
  subst l1 y1 z1
  exact ⟨T1, v, Lc, X1, hQ, fun t k => st.trans k⟩
theorem own_fldI {t : Jvm.Term} {a : Addr} {C n d : String} {k : Int32} (ev : t.eval args s none [] s = some (.ref a)) (hq : (Jvm.Cond.eq (Jvm.Term.field t C n d) (Jvm.Term.int k)).value args s none s [] = some true) : Fld s s.heap a C n d (.int k) := by
  obtain ⟨x, y, e1, e2, k1, -⟩ := cmp_v (Or.inl hq)
  have e2' : y = .int k := by have := e2; simp only [Jvm.Term.eval] at this; exact (Option.some.inj this).symm
  subst e2'
  have hx : x = .int k := by
    simp only [Jvm.Cond.value, e1, e2] at hq
    cases x <;> simp_all [Kin, Value.isRef]
  subst hx
  exact Fld.start ((fld_at ev).symm.trans e1)
theorem own_irem {g : JFrame} {target : State} (X : Stand p l e R s m args below meth c T locs cells slots) (hx : p.tables.exec = Jvm.exec) (hg : g.method = m) {x y : Int32} {rest : List Value} (hd : decode c.code g.pc = .ok (.irem, 1)) (hs : g.stack = .int y :: .int x :: rest) (hy : y ≠ 0)
    (hr : Steps p.tables e below (T.setTop { g with pc := g.pc + 1, stack := .int (x % y) :: rest }) target) : Steps p.tables e below (T.setTop g) target := iremM X hx hg hd hs hy hr
theorem own_fitR {t : FieldType} {v : Value} (hv : v.isRef = true) (ht : t.isReference = true) : fits t v = true := by cases t <;> first | (cases ht; done) | (cases v <;> first | rfl | (cases hv; done))
theorem own_staK {C n d : String} {v : Value} {h' : Heap} {ws : List Addr} (F : Sta Z h C n d v) (K : Keep h h' ws) (q : ∀ x ∈ ws, ∀ cell : Cell, h[x]? = some cell → cell.vm.isStatics = false) : Sta Z h' C n d v := by
  obtain ⟨cf, i, k, f, st, cell, h1, h2, h3, h4, h5, h6, h7⟩ := F
  exact ⟨cf, i, k, f, st, cell, h1, h2, h3, h4, K.2.1 _ _ h5 (fun hm => by rw [q st hm cell h5] at h6; cases h6), h6, h7⟩
end OwnKit
section OwnWide
variable {p : Program} {l : Launch} {e : Env} {R : Room} {s : State} {m : MethodId} {args : Array Value} {below : List Frame} {meth : Method} {c : Code} {T T' : State} {locs : List Loc} {cells slots : Nat} {Z : State} {a0 : Array Value} {h h' h0 : Heap} {Q : Option Value → Heap → List Loc → Prop} {kc ks : Nat} {f f' : JFrame} {EL : List (String × Nat)} {vm : Vm} {own : String}
/-- what a walk bears that may load String constants: since its start s, at the tables vm and the heap h -/
def own_Inv (s Z : State) (EL : List (String × Nat)) (vm : Vm) (h : Heap) : Prop := (∃ k0, s.Since vm k0 ∧ k0 ≤ h.size) ∧ CHr Z EL s.vm s.heap vm h
theorem own_inv0 (H : CHv Z EL s.vm s.heap) : own_Inv s Z EL s.vm s.heap := ⟨⟨_, (State.WarmedH.refl s).since s.heap.size, Nat.le_refl _⟩, CHr.refl H⟩
theorem own_Inv.ext (I : own_Inv s Z EL vm h) (E : Ext h h') : own_Inv s Z EL vm h' := by
  obtain ⟨⟨k0, h1, h2⟩, C⟩ := I
  exact ⟨⟨k0, h1, Nat.le_trans h2 E.1⟩, C.trans (CHr.ext E C.1)⟩
theorem own_Inv.wr {a : Addr} {sl : Nat} {v : Value} (I : own_Inv s Z EL vm h) (W : Wr h h' a sl v) (S : Safe Z EL vm h a) : own_Inv s Z EL vm h' := by
  obtain ⟨⟨k0, h1, h2⟩, C⟩ := I
  exact ⟨⟨k0, h1, Nat.le_trans h2 (Nat.le_of_eq W.size.symm)⟩, C.trans (CHr.wr W S C.1)⟩
theorem own_Inv.keep {ws : List Addr} (I : own_Inv s Z EL vm h) (K : Keep h h' ws) (S : ∀ x ∈ ws, Safe Z EL vm h x) : own_Inv s Z EL vm h' := by
  obtain ⟨⟨k0, h1, h2⟩, C⟩ := I
  exact ⟨⟨k0, h1, Nat.le_trans h2 K.1⟩, C.trans (CHr.keep K S C.1)⟩
theorem own_Inv.ch (I : own_Inv s Z EL vm h) : CHv Z EL vm h := I.2.1
def own_EndsW (p : Program) (e : Env) (below : List Frame) (s Z : State) (EL : List (String × Nat)) (Q : Option Value → Heap → List Loc → Prop) (kc ks : Nat) (T : State) (f : JFrame) : Prop :=
  ∃ s₂ o, Steps p.tables e below (T.setTop f) s₂ ∧ s₂.status = .running ∧ Ended s₂ below o ∧ ∃ v L, o = .returned v ∧ Q v s₂.heap L ∧ CHr Z EL s.vm s.heap s₂.vm s₂.heap ∧ ReturnedEndW s o s₂ L kc ks
theorem own_goW (st : ∀ target, Steps p.tables e below (T'.setTop f') target → Steps p.tables e below (T.setTop f) target) (k : own_EndsW p e below s Z EL Q kc ks T' f') : own_EndsW p e below s Z EL Q kc ks T f := by
  obtain ⟨s₂, o, h1, r⟩ := k
  exact ⟨s₂, o, st _ h1, r⟩
theorem own_atW (q : f = f') (k : own_EndsW p e below s Z EL Q kc ks T f') : own_EndsW p e below s Z EL Q kc ks T f := q ▸ k
theorem own_finW (X : Stand p l e R (s.setVm vm) m args below meth c T locs cells slots) (hZ : Z.Warmed39 vm) (hEL : EW Z a0 EL) (eT : T.heap = h) (I : own_Inv s Z EL vm h) (v : Option Value) (hlk : meth.locks = false) (hv : meth.sig.returnType = none → v = none)
    (st : ∀ fs, (∀ (f : JFrame) (acts : List Action), f.method = m → f.locked = none → f.entered = [] → (doReturn e (T.setTop f) acts v).1 = T.setFrames fs) → Steps p.tables e below (T.setTop f) (T.setFrames fs))
    (hQ : Q v h locs) (hc : cells ≤ kc) (hs : slots ≤ ks) : own_EndsW p e below s Z EL Q kc ks T f := by
  subst eT
  obtain ⟨⟨k0, i1, i2⟩, C⟩ := I
  obtain ⟨fs, hr, hrun, hended, r1, r2, r3, r4⟩ := X.leaveW i1 i2 (v := v) hv hlk
  have C2 := C.trans (CHv.at X hZ hEL C.1)
  exact ⟨_, _, st fs hr, hrun, hended, v, locs, rfl, hQ, C2, r1, r2, r3, r4.mono hc hs⟩
theorem own_retNW (X : Stand p l e R (s.setVm vm) m args below meth c T locs cells slots) (hZ : Z.Warmed39 vm) (hEL : EW Z a0 EL) (I : own_Inv s Z EL vm h) (hx : p.tables.exec = Jvm.exec) (hlk : meth.locks = false) {pc : Nat} {Ls : Array Slot} {z : Int32} {t : FieldType} {rest : List Value} (hret : meth.sig.returnType = some t) (ht : t = .boolean ∨ t = .byte ∨ t = .char ∨ t = .short)
    (hd : decode c.code pc = .ok (.ireturn, 1)) (eT : T.heap = h) (hc : cells ≤ kc) (hs : slots ≤ ks) (hQ : Q (some (.int (nar t z))) h locs) : own_EndsW p e below s Z EL Q kc ks T (mkF m pc Ls (.int z :: rest)) :=
  own_finW X hZ hEL eT I _ hlk (fun q => by rw [hret] at q; cases q) (fun fs hr => Jvm.RoadKit.retN X hx hret ht hd hr) hQ hc hs
theorem own_retIW (X : Stand p l e R (s.setVm vm) m args below meth c T locs cells slots) (hZ : Z.Warmed39 vm) (hEL : EW Z a0 EL) (I : own_Inv s Z EL vm h) (hx : p.tables.exec = Jvm.exec) (hlk : meth.locks = false) {pc : Nat} {Ls : Array Slot} {z : Int32} {rest : List Value} (hret : meth.sig.returnType = some .int)
    (hd : decode c.code pc = .ok (.ireturn, 1)) (eT : T.heap = h) (hc : cells ≤ kc) (hs : slots ≤ ks) (hQ : Q (some (.int z)) h locs) : own_EndsW p e below s Z EL Q kc ks T (mkF m pc Ls (.int z :: rest)) :=
  own_finW X hZ hEL eT I _ hlk (fun q => by rw [hret] at q; cases q) (fun fs hr => Jvm.RoadKit.retOut X hx hret rfl (Or.inl ⟨rfl, Or.inl rfl, _, rfl⟩) hd hr) hQ hc hs
theorem own_retRW (X : Stand p l e R (s.setVm vm) m args below meth c T locs cells slots) (hZ : Z.Warmed39 vm) (hEL : EW Z a0 EL) (I : own_Inv s Z EL vm h) (hx : p.tables.exec = Jvm.exec) (hlk : meth.locks = false) {pc : Nat} {Ls : Array Slot} {v : Value} {t : FieldType} {rest : List Value} (hret : meth.sig.returnType = some t) (ht : t.isReference = true) (hv : v.isRef = true)
    (hd : decode c.code pc = .ok (.areturn, 1)) (eT : T.heap = h) (hc : cells ≤ kc) (hs : slots ≤ ks) (hQ : Q (some v) h locs) : own_EndsW p e below s Z EL Q kc ks T (mkF m pc Ls (v :: rest)) :=
  own_finW X hZ hEL eT I _ hlk (fun q => by rw [hret] at q; cases q) (fun fs hr => Jvm.RoadKit.retOut X hx hret (own_narR ht) (Or.inr (Or.inr (Or.inr (Or.inr ⟨rfl, ht, hv⟩)))) hd hr) hQ hc hs
theorem own_retVW (X : Stand p l e R (s.setVm vm) m args below meth c T locs cells slots) (hZ : Z.Warmed39 vm) (hEL : EW Z a0 EL) (I : own_Inv s Z EL vm h) (hx : p.tables.exec = Jvm.exec) (hlk : meth.locks = false) {pc : Nat} {Ls : Array Slot} (hret : meth.sig.returnType = none)
    (hd : decode c.code pc = .ok (.return_, 1)) (eT : T.heap = h) (hc : cells ≤ kc) (hs : slots ≤ ks) (hQ : Q none h locs) : own_EndsW p e below s Z EL Q kc ks T (mkF m pc Ls []) :=
  own_finW X hZ hEL eT I none hlk (fun _ => rfl) (fun fs hr => X.returnOut hx hret hd hr) hQ hc hs
/-- the contract of a body that may load String constants; EL: those that are read -/
abbrev own_MetW (l : Launch) (y : MethodName) (bytes : ByteArray) (maxL : Nat) (ret : Option FieldType) (rm : Room) (ws : List Jvm.Cond) (as' : Array Value) (Z : State) (EL : List (String × Nat)) (h0 : Heap) (Q : Option Value → Heap → List Loc → Prop) : Prop :=
  MetFree l y (head1 (Jvm.Cond.code y bytes maxL ret :: ws) rm) (fun a U => a = as' ∧ Z.Warmed39 U.vm ∧ U.heap = h0 ∧ CHv Z EL U.vm h0) (fun _ _ _ _ _ => True) (fun _ U o U' => ∃ v L, o = .returned v ∧ Q v U'.heap L ∧ CHr Z EL U.vm U.heap U'.vm U'.heap ∧ ReturnedEndW U o U' L rm.cells rm.slots)
theorem own_metW {y : MethodName} {bytes : ByteArray} {maxL : Nat} {ret : Option FieldType} {rm : Room} {ws : List Jvm.Cond} {as' : Array Value} (hy : plainFor y = true)
    (body : ∀ (p : Program) (e : Env) (s : State) (m : MethodId) (below : List Frame) (meth : Method) (c : Code) (s₁ : State), p.tables.exec = Jvm.exec → Stand p l e rm (s.setVm s.vm) m as' below meth c s₁ [] 0 0 → Z.Warmed39 (s.setVm s.vm).vm → s₁.heap = h0 → c.code = bytes → c.maxLocals = maxL →
      (s.setVm s.vm).vm.findClass y.cls = some m.cls → meth.name = y.name → meth.sig.returnType = ret → meth.locks = false → own_Inv s Z EL s.vm h0 → own_EndsW p e below s Z EL Q rm.cells rm.slots s₁ (entryFrame m as' maxL)) :
    own_MetW l y bytes maxL ret rm ws as' Z EL h0 Q := by
  refine MetFree.of_bodySF hy hisR ?_
  intro p e s m args below meth c s₁ Bd hml0 hP hK
  obtain ⟨rfl, hZ, hh, hC⟩ := hP
  subst hh
  exact body p e s m below meth c s₁ Bd.exec (Stand.of_body Bd) hZ (by rw [Bd.state]; rfl) Bd.bytes hml0 (findClass_of_methodNamed Bd.named) (name_of_methodNamed Bd.named Bd.method).1 Bd.returns Bd.notSynchronized (own_inv0 hC)
/-- ldc of a String constant, opaque -/
theorem own_ldcO (X : Stand p l e R (s.setVm vm) m args below meth c T locs cells slots) (hx : p.tables.exec = Jvm.exec) (hZ : Z.Warmed39 (s.setVm vm).vm) (hown : (s.setVm vm).vm.findClass own = some m.cls) (hEL : EW Z a0 EL) (wS : ∀ a ∈ Bundle.stringAtoms, a.before a0 Z = true) {index : Nat} {text : String} (w : (Jvm.Cond.stringLink own index text).before a0 Z = true)
    (eT : T.heap = h) (I : own_Inv s Z EL vm h) {g : JFrame} (hg : g.method = m) (hd : decode c.code g.pc = .ok (.ldc index, 2)) (n : Nat) (hn : 4 * text.toList.length ≤ n) (hbig : n ≤ 536870912) (hc : cells + 2 ≤ R.cells) (hl' : slots + (n + 4) ≤ R.slots) :
    ∃ (a : Addr) (T' : State) (h' : Heap), Stand p l e R (s.setVm T'.vm) m args below meth c T' locs (cells + 2) (slots + (n + 4)) ∧ T'.heap = h' ∧ Ext h h' ∧ own_Inv s Z EL T'.vm h' ∧ Z.Warmed39 (s.setVm T'.vm).vm ∧ (s.setVm T'.vm).vm.findClass own = some m.cls ∧ CHr Z EL vm h T'.vm h' ∧
      ∀ target, Steps p.tables e below (T'.setTop { g with pc := g.pc + 2, stack := .ref a :: g.stack }) target → Steps p.tables e below (T.setTop g) target := by
  obtain ⟨⟨k0, i1, i2⟩, C⟩ := I
  obtain ⟨a, T', h', k1, X', e1, E, S1, S2, W1, o1, C1, -, st⟩ := ldcOH X hx hZ hown w wS eT i1 i2 hEL C.1 hg hd hn hbig hc hl'
  exact ⟨a, T', h', X', e1, E, ⟨⟨k1, S1, S2⟩, C.trans C1⟩, W1, o1, C1, st⟩
/-- ldc of a String constant of EL, read -/
theorem own_ldcC (X : Stand p l e R (s.setVm vm) m args below meth c T locs cells slots) (hx : p.tables.exec = Jvm.exec) (hZ : Z.Warmed39 (s.setVm vm).vm) (hown : (s.setVm vm).vm.findClass own = some m.cls) (hEL : EW Z a0 EL) (wS : ∀ a ∈ Bundle.stringAtoms, a.before a0 Z = true) {index : Nat} {text : String} (w : (Jvm.Cond.stringLink own index text).before a0 Z = true) (hmem : (own, index) ∈ EL)
    {vs : List Value} {z : Int32} (ht : (∀ c ∈ text.toList, c.toNat < 256) ∧ text.toList.map (fun c => Value.int (Jvm.Lit.byteI c.toNat.toUInt16)) = vs) (hz : ¬ z < 0) (hl : z.toNatClampNeg = vs.length)
    (eT : T.heap = h) (I : own_Inv s Z EL vm h) {g : JFrame} (hg : g.method = m) (hd : decode c.code g.pc = .ok (.ldc index, 2)) (n : Nat) (hn : 4 * text.toList.length ≤ n) (hbig : n ≤ 536870912) (hc : cells + 2 ≤ R.cells) (hl' : slots + (n + 4) ≤ R.slots) :
    ∃ (a : Addr) (T' : State) (h' : Heap) (b : Addr) (k : ClassId), Stand p l e R (s.setVm T'.vm) m args below meth c T' locs (cells + 2) (slots + (n + 4)) ∧ T'.heap = h' ∧ Ext h h' ∧ own_Inv s Z EL T'.vm h' ∧ Z.Warmed39 (s.setVm T'.vm).vm ∧ (s.setVm T'.vm).vm.findClass own = some m.cls ∧ CHr Z EL vm h T'.vm h' ∧
      Exa Z h' a "java/lang/String" ∧ Fld Z h' a "java/lang/String" "coder" "B" (.int 0) ∧ Fld Z h' a "java/lang/String" "value" "[B" (.ref b) ∧ Arv Z h' b k .byte z vs (.int 0) ∧ (∀ x, Safe Z EL T'.vm h' x → x ≠ a ∧ x ≠ b) ∧
      ∀ target, Steps p.tables e below (T'.setTop { g with pc := g.pc + 2, stack := .ref a :: g.stack }) target → Steps p.tables e below (T.setTop g) target := by
  obtain ⟨⟨k0, i1, i2⟩, C⟩ := I
  obtain ⟨a, T', h', k1, b, k, X', e1, E, S1, S2, W1, o1, x1, x2, x3, x4, -, -, C1, -, x5, st⟩ := ldcCH X hx hZ hown w wS eT i1 i2 hEL hmem C.1 ht hz hl hg hd hn hbig hc hl'
  exact ⟨a, T', h', b, k, X', e1, E, ⟨⟨k1, S1, S2⟩, C.trans C1⟩, W1, o1, C1, x1, x2, x3, x4, x5, st⟩
theorem own_backW {y : MethodName} {bytes : ByteArray} {maxL : Nat} {ret : Option FieldType} {rm : Room} {len W : Nat} {as' : Array Value} {Q' : Option Value → Heap → List Loc → Prop} (hM : own_MetW l y bytes maxL ret rm [] as' Z EL h Q') (hZ : Z.Warmed39 vm) (wc : (Jvm.Cond.code y bytes maxL ret).before a0 Z = true) (wz : (Jvm.Cond.initialized y.cls).before a0 Z = true)
    (hf : rm.frames + 1 ≤ R.frames) (hl : W + (maxL + 11) + rm.locals ≤ R.locals) (hEL : EW Z a0 EL) (H : CHv Z EL vm h) :
    BackS l R p e below (s.setVm vm) args y len W (fun A a => a = as' ∧ A.U.heap = h ∧ A.cells + rm.cells ≤ R.cells ∧ A.slots + rm.slots ≤ R.slots)
      (fun A _ v B => ∃ L, Q' v B.U.heap L ∧ B.locs = A.locs ++ L ∧ B.cells = A.cells + rm.cells ∧ B.slots = A.slots + rm.slots ∧ CHr Z EL vm h B.U.vm B.U.heap) := backOfSH hM hZ wc wz hf hl hEL H
/-- what is known behind a call that may have loaded String constants -/
def own_BehW (p : Program) (l : Launch) (e : Env) (R : Room) (s : State) (m : MethodId) (args : Array Value) (below : List Frame) (meth : Method) (c : Code) (T : State) (locs : List Loc) (cells slots : Nat) (Z : State) (EL : List (String × Nat)) (vm : Vm) (h : Heap) (own : String) (Q' : Option Value → Heap → List Loc → Prop) (g : JFrame) (len : Nat) (rest : List Value) : Prop :=
  ∃ (T' : State) (v : Option Value) (L : List Loc) (h' : Heap), Stand p l e R (s.setVm T'.vm) m args below meth c T' (locs ++ L) cells slots ∧ T'.heap = h' ∧ Q' v h' L ∧ own_Inv s Z EL T'.vm h' ∧ Z.Warmed39 (s.setVm T'.vm).vm ∧ (s.setVm T'.vm).vm.findClass own = some m.cls ∧ CHr Z EL vm h T'.vm h' ∧ h.size ≤ h'.size ∧
    ∀ target, Steps p.tables e below (T'.setTop { g with pc := g.pc + len, stack := v.toList ++ rest }) target → Steps p.tables e below (T.setTop g) target
theorem own_callSW (X : Stand p l e R (s.setVm vm) m args below meth c T locs cells slots) (hx : p.tables.exec = Jvm.exec) (hZ : Z.Warmed39 (s.setVm vm).vm) {index : Nat} {y : MethodName} {bytes : ByteArray} {maxL : Nat} {ret : Option FieldType} {rm : Room} {as' : Array Value} {Q' : Option Value → Heap → List Loc → Prop}
    (hown : (s.setVm vm).vm.findClass own = some m.cls) (hEL : EW Z a0 EL) (I : own_Inv s Z EL vm h) (w1 : (Jvm.Cond.methodLink own index y).before a0 Z = true) (w2 : (Jvm.Cond.static y).before a0 Z = true) (w3 : (Jvm.Cond.initialized y.cls).before a0 Z = true) (w4 : (Jvm.Cond.code y bytes maxL ret).before a0 Z = true)
    (hy : y.cls ≠ "java/lang/invoke/MethodHandle" ∧ y.cls ≠ "java/lang/invoke/VarHandle") (hM : own_MetW l y bytes maxL ret rm [] as' Z EL h Q') (eT : T.heap = h) {g : JFrame} (hg : g.method = m) (hsize : g.locals.size = c.maxLocals) (argsL rest : List Value) (has : argsL.toArray = as')
    (hlen : ∀ sig, parseMethodDescriptor y.desc = some sig → argsL.length = sig.parameters.length) (hstack : g.stack = argsL.reverse ++ rest) (W : Nat) (hW : 2 * g.monitorRoom + (rest.map fun v => v.category).sum ≤ W) (hdg : decode c.code g.pc = .ok (.invokestatic index, 3))
    (hf : rm.frames + 1 ≤ R.frames) (hl : W + (maxL + 11) + rm.locals ≤ R.locals) (hc : cells + rm.cells ≤ R.cells) (hs : slots + rm.slots ≤ R.slots) :
    own_BehW p l e R s m args below meth c T locs (cells + rm.cells) (slots + rm.slots) Z EL vm h own Q' g 3 rest := by
  obtain ⟨⟨k0, i1, i2⟩, C⟩ := I
  obtain ⟨v, vm1, ⟨T1, L1, k1, n1⟩, -, X1, S1, G1, ⟨Lc, hQ, l1, y1, z1, C1⟩, st⟩ := callSS X hx hown (mvT hZ w1) (mvT hZ w2) (mvT hZ w3) (mvT hZ w4) hy (own_backW (W := W) hM hZ w4 w3 hf hl hEL C.1) hg hsize hlen hstack hW hdg (fun _ _ => ⟨has, eT, hc, hs⟩)
  dsimp only [Pt.U, Pt.locs, Pt.cells, Pt.slots] at X1 S1 G1 l1 y1 z1 st hQ C1
  subst l1 y1 z1
  subst eT
  exact ⟨T1, v, Lc, _, X1, rfl, hQ, ⟨⟨_, i1.trans S1 (Nat.le_trans i2 G1), Nat.le_refl _⟩, C.trans C1⟩, State.Warmed39.trans hZ S1.1, (S1.1.alike.findClass _ _).trans hown, C1, G1, fun t k => st.trans k⟩
theorem own_callNW (X : Stand p l e R (s.setVm vm) m args below meth c T locs cells slots) (hx : p.tables.exec = Jvm.exec) (hZ : Z.Warmed39 (s.setVm vm).vm) {index : Nat} {y : MethodName} {bytes : ByteArray} {maxL : Nat} {rm : Room} {as' : Array Value} {Q' : Option Value → Heap → List Loc → Prop}
    (hy1 : y.name = "<init>") (hown : (s.setVm vm).vm.findClass own = some m.cls) (hEL : EW Z a0 EL) (I : own_Inv s Z EL vm h) (w1 : (Jvm.Cond.methodLink own index y).before a0 Z = true) (w2 : (Jvm.Cond.instanceMethod y).before a0 Z = true) (w3 : (Jvm.Cond.initialized y.cls).before a0 Z = true) (w4 : (Jvm.Cond.code y bytes maxL none).before a0 Z = true)
    (hy : y.cls ≠ "java/lang/invoke/MethodHandle" ∧ y.cls ≠ "java/lang/invoke/VarHandle") (hM : own_MetW l y bytes maxL none rm [] as' Z EL h Q') (eT : T.heap = h) {g : JFrame} (hg : g.method = m) (hsize : g.locals.size = c.maxLocals) (b : Addr) (argsL rest : List Value) (has : (.ref b :: argsL).toArray = as')
    (hlen : ∀ sig, parseMethodDescriptor y.desc = some sig → argsL.length = sig.parameters.length) (hstack : g.stack = argsL.reverse ++ .ref b :: rest) (W : Nat) (hW : 2 * g.monitorRoom + (rest.map fun v => v.category).sum ≤ W) (hdg : decode c.code g.pc = .ok (.invokespecial index, 3))
    (hf : rm.frames + 1 ≤ R.frames) (hl : W + (maxL + 11) + rm.locals ≤ R.locals) (hc : cells + rm.cells ≤ R.cells) (hs : slots + rm.slots ≤ R.slots) :
    own_BehW p l e R s m args below meth c T locs (cells + rm.cells) (slots + rm.slots) Z EL vm h own Q' g 3 rest := by
  obtain ⟨⟨k0, i1, i2⟩, C⟩ := I
  obtain ⟨v, vm1, ⟨T1, L1, k1, n1⟩, -, X1, S1, G1, ⟨Lc, hQ, l1, y1, z1, C1⟩, st⟩ := X.specialBackS hx hy1 hown (mvT hZ w1) (mvT hZ w2) (mvT hZ w4) hy (own_backW (W := W) hM hZ w4 w3 hf hl hEL C.1) hg hsize (Steps.refl _) (a := b) hlen hstack hW hdg (fun _ _ => ⟨has, eT, hc, hs⟩)
  dsimp only [Pt.U, Pt.locs, Pt.cells, Pt.slots] at X1 S1 G1 l1 y1 z1 st hQ C1
  subst l1 y1 z1
  subst eT
  exact ⟨T1, v, Lc, _, X1, rfl, hQ, ⟨⟨_, i1.trans S1 (Nat.le_trans i2 G1), Nat.le_refl _⟩, C.trans C1⟩, State.Warmed39.trans hZ S1.1, (S1.1.alike.findClass _ _).trans hown, C1, G1, fun t k => st.trans k⟩
theorem own_callVW (X : Stand p l e R (s.setVm vm) m args below meth c T locs cells slots) (hx : p.tables.exec = Jvm.exec) (hZ : Z.Warmed39 (s.setVm vm).vm) {C : String} {index : Nat} {y z : MethodName} {bytes : ByteArray} {maxL : Nat} {ret : Option FieldType} {rm : Room} {as' : Array Value} {Q' : Option Value → Heap → List Loc → Prop}
    (hown : (s.setVm vm).vm.findClass own = some m.cls) (hEL : EW Z a0 EL) (I : own_Inv s Z EL vm h) (w1 : (Jvm.Cond.methodLink own index y).before a0 Z = true) (w2 : (Jvm.Cond.declares y).before a0 Z = true) (hnf : NotFace (s.setVm vm) y) (w5 : (Jvm.Cond.selects C y z).before a0 Z = true) (w6 : (Jvm.Cond.instanceMethod z).before a0 Z = true)
    (w3 : (Jvm.Cond.initialized z.cls).before a0 Z = true) (w4 : (Jvm.Cond.code z bytes maxL ret).before a0 Z = true)
    (hy : y.cls ≠ "java/lang/invoke/MethodHandle" ∧ y.cls ≠ "java/lang/invoke/VarHandle") (hM : own_MetW l z bytes maxL ret rm [] as' Z EL h Q') (eT : T.heap = h) {g : JFrame} (hg : g.method = m) (hsize : g.locals.size = c.maxLocals) (b : Addr) (hE : Exa Z h b C) (argsL rest : List Value) (has : (.ref b :: argsL).toArray = as')
    (hlen : ∀ sig, parseMethodDescriptor y.desc = some sig → argsL.length = sig.parameters.length) (hstack : g.stack = argsL.reverse ++ .ref b :: rest) (W : Nat) (hW : 2 * g.monitorRoom + (rest.map fun v => v.category).sum ≤ W) (hdg : decode c.code g.pc = .ok (.invokevirtual index, 3))
    (hf : rm.frames + 1 ≤ R.frames) (hl : W + (maxL + 11) + rm.locals ≤ R.locals) (hc : cells + rm.cells ≤ R.cells) (hs : slots + rm.slots ≤ R.slots) :
    own_BehW p l e R s m args below meth c T locs (cells + rm.cells) (slots + rm.slots) Z EL vm h own Q' g 3 rest := by
  obtain ⟨⟨k0, i1, i2⟩, C0⟩ := I
  obtain ⟨cq, kq, qa, qb, qc⟩ := isOf hZ eT hE
  obtain ⟨v, vm1, ⟨T1, L1, k1, n1⟩, -, X1, S1, G1, ⟨Lc, hQ, l1, y1, z1, C1⟩, st⟩ := X.virtualBackS hx hown (mvT hZ w1) (mvT hZ w2) hnf (mvT hZ w5) (mvT hZ w6) hy (own_backW (W := W) hM hZ w4 w3 hf hl hEL C0.1) qa qc hg hsize (Steps.refl _) hlen hstack hW hdg (fun _ _ => ⟨has, eT, hc, hs⟩)
  dsimp only [Pt.U, Pt.locs, Pt.cells, Pt.slots] at X1 S1 G1 l1 y1 z1 st hQ C1
  subst l1 y1 z1
  subst eT
  exact ⟨T1, v, Lc, _, X1, rfl, hQ, ⟨⟨_, i1.trans S1 (Nat.le_trans i2 G1), Nat.le_refl _⟩, C0.trans C1⟩, State.Warmed39.trans hZ S1.1, (S1.1.alike.findClass _ _).trans hown, C1, G1, fun t k => st.trans k⟩
theorem own_safe0 {x : Addr} : Safe Z [] vm h x := fun B => by obtain ⟨q, hq, -⟩ := B; cases hq
theorem own_ch0 : CHv Z [] vm h := fun q hq => by cases hq
end OwnWide
theorem own_EW {Z : State} {a0 : Array Value} (hw : ∀ d ∈ tables_1, d.before a0 Z = true) : EW Z a0 [] := EW.nil
theorem own_wS {Z : State} {a0 : Array Value} (hw : ∀ d ∈ tables_1, d.before a0 Z = true) : ∀ a ∈ Bundle.stringAtoms, a.before a0 Z = true := fun d hd => hw d ((by decide +kernel : ∀ d ∈ Bundle.stringAtoms, d ∈ tables_1) d hd)
theorem own_hws {Z : State} {a0 : Array Value} (hw : ∀ d ∈ tables_1, d.before a0 Z = true) : ∀ d ∈ StrChars.Road.words, d.before a0 Z = true := fun d hd => hw d ((by decide +kernel : ∀ d ∈ StrChars.Road.words, d ∈ tables_1) d hd)
theorem own_nz {args : Array Value} {s : State} {t : Jvm.Term} {z : Int32} (ev : t.eval args s none [] s = some (.int z)) (h : (Jvm.Cond.not (Jvm.Cond.eq t (Jvm.Term.int 0))).value args s none s [] = some true) : ¬ z = 0 := by
  have h1 := not_v h
  intro e
  subst e
  simp [Jvm.Cond.value, ev, Jvm.Term.eval] at h1
theorem own_latc {y : Int32} (h0 : 0 ≤ y.toInt) (h1 : y.toInt ≤ 255) : ¬ nar .char y.toUInt32.toUInt16.toUInt32.toInt32 < 0 ∧ ¬ (255 : Int32) < nar .char y.toUInt32.toUInt16.toUInt32.toInt32 := by
  show ¬ (y.toUInt32.toUInt16.toUInt32.toInt32).toUInt32.toUInt16.toUInt32.toInt32 < 0 ∧ ¬ (255 : Int32) < (y.toUInt32.toUInt16.toUInt32.toInt32).toUInt32.toUInt16.toUInt32.toInt32
  have a2 := c_i2c y
  have a3 := c_i2c (y.toUInt32.toUInt16.toUInt32.toInt32)
  have a4 : (255 : Int32).toInt = 255 := rfl
  have a5 : (0 : Int32).toInt = 0 := rfl
  rw [Int32.lt_iff_toInt_lt, Int32.lt_iff_toInt_lt]
  omega
theorem own_and255 (x : Int32) : 0 ≤ (x &&& (255 : Int32)).toInt ∧ (x &&& (255 : Int32)).toInt ≤ 255 := c_and x 255 (by decide)
theorem d9_0 : decode jdk_30_method_1_code 0 = .ok (.aload_n 0, 1) := by decide +kernel
theorem d9_1 : decode jdk_30_method_1_code 1 = .ok (.invokespecial 1, 3) := by decide +kernel
theorem d9_4 : decode jdk_30_method_1_code 4 = .ok (.return_, 1) := by decide +kernel
theorem pn9 : plainFor (⟨"java/lang/Record", "<init>", "()V"⟩ : MethodName) = true := plainFor_of_name (by first | (simp [plainName, overriddenIn]; done) | decide +kernel)
set_option maxRecDepth 65536 in
set_option maxHeartbeats 40000000 in
theorem rm9 (l : Launch) (Z : State) (a0 : Array Value) (hw : ∀ d ∈ tables_1, d.before a0 Z = true) (ws : List Jvm.Cond)  (t : Addr) (h0 : Heap) (n0 : Nat) (Z0 : n0 ≤ h0.size)  :
    own_Met l (⟨"java/lang/Record", "<init>", "()V"⟩ : MethodName) jdk_30_method_1_code 1 none ({ frames := 1, cells := 0, slots := 0, locals := 12 } : Room) ws #[(.ref t)] Z h0 (fun v h L => v = none ∧ Fr n0 L ∧ h = h0) := by
  refine own_met pn9 ?_
  intro p e s m below meth c s₁ hx X0 hZ e0 hby hml hown hnm hret hlk
  have N0 := Fr.nil n0
  refine own_at (f' := mkF m 0 #[.val (.ref t)] []) (by first | rfl | (simp [entryFrame, mkF, argsToLocals, Value.category]; done)) ?_
  show own_Ends _ _ _ _ _ _ _ s₁ (mkF m 0 #[.val (.ref t)] [])
  refine own_go (fun t_ k_ => XS.aloadN X0.here hx rfl (hb hby d9_0) rfl rfl  k_) ?_
  show own_Ends _ _ _ _ _ _ _ s₁ (mkF m 1 #[.val (.ref t)] [(.ref t)])
  obtain ⟨T1, X1, e1, st1⟩ := initO X0 hx hZ hown (hw _ (List.mem_of_getElem? (i := 52) rfl)) (hw _ (List.mem_of_getElem? (i := 23) rfl)) (hw _ (List.mem_of_getElem? (i := 24) rfl)) e0 (g := (mkF m 1 #[.val (.ref t)] [(.ref t)])) rfl (by rw [hml]; rfl) rfl (hb hby d9_1) (by decide) (W := 0) (by show 2 * 0 + _ ≤ _; exact Nat.le_of_eq rfl) (by decide)
  refine own_go st1 ?_
  show own_Ends _ _ _ _ _ _ _ T1 (mkF m 4 #[.val (.ref t)] [])
  refine own_retV X1 hx hlk hret (hb hby d9_4) e1 (by decide) (by decide) ?_
  exact ⟨rfl, N0, rfl⟩
theorem d8_0 : decode prog_119_method_1_code 0 = .ok (.aload_n 0, 1) := by decide +kernel
theorem d8_1 : decode prog_119_method_1_code 1 = .ok (.invokespecial 1, 3) := by decide +kernel
theorem pd___V : parseMethodDescriptor "()V" = some ⟨[], none⟩ := by decide +kernel
theorem d8_4 : decode prog_119_method_1_code 4 = .ok (.aload_n 0, 1) := by decide +kernel
theorem d8_5 : decode prog_119_method_1_code 5 = .ok (.aload_n 1, 1) := by decide +kernel
theorem d8_6 : decode prog_119_method_1_code 6 = .ok (.putfield 7, 3) := by decide +kernel
theorem d8_9 : decode prog_119_method_1_code 9 = .ok (.aload_n 0, 1) := by decide +kernel
theorem d8_10 : decode prog_119_method_1_code 10 = .ok (.aload_n 2, 1) := by decide +kernel
theorem d8_11 : decode prog_119_method_1_code 11 = .ok (.putfield 13, 3) := by decide +kernel
theorem d8_14 : decode prog_119_method_1_code 14 = .ok (.aload_n 0, 1) := by decide +kernel
theorem d8_15 : decode prog_119_method_1_code 15 = .ok (.iload_n 3, 1) := by decide +kernel
theorem d8_16 : decode prog_119_method_1_code 16 = .ok (.putfield 17, 3) := by decide +kernel
theorem d8_19 : decode prog_119_method_1_code 19 = .ok (.aload_n 0, 1) := by decide +kernel
theorem d8_20 : decode prog_119_method_1_code 20 = .ok (.iload 4, 2) := by decide +kernel
theorem d8_22 : decode prog_119_method_1_code 22 = .ok (.putfield 21, 3) := by decide +kernel
theorem d8_25 : decode prog_119_method_1_code 25 = .ok (.aload_n 0, 1) := by decide +kernel
theorem d8_26 : decode prog_119_method_1_code 26 = .ok (.aload 5, 2) := by decide +kernel
theorem d8_28 : decode prog_119_method_1_code 28 = .ok (.putfield 24, 3) := by decide +kernel
theorem d8_31 : decode prog_119_method_1_code 31 = .ok (.aload_n 0, 1) := by decide +kernel
theorem d8_32 : decode prog_119_method_1_code 32 = .ok (.iload 6, 2) := by decide +kernel
theorem d8_34 : decode prog_119_method_1_code 34 = .ok (.putfield 27, 3) := by decide +kernel
theorem d8_37 : decode prog_119_method_1_code 37 = .ok (.return_, 1) := by decide +kernel
theorem pn8 : plainFor (⟨"com/example/ferret/ferret/frontend/Token", "<init>", "(Lcom/example/ferret/ferret/frontend/Token$Kind;Ljava/lang/String;IILjava/lang/String;Z)V"⟩ : MethodName) = true := plainFor_of_name (by first | (simp [plainName, overriddenIn]; done) | decide +kernel)
set_option maxRecDepth 65536 in
set_option maxHeartbeats 40000000 in
theorem rm8 (l : Launch) (Z : State) (a0 : Array Value) (hw : ∀ d ∈ tables_1, d.before a0 Z = true) (ws : List Jvm.Cond)  (t : Addr) (kd : Addr) (tx : Addr) (ln : Int32) (co : Int32) (sp : Addr) (sd : Int32) (h0 : Heap) (n0 : Nat) (Z0 : n0 ≤ h0.size)  (Et : Exa Z h0 t "com/example/ferret/ferret/frontend/Token") (F_kind : Fld Z h0 t "com/example/ferret/ferret/frontend/Token" "kind" "Lcom/example/ferret/ferret/frontend/Token$Kind;" .null) (F_text : Fld Z h0 t "com/example/ferret/ferret/frontend/Token" "text" "Ljava/lang/String;" .null) (F_line : Fld Z h0 t "com/example/ferret/ferret/frontend/Token" "line" "I" (.int (0 : Int32))) (F_column : Fld Z h0 t "com/example/ferret/ferret/frontend/Token" "column" "I" (.int (0 : Int32))) (F_spelling : Fld Z h0 t "com/example/ferret/ferret/frontend/Token" "spelling" "Ljava/lang/String;" .null) (F_spaced : Fld Z h0 t "com/example/ferret/ferret/frontend/Token" "spaced" "Z" (.int (0 : Int32))) (g_t : n0 ≤ t) :
    own_Met l (⟨"com/example/ferret/ferret/frontend/Token", "<init>", "(Lcom/example/ferret/ferret/frontend/Token$Kind;Ljava/lang/String;IILjava/lang/String;Z)V"⟩ : MethodName) prog_119_method_1_code 7 none ({ frames := 2, cells := 0, slots := 0, locals := 24 } : Room) ws #[(.ref t), (.ref kd), (.ref tx), (.int ln), (.int co), (.ref sp), (.int sd)] Z h0 (fun v h L => v = none ∧ Fr n0 L ∧ Keep h0 h [t] ∧ Exa Z h t "com/example/ferret/ferret/frontend/Token" ∧ Fld Z h t "com/example/ferret/ferret/frontend/Token" "line" "I" (.int ln) ∧ Fld Z h t "com/example/ferret/ferret/frontend/Token" "column" "I" (.int co)) := by
  refine own_met pn8 ?_
  intro p e s m below meth c s₁ hx X0 hZ e0 hby hml hown hnm hret hlk
  have N0 := Fr.nil n0
  refine own_at (f' := mkF m 0 #[.val (.ref t), .val (.ref kd), .val (.ref tx), .val (.int ln), .val (.int co), .val (.ref sp), .val (.int sd)] []) (by first | rfl | (simp [entryFrame, mkF, argsToLocals, Value.category]; done)) ?_
  show own_Ends _ _ _ _ _ _ _ s₁ (mkF m 0 #[.val (.ref t), .val (.ref kd), .val (.ref tx), .val (.int ln), .val (.int co), .val (.ref sp), .val (.int sd)] [])
  refine own_go (fun t_ k_ => XS.aloadN X0.here hx rfl (hb hby d8_0) rfl rfl  k_) ?_
  show own_Ends _ _ _ _ _ _ _ s₁ (mkF m 1 #[.val (.ref t), .val (.ref kd), .val (.ref tx), .val (.int ln), .val (.int co), .val (.ref sp), .val (.int sd)] [(.ref t)])
  obtain ⟨T1, v1, L1, X1, hQ1, st1⟩ := own_callN X0 hx hZ (y := (⟨"java/lang/Record", "<init>", "()V"⟩ : MethodName)) rfl hown (hw _ (List.mem_of_getElem? (i := 47) rfl)) (hw _ (List.mem_of_getElem? (i := 48) rfl)) (hw _ (List.mem_of_getElem? (i := 50) rfl)) (hw _ (List.mem_of_getElem? (i := 51) rfl)) (by decide) (rm9 l Z a0 hw [] t h0 n0 Z0) e0 (g := (mkF m 1 #[.val (.ref t), .val (.ref kd), .val (.ref tx), .val (.int ln), .val (.int co), .val (.ref sp), .val (.int sd)] [(.ref t)])) rfl (by rw [hml]; rfl) t [] [] rfl (lenOf pd___V rfl) rfl 0 (by show 2 * 0 + _ ≤ _; exact Nat.le_of_eq rfl) (hb hby d8_1) (by decide) (by decide) (by decide) (by decide)
  obtain ⟨rfl, N1q, e1⟩ := hQ1
  refine own_go st1 ?_
  have N1 := Fr.app N0 N1q
  show own_Ends _ _ _ _ _ _ _ T1 (mkF m 4 #[.val (.ref t), .val (.ref kd), .val (.ref tx), .val (.int ln), .val (.int co), .val (.ref sp), .val (.int sd)] [])
  refine own_go (fun t_ k_ => XS.aloadN X1.here hx rfl (hb hby d8_4) rfl rfl  k_) ?_
  show own_Ends _ _ _ _ _ _ _ T1 (mkF m 5 #[.val (.ref t), .val (.ref kd), .val (.ref tx), .val (.int ln), .val (.int co), .val (.ref sp), .val (.int sd)] [(.ref t)])
  refine own_go (fun t_ k_ => XS.aloadN X1.here hx rfl (hb hby d8_5) rfl rfl  k_) ?_
  show own_Ends _ _ _ _ _ _ _ T1 (mkF m 6 #[.val (.ref t), .val (.ref kd), .val (.ref tx), .val (.int ln), .val (.int co), .val (.ref sp), .val (.int sd)] [(.ref kd), (.ref t)])
  obtain ⟨T3, h3, X3, e3, W3, st3⟩ := putF X1 hx hZ hown (host := "") (Or.inl (hw _ (List.mem_of_getElem? (i := 53) rfl))) Via.refl e1 F_kind Et (Or.inr ⟨(hw _ (List.mem_of_getElem? (i := 54) rfl)), rfl, hnm⟩) (hw _ (List.mem_of_getElem? (i := 42) rfl)) (ty := (.object "com/example/ferret/ferret/frontend/Token$Kind")) (by decide) rfl rfl (g := (mkF m 6 #[.val (.ref t), .val (.ref kd), .val (.ref tx), .val (.int ln), .val (.int co), .val (.ref sp), .val (.int sd)] [(.ref kd), (.ref t)])) rfl rfl (hb hby d8_6)
  refine own_go st3 ?_
  have Fw3 := Fld.same W3 F_kind
  have N3 := Fr.snoc X3 N1 g_t
  have K3 := Keep.wr (Keep.refl h0 [t]) W3 (Or.inl (List.mem_of_getElem? (i := 0) rfl))
  show own_Ends _ _ _ _ _ _ _ T3 (mkF m 9 #[.val (.ref t), .val (.ref kd), .val (.ref tx), .val (.int ln), .val (.int co), .val (.ref sp), .val (.int sd)] [])
  refine own_go (fun t_ k_ => XS.aloadN X3.here hx rfl (hb hby d8_9) rfl rfl  k_) ?_
  show own_Ends _ _ _ _ _ _ _ T3 (mkF m 10 #[.val (.ref t), .val (.ref kd), .val (.ref tx), .val (.int ln), .val (.int co), .val (.ref sp), .val (.int sd)] [(.ref t)])
  refine own_go (fun t_ k_ => XS.aloadN X3.here hx rfl (hb hby d8_10) rfl rfl  k_) ?_
  show own_Ends _ _ _ _ _ _ _ T3 (mkF m 11 #[.val (.ref t), .val (.ref kd), .val (.ref tx), .val (.int ln), .val (.int co), .val (.ref sp), .val (.int sd)] [(.ref tx), (.ref t)])
  obtain ⟨T5, h5, X5, e5, W5, st5⟩ := putF X3 hx hZ hown (host := "") (Or.inl (hw _ (List.mem_of_getElem? (i := 55) rfl))) Via.refl e3 (F_text.other W3 (Or.inr (slot_ne (Or.inr (hw _ (List.mem_of_getElem? (i := 56) rfl))) (Or.inr (hw _ (List.mem_of_getElem? (i := 54) rfl))) (by decide) (t := (.object "java/lang/String")) (t' := (.object "com/example/ferret/ferret/frontend/Token$Kind")) (by decide) (by decide)))) (Et.wr W3) (Or.inr ⟨(hw _ (List.mem_of_getElem? (i := 56) rfl)), rfl, hnm⟩) (hw _ (List.mem_of_getElem? (i := 42) rfl)) (ty := (.object "java/lang/String")) (by decide) rfl rfl (g := (mkF m 11 #[.val (.ref t), .val (.ref kd), .val (.ref tx), .val (.int ln), .val (.int co), .val (.ref sp), .val (.int sd)] [(.ref tx), (.ref t)])) rfl rfl (hb hby d8_11)
  refine own_go st5 ?_
  have Fw5 := Fld.same W5 (F_text.other W3 (Or.inr (slot_ne (Or.inr (hw _ (List.mem_of_getElem? (i := 56) rfl))) (Or.inr (hw _ (List.mem_of_getElem? (i := 54) rfl))) (by decide) (t := (.object "java/lang/String")) (t' := (.object "com/example/ferret/ferret/frontend/Token$Kind")) (by decide) (by decide))))
  have N5 := Fr.snoc X5 N3 g_t
  have K5 := Keep.wr K3 W5 (Or.inl (List.mem_of_getElem? (i := 0) rfl))
  show own_Ends _ _ _ _ _ _ _ T5 (mkF m 14 #[.val (.ref t), .val (.ref kd), .val (.ref tx), .val (.int ln), .val (.int co), .val (.ref sp), .val (.int sd)] [])
  refine own_go (fun t_ k_ => XS.aloadN X5.here hx rfl (hb hby d8_14) rfl rfl  k_) ?_
  show own_Ends _ _ _ _ _ _ _ T5 (mkF m 15 #[.val (.ref t), .val (.ref kd), .val (.ref tx), .val (.int ln), .val (.int co), .val (.ref sp), .val (.int sd)] [(.ref t)])
  refine own_go (fun t_ k_ => XS.iloadN X5.here hx rfl (hb hby d8_15) rfl  k_) ?_
  show own_Ends _ _ _ _ _ _ _ T5 (mkF m 16 #[.val (.ref t), .val (.ref kd), .val (.ref tx), .val (.int ln), .val (.int co), .val (.ref sp), .val (.int sd)] [(.int ln), (.ref t)])
  obtain ⟨T7, h7, X7, e7, W7, st7⟩ := putF X5 hx hZ hown (host := "") (Or.inl (hw _ (List.mem_of_getElem? (i := 57) rfl))) Via.refl e5 ((F_line.other W3 (Or.inr (slot_ne (Or.inr (hw _ (List.mem_of_getElem? (i := 58) rfl))) (Or.inr (hw _ (List.mem_of_getElem? (i := 54) rfl))) (by decide) (t := .int) (t' := (.object "com/example/ferret/ferret/frontend/Token$Kind")) (by decide) (by decide)))).other W5 (Or.inr (slot_ne (Or.inr (hw _ (List.mem_of_getElem? (i := 58) rfl))) (Or.inr (hw _ (List.mem_of_getElem? (i := 56) rfl))) (by decide) (t := .int) (t' := (.object "java/lang/String")) (by decide) (by decide)))) ((Et.wr W3).wr W5) (Or.inr ⟨(hw _ (List.mem_of_getElem? (i := 58) rfl)), rfl, hnm⟩) (hw _ (List.mem_of_getElem? (i := 42) rfl)) (ty := .int) (by decide) rfl rfl (g := (mkF m 16 #[.val (.ref t), .val (.ref kd), .val (.ref tx), .val (.int ln), .val (.int co), .val (.ref sp), .val (.int sd)] [(.int ln), (.ref t)])) rfl rfl (hb hby d8_16)
  refine own_go st7 ?_
  have Fw7 := Fld.same W7 ((F_line.other W3 (Or.inr (slot_ne (Or.inr (hw _ (List.mem_of_getElem? (i := 58) rfl))) (Or.inr (hw _ (List.mem_of_getElem? (i := 54) rfl))) (by decide) (t := .int) (t' := (.object "com/example/ferret/ferret/frontend/Token$Kind")) (by decide) (by decide)))).other W5 (Or.inr (slot_ne (Or.inr (hw _ (List.mem_of_getElem? (i := 58) rfl))) (Or.inr (hw _ (List.mem_of_getElem? (i := 56) rfl))) (by decide) (t := .int) (t' := (.object "java/lang/String")) (by decide) (by decide))))
  have N7 := Fr.snoc X7 N5 g_t
  have K7 := Keep.wr K5 W7 (Or.inl (List.mem_of_getElem? (i := 0) rfl))
  show own_Ends _ _ _ _ _ _ _ T7 (mkF m 19 #[.val (.ref t), .val (.ref kd), .val (.ref tx), .val (.int ln), .val (.int co), .val (.ref sp), .val (.int sd)] [])
  refine own_go (fun t_ k_ => XS.aloadN X7.here hx rfl (hb hby d8_19) rfl rfl  k_) ?_
  show own_Ends _ _ _ _ _ _ _ T7 (mkF m 20 #[.val (.ref t), .val (.ref kd), .val (.ref tx), .val (.int ln), .val (.int co), .val (.ref sp), .val (.int sd)] [(.ref t)])
  refine own_go (fun t_ k_ => XS.iload X7.here hx rfl (hb hby d8_20) rfl  k_) ?_
  show own_Ends _ _ _ _ _ _ _ T7 (mkF m 22 #[.val (.ref t), .val (.ref kd), .val (.ref tx), .val (.int ln), .val (.int co), .val (.ref sp), .val (.int sd)] [(.int co), (.ref t)])
  obtain ⟨T9, h9, X9, e9, W9, st9⟩ := putF X7 hx hZ hown (host := "") (Or.inl (hw _ (List.mem_of_getElem? (i := 59) rfl))) Via.refl e7 (((F_column.other W3 (Or.inr (slot_ne (Or.inr (hw _ (List.mem_of_getElem? (i := 60) rfl))) (Or.inr (hw _ (List.mem_of_getElem? (i := 54) rfl))) (by decide) (t := .int) (t' := (.object "com/example/ferret/ferret/frontend/Token$Kind")) (by decide) (by decide)))).other W5 (Or.inr (slot_ne (Or.inr (hw _ (List.mem_of_getElem? (i := 60) rfl))) (Or.inr (hw _ (List.mem_of_getElem? (i := 56) rfl))) (by decide) (t := .int) (t' := (.object "java/lang/String")) (by decide) (by decide)))).other W7 (Or.inr (slot_ne (Or.inr (hw _ (List.mem_of_getElem? (i := 60) rfl))) (Or.inr (hw _ (List.mem_of_getElem? (i := 58) rfl))) (by decide) (t := .int) (t' := .int) (by decide) (by decide)))) (((Et.wr W3).wr W5).wr W7) (Or.inr ⟨(hw _ (List.mem_of_getElem? (i := 60) rfl)), rfl, hnm⟩) (hw _ (List.mem_of_getElem? (i := 42) rfl)) (ty := .int) (by decide) rfl rfl (g := (mkF m 22 #[.val (.ref t), .val (.ref kd), .val (.ref tx), .val (.int ln), .val (.int co), .val (.ref sp), .val (.int sd)] [(.int co), (.ref t)])) rfl rfl (hb hby d8_22)
  refine own_go st9 ?_
  have Fw9 := Fld.same W9 (((F_column.other W3 (Or.inr (slot_ne (Or.inr (hw _ (List.mem_of_getElem? (i := 60) rfl))) (Or.inr (hw _ (List.mem_of_getElem? (i := 54) rfl))) (by decide) (t := .int) (t' := (.object "com/example/ferret/ferret/frontend/Token$Kind")) (by decide) (by decide)))).other W5 (Or.inr (slot_ne (Or.inr (hw _ (List.mem_of_getElem? (i := 60) rfl))) (Or.inr (hw _ (List.mem_of_getElem? (i := 56) rfl))) (by decide) (t := .int) (t' := (.object "java/lang/String")) (by decide) (by decide)))).other W7 (Or.inr (slot_ne (Or.inr (hw _ (List.mem_of_getElem? (i := 60) rfl))) (Or.inr (hw _ (List.mem_of_getElem? (i := 58) rfl))) (by decide) (t := .int) (t' := .int) (by decide) (by decide))))
  have N9 := Fr.snoc X9 N7 g_t
  have K9 := Keep.wr K7 W9 (Or.inl (List.mem_of_getElem? (i := 0) rfl))
  show own_Ends _ _ _ _ _ _ _ T9 (mkF m 25 #[.val (.ref t), .val (.ref kd), .val (.ref tx), .val (.int ln), .val (.int co), .val (.ref sp), .val (.int sd)] [])
  refine own_go (fun t_ k_ => XS.aloadN X9.here hx rfl (hb hby d8_25) rfl rfl  k_) ?_
  show own_Ends _ _ _ _ _ _ _ T9 (mkF m 26 #[.val (.ref t), .val (.ref kd), .val (.ref tx), .val (.int ln), .val (.int co), .val (.ref sp), .val (.int sd)] [(.ref t)])
  refine own_go (fun t_ k_ => XS.aload X9.here hx rfl (hb hby d8_26) rfl rfl  k_) ?_
  show own_Ends _ _ _ _ _ _ _ T9 (mkF m 28 #[.val (.ref t), .val (.ref kd), .val (.ref tx), .val (.int ln), .val (.int co), .val (.ref sp), .val (.int sd)] [(.ref sp), (.ref t)])
  obtain ⟨T11, h11, X11, e11, W11, st11⟩ := putF X9 hx hZ hown (host := "") (Or.inl (hw _ (List.mem_of_getElem? (i := 61) rfl))) Via.refl e9 ((((F_spelling.other W3 (Or.inr (slot_ne (Or.inr (hw _ (List.mem_of_getElem? (i := 62) rfl))) (Or.inr (hw _ (List.mem_of_getElem? (i := 54) rfl))) (by decide) (t := (.object "java/lang/String")) (t' := (.object "com/example/ferret/ferret/frontend/Token$Kind")) (by decide) (by decide)))).other W5 (Or.inr (slot_ne (Or.inr (hw _ (List.mem_of_getElem? (i := 62) rfl))) (Or.inr (hw _ (List.mem_of_getElem? (i := 56) rfl))) (by decide) (t := (.object "java/lang/String")) (t' := (.object "java/lang/String")) (by decide) (by decide)))).other W7 (Or.inr (slot_ne (Or.inr (hw _ (List.mem_of_getElem? (i := 62) rfl))) (Or.inr (hw _ (List.mem_of_getElem? (i := 58) rfl))) (by decide) (t := (.object "java/lang/String")) (t' := .int) (by decide) (by decide)))).other W9 (Or.inr (slot_ne (Or.inr (hw _ (List.mem_of_getElem? (i := 62) rfl))) (Or.inr (hw _ (List.mem_of_getElem? (i := 60) rfl))) (by decide) (t := (.object "java/lang/String")) (t' := .int) (by decide) (by decide)))) ((((Et.wr W3).wr W5).wr W7).wr W9) (Or.inr ⟨(hw _ (List.mem_of_getElem? (i := 62) rfl)), rfl, hnm⟩) (hw _ (List.mem_of_getElem? (i := 42) rfl)) (ty := (.object "java/lang/String")) (by decide) rfl rfl (g := (mkF m 28 #[.val (.ref t), .val (.ref kd), .val (.ref tx), .val (.int ln), .val (.int co), .val (.ref sp), .val (.int sd)] [(.ref sp), (.ref t)])) rfl rfl (hb hby d8_28)
  refine own_go st11 ?_
  have Fw11 := Fld.same W11 ((((F_spelling.other W3 (Or.inr (slot_ne (Or.inr (hw _ (List.mem_of_getElem? (i := 62) rfl))) (Or.inr (hw _ (List.mem_of_getElem? (i := 54) rfl))) (by decide) (t := (.object "java/lang/String")) (t' := (.object "com/example/ferret/ferret/frontend/Token$Kind")) (by decide) (by decide)))).other W5 (Or.inr (slot_ne (Or.inr (hw _ (List.mem_of_getElem? (i := 62) rfl))) (Or.inr (hw _ (List.mem_of_getElem? (i := 56) rfl))) (by decide) (t := (.object "java/lang/String")) (t' := (.object "java/lang/String")) (by decide) (by decide)))).other W7 (Or.inr (slot_ne (Or.inr (hw _ (List.mem_of_getElem? (i := 62) rfl))) (Or.inr (hw _ (List.mem_of_getElem? (i := 58) rfl))) (by decide) (t := (.object "java/lang/String")) (t' := .int) (by decide) (by decide)))).other W9 (Or.inr (slot_ne (Or.inr (hw _ (List.mem_of_getElem? (i := 62) rfl))) (Or.inr (hw _ (List.mem_of_getElem? (i := 60) rfl))) (by decide) (t := (.object "java/lang/String")) (t' := .int) (by decide) (by decide))))
  have N11 := Fr.snoc X11 N9 g_t
  have K11 := Keep.wr K9 W11 (Or.inl (List.mem_of_getElem? (i := 0) rfl))
  show own_Ends _ _ _ _ _ _ _ T11 (mkF m 31 #[.val (.ref t), .val (.ref kd), .val (.ref tx), .val (.int ln), .val (.int co), .val (.ref sp), .val (.int sd)] [])
  refine own_go (fun t_ k_ => XS.aloadN X11.here hx rfl (hb hby d8_31) rfl rfl  k_) ?_
  show own_Ends _ _ _ _ _ _ _ T11 (mkF m 32 #[.val (.ref t), .val (.ref kd), .val (.ref tx), .val (.int ln), .val (.int co), .val (.ref sp), .val (.int sd)] [(.ref t)])
  refine own_go (fun t_ k_ => XS.iload X11.here hx rfl (hb hby d8_32) rfl  k_) ?_
  show own_Ends _ _ _ _ _ _ _ T11 (mkF m 34 #[.val (.ref t), .val (.ref kd), .val (.ref tx), .val (.int ln), .val (.int co), .val (.ref sp), .val (.int sd)] [(.int sd), (.ref t)])
  obtain ⟨T13, h13, X13, e13, W13, st13⟩ := putFN X11 hx hZ hown (hw _ (List.mem_of_getElem? (i := 63) rfl)) Via.refl e11 (((((F_spaced.other W3 (Or.inr (slot_ne (Or.inr (hw _ (List.mem_of_getElem? (i := 64) rfl))) (Or.inr (hw _ (List.mem_of_getElem? (i := 54) rfl))) (by decide) (t := .boolean) (t' := (.object "com/example/ferret/ferret/frontend/Token$Kind")) (by decide) (by decide)))).other W5 (Or.inr (slot_ne (Or.inr (hw _ (List.mem_of_getElem? (i := 64) rfl))) (Or.inr (hw _ (List.mem_of_getElem? (i := 56) rfl))) (by decide) (t := .boolean) (t' := (.object "java/lang/String")) (by decide) (by decide)))).other W7 (Or.inr (slot_ne (Or.inr (hw _ (List.mem_of_getElem? (i := 64) rfl))) (Or.inr (hw _ (List.mem_of_getElem? (i := 58) rfl))) (by decide) (t := .boolean) (t' := .int) (by decide) (by decide)))).other W9 (Or.inr (slot_ne (Or.inr (hw _ (List.mem_of_getElem? (i := 64) rfl))) (Or.inr (hw _ (List.mem_of_getElem? (i := 60) rfl))) (by decide) (t := .boolean) (t' := .int) (by decide) (by decide)))).other W11 (Or.inr (slot_ne (Or.inr (hw _ (List.mem_of_getElem? (i := 64) rfl))) (Or.inr (hw _ (List.mem_of_getElem? (i := 62) rfl))) (by decide) (t := .boolean) (t' := (.object "java/lang/String")) (by decide) (by decide)))) (((((Et.wr W3).wr W5).wr W7).wr W9).wr W11) (Or.inr ⟨(hw _ (List.mem_of_getElem? (i := 64) rfl)), rfl, hnm⟩) (hw _ (List.mem_of_getElem? (i := 42) rfl)) (ty := .boolean) (v' := (.int (nar .boolean sd))) (by decide) rfl (fits_nar_bool _) (g := (mkF m 34 #[.val (.ref t), .val (.ref kd), .val (.ref tx), .val (.int ln), .val (.int co), .val (.ref sp), .val (.int sd)] [(.int sd), (.ref t)])) rfl rfl (hb hby d8_34)
  refine own_go st13 ?_
  have Fw13 := Fld.same W13 (((((F_spaced.other W3 (Or.inr (slot_ne (Or.inr (hw _ (List.mem_of_getElem? (i := 64) rfl))) (Or.inr (hw _ (List.mem_of_getElem? (i := 54) rfl))) (by decide) (t := .boolean) (t' := (.object "com/example/ferret/ferret/frontend/Token$Kind")) (by decide) (by decide)))).other W5 (Or.inr (slot_ne (Or.inr (hw _ (List.mem_of_getElem? (i := 64) rfl))) (Or.inr (hw _ (List.mem_of_getElem? (i := 56) rfl))) (by decide) (t := .boolean) (t' := (.object "java/lang/String")) (by decide) (by decide)))).other W7 (Or.inr (slot_ne (Or.inr (hw _ (List.mem_of_getElem? (i := 64) rfl))) (Or.inr (hw _ (List.mem_of_getElem? (i := 58) rfl))) (by decide) (t := .boolean) (t' := .int) (by decide) (by decide)))).other W9 (Or.inr (slot_ne (Or.inr (hw _ (List.mem_of_getElem? (i := 64) rfl))) (Or.inr (hw _ (List.mem_of_getElem? (i := 60) rfl))) (by decide) (t := .boolean) (t' := .int) (by decide) (by decide)))).other W11 (Or.inr (slot_ne (Or.inr (hw _ (List.mem_of_getElem? (i := 64) rfl))) (Or.inr (hw _ (List.mem_of_getElem? (i := 62) rfl))) (by decide) (t := .boolean) (t' := (.object "java/lang/String")) (by decide) (by decide))))
  have N13 := Fr.snoc X13 N11 g_t
  have K13 := Keep.wr K11 W13 (Or.inl (List.mem_of_getElem? (i := 0) rfl))
  show own_Ends _ _ _ _ _ _ _ T13 (mkF m 37 #[.val (.ref t), .val (.ref kd), .val (.ref tx), .val (.int ln), .val (.int co), .val (.ref sp), .val (.int sd)] [])
  refine own_retV X13 hx hlk hret (hb hby d8_37) e13 (by decide) (by decide) ?_
  exact ⟨rfl, N13, K13, ((((((Et.wr W3).wr W5).wr W7).wr W9).wr W11).wr W13), (((Fw7.other W9 (Or.inr (slot_ne (Or.inr (hw _ (List.mem_of_getElem? (i := 58) rfl))) (Or.inr (hw _ (List.mem_of_getElem? (i := 60) rfl))) (by decide) (t := .int) (t' := .int) (by decide) (by decide)))).other W11 (Or.inr (slot_ne (Or.inr (hw _ (List.mem_of_getElem? (i := 58) rfl))) (Or.inr (hw _ (List.mem_of_getElem? (i := 62) rfl))) (by decide) (t := .int) (t' := (.object "java/lang/String")) (by decide) (by decide)))).other W13 (Or.inr (slot_ne (Or.inr (hw _ (List.mem_of_getElem? (i := 58) rfl))) (Or.inr (hw _ (List.mem_of_getElem? (i := 64) rfl))) (by decide) (t := .int) (t' := .boolean) (by decide) (by decide)))), ((Fw9.other W11 (Or.inr (slot_ne (Or.inr (hw _ (List.mem_of_getElem? (i := 60) rfl))) (Or.inr (hw _ (List.mem_of_getElem? (i := 62) rfl))) (by decide) (t := .int) (t' := (.object "java/lang/String")) (by decide) (by decide)))).other W13 (Or.inr (slot_ne (Or.inr (hw _ (List.mem_of_getElem? (i := 60) rfl))) (Or.inr (hw _ (List.mem_of_getElem? (i := 64) rfl))) (by decide) (t := .int) (t' := .boolean) (by decide) (by decide))))⟩
theorem d13_0 : decode prog_49_method_1_code 0 = .ok (.aload_n 0, 1) := by decide +kernel
theorem d13_1 : decode prog_49_method_1_code 1 = .ok (.invokespecial 1, 3) := by decide +kernel
theorem d13_4 : decode prog_49_method_1_code 4 = .ok (.aload_n 0, 1) := by decide +kernel
theorem d13_5 : decode prog_49_method_1_code 5 = .ok (.iload_n 1, 1) := by decide +kernel
theorem d13_6 : decode prog_49_method_1_code 6 = .ok (.putfield 7, 3) := by decide +kernel
theorem d13_9 : decode prog_49_method_1_code 9 = .ok (.aload_n 0, 1) := by decide +kernel
theorem d13_10 : decode prog_49_method_1_code 10 = .ok (.iload_n 2, 1) := by decide +kernel
theorem d13_11 : decode prog_49_method_1_code 11 = .ok (.putfield 13, 3) := by decide +kernel
theorem d13_14 : decode prog_49_method_1_code 14 = .ok (.return_, 1) := by decide +kernel
theorem pn13 : plainFor (⟨"com/example/ferret/ferret/frontend/Ast$Position", "<init>", "(II)V"⟩ : MethodName) = true := plainFor_of_name (by first | (simp [plainName, overriddenIn]; done) | decide +kernel)
set_option maxRecDepth 65536 in
set_option maxHeartbeats 40000000 in
theorem rm13 (l : Launch) (Z : State) (a0 : Array Value) (hw : ∀ d ∈ tables_1, d.before a0 Z = true) (ws : List Jvm.Cond)  (t : Addr) (ln : Int32) (co : Int32) (h0 : Heap) (n0 : Nat) (Z0 : n0 ≤ h0.size)  (Et : Exa Z h0 t "com/example/ferret/ferret/frontend/Ast$Position") (F_line : Fld Z h0 t "com/example/ferret/ferret/frontend/Ast$Position" "line" "I" (.int (0 : Int32))) (F_column : Fld Z h0 t "com/example/ferret/ferret/frontend/Ast$Position" "column" "I" (.int (0 : Int32))) (g_t : n0 ≤ t) :
    own_Met l (⟨"com/example/ferret/ferret/frontend/Ast$Position", "<init>", "(II)V"⟩ : MethodName) prog_49_method_1_code 3 none ({ frames := 2, cells := 0, slots := 0, locals := 24 } : Room) ws #[(.ref t), (.int ln), (.int co)] Z h0 (fun v h L => v = none ∧ Fr n0 L ∧ Keep h0 h [t] ∧ Exa Z h t "com/example/ferret/ferret/frontend/Ast$Position" ∧ Fld Z h t "com/example/ferret/ferret/frontend/Ast$Position" "line" "I" (.int ln) ∧ Fld Z h t "com/example/ferret/ferret/frontend/Ast$Position" "column" "I" (.int co)) := by
  refine own_met pn13 ?_
  intro p e s m below meth c s₁ hx X0 hZ e0 hby hml hown hnm hret hlk
  have N0 := Fr.nil n0
  refine own_at (f' := mkF m 0 #[.val (.ref t), .val (.int ln), .val (.int co)] []) (by first | rfl | (simp [entryFrame, mkF, argsToLocals, Value.category]; done)) ?_
  show own_Ends _ _ _ _ _ _ _ s₁ (mkF m 0 #[.val (.ref t), .val (.int ln), .val (.int co)] [])
  refine own_go (fun t_ k_ => XS.aloadN X0.here hx rfl (hb hby d13_0) rfl rfl  k_) ?_
  show own_Ends _ _ _ _ _ _ _ s₁ (mkF m 1 #[.val (.ref t), .val (.int ln), .val (.int co)] [(.ref t)])
  obtain ⟨T1, v1, L1, X1, hQ1, st1⟩ := own_callN X0 hx hZ (y := (⟨"java/lang/Record", "<init>", "()V"⟩ : MethodName)) rfl hown (hw _ (List.mem_of_getElem? (i := 84) rfl)) (hw _ (List.mem_of_getElem? (i := 48) rfl)) (hw _ (List.mem_of_getElem? (i := 50) rfl)) (hw _ (List.mem_of_getElem? (i := 51) rfl)) (by decide) (rm9 l Z a0 hw [] t h0 n0 Z0) e0 (g := (mkF m 1 #[.val (.ref t), .val (.int ln), .val (.int co)] [(.ref t)])) rfl (by rw [hml]; rfl) t [] [] rfl (lenOf pd___V rfl) rfl 0 (by show 2 * 0 + _ ≤ _; exact Nat.le_of_eq rfl) (hb hby d13_1) (by decide) (by decide) (by decide) (by decide)
  obtain ⟨rfl, N1q, e1⟩ := hQ1
  refine own_go st1 ?_
  have N1 := Fr.app N0 N1q
  show own_Ends _ _ _ _ _ _ _ T1 (mkF m 4 #[.val (.ref t), .val (.int ln), .val (.int co)] [])
  refine own_go (fun t_ k_ => XS.aloadN X1.here hx rfl (hb hby d13_4) rfl rfl  k_) ?_
  show own_Ends _ _ _ _ _ _ _ T1 (mkF m 5 #[.val (.ref t), .val (.int ln), .val (.int co)] [(.ref t)])
  refine own_go (fun t_ k_ => XS.iloadN X1.here hx rfl (hb hby d13_5) rfl  k_) ?_
  show own_Ends _ _ _ _ _ _ _ T1 (mkF m 6 #[.val (.ref t), .val (.int ln), .val (.int co)] [(.int ln), (.ref t)])
  obtain ⟨T3, h3, X3, e3, W3, st3⟩ := putF X1 hx hZ hown (host := "") (Or.inl (hw _ (List.mem_of_getElem? (i := 85) rfl))) Via.refl e1 F_line Et (Or.inr ⟨(hw _ (List.mem_of_getElem? (i := 86) rfl)), rfl, hnm⟩) (hw _ (List.mem_of_getElem? (i := 70) rfl)) (ty := .int) (by decide) rfl rfl (g := (mkF m 6 #[.val (.ref t), .val (.int ln), .val (.int co)] [(.int ln), (.ref t)])) rfl rfl (hb hby d13_6)
  refine own_go st3 ?_
  have Fw3 := Fld.same W3 F_line
  have N3 := Fr.snoc X3 N1 g_t
  have K3 := Keep.wr (Keep.refl h0 [t]) W3 (Or.inl (List.mem_of_getElem? (i := 0) rfl))
  show own_Ends _ _ _ _ _ _ _ T3 (mkF m 9 #[.val (.ref t), .val (.int ln), .val (.int co)] [])
  refine own_go (fun t_ k_ => XS.aloadN X3.here hx rfl (hb hby d13_9) rfl rfl  k_) ?_
  show own_Ends _ _ _ _ _ _ _ T3 (mkF m 10 #[.val (.ref t), .val (.int ln), .val (.int co)] [(.ref t)])
  refine own_go (fun t_ k_ => XS.iloadN X3.here hx rfl (hb hby d13_10) rfl  k_) ?_
  show own_Ends _ _ _ _ _ _ _ T3 (mkF m 11 #[.val (.ref t), .val (.int ln), .val (.int co)] [(.int co), (.ref t)])
  obtain ⟨T5, h5, X5, e5, W5, st5⟩ := putF X3 hx hZ hown (host := "") (Or.inl (hw _ (List.mem_of_getElem? (i := 87) rfl))) Via.refl e3 (F_column.other W3 (Or.inr (slot_ne (Or.inr (hw _ (List.mem_of_getElem? (i := 88) rfl))) (Or.inr (hw _ (List.mem_of_getElem? (i := 86) rfl))) (by decide) (t := .int) (t' := .int) (by decide) (by decide)))) (Et.wr W3) (Or.inr ⟨(hw _ (List.mem_of_getElem? (i := 88) rfl)), rfl, hnm⟩) (hw _ (List.mem_of_getElem? (i := 70) rfl)) (ty := .int) (by decide) rfl rfl (g := (mkF m 11 #[.val (.ref t), .val (.int ln), .val (.int co)] [(.int co), (.ref t)])) rfl rfl (hb hby d13_11)
  refine own_go st5 ?_
  have Fw5 := Fld.same W5 (F_column.other W3 (Or.inr (slot_ne (Or.inr (hw _ (List.mem_of_getElem? (i := 88) rfl))) (Or.inr (hw _ (List.mem_of_getElem? (i := 86) rfl))) (by decide) (t := .int) (t' := .int) (by decide) (by decide))))
  have N5 := Fr.snoc X5 N3 g_t
  have K5 := Keep.wr K3 W5 (Or.inl (List.mem_of_getElem? (i := 0) rfl))
  show own_Ends _ _ _ _ _ _ _ T5 (mkF m 14 #[.val (.ref t), .val (.int ln), .val (.int co)] [])
  refine own_retV X5 hx hlk hret (hb hby d13_14) e5 (by decide) (by decide) ?_
  exact ⟨rfl, N5, K5, ((Et.wr W3).wr W5), (Fw3.other W5 (Or.inr (slot_ne (Or.inr (hw _ (List.mem_of_getElem? (i := 86) rfl))) (Or.inr (hw _ (List.mem_of_getElem? (i := 88) rfl))) (by decide) (t := .int) (t' := .int) (by decide) (by decide)))), Fw5⟩
theorem d11_0 : decode prog_119_method_9_code 0 = .ok (.aload_n 0, 1) := by decide +kernel
theorem d11_1 : decode prog_119_method_9_code 1 = .ok (.getfield 17, 3) := by decide +kernel
theorem d11_4 : decode prog_119_method_9_code 4 = .ok (.ireturn, 1) := by decide +kernel
theorem pn11 : plainFor (⟨"com/example/ferret/ferret/frontend/Token", "line", "()I"⟩ : MethodName) = true := plainFor_of_name (by first | (simp [plainName, overriddenIn]; done) | decide +kernel)
set_option maxRecDepth 65536 in
set_option maxHeartbeats 40000000 in
theorem rm11 (l : Launch) (Z : State) (a0 : Array Value) (hw : ∀ d ∈ tables_1, d.before a0 Z = true) (ws : List Jvm.Cond)  (t : Addr) (u : Int32) (h0 : Heap) (n0 : Nat) (Z0 : n0 ≤ h0.size) (Ft : Fld Z h0 t "com/example/ferret/ferret/frontend/Token" "line" "I" (.int u)) :
    own_Met l (⟨"com/example/ferret/ferret/frontend/Token", "line", "()I"⟩ : MethodName) prog_119_method_9_code 1 (some .int) ({ frames := 0, cells := 0, slots := 0, locals := 0 } : Room) ws #[(.ref t)] Z h0 (fun v h L => v = some (.int u) ∧ Fr n0 L ∧ h = h0) := by
  refine own_met pn11 ?_
  intro p e s m below meth c s₁ hx X0 hZ e0 hby hml hown hnm hret hlk
  have N0 := Fr.nil n0
  refine own_at (f' := mkF m 0 #[.val (.ref t)] []) (by first | rfl | (simp [entryFrame, mkF, argsToLocals, Value.category]; done)) ?_
  show own_Ends _ _ _ _ _ _ _ s₁ (mkF m 0 #[.val (.ref t)] [])
  refine own_go (fun t_ k_ => XS.aloadN X0.here hx rfl (hb hby d11_0) rfl rfl  k_) ?_
  show own_Ends _ _ _ _ _ _ _ s₁ (mkF m 1 #[.val (.ref t)] [(.ref t)])
  obtain ⟨T1, X1, e1, st1⟩ := getF X0 hx hZ hown (host := "") (Or.inl (hw _ (List.mem_of_getElem? (i := 57) rfl))) Via.refl e0 Ft (g := (mkF m 1 #[.val (.ref t)] [(.ref t)])) rfl rfl (hb hby d11_1)
  refine own_go st1 ?_
  show own_Ends _ _ _ _ _ _ _ T1 (mkF m 4 #[.val (.ref t)] [(.int u)])
  refine own_retI X1 hx hlk hret (hb hby d11_4) e1 (by decide) (by decide) ?_
  exact ⟨rfl, N0, rfl⟩
theorem d12_0 : decode prog_119_method_10_code 0 = .ok (.aload_n 0, 1) := by decide +kernel
theorem d12_1 : decode prog_119_method_10_code 1 = .ok (.getfield 21, 3) := by decide +kernel
theorem d12_4 : decode prog_119_method_10_code 4 = .ok (.ireturn, 1) := by decide +kernel
theorem pn12 : plainFor (⟨"com/example/ferret/ferret/frontend/Token", "column", "()I"⟩ : MethodName) = true := plainFor_of_name (by first | (simp [plainName, overriddenIn]; done) | decide +kernel)
set_option maxRecDepth 65536 in
set_option maxHeartbeats 40000000 in
theorem rm12 (l : Launch) (Z : State) (a0 : Array Value) (hw : ∀ d ∈ tables_1, d.before a0 Z = true) (ws : List Jvm.Cond)  (t : Addr) (u : Int32) (h0 : Heap) (n0 : Nat) (Z0 : n0 ≤ h0.size) (Ft : Fld Z h0 t "com/example/ferret/ferret/frontend/Token" "column" "I" (.int u)) :
    own_Met l (⟨"com/example/ferret/ferret/frontend/Token", "column", "()I"⟩ : MethodName) prog_119_method_10_code 1 (some .int) ({ frames := 0, cells := 0, slots := 0, locals := 0 } : Room) ws #[(.ref t)] Z h0 (fun v h L => v = some (.int u) ∧ Fr n0 L ∧ h = h0) := by
  refine own_met pn12 ?_
  intro p e s m below meth c s₁ hx X0 hZ e0 hby hml hown hnm hret hlk
  have N0 := Fr.nil n0
  refine own_at (f' := mkF m 0 #[.val (.ref t)] []) (by first | rfl | (simp [entryFrame, mkF, argsToLocals, Value.category]; done)) ?_
  show own_Ends _ _ _ _ _ _ _ s₁ (mkF m 0 #[.val (.ref t)] [])
  refine own_go (fun t_ k_ => XS.aloadN X0.here hx rfl (hb hby d12_0) rfl rfl  k_) ?_
  show own_Ends _ _ _ _ _ _ _ s₁ (mkF m 1 #[.val (.ref t)] [(.ref t)])
  obtain ⟨T1, X1, e1, st1⟩ := getF X0 hx hZ hown (host := "") (Or.inl (hw _ (List.mem_of_getElem? (i := 59) rfl))) Via.refl e0 Ft (g := (mkF m 1 #[.val (.ref t)] [(.ref t)])) rfl rfl (hb hby d12_1)
  refine own_go st1 ?_
  show own_Ends _ _ _ _ _ _ _ T1 (mkF m 4 #[.val (.ref t)] [(.int u)])
  refine own_retI X1 hx hlk hret (hb hby d12_4) e1 (by decide) (by decide) ?_
  exact ⟨rfl, N0, rfl⟩
theorem d14_0 : decode prog_49_method_6_code 0 = .ok (.aload_n 0, 1) := by decide +kernel
theorem d14_1 : decode prog_49_method_6_code 1 = .ok (.getfield 7, 3) := by decide +kernel
theorem d14_4 : decode prog_49_method_6_code 4 = .ok (.ireturn, 1) := by decide +kernel
theorem pn14 : plainFor (⟨"com/example/ferret/ferret/frontend/Ast$Position", "line", "()I"⟩ : MethodName) = true := plainFor_of_name (by first | (simp [plainName, overriddenIn]; done) | decide +kernel)
set_option maxRecDepth 65536 in
set_option maxHeartbeats 40000000 in
theorem rm14 (l : Launch) (Z : State) (a0 : Array Value) (hw : ∀ d ∈ tables_1, d.before a0 Z = true) (ws : List Jvm.Cond)  (t : Addr) (u : Int32) (h0 : Heap) (n0 : Nat) (Z0 : n0 ≤ h0.size) (Ft : Fld Z h0 t "com/example/ferret/ferret/frontend/Ast$Position" "line" "I" (.int u)) :
    own_Met l (⟨"com/example/ferret/ferret/frontend/Ast$Position", "line", "()I"⟩ : MethodName) prog_49_method_6_code 1 (some .int) ({ frames := 0, cells := 0, slots := 0, locals := 0 } : Room) ws #[(.ref t)] Z h0 (fun v h L => v = some (.int u) ∧ Fr n0 L ∧ h = h0) := by
  refine own_met pn14 ?_
  intro p e s m below meth c s₁ hx X0 hZ e0 hby hml hown hnm hret hlk
  have N0 := Fr.nil n0
  refine own_at (f' := mkF m 0 #[.val (.ref t)] []) (by first | rfl | (simp [entryFrame, mkF, argsToLocals, Value.category]; done)) ?_
  show own_Ends _ _ _ _ _ _ _ s₁ (mkF m 0 #[.val (.ref t)] [])
  refine own_go (fun t_ k_ => XS.aloadN X0.here hx rfl (hb hby d14_0) rfl rfl  k_) ?_
  show own_Ends _ _ _ _ _ _ _ s₁ (mkF m 1 #[.val (.ref t)] [(.ref t)])
  obtain ⟨T1, X1, e1, st1⟩ := getF X0 hx hZ hown (host := "") (Or.inl (hw _ (List.mem_of_getElem? (i := 85) rfl))) Via.refl e0 Ft (g := (mkF m 1 #[.val (.ref t)] [(.ref t)])) rfl rfl (hb hby d14_1)
  refine own_go st1 ?_
  show own_Ends _ _ _ _ _ _ _ T1 (mkF m 4 #[.val (.ref t)] [(.int u)])
  refine own_retI X1 hx hlk hret (hb hby d14_4) e1 (by decide) (by decide) ?_
  exact ⟨rfl, N0, rfl⟩
theorem d15_0 : decode prog_49_method_7_code 0 = .ok (.aload_n 0, 1) := by decide +kernel
theorem d15_1 : decode prog_49_method_7_code 1 = .ok (.getfield 13, 3) := by decide +kernel
theorem d15_4 : decode prog_49_method_7_code 4 = .ok (.ireturn, 1) := by decide +kernel
theorem pn15 : plainFor (⟨"com/example/ferret/ferret/frontend/Ast$Position", "column", "()I"⟩ : MethodName) = true := plainFor_of_name (by first | (simp [plainName, overriddenIn]; done) | decide +kernel)
set_option maxRecDepth 65536 in
set_option maxHeartbeats 40000000 in
theorem rm15 (l : Launch) (Z : State) (a0 : Array Value) (hw : ∀ d ∈ tables_1, d.before a0 Z = true) (ws : List Jvm.Cond)  (t : Addr) (u : Int32) (h0 : Heap) (n0 : Nat) (Z0 : n0 ≤ h0.size) (Ft : Fld Z h0 t "com/example/ferret/ferret/frontend/Ast$Position" "column" "I" (.int u)) :
    own_Met l (⟨"com/example/ferret/ferret/frontend/Ast$Position", "column", "()I"⟩ : MethodName) prog_49_method_7_code 1 (some .int) ({ frames := 0, cells := 0, slots := 0, locals := 0 } : Room) ws #[(.ref t)] Z h0 (fun v h L => v = some (.int u) ∧ Fr n0 L ∧ h = h0) := by
  refine own_met pn15 ?_
  intro p e s m below meth c s₁ hx X0 hZ e0 hby hml hown hnm hret hlk
  have N0 := Fr.nil n0
  refine own_at (f' := mkF m 0 #[.val (.ref t)] []) (by first | rfl | (simp [entryFrame, mkF, argsToLocals, Value.category]; done)) ?_
  show own_Ends _ _ _ _ _ _ _ s₁ (mkF m 0 #[.val (.ref t)] [])
  refine own_go (fun t_ k_ => XS.aloadN X0.here hx rfl (hb hby d15_0) rfl rfl  k_) ?_
  show own_Ends _ _ _ _ _ _ _ s₁ (mkF m 1 #[.val (.ref t)] [(.ref t)])
  obtain ⟨T1, X1, e1, st1⟩ := getF X0 hx hZ hown (host := "") (Or.inl (hw _ (List.mem_of_getElem? (i := 87) rfl))) Via.refl e0 Ft (g := (mkF m 1 #[.val (.ref t)] [(.ref t)])) rfl rfl (hb hby d15_1)
  refine own_go st1 ?_
  show own_Ends _ _ _ _ _ _ _ T1 (mkF m 4 #[.val (.ref t)] [(.int u)])
  refine own_retI X1 hx hlk hret (hb hby d15_4) e1 (by decide) (by decide) ?_
  exact ⟨rfl, N0, rfl⟩
theorem d10_0 : decode prog_49_method_2_code 0 = .ok (.new 8, 3) := by decide +kernel
theorem d10_3 : decode prog_49_method_2_code 3 = .ok (.dup, 1) := by decide +kernel
theorem d10_4 : decode prog_49_method_2_code 4 = .ok (.aload_n 0, 1) := by decide +kernel
theorem d10_5 : decode prog_49_method_2_code 5 = .ok (.invokevirtual 16, 3) := by decide +kernel
theorem pd___I : parseMethodDescriptor "()I" = some ⟨[], some .int⟩ := by decide +kernel
theorem d10_8 : decode prog_49_method_2_code 8 = .ok (.aload_n 0, 1) := by decide +kernel
theorem d10_9 : decode prog_49_method_2_code 9 = .ok (.invokevirtual 21, 3) := by decide +kernel
theorem d10_12 : decode prog_49_method_2_code 12 = .ok (.invokespecial 23, 3) := by decide +kernel
theorem pd__II_V : parseMethodDescriptor "(II)V" = some ⟨[.int, .int], none⟩ := by decide +kernel
theorem d10_15 : decode prog_49_method_2_code 15 = .ok (.areturn, 1) := by decide +kernel
theorem pn10 : plainFor (⟨"com/example/ferret/ferret/frontend/Ast$Position", "of", "(Lcom/example/ferret/ferret/frontend/Token;)Lcom/example/ferret/ferret/frontend/Ast$Position;"⟩ : MethodName) = true := plainFor_of_name (by first | (simp [plainName, overriddenIn]; done) | decide +kernel)
set_option maxRecDepth 65536 in
set_option maxHeartbeats 40000000 in
theorem rm10 (l : Launch) (Z : State) (a0 : Array Value) (hw : ∀ d ∈ tables_1, d.before a0 Z = true) (ws : List Jvm.Cond)  (t : Addr) (ln co : Int32) (h0 : Heap) (n0 : Nat) (Z0 : n0 ≤ h0.size) (Et : Exa Z h0 t "com/example/ferret/ferret/frontend/Token") (F_l : Fld Z h0 t "com/example/ferret/ferret/frontend/Token" "line" "I" (.int ln)) (F_c : Fld Z h0 t "com/example/ferret/ferret/frontend/Token" "column" "I" (.int co)) :
    own_Met l (⟨"com/example/ferret/ferret/frontend/Ast$Position", "of", "(Lcom/example/ferret/ferret/frontend/Token;)Lcom/example/ferret/ferret/frontend/Ast$Position;"⟩ : MethodName) prog_49_method_2_code 1 (some (.object "com/example/ferret/ferret/frontend/Ast$Position")) ({ frames := 3, cells := 1, slots := 2, locals := 39 } : Room) ws #[(.ref t)] Z h0 (fun v h L => ∃ b : Addr, v = some (.ref b) ∧ Fr n0 L ∧ Keep h0 h [] ∧ Exa Z h b "com/example/ferret/ferret/frontend/Ast$Position" ∧ Fld Z h b "com/example/ferret/ferret/frontend/Ast$Position" "line" "I" (.int ln) ∧ Fld Z h b "com/example/ferret/ferret/frontend/Ast$Position" "column" "I" (.int co)) := by
  refine own_met pn10 ?_
  intro p e s m below meth c s₁ hx X0 hZ e0 hby hml hown hnm hret hlk
  have N0 := Fr.nil n0
  refine own_at (f' := mkF m 0 #[.val (.ref t)] []) (by first | rfl | (simp [entryFrame, mkF, argsToLocals, Value.category]; done)) ?_
  show own_Ends _ _ _ _ _ _ _ s₁ (mkF m 0 #[.val (.ref t)] [])
  obtain ⟨T1, h1, X1, e1, E1, A1, D1, -, st1⟩ := newO X0 hx hZ hown (hw _ (List.mem_of_getElem? (i := 69) rfl)) (hw _ (List.mem_of_getElem? (i := 70) rfl)) (hw _ (List.mem_of_getElem? (i := 67) rfl)) e0 (g := (mkF m 0 #[.val (.ref t)] [])) rfl (hb hby d10_0) (by decide) (by decide)
  obtain ⟨b1, g1⟩ : ∃ z, z = h0.size := ⟨_, rfl⟩
  rw [← g1] at A1 D1 st1
  refine own_go st1 ?_
  have g_b1 : n0 ≤ b1 := Nat.le_trans Z0 (Nat.le_of_eq g1.symm)
  have sz_b1 : h0.size ≤ b1 := Nat.le_trans (Keep.refl h0 []).1 (Nat.le_of_eq g1.symm)
  have K1 := Keep.ext (Keep.refl h0 []) E1
  have F1_line : Fld Z h1 b1 "com/example/ferret/ferret/frontend/Ast$Position" "line" "I" (.int (0 : Int32)) := D1 (Or.inr (hw _ (List.mem_of_getElem? (i := 86) rfl))) (ty := .int) (by decide)
  have F1_column : Fld Z h1 b1 "com/example/ferret/ferret/frontend/Ast$Position" "column" "I" (.int (0 : Int32)) := D1 (Or.inr (hw _ (List.mem_of_getElem? (i := 88) rfl))) (ty := .int) (by decide)
  show own_Ends _ _ _ _ _ _ _ T1 (mkF m 3 #[.val (.ref t)] [(.ref b1)])
  refine own_go (fun t_ k_ => XS.dup X1.here hx rfl (hb hby d10_3) rfl rfl k_) ?_
  show own_Ends _ _ _ _ _ _ _ T1 (mkF m 4 #[.val (.ref t)] [(.ref b1), (.ref b1)])
  refine own_go (fun t_ k_ => XS.aloadN X1.here hx rfl (hb hby d10_4) rfl rfl  k_) ?_
  show own_Ends _ _ _ _ _ _ _ T1 (mkF m 5 #[.val (.ref t)] [(.ref t), (.ref b1), (.ref b1)])
  obtain ⟨T2, v2, L2, X2, hQ2, st2⟩ := own_callV X1 hx hZ (y := (⟨"com/example/ferret/ferret/frontend/Token", "line", "()I"⟩ : MethodName)) (z := (⟨"com/example/ferret/ferret/frontend/Token", "line", "()I"⟩ : MethodName)) hown (hw _ (List.mem_of_getElem? (i := 71) rfl)) (hw _ (List.mem_of_getElem? (i := 72) rfl)) (notFace_of_selects (args := #[]) (mvT hZ (hw _ (List.mem_of_getElem? (i := 74) rfl)))) (hw _ (List.mem_of_getElem? (i := 74) rfl)) (hw _ (List.mem_of_getElem? (i := 73) rfl)) (hw _ (List.mem_of_getElem? (i := 43) rfl)) (hw _ (List.mem_of_getElem? (i := 75) rfl)) (by decide) (rm11 l Z a0 hw [] t ln h1 n0 (Nat.le_trans Z0 E1.1) (F_l.ext E1)) e1 (g := (mkF m 5 #[.val (.ref t)] [(.ref t), (.ref b1), (.ref b1)])) rfl (by rw [hml]; rfl) t (Et.ext E1) [] [(.ref b1), (.ref b1)] rfl (lenOf pd___I rfl) rfl 2 (by show 2 * 0 + _ ≤ _; exact Nat.le_of_eq rfl) (hb hby d10_5) (by decide) (by decide) (by decide) (by decide)
  obtain ⟨rfl, N2q, e2⟩ := hQ2
  refine own_go st2 ?_
  have N2 := Fr.app N0 N2q
  show own_Ends _ _ _ _ _ _ _ T2 (mkF m 8 #[.val (.ref t)] [(.int ln), (.ref b1), (.ref b1)])
  refine own_go (fun t_ k_ => XS.aloadN X2.here hx rfl (hb hby d10_8) rfl rfl  k_) ?_
  show own_Ends _ _ _ _ _ _ _ T2 (mkF m 9 #[.val (.ref t)] [(.ref t), (.int ln), (.ref b1), (.ref b1)])
  obtain ⟨T3, v3, L3, X3, hQ3, st3⟩ := own_callV X2 hx hZ (y := (⟨"com/example/ferret/ferret/frontend/Token", "column", "()I"⟩ : MethodName)) (z := (⟨"com/example/ferret/ferret/frontend/Token", "column", "()I"⟩ : MethodName)) hown (hw _ (List.mem_of_getElem? (i := 76) rfl)) (hw _ (List.mem_of_getElem? (i := 77) rfl)) (notFace_of_selects (args := #[]) (mvT hZ (hw _ (List.mem_of_getElem? (i := 79) rfl)))) (hw _ (List.mem_of_getElem? (i := 79) rfl)) (hw _ (List.mem_of_getElem? (i := 78) rfl)) (hw _ (List.mem_of_getElem? (i := 43) rfl)) (hw _ (List.mem_of_getElem? (i := 80) rfl)) (by decide) (rm12 l Z a0 hw [] t co h1 n0 (Nat.le_trans Z0 E1.1) (F_c.ext E1)) e2 (g := (mkF m 9 #[.val (.ref t)] [(.ref t), (.int ln), (.ref b1), (.ref b1)])) rfl (by rw [hml]; rfl) t (Et.ext E1) [] [(.int ln), (.ref b1), (.ref b1)] rfl (lenOf pd___I rfl) rfl 3 (by show 2 * 0 + _ ≤ _; exact Nat.le_of_eq rfl) (hb hby d10_9) (by decide) (by decide) (by decide) (by decide)
  obtain ⟨rfl, N3q, e3⟩ := hQ3
  refine own_go st3 ?_
  have N3 := Fr.app N2 N3q
  show own_Ends _ _ _ _ _ _ _ T3 (mkF m 12 #[.val (.ref t)] [(.int co), (.int ln), (.ref b1), (.ref b1)])
  have Nsk4 : ∀ x ∈ ([b1] : List Addr), ∀ cell : Cell, h1[x]? = some cell → cell.vm.isStatics = false := (nsS (Exa.nostat A1) ns0)
  obtain ⟨T5, v5, L5, X5, hQ5, st5⟩ := own_callN X3 hx hZ (y := (⟨"com/example/ferret/ferret/frontend/Ast$Position", "<init>", "(II)V"⟩ : MethodName)) rfl hown (hw _ (List.mem_of_getElem? (i := 81) rfl)) (hw _ (List.mem_of_getElem? (i := 82) rfl)) (hw _ (List.mem_of_getElem? (i := 67) rfl)) (hw _ (List.mem_of_getElem? (i := 83) rfl)) (by decide) (rm13 l Z a0 hw [] b1 ln co h1 n0 (Nat.le_trans Z0 E1.1)  A1 F1_line F1_column g_b1) e3 (g := (mkF m 12 #[.val (.ref t)] [(.int co), (.int ln), (.ref b1), (.ref b1)])) rfl (by rw [hml]; rfl) b1 [(.int ln), (.int co)] [(.ref b1)] rfl (lenOf pd__II_V rfl) rfl 1 (by show 2 * 0 + _ ≤ _; exact Nat.le_of_eq rfl) (hb hby d10_12) (by decide) (by decide) (by decide) (by decide)
  obtain ⟨rfl, N5q, Kq5, Eq5, Fq5_0, Fq5_1⟩ := hQ5
  refine own_go st5 ?_
  have N5 := Fr.app N3 N5q
  have K5 := Keep.trans K1 Kq5 (allS (Or.inr sz_b1) all0)
  show own_Ends _ _ _ _ _ _ _ T5 (mkF m 15 #[.val (.ref t)] [(.ref b1)])
  refine own_retR X5 hx hlk hret rfl rfl (hb hby d10_15) rfl (by decide) (by decide) ?_
  exact ⟨b1, rfl, N5, K5, (A1.keep Kq5), Fq5_0, Fq5_1⟩
def own_kind (i : Int32) (w0 w1 w2 w3 w4 w5 w6 : Addr) : Addr := if i = 0 then w0 else if i = 1 then w1 else if i = 2 then w2 else if i = 3 then w3 else if i = 4 then w4 else if i = 5 then w5 else w6
theorem d1_0 : decode method_2_code 0 = .ok (.iload_n 0, 1) := by decide +kernel
theorem d1_1 : decode method_2_code 1 = .ok (.ifCond .ne 7, 3) := by decide +kernel
theorem d1_4 : decode method_2_code 4 = .ok (.getstatic 7, 3) := by decide +kernel
theorem d1_7 : decode method_2_code 7 = .ok (.areturn, 1) := by decide +kernel
theorem d1_8 : decode method_2_code 8 = .ok (.iload_n 0, 1) := by decide +kernel
theorem d1_9 : decode method_2_code 9 = .ok (.iconst 1, 1) := by decide +kernel
theorem d1_10 : decode method_2_code 10 = .ok (.if_icmp .ne 7, 3) := by decide +kernel
theorem d1_13 : decode method_2_code 13 = .ok (.getstatic 13, 3) := by decide +kernel
theorem d1_16 : decode method_2_code 16 = .ok (.areturn, 1) := by decide +kernel
theorem d1_17 : decode method_2_code 17 = .ok (.iload_n 0, 1) := by decide +kernel
theorem d1_18 : decode method_2_code 18 = .ok (.iconst 2, 1) := by decide +kernel
theorem d1_19 : decode method_2_code 19 = .ok (.if_icmp .ne 7, 3) := by decide +kernel
theorem d1_22 : decode method_2_code 22 = .ok (.getstatic 16, 3) := by decide +kernel
theorem d1_25 : decode method_2_code 25 = .ok (.areturn, 1) := by decide +kernel
theorem d1_26 : decode method_2_code 26 = .ok (.iload_n 0, 1) := by decide +kernel
theorem d1_27 : decode method_2_code 27 = .ok (.iconst 3, 1) := by decide +kernel
theorem d1_28 : decode method_2_code 28 = .ok (.if_icmp .ne 7, 3) := by decide +kernel
theorem d1_31 : decode method_2_code 31 = .ok (.getstatic 19, 3) := by decide +kernel
theorem d1_34 : decode method_2_code 34 = .ok (.areturn, 1) := by decide +kernel
theorem d1_35 : decode method_2_code 35 = .ok (.iload_n 0, 1) := by decide +kernel
theorem d1_36 : decode method_2_code 36 = .ok (.iconst 4, 1) := by decide +kernel
theorem d1_37 : decode method_2_code 37 = .ok (.if_icmp .ne 7, 3) := by decide +kernel
theorem d1_40 : decode method_2_code 40 = .ok (.getstatic 22, 3) := by decide +kernel
theorem d1_43 : decode method_2_code 43 = .ok (.areturn, 1) := by decide +kernel
theorem d1_44 : decode method_2_code 44 = .ok (.iload_n 0, 1) := by decide +kernel
theorem d1_45 : decode method_2_code 45 = .ok (.iconst 5, 1) := by decide +kernel
theorem d1_46 : decode method_2_code 46 = .ok (.if_icmp .ne 7, 3) := by decide +kernel
theorem d1_49 : decode method_2_code 49 = .ok (.getstatic 25, 3) := by decide +kernel
theorem d1_52 : decode method_2_code 52 = .ok (.areturn, 1) := by decide +kernel
theorem d1_53 : decode method_2_code 53 = .ok (.getstatic 28, 3) := by decide +kernel
theorem d1_56 : decode method_2_code 56 = .ok (.areturn, 1) := by decide +kernel
theorem pn1 : plainFor (⟨"com/example/ferret/ferret/frontend/PositionOfPinLaw", "kindOf", "(I)Lcom/example/ferret/ferret/frontend/Token$Kind;"⟩ : MethodName) = true := plainFor_of_name (by first | (simp [plainName, overriddenIn]; done) | decide +kernel)
set_option maxRecDepth 65536 in
set_option maxHeartbeats 40000000 in
theorem rm1 (l : Launch) (Z : State) (a0 : Array Value) (hw : ∀ d ∈ tables_1, d.before a0 Z = true) (ws : List Jvm.Cond) (p0 : Int32) (w0 w1 w2 w3 w4 w5 w6 : Addr) (h0 : Heap) (n0 : Nat) (Z0 : n0 ≤ h0.size) (S0 : Sta Z h0 "com/example/ferret/ferret/frontend/Token$Kind" "IDENTIFIER" "Lcom/example/ferret/ferret/frontend/Token$Kind;" (.ref w0)) (S1 : Sta Z h0 "com/example/ferret/ferret/frontend/Token$Kind" "KEYWORD" "Lcom/example/ferret/ferret/frontend/Token$Kind;" (.ref w1)) (S2 : Sta Z h0 "com/example/ferret/ferret/frontend/Token$Kind" "NUMBER" "Lcom/example/ferret/ferret/frontend/Token$Kind;" (.ref w2)) (S3 : Sta Z h0 "com/example/ferret/ferret/frontend/Token$Kind" "CHARACTER" "Lcom/example/ferret/ferret/frontend/Token$Kind;" (.ref w3)) (S4 : Sta Z h0 "com/example/ferret/ferret/frontend/Token$Kind" "STRING" "Lcom/example/ferret/ferret/frontend/Token$Kind;" (.ref w4)) (S5 : Sta Z h0 "com/example/ferret/ferret/frontend/Token$Kind" "PUNCTUATOR" "Lcom/example/ferret/ferret/frontend/Token$Kind;" (.ref w5)) (S6 : Sta Z h0 "com/example/ferret/ferret/frontend/Token$Kind" "END" "Lcom/example/ferret/ferret/frontend/Token$Kind;" (.ref w6)) :
    own_Met l (⟨"com/example/ferret/ferret/frontend/PositionOfPinLaw", "kindOf", "(I)Lcom/example/ferret/ferret/frontend/Token$Kind;"⟩ : MethodName) method_2_code 1 (some (.object "com/example/ferret/ferret/frontend/Token$Kind")) ({ frames := 0, cells := 0, slots := 0, locals := 0 } : Room) ws #[(.int p0)] Z h0 (fun v h L => v = some (.ref (own_kind p0 w0 w1 w2 w3 w4 w5 w6)) ∧ Fr n0 L ∧ h = h0) := by
  refine own_met pn1 ?_
  intro p e s m below meth c s₁ hx X0 hZ e0 hby hml hown hnm hret hlk
  have N0 := Fr.nil n0
  refine own_at (f' := mkF m 0 #[.val (.int p0)] []) (by first | rfl | (simp [entryFrame, mkF, argsToLocals, Value.category]; done)) ?_
  show own_Ends _ _ _ _ _ _ _ s₁ (mkF m 0 #[.val (.int p0)] [])
  refine own_go (fun t_ k_ => XS.iloadN X0.here hx rfl (hb hby d1_0) rfl  k_) ?_
  show own_Ends _ _ _ _ _ _ _ s₁ (mkF m 1 #[.val (.int p0)] [(.int p0)])
  by_cases hc1 : p0 = (0 : Int32)
  · refine own_go (fun t_ k_ => XS.ifNo X0.here hx rfl (hb hby d1_1) rfl ((if0 _ _).trans (teq hc1).2) k_) ?_
    show own_Ends _ _ _ _ _ _ _ s₁ (mkF m 4 #[.val (.int p0)] [])
    obtain ⟨T2, X2, e2, st2⟩ := getS2 X0 hx hZ hown (host := "") (Or.inl (hw _ (List.mem_of_getElem? (i := 107) rfl))) Via.refl e0 S0 (g := (mkF m 4 #[.val (.int p0)] [])) rfl (hb hby d1_4)
    refine own_go st2 ?_
    show own_Ends _ _ _ _ _ _ _ T2 (mkF m 7 #[.val (.int p0)] [(.ref w0)])
    refine own_retR X2 hx hlk hret rfl rfl (hb hby d1_7) e2 (by decide) (by decide) ?_
    exact ⟨by simp [own_kind, hc1], N0, rfl⟩
  · refine own_go (fun t_ k_ => XS.ifYes X0.here hx rfl (pc0 := 1) (pc' := 8) rfl (hb hby d1_1) rfl ((if0 _ _).trans (feq hc1).2) (by decide) (by decide) k_) ?_
    show own_Ends _ _ _ _ _ _ _ s₁ (mkF m 8 #[.val (.int p0)] [])
    refine own_go (fun t_ k_ => XS.iloadN X0.here hx rfl (hb hby d1_8) rfl  k_) ?_
    show own_Ends _ _ _ _ _ _ _ s₁ (mkF m 9 #[.val (.int p0)] [(.int p0)])
    refine own_go (fun t_ k_ => XS.iconst X0.here hx rfl (hb hby d1_9) k_) ?_
    show own_Ends _ _ _ _ _ _ _ s₁ (mkF m 10 #[.val (.int p0)] [(.int (1 : Int32)), (.int p0)])
    by_cases hc3 : p0 = (1 : Int32)
    · refine own_go (fun t_ k_ => XS.icmpNo X0.here hx rfl (hb hby d1_10) rfl (teq hc3).2 k_) ?_
      show own_Ends _ _ _ _ _ _ _ s₁ (mkF m 13 #[.val (.int p0)] [])
      obtain ⟨T4, X4, e4, st4⟩ := getS2 X0 hx hZ hown (host := "") (Or.inl (hw _ (List.mem_of_getElem? (i := 103) rfl))) Via.refl e0 S1 (g := (mkF m 13 #[.val (.int p0)] [])) rfl (hb hby d1_13)
      refine own_go st4 ?_
      show own_Ends _ _ _ _ _ _ _ T4 (mkF m 16 #[.val (.int p0)] [(.ref w1)])
      refine own_retR X4 hx hlk hret rfl rfl (hb hby d1_16) e4 (by decide) (by decide) ?_
      exact ⟨by simp [own_kind, hc1, hc3], N0, rfl⟩
    · refine own_go (fun t_ k_ => XS.icmpYes X0.here hx rfl (pc0 := 10) (pc' := 17) rfl (hb hby d1_10) rfl (feq hc3).2 (by decide) (by decide) k_) ?_
      show own_Ends _ _ _ _ _ _ _ s₁ (mkF m 17 #[.val (.int p0)] [])
      refine own_go (fun t_ k_ => XS.iloadN X0.here hx rfl (hb hby d1_17) rfl  k_) ?_
      show own_Ends _ _ _ _ _ _ _ s₁ (mkF m 18 #[.val (.int p0)] [(.int p0)])
      refine own_go (fun t_ k_ => XS.iconst X0.here hx rfl (hb hby d1_18) k_) ?_
      show own_Ends _ _ _ _ _ _ _ s₁ (mkF m 19 #[.val (.int p0)] [(.int (2 : Int32)), (.int p0)])
      by_cases hc5 : p0 = (2 : Int32)
      · refine own_go (fun t_ k_ => XS.icmpNo X0.here hx rfl (hb hby d1_19) rfl (teq hc5).2 k_) ?_
        show own_Ends _ _ _ _ _ _ _ s₁ (mkF m 22 #[.val (.int p0)] [])
        obtain ⟨T6, X6, e6, st6⟩ := getS2 X0 hx hZ hown (host := "") (Or.inl (hw _ (List.mem_of_getElem? (i := 5) rfl))) Via.refl e0 S2 (g := (mkF m 22 #[.val (.int p0)] [])) rfl (hb hby d1_22)
        refine own_go st6 ?_
        show own_Ends _ _ _ _ _ _ _ T6 (mkF m 25 #[.val (.int p0)] [(.ref w2)])
        refine own_retR X6 hx hlk hret rfl rfl (hb hby d1_25) e6 (by decide) (by decide) ?_
        exact ⟨by simp [own_kind, hc1, hc3, hc5], N0, rfl⟩
      · refine own_go (fun t_ k_ => XS.icmpYes X0.here hx rfl (pc0 := 19) (pc' := 26) rfl (hb hby d1_19) rfl (feq hc5).2 (by decide) (by decide) k_) ?_
        show own_Ends _ _ _ _ _ _ _ s₁ (mkF m 26 #[.val (.int p0)] [])
        refine own_go (fun t_ k_ => XS.iloadN X0.here hx rfl (hb hby d1_26) rfl  k_) ?_
        show own_Ends _ _ _ _ _ _ _ s₁ (mkF m 27 #[.val (.int p0)] [(.int p0)])
        refine own_go (fun t_ k_ => XS.iconst X0.here hx rfl (hb hby d1_27) k_) ?_
        show own_Ends _ _ _ _ _ _ _ s₁ (mkF m 28 #[.val (.int p0)] [(.int (3 : Int32)), (.int p0)])
        by_cases hc7 : p0 = (3 : Int32)
        · refine own_go (fun t_ k_ => XS.icmpNo X0.here hx rfl (hb hby d1_28) rfl (teq hc7).2 k_) ?_
          show own_Ends _ _ _ _ _ _ _ s₁ (mkF m 31 #[.val (.int p0)] [])
          obtain ⟨T8, X8, e8, st8⟩ := getS2 X0 hx hZ hown (host := "") (Or.inl (hw _ (List.mem_of_getElem? (i := 105) rfl))) Via.refl e0 S3 (g := (mkF m 31 #[.val (.int p0)] [])) rfl (hb hby d1_31)
          refine own_go st8 ?_
          show own_Ends _ _ _ _ _ _ _ T8 (mkF m 34 #[.val (.int p0)] [(.ref w3)])
          refine own_retR X8 hx hlk hret rfl rfl (hb hby d1_34) e8 (by decide) (by decide) ?_
          exact ⟨by simp [own_kind, hc1, hc3, hc5, hc7], N0, rfl⟩
        · refine own_go (fun t_ k_ => XS.icmpYes X0.here hx rfl (pc0 := 28) (pc' := 35) rfl (hb hby d1_28) rfl (feq hc7).2 (by decide) (by decide) k_) ?_
          show own_Ends _ _ _ _ _ _ _ s₁ (mkF m 35 #[.val (.int p0)] [])
          refine own_go (fun t_ k_ => XS.iloadN X0.here hx rfl (hb hby d1_35) rfl  k_) ?_
          show own_Ends _ _ _ _ _ _ _ s₁ (mkF m 36 #[.val (.int p0)] [(.int p0)])
          refine own_go (fun t_ k_ => XS.iconst X0.here hx rfl (hb hby d1_36) k_) ?_
          show own_Ends _ _ _ _ _ _ _ s₁ (mkF m 37 #[.val (.int p0)] [(.int (4 : Int32)), (.int p0)])
          by_cases hc9 : p0 = (4 : Int32)
          · refine own_go (fun t_ k_ => XS.icmpNo X0.here hx rfl (hb hby d1_37) rfl (teq hc9).2 k_) ?_
            show own_Ends _ _ _ _ _ _ _ s₁ (mkF m 40 #[.val (.int p0)] [])
            obtain ⟨T10, X10, e10, st10⟩ := getS2 X0 hx hZ hown (host := "") (Or.inl (hw _ (List.mem_of_getElem? (i := 99) rfl))) Via.refl e0 S4 (g := (mkF m 40 #[.val (.int p0)] [])) rfl (hb hby d1_40)
            refine own_go st10 ?_
            show own_Ends _ _ _ _ _ _ _ T10 (mkF m 43 #[.val (.int p0)] [(.ref w4)])
            refine own_retR X10 hx hlk hret rfl rfl (hb hby d1_43) e10 (by decide) (by decide) ?_
            exact ⟨by simp [own_kind, hc1, hc3, hc5, hc7, hc9], N0, rfl⟩
          · refine own_go (fun t_ k_ => XS.icmpYes X0.here hx rfl (pc0 := 37) (pc' := 44) rfl (hb hby d1_37) rfl (feq hc9).2 (by decide) (by decide) k_) ?_
            show own_Ends _ _ _ _ _ _ _ s₁ (mkF m 44 #[.val (.int p0)] [])
            refine own_go (fun t_ k_ => XS.iloadN X0.here hx rfl (hb hby d1_44) rfl  k_) ?_
            show own_Ends _ _ _ _ _ _ _ s₁ (mkF m 45 #[.val (.int p0)] [(.int p0)])
            refine own_go (fun t_ k_ => XS.iconst X0.here hx rfl (hb hby d1_45) k_) ?_
            show own_Ends _ _ _ _ _ _ _ s₁ (mkF m 46 #[.val (.int p0)] [(.int (5 : Int32)), (.int p0)])
            by_cases hc11 : p0 = (5 : Int32)
            · refine own_go (fun t_ k_ => XS.icmpNo X0.here hx rfl (hb hby d1_46) rfl (teq hc11).2 k_) ?_
              show own_Ends _ _ _ _ _ _ _ s₁ (mkF m 49 #[.val (.int p0)] [])
              obtain ⟨T12, X12, e12, st12⟩ := getS2 X0 hx hZ hown (host := "") (Or.inl (hw _ (List.mem_of_getElem? (i := 101) rfl))) Via.refl e0 S5 (g := (mkF m 49 #[.val (.int p0)] [])) rfl (hb hby d1_49)
              refine own_go st12 ?_
              show own_Ends _ _ _ _ _ _ _ T12 (mkF m 52 #[.val (.int p0)] [(.ref w5)])
              refine own_retR X12 hx hlk hret rfl rfl (hb hby d1_52) e12 (by decide) (by decide) ?_
              exact ⟨by simp [own_kind, hc1, hc3, hc5, hc7, hc9, hc11], N0, rfl⟩
            · refine own_go (fun t_ k_ => XS.icmpYes X0.here hx rfl (pc0 := 46) (pc' := 53) rfl (hb hby d1_46) rfl (feq hc11).2 (by decide) (by decide) k_) ?_
              show own_Ends _ _ _ _ _ _ _ s₁ (mkF m 53 #[.val (.int p0)] [])
              obtain ⟨T13, X13, e13, st13⟩ := getS2 X0 hx hZ hown (host := "") (Or.inl (hw _ (List.mem_of_getElem? (i := 10) rfl))) Via.refl e0 S6 (g := (mkF m 53 #[.val (.int p0)] [])) rfl (hb hby d1_53)
              refine own_go st13 ?_
              show own_Ends _ _ _ _ _ _ _ T13 (mkF m 56 #[.val (.int p0)] [(.ref w6)])
              refine own_retR X13 hx hlk hret rfl rfl (hb hby d1_56) e13 (by decide) (by decide) ?_
              exact ⟨by simp [own_kind, hc1, hc3, hc5, hc7, hc9, hc11], N0, rfl⟩
theorem pd__I_Lcom_example_ferret_ferret_frontend_Token_Kind_ : parseMethodDescriptor "(I)Lcom/example/ferret/ferret/frontend/Token$Kind;" = some ⟨[.int], some (.object "com/example/ferret/ferret/frontend/Token$Kind")⟩ := by decide +kernel
theorem pd__Lcom_example_ferret_ferret_frontend_Token_Kind_Ljava_lang_String_IILjava_lang_String_Z_V : parseMethodDescriptor "(Lcom/example/ferret/ferret/frontend/Token$Kind;Ljava/lang/String;IILjava/lang/String;Z)V" = some ⟨[(.object "com/example/ferret/ferret/frontend/Token$Kind"), (.object "java/lang/String"), .int, .int, (.object "java/lang/String"), .boolean], none⟩ := by decide +kernel
theorem pd__Lcom_example_ferret_ferret_frontend_Token__Lcom_example_ferret_ferret_frontend_Ast_Position_ : parseMethodDescriptor "(Lcom/example/ferret/ferret/frontend/Token;)Lcom/example/ferret/ferret/frontend/Ast$Position;" = some ⟨[(.object "com/example/ferret/ferret/frontend/Token")], some (.object "com/example/ferret/ferret/frontend/Ast$Position")⟩ := by decide +kernel
theorem pd___C_V : parseMethodDescriptor "([C)V" = some ⟨[(.array .char)], none⟩ := by decide +kernel
theorem pn0 : plainFor (⟨"com/example/ferret/ferret/frontend/PositionOfPinLaw", "law", "(IIII)Z"⟩ : MethodName) = true := plainFor_of_name (by first | (simp [plainName, overriddenIn]; done) | decide +kernel)
set_option maxRecDepth 65536 in
set_option maxHeartbeats 40000000 in
theorem rm0 (l : Launch) (Z : State) (a0 : Array Value) (hw : ∀ d ∈ tables_1, d.before a0 Z = true) (ws : List Jvm.Cond) (p0 : Int32) (p1 : Int32) (p2 : Int32) (p3 : Int32) (w0 w1 w2 w3 w4 w5 w6 : Addr) (zc : Int32) (h0 : Heap) (n0 : Nat) (Z0 : n0 ≤ h0.size) (S0 : Sta Z h0 "com/example/ferret/ferret/frontend/Token$Kind" "IDENTIFIER" "Lcom/example/ferret/ferret/frontend/Token$Kind;" (.ref w0)) (S1 : Sta Z h0 "com/example/ferret/ferret/frontend/Token$Kind" "KEYWORD" "Lcom/example/ferret/ferret/frontend/Token$Kind;" (.ref w1)) (S2 : Sta Z h0 "com/example/ferret/ferret/frontend/Token$Kind" "NUMBER" "Lcom/example/ferret/ferret/frontend/Token$Kind;" (.ref w2)) (S3 : Sta Z h0 "com/example/ferret/ferret/frontend/Token$Kind" "CHARACTER" "Lcom/example/ferret/ferret/frontend/Token$Kind;" (.ref w3)) (S4 : Sta Z h0 "com/example/ferret/ferret/frontend/Token$Kind" "STRING" "Lcom/example/ferret/ferret/frontend/Token$Kind;" (.ref w4)) (S5 : Sta Z h0 "com/example/ferret/ferret/frontend/Token$Kind" "PUNCTUATOR" "Lcom/example/ferret/ferret/frontend/Token$Kind;" (.ref w5)) (S6 : Sta Z h0 "com/example/ferret/ferret/frontend/Token$Kind" "END" "Lcom/example/ferret/ferret/frontend/Token$Kind;" (.ref w6)) (SC : Sta Z h0 "java/lang/String" "COMPACT_STRINGS" "Z" (.int zc)) (hzc : ¬ zc = 0) :
    own_MetW l x code maxLocals ret room_1 ws #[(.int p0), (.int p1), (.int p2), (.int p3)] Z [] h0 (fun v h L => v = some (.int 1) ∧ Fr n0 L) := by
  refine own_metW pn0 ?_
  intro p e s m below meth c s₁ hx X0 hZ e0 hby hml hown hnm hret hlk Iv0
  have N0 := Fr.nil n0
  refine own_atW (f' := mkF m 0 #[.val (.int p0), .val (.int p1), .val (.int p2), .val (.int p3), .unset, .unset, .unset, .unset, .unset, .unset] []) (by first | rfl | (simp [entryFrame, mkF, argsToLocals, Value.category, maxLocals]; done)) ?_
  show own_EndsW _ _ _ _ _ _ _ _ _ s₁ (mkF m 0 #[.val (.int p0), .val (.int p1), .val (.int p2), .val (.int p3), .unset, .unset, .unset, .unset, .unset, .unset] [])
  refine own_goW (fun t_ k_ => XS.iloadN X0.here hx rfl (hb hby at_0) rfl  k_) ?_
  show own_EndsW _ _ _ _ _ _ _ _ _ s₁ (mkF m 1 #[.val (.int p0), .val (.int p1), .val (.int p2), .val (.int p3), .unset, .unset, .unset, .unset, .unset, .unset] [(.int p2)])
  refine own_goW (X0.ldcInt hx hown (mvT hZ (hw _ (List.mem_of_getElem? (i := 0) rfl))) (g := (mkF m 1 #[.val (.int p0), .val (.int p1), .val (.int p2), .val (.int p3), .unset, .unset, .unset, .unset, .unset, .unset] [(.int p2)])) rfl (hb hby at_1)) ?_
  show own_EndsW _ _ _ _ _ _ _ _ _ s₁ (mkF m 3 #[.val (.int p0), .val (.int p1), .val (.int p2), .val (.int p3), .unset, .unset, .unset, .unset, .unset, .unset] [(.int (2147483647 : Int32)), (.int p2)])
  refine own_goW (fun t_ k_ => XS.iand X0.here hx rfl (hb hby at_3) rfl k_) ?_
  show own_EndsW _ _ _ _ _ _ _ _ _ s₁ (mkF m 4 #[.val (.int p0), .val (.int p1), .val (.int p2), .val (.int p3), .unset, .unset, .unset, .unset, .unset, .unset] [(.int (p2 &&& (2147483647 : Int32)))])
  refine own_goW (fun t_ k_ => XS.bipush X0.here hx rfl (hb hby at_4) k_) ?_
  show own_EndsW _ _ _ _ _ _ _ _ _ s₁ (mkF m 6 #[.val (.int p0), .val (.int p1), .val (.int p2), .val (.int p3), .unset, .unset, .unset, .unset, .unset, .unset] [(.int (7 : Int32)), (.int (p2 &&& (2147483647 : Int32)))])
  refine own_goW (fun t_ k_ => own_irem X0 hx rfl (hb hby at_6) rfl (by decide) k_) ?_
  show own_EndsW _ _ _ _ _ _ _ _ _ s₁ (mkF m 7 #[.val (.int p0), .val (.int p1), .val (.int p2), .val (.int p3), .unset, .unset, .unset, .unset, .unset, .unset] [(.int ((p2 &&& (2147483647 : Int32)) % (7 : Int32)))])
  obtain ⟨T1, v1, L1, X1, hQ1, st1⟩ := own_callS X0 hx hZ (y := (⟨"com/example/ferret/ferret/frontend/PositionOfPinLaw", "kindOf", "(I)Lcom/example/ferret/ferret/frontend/Token$Kind;"⟩ : MethodName)) hown (hw _ (List.mem_of_getElem? (i := 1) rfl)) (hw _ (List.mem_of_getElem? (i := 2) rfl)) (hw _ (List.mem_of_getElem? (i := 3) rfl)) (hw _ (List.mem_of_getElem? (i := 4) rfl)) (by decide) (rm1 l Z a0 hw [] ((p2 &&& (2147483647 : Int32)) % (7 : Int32)) w0 w1 w2 w3 w4 w5 w6 h0 n0 Z0 S0 S1 S2 S3 S4 S5 S6) e0 (g := (mkF m 7 #[.val (.int p0), .val (.int p1), .val (.int p2), .val (.int p3), .unset, .unset, .unset, .unset, .unset, .unset] [(.int ((p2 &&& (2147483647 : Int32)) % (7 : Int32)))])) rfl (by rw [hml]; rfl) [(.int ((p2 &&& (2147483647 : Int32)) % (7 : Int32)))] [] rfl (lenOf pd__I_Lcom_example_ferret_ferret_frontend_Token_Kind_ rfl) rfl 0 (by show 2 * 0 + _ ≤ _; exact Nat.le_of_eq rfl) (hb hby at_7) (by decide) (by decide) (by decide) (by decide)
  obtain ⟨hv1, N1q, e1⟩ := hQ1
  obtain ⟨kd, hkd⟩ : ∃ z, z = own_kind ((p2 &&& (2147483647 : Int32)) % (7 : Int32)) w0 w1 w2 w3 w4 w5 w6 := ⟨_, rfl⟩
  rw [← hkd] at hv1
  subst hv1
  refine own_goW st1 ?_
  have N1 := Fr.app N0 N1q
  show own_EndsW _ _ _ _ _ _ _ _ _ T1 (mkF m 10 #[.val (.int p0), .val (.int p1), .val (.int p2), .val (.int p3), .unset, .unset, .unset, .unset, .unset, .unset] [(.ref kd)])
  refine own_goW (fun t_ k_ => XS.astore X1.here hx rfl (hb hby at_10) rfl rfl (l' := #[.val (.int p0), .val (.int p1), .val (.int p2), .val (.int p3), .val (.ref kd), .unset, .unset, .unset, .unset, .unset]) rfl k_) ?_
  show own_EndsW _ _ _ _ _ _ _ _ _ T1 (mkF m 12 #[.val (.int p0), .val (.int p1), .val (.int p2), .val (.int p3), .val (.ref kd), .unset, .unset, .unset, .unset, .unset] [])
  refine own_goW (fun t_ k_ => XS.iloadN X1.here hx rfl (hb hby at_12) rfl  k_) ?_
  show own_EndsW _ _ _ _ _ _ _ _ _ T1 (mkF m 13 #[.val (.int p0), .val (.int p1), .val (.int p2), .val (.int p3), .val (.ref kd), .unset, .unset, .unset, .unset, .unset] [(.int p3)])
  refine own_goW (X1.ldcInt hx hown (mvT hZ (hw _ (List.mem_of_getElem? (i := 8) rfl))) (g := (mkF m 13 #[.val (.int p0), .val (.int p1), .val (.int p2), .val (.int p3), .val (.ref kd), .unset, .unset, .unset, .unset, .unset] [(.int p3)])) rfl (hb hby at_13)) ?_
  show own_EndsW _ _ _ _ _ _ _ _ _ T1 (mkF m 15 #[.val (.int p0), .val (.int p1), .val (.int p2), .val (.int p3), .val (.ref kd), .unset, .unset, .unset, .unset, .unset] [(.int (65536 : Int32)), (.int p3)])
  refine own_goW (fun t_ k_ => XS.iand X1.here hx rfl (hb hby at_15) rfl k_) ?_
  show own_EndsW _ _ _ _ _ _ _ _ _ T1 (mkF m 16 #[.val (.int p0), .val (.int p1), .val (.int p2), .val (.int p3), .val (.ref kd), .unset, .unset, .unset, .unset, .unset] [(.int (p3 &&& (65536 : Int32)))])
  by_cases hc2 : (p3 &&& (65536 : Int32)) = (0 : Int32)
  · refine own_goW (fun t_ k_ => XS.ifYes X1.here hx rfl (pc0 := 16) (pc' := 23) rfl (hb hby at_16) rfl ((if0 _ _).trans (teq hc2).1) (by decide) (by decide) k_) ?_
    show own_EndsW _ _ _ _ _ _ _ _ _ T1 (mkF m 23 #[.val (.int p0), .val (.int p1), .val (.int p2), .val (.int p3), .val (.ref kd), .unset, .unset, .unset, .unset, .unset] [])
    refine own_goW (fun t_ k_ => XS.iconst X1.here hx rfl (hb hby at_23) k_) ?_
    show own_EndsW _ _ _ _ _ _ _ _ _ T1 (mkF m 24 #[.val (.int p0), .val (.int p1), .val (.int p2), .val (.int p3), .val (.ref kd), .unset, .unset, .unset, .unset, .unset] [(.int (0 : Int32))])
    refine own_goW (fun t_ k_ => XS.istore X1.here hx rfl (hb hby at_24) rfl (l' := #[.val (.int p0), .val (.int p1), .val (.int p2), .val (.int p3), .val (.ref kd), .val (.int (0 : Int32)), .unset, .unset, .unset, .unset]) rfl k_) ?_
    show own_EndsW _ _ _ _ _ _ _ _ _ T1 (mkF m 26 #[.val (.int p0), .val (.int p1), .val (.int p2), .val (.int p3), .val (.ref kd), .val (.int (0 : Int32)), .unset, .unset, .unset, .unset] [])
    refine own_goW (fun t_ k_ => XS.iconst X1.here hx rfl (hb hby at_26) k_) ?_
    show own_EndsW _ _ _ _ _ _ _ _ _ T1 (mkF m 27 #[.val (.int p0), .val (.int p1), .val (.int p2), .val (.int p3), .val (.ref kd), .val (.int (0 : Int32)), .unset, .unset, .unset, .unset] [(.int (2 : Int32))])
    obtain ⟨T3, h3, k3, X3, e3, E3, A3, st3⟩ := newP X1 hx hZ (hw _ (List.mem_of_getElem? (i := 9) rfl)) e1 (g := (mkF m 27 #[.val (.int p0), .val (.int p1), .val (.int p2), .val (.int p3), .val (.ref kd), .val (.int (0 : Int32)), .unset, .unset, .unset, .unset] [(.int (2 : Int32))])) rfl (hb hby at_27) rfl (by decide) (cap := 2) (by decide) (by decide) (by decide) (by decide)
    obtain ⟨b3, g3⟩ : ∃ z, z = h0.size := ⟨_, rfl⟩
    rw [← g3] at A3 st3
    refine own_goW st3 ?_
    have V3 : Arv Z h3 b3 k3 .char (2 : Int32) [(.int (0 : Int32)), (.int (0 : Int32))] (.int (0 : Int32)) := (Arv.new A3 (by decide)).pad (pad_rep [] (.int (0 : Int32)) 2)
    have g_b3 : n0 ≤ b3 := Nat.le_trans Z0 (Nat.le_of_eq g3.symm)
    have Iv3 := Iv0.ext E3
    show own_EndsW _ _ _ _ _ _ _ _ _ T3 (mkF m 29 #[.val (.int p0), .val (.int p1), .val (.int p2), .val (.int p3), .val (.ref kd), .val (.int (0 : Int32)), .unset, .unset, .unset, .unset] [(.ref b3)])
    refine own_goW (fun t_ k_ => XS.dup X3.here hx rfl (hb hby at_29) rfl rfl k_) ?_
    show own_EndsW _ _ _ _ _ _ _ _ _ T3 (mkF m 30 #[.val (.int p0), .val (.int p1), .val (.int p2), .val (.int p3), .val (.ref kd), .val (.int (0 : Int32)), .unset, .unset, .unset, .unset] [(.ref b3), (.ref b3)])
    refine own_goW (fun t_ k_ => XS.iconst X3.here hx rfl (hb hby at_30) k_) ?_
    show own_EndsW _ _ _ _ _ _ _ _ _ T3 (mkF m 31 #[.val (.int p0), .val (.int p1), .val (.int p2), .val (.int p3), .val (.ref kd), .val (.int (0 : Int32)), .unset, .unset, .unset, .unset] [(.int (0 : Int32)), (.ref b3), (.ref b3)])
    refine own_goW (fun t_ k_ => XS.iloadN X3.here hx rfl (hb hby at_31) rfl  k_) ?_
    show own_EndsW _ _ _ _ _ _ _ _ _ T3 (mkF m 32 #[.val (.int p0), .val (.int p1), .val (.int p2), .val (.int p3), .val (.ref kd), .val (.int (0 : Int32)), .unset, .unset, .unset, .unset] [(.int p3), (.int (0 : Int32)), (.ref b3), (.ref b3)])
    refine own_goW (fun t_ k_ => XS.sipush X3.here hx rfl (hb hby at_32) k_) ?_
    show own_EndsW _ _ _ _ _ _ _ _ _ T3 (mkF m 35 #[.val (.int p0), .val (.int p1), .val (.int p2), .val (.int p3), .val (.ref kd), .val (.int (0 : Int32)), .unset, .unset, .unset, .unset] [(.int (255 : Int32)), (.int p3), (.int (0 : Int32)), (.ref b3), (.ref b3)])
    refine own_goW (fun t_ k_ => XS.iand X3.here hx rfl (hb hby at_35) rfl k_) ?_
    show own_EndsW _ _ _ _ _ _ _ _ _ T3 (mkF m 36 #[.val (.int p0), .val (.int p1), .val (.int p2), .val (.int p3), .val (.ref kd), .val (.int (0 : Int32)), .unset, .unset, .unset, .unset] [(.int (p3 &&& (255 : Int32))), (.int (0 : Int32)), (.ref b3), (.ref b3)])
    refine own_goW (fun t_ k_ => XT.i2c X3.here hx rfl (hb hby at_36) rfl k_) ?_
    show own_EndsW _ _ _ _ _ _ _ _ _ T3 (mkF m 37 #[.val (.int p0), .val (.int p1), .val (.int p2), .val (.int p3), .val (.ref kd), .val (.int (0 : Int32)), .unset, .unset, .unset, .unset] [(.int ((p3 &&& (255 : Int32)).toUInt32.toUInt16.toUInt32.toInt32)), (.int (0 : Int32)), (.ref b3), (.ref b3)])
    have Swp4 : Safe Z [] s.vm h3 b3 := own_safe0
    obtain ⟨cl5, Ar5, q5, S5, Ng5, Hs5, G5⟩ := (id V3)
    obtain ⟨T6, h6, X6, e6, W6, st6⟩ := stC X3 hx hZ e3 Ar5 (j := (0 : Int32)) (inb_of S5 ⟨by decide, by decide⟩) (g := (mkF m 37 #[.val (.int p0), .val (.int p1), .val (.int p2), .val (.int p3), .val (.ref kd), .val (.int (0 : Int32)), .unset, .unset, .unset, .unset] [(.int ((p3 &&& (255 : Int32)).toUInt32.toUInt16.toUInt32.toInt32)), (.int (0 : Int32)), (.ref b3), (.ref b3)])) rfl rfl (hb hby at_37)
    refine own_goW st6 ?_
    have V6 : Arv Z h6 b3 k3 .char (2 : Int32) [(.int (nar .char ((p3 &&& (255 : Int32)).toUInt32.toUInt16.toUInt32.toInt32))), (.int (0 : Int32))] (.int (0 : Int32)) := Arv.set Ar5 q5 S5 Ng5 Hs5 G5 (fits_nar_char _) W6 0 rfl (Nat.le_of_ble_eq_true rfl)
    have Iv6 := Iv3.wr W6 Swp4
    have N6 := Fr.snoc X6 N1 g_b3
    show own_EndsW _ _ _ _ _ _ _ _ _ T6 (mkF m 38 #[.val (.int p0), .val (.int p1), .val (.int p2), .val (.int p3), .val (.ref kd), .val (.int (0 : Int32)), .unset, .unset, .unset, .unset] [(.ref b3)])
    refine own_goW (fun t_ k_ => XS.dup X6.here hx rfl (hb hby at_38) rfl rfl k_) ?_
    show own_EndsW _ _ _ _ _ _ _ _ _ T6 (mkF m 39 #[.val (.int p0), .val (.int p1), .val (.int p2), .val (.int p3), .val (.ref kd), .val (.int (0 : Int32)), .unset, .unset, .unset, .unset] [(.ref b3), (.ref b3)])
    refine own_goW (fun t_ k_ => XS.iconst X6.here hx rfl (hb hby at_39) k_) ?_
    show own_EndsW _ _ _ _ _ _ _ _ _ T6 (mkF m 40 #[.val (.int p0), .val (.int p1), .val (.int p2), .val (.int p3), .val (.ref kd), .val (.int (0 : Int32)), .unset, .unset, .unset, .unset] [(.int (1 : Int32)), (.ref b3), (.ref b3)])
    refine own_goW (fun t_ k_ => XS.iloadN X6.here hx rfl (hb hby at_40) rfl  k_) ?_
    show own_EndsW _ _ _ _ _ _ _ _ _ T6 (mkF m 41 #[.val (.int p0), .val (.int p1), .val (.int p2), .val (.int p3), .val (.ref kd), .val (.int (0 : Int32)), .unset, .unset, .unset, .unset] [(.int p3), (.int (1 : Int32)), (.ref b3), (.ref b3)])
    refine own_goW (fun t_ k_ => XS.bipush X6.here hx rfl (hb hby at_41) k_) ?_
    show own_EndsW _ _ _ _ _ _ _ _ _ T6 (mkF m 43 #[.val (.int p0), .val (.int p1), .val (.int p2), .val (.int p3), .val (.ref kd), .val (.int (0 : Int32)), .unset, .unset, .unset, .unset] [(.int (8 : Int32)), (.int p3), (.int (1 : Int32)), (.ref b3), (.ref b3)])
    refine own_goW (fun t_ k_ => XT.iushr X6.here hx rfl (hb hby at_43) rfl k_) ?_
    show own_EndsW _ _ _ _ _ _ _ _ _ T6 (mkF m 44 #[.val (.int p0), .val (.int p1), .val (.int p2), .val (.int p3), .val (.ref kd), .val (.int (0 : Int32)), .unset, .unset, .unset, .unset] [(.int (XT.ushr p3 (8 : Int32))), (.int (1 : Int32)), (.ref b3), (.ref b3)])
    refine own_goW (fun t_ k_ => XS.sipush X6.here hx rfl (hb hby at_44) k_) ?_
    show own_EndsW _ _ _ _ _ _ _ _ _ T6 (mkF m 47 #[.val (.int p0), .val (.int p1), .val (.int p2), .val (.int p3), .val (.ref kd), .val (.int (0 : Int32)), .unset, .unset, .unset, .unset] [(.int (255 : Int32)), (.int (XT.ushr p3 (8 : Int32))), (.int (1 : Int32)), (.ref b3), (.ref b3)])
    refine own_goW (fun t_ k_ => XS.iand X6.here hx rfl (hb hby at_47) rfl k_) ?_
    show own_EndsW _ _ _ _ _ _ _ _ _ T6 (mkF m 48 #[.val (.int p0), .val (.int p1), .val (.int p2), .val (.int p3), .val (.ref kd), .val (.int (0 : Int32)), .unset, .unset, .unset, .unset] [(.int ((XT.ushr p3 (8 : Int32)) &&& (255 : Int32))), (.int (1 : Int32)), (.ref b3), (.ref b3)])
    refine own_goW (fun t_ k_ => XT.i2c X6.here hx rfl (hb hby at_48) rfl k_) ?_
    show own_EndsW _ _ _ _ _ _ _ _ _ T6 (mkF m 49 #[.val (.int p0), .val (.int p1), .val (.int p2), .val (.int p3), .val (.ref kd), .val (.int (0 : Int32)), .unset, .unset, .unset, .unset] [(.int (((XT.ushr p3 (8 : Int32)) &&& (255 : Int32)).toUInt32.toUInt16.toUInt32.toInt32)), (.int (1 : Int32)), (.ref b3), (.ref b3)])
    have Swp7 : Safe Z [] s.vm h6 b3 := own_safe0
    obtain ⟨cl8, Ar8, q8, S8, Ng8, Hs8, G8⟩ := (id V6)
    obtain ⟨T9, h9, X9, e9, W9, st9⟩ := stC X6 hx hZ e6 Ar8 (j := (1 : Int32)) (inb_of S8 ⟨by decide, by decide⟩) (g := (mkF m 49 #[.val (.int p0), .val (.int p1), .val (.int p2), .val (.int p3), .val (.ref kd), .val (.int (0 : Int32)), .unset, .unset, .unset, .unset] [(.int (((XT.ushr p3 (8 : Int32)) &&& (255 : Int32)).toUInt32.toUInt16.toUInt32.toInt32)), (.int (1 : Int32)), (.ref b3), (.ref b3)])) rfl rfl (hb hby at_49)
    refine own_goW st9 ?_
    have V9 : Arv Z h9 b3 k3 .char (2 : Int32) [(.int (nar .char ((p3 &&& (255 : Int32)).toUInt32.toUInt16.toUInt32.toInt32))), (.int (nar .char (((XT.ushr p3 (8 : Int32)) &&& (255 : Int32)).toUInt32.toUInt16.toUInt32.toInt32)))] (.int (0 : Int32)) := Arv.set Ar8 q8 S8 Ng8 Hs8 G8 (fits_nar_char _) W9 1 rfl (Nat.le_of_ble_eq_true rfl)
    have Iv9 := Iv6.wr W9 Swp7
    have N9 := Fr.snoc X9 N6 g_b3
    show own_EndsW _ _ _ _ _ _ _ _ _ T9 (mkF m 50 #[.val (.int p0), .val (.int p1), .val (.int p2), .val (.int p3), .val (.ref kd), .val (.int (0 : Int32)), .unset, .unset, .unset, .unset] [(.ref b3)])
    refine own_goW (fun t_ k_ => XS.astore X9.here hx rfl (hb hby at_50) rfl rfl (l' := #[.val (.int p0), .val (.int p1), .val (.int p2), .val (.int p3), .val (.ref kd), .val (.int (0 : Int32)), .val (.ref b3), .unset, .unset, .unset]) rfl k_) ?_
    show own_EndsW _ _ _ _ _ _ _ _ _ T9 (mkF m 52 #[.val (.int p0), .val (.int p1), .val (.int p2), .val (.int p3), .val (.ref kd), .val (.int (0 : Int32)), .val (.ref b3), .unset, .unset, .unset] [])
    refine own_goW (fun t_ k_ => XS.aload X9.here hx rfl (hb hby at_52) rfl rfl  k_) ?_
    show own_EndsW _ _ _ _ _ _ _ _ _ T9 (mkF m 54 #[.val (.int p0), .val (.int p1), .val (.int p2), .val (.int p3), .val (.ref kd), .val (.int (0 : Int32)), .val (.ref b3), .unset, .unset, .unset] [(.ref kd)])
    obtain ⟨T10, X10, e10, st10⟩ := getS2 X9 hx hZ hown (host := "") (Or.inl (hw _ (List.mem_of_getElem? (i := 10) rfl))) Via.refl e9 (((S6.ext E3).wr W6).wr W9) (g := (mkF m 54 #[.val (.int p0), .val (.int p1), .val (.int p2), .val (.int p3), .val (.ref kd), .val (.int (0 : Int32)), .val (.ref b3), .unset, .unset, .unset] [(.ref kd)])) rfl (hb hby at_54)
    refine own_goW st10 ?_
    show own_EndsW _ _ _ _ _ _ _ _ _ T10 (mkF m 57 #[.val (.int p0), .val (.int p1), .val (.int p2), .val (.int p3), .val (.ref kd), .val (.int (0 : Int32)), .val (.ref b3), .unset, .unset, .unset] [(.ref w6), (.ref kd)])
    by_cases hc11 : kd = w6
    · refine own_goW (fun t_ k_ => XT.acmpNo X10.here hx rfl (hb hby at_57) rfl rfl rfl (XT.aa_ne_f (congrArg Value.ref hc11)) k_) ?_
      show own_EndsW _ _ _ _ _ _ _ _ _ T10 (mkF m 60 #[.val (.int p0), .val (.int p1), .val (.int p2), .val (.int p3), .val (.ref kd), .val (.int (0 : Int32)), .val (.ref b3), .unset, .unset, .unset] [])
      obtain ⟨la12, T12, h12, X12, e12, E12, Iv12, hZ, hown, CH12, st12⟩ := own_ldcO X10 hx hZ (hown) (own_EW hw) (own_wS hw) (hw _ (List.mem_of_getElem? (i := 109) rfl)) e10 Iv9 (g := (mkF m 60 #[.val (.int p0), .val (.int p1), .val (.int p2), .val (.int p3), .val (.ref kd), .val (.int (0 : Int32)), .val (.ref b3), .unset, .unset, .unset] [])) rfl (hb hby at_60) 0 (by decide) (by decide) (by decide) (by decide)
      refine own_goW st12 ?_
      show own_EndsW _ _ _ _ _ _ _ _ _ T12 (mkF m 62 #[.val (.int p0), .val (.int p1), .val (.int p2), .val (.int p3), .val (.ref kd), .val (.int (0 : Int32)), .val (.ref b3), .unset, .unset, .unset] [(.ref la12)])
      refine own_goW (fun t_ k_ => XS.goto X12.here hx rfl (pc0 := 62) (pc' := 74) rfl (hb hby at_62) (by decide) (by decide) k_) ?_
      show own_EndsW _ _ _ _ _ _ _ _ _ T12 (mkF m 74 #[.val (.int p0), .val (.int p1), .val (.int p2), .val (.int p3), .val (.ref kd), .val (.int (0 : Int32)), .val (.ref b3), .unset, .unset, .unset] [(.ref la12)])
      refine own_goW (fun t_ k_ => XS.astore X12.here hx rfl (hb hby at_74) rfl rfl (l' := #[.val (.int p0), .val (.int p1), .val (.int p2), .val (.int p3), .val (.ref kd), .val (.int (0 : Int32)), .val (.ref b3), .val (.ref la12), .unset, .unset]) rfl k_) ?_
      show own_EndsW _ _ _ _ _ _ _ _ _ T12 (mkF m 76 #[.val (.int p0), .val (.int p1), .val (.int p2), .val (.int p3), .val (.ref kd), .val (.int (0 : Int32)), .val (.ref b3), .val (.ref la12), .unset, .unset] [])
      obtain ⟨T13, h13, X13, e13, E13, A13, D13, -, st13⟩ := newO X12 hx hZ hown (hw _ (List.mem_of_getElem? (i := 41) rfl)) (hw _ (List.mem_of_getElem? (i := 42) rfl)) (hw _ (List.mem_of_getElem? (i := 43) rfl)) e12 (g := (mkF m 76 #[.val (.int p0), .val (.int p1), .val (.int p2), .val (.int p3), .val (.ref kd), .val (.int (0 : Int32)), .val (.ref b3), .val (.ref la12), .unset, .unset] [])) rfl (hb hby at_76) (by decide) (by decide)
      obtain ⟨b13, g13⟩ : ∃ z, z = h12.size := ⟨_, rfl⟩
      rw [← g13] at A13 D13 st13
      refine own_goW st13 ?_
      have g_b13 : n0 ≤ b13 := Nat.le_trans (Nat.le_trans (Nat.le_trans (Nat.le_trans (Nat.le_trans Z0 E3.1) (Keep.of_wr W6).1) (Keep.of_wr W9).1) E12.1) (Nat.le_of_eq g13.symm)
      have Iv13 := Iv12.ext E13
      have F13_kind : Fld Z h13 b13 "com/example/ferret/ferret/frontend/Token" "kind" "Lcom/example/ferret/ferret/frontend/Token$Kind;" .null := D13 (Or.inr (hw _ (List.mem_of_getElem? (i := 54) rfl))) (ty := (.object "com/example/ferret/ferret/frontend/Token$Kind")) (by decide)
      have F13_text : Fld Z h13 b13 "com/example/ferret/ferret/frontend/Token" "text" "Ljava/lang/String;" .null := D13 (Or.inr (hw _ (List.mem_of_getElem? (i := 56) rfl))) (ty := (.object "java/lang/String")) (by decide)
      have F13_line : Fld Z h13 b13 "com/example/ferret/ferret/frontend/Token" "line" "I" (.int (0 : Int32)) := D13 (Or.inr (hw _ (List.mem_of_getElem? (i := 58) rfl))) (ty := .int) (by decide)
      have F13_column : Fld Z h13 b13 "com/example/ferret/ferret/frontend/Token" "column" "I" (.int (0 : Int32)) := D13 (Or.inr (hw _ (List.mem_of_getElem? (i := 60) rfl))) (ty := .int) (by decide)
      have F13_spelling : Fld Z h13 b13 "com/example/ferret/ferret/frontend/Token" "spelling" "Ljava/lang/String;" .null := D13 (Or.inr (hw _ (List.mem_of_getElem? (i := 62) rfl))) (ty := (.object "java/lang/String")) (by decide)
      have F13_spaced : Fld Z h13 b13 "com/example/ferret/ferret/frontend/Token" "spaced" "Z" (.int (0 : Int32)) := D13 (Or.inr (hw _ (List.mem_of_getElem? (i := 64) rfl))) (ty := .boolean) (by decide)
      show own_EndsW _ _ _ _ _ _ _ _ _ T13 (mkF m 79 #[.val (.int p0), .val (.int p1), .val (.int p2), .val (.int p3), .val (.ref kd), .val (.int (0 : Int32)), .val (.ref b3), .val (.ref la12), .unset, .unset] [(.ref b13)])
      refine own_goW (fun t_ k_ => XS.dup X13.here hx rfl (hb hby at_79) rfl rfl k_) ?_
      show own_EndsW _ _ _ _ _ _ _ _ _ T13 (mkF m 80 #[.val (.int p0), .val (.int p1), .val (.int p2), .val (.int p3), .val (.ref kd), .val (.int (0 : Int32)), .val (.ref b3), .val (.ref la12), .unset, .unset] [(.ref b13), (.ref b13)])
      refine own_goW (fun t_ k_ => XS.aload X13.here hx rfl (hb hby at_80) rfl rfl  k_) ?_
      show own_EndsW _ _ _ _ _ _ _ _ _ T13 (mkF m 82 #[.val (.int p0), .val (.int p1), .val (.int p2), .val (.int p3), .val (.ref kd), .val (.int (0 : Int32)), .val (.ref b3), .val (.ref la12), .unset, .unset] [(.ref kd), (.ref b13), (.ref b13)])
      refine own_goW (fun t_ k_ => XS.aload X13.here hx rfl (hb hby at_82) rfl rfl  k_) ?_
      show own_EndsW _ _ _ _ _ _ _ _ _ T13 (mkF m 84 #[.val (.int p0), .val (.int p1), .val (.int p2), .val (.int p3), .val (.ref kd), .val (.int (0 : Int32)), .val (.ref b3), .val (.ref la12), .unset, .unset] [(.ref la12), (.ref kd), (.ref b13), (.ref b13)])
      refine own_goW (fun t_ k_ => XS.iloadN X13.here hx rfl (hb hby at_84) rfl  k_) ?_
      show own_EndsW _ _ _ _ _ _ _ _ _ T13 (mkF m 85 #[.val (.int p0), .val (.int p1), .val (.int p2), .val (.int p3), .val (.ref kd), .val (.int (0 : Int32)), .val (.ref b3), .val (.ref la12), .unset, .unset] [(.int p0), (.ref la12), (.ref kd), (.ref b13), (.ref b13)])
      refine own_goW (fun t_ k_ => XS.iloadN X13.here hx rfl (hb hby at_85) rfl  k_) ?_
      show own_EndsW _ _ _ _ _ _ _ _ _ T13 (mkF m 86 #[.val (.int p0), .val (.int p1), .val (.int p2), .val (.int p3), .val (.ref kd), .val (.int (0 : Int32)), .val (.ref b3), .val (.ref la12), .unset, .unset] [(.int p1), (.int p0), (.ref la12), (.ref kd), (.ref b13), (.ref b13)])
      refine own_goW (fun t_ k_ => XS.aload X13.here hx rfl (hb hby at_86) rfl rfl  k_) ?_
      show own_EndsW _ _ _ _ _ _ _ _ _ T13 (mkF m 88 #[.val (.int p0), .val (.int p1), .val (.int p2), .val (.int p3), .val (.ref kd), .val (.int (0 : Int32)), .val (.ref b3), .val (.ref la12), .unset, .unset] [(.ref la12), (.int p1), (.int p0), (.ref la12), (.ref kd), (.ref b13), (.ref b13)])
      refine own_goW (fun t_ k_ => XS.iload X13.here hx rfl (hb hby at_88) rfl  k_) ?_
      show own_EndsW _ _ _ _ _ _ _ _ _ T13 (mkF m 90 #[.val (.int p0), .val (.int p1), .val (.int p2), .val (.int p3), .val (.ref kd), .val (.int (0 : Int32)), .val (.ref b3), .val (.ref la12), .unset, .unset] [(.int (0 : Int32)), (.ref la12), (.int p1), (.int p0), (.ref la12), (.ref kd), (.ref b13), (.ref b13)])
      have Nsk14 : ∀ x ∈ ([b13] : List Addr), ∀ cell : Cell, h13[x]? = some cell → cell.vm.isStatics = false := (nsS (Exa.nostat A13) ns0)
      have Skk14 : ∀ x ∈ ([b13] : List Addr), Safe Z [] T12.vm h13 x := (sfS own_safe0 sf0)
      obtain ⟨T15, v15, L15, X15, hQ15, st15⟩ := own_callN X13 hx hZ (y := (⟨"com/example/ferret/ferret/frontend/Token", "<init>", "(Lcom/example/ferret/ferret/frontend/Token$Kind;Ljava/lang/String;IILjava/lang/String;Z)V"⟩ : MethodName)) rfl hown (hw _ (List.mem_of_getElem? (i := 44) rfl)) (hw _ (List.mem_of_getElem? (i := 45) rfl)) (hw _ (List.mem_of_getElem? (i := 43) rfl)) (hw _ (List.mem_of_getElem? (i := 46) rfl)) (by decide) (rm8 l Z a0 hw [] b13 kd la12 p0 p1 la12 (0 : Int32) h13 n0 (Nat.le_trans (Nat.le_trans (Nat.le_trans (Nat.le_trans (Nat.le_trans Z0 E3.1) (Keep.of_wr W6).1) (Keep.of_wr W9).1) E12.1) E13.1)  A13 F13_kind F13_text F13_line F13_column F13_spelling F13_spaced g_b13) e13 (g := (mkF m 90 #[.val (.int p0), .val (.int p1), .val (.int p2), .val (.int p3), .val (.ref kd), .val (.int (0 : Int32)), .val (.ref b3), .val (.ref la12), .unset, .unset] [(.int (0 : Int32)), (.ref la12), (.int p1), (.int p0), (.ref la12), (.ref kd), (.ref b13), (.ref b13)])) rfl (by rw [hml]; rfl) b13 [(.ref kd), (.ref la12), (.int p0), (.int p1), (.ref la12), (.int (0 : Int32))] [(.ref b13)] rfl (lenOf pd__Lcom_example_ferret_ferret_frontend_Token_Kind_Ljava_lang_String_IILjava_lang_String_Z_V rfl) rfl 1 (by show 2 * 0 + _ ≤ _; exact Nat.le_of_eq rfl) (hb hby at_90) (by decide) (by decide) (by decide) (by decide)
      obtain ⟨rfl, N15q, Kq15, Eq15, Fq15_0, Fq15_1⟩ := hQ15
      refine own_goW st15 ?_
      have N15 := Fr.app N9 N15q
      have Iv15 := Iv13.keep Kq15 Skk14
      show own_EndsW _ _ _ _ _ _ _ _ _ T15 (mkF m 93 #[.val (.int p0), .val (.int p1), .val (.int p2), .val (.int p3), .val (.ref kd), .val (.int (0 : Int32)), .val (.ref b3), .val (.ref la12), .unset, .unset] [(.ref b13)])
      refine own_goW (fun t_ k_ => XS.astore X15.here hx rfl (hb hby at_93) rfl rfl (l' := #[.val (.int p0), .val (.int p1), .val (.int p2), .val (.int p3), .val (.ref kd), .val (.int (0 : Int32)), .val (.ref b3), .val (.ref la12), .val (.ref b13), .unset]) rfl k_) ?_
      show own_EndsW _ _ _ _ _ _ _ _ _ T15 (mkF m 95 #[.val (.int p0), .val (.int p1), .val (.int p2), .val (.int p3), .val (.ref kd), .val (.int (0 : Int32)), .val (.ref b3), .val (.ref la12), .val (.ref b13), .unset] [])
      refine own_goW (fun t_ k_ => XS.aload X15.here hx rfl (hb hby at_95) rfl rfl  k_) ?_
      show own_EndsW _ _ _ _ _ _ _ _ _ T15 (mkF m 97 #[.val (.int p0), .val (.int p1), .val (.int p2), .val (.int p3), .val (.ref kd), .val (.int (0 : Int32)), .val (.ref b3), .val (.ref la12), .val (.ref b13), .unset] [(.ref b13)])
      have Nsk16 : ∀ x ∈ ([] : List Addr), ∀ cell : Cell, T15.heap[x]? = some cell → cell.vm.isStatics = false := ns0
      have Skk16 : ∀ x ∈ ([] : List Addr), Safe Z [] T12.vm T15.heap x := sf0
      obtain ⟨T17, v17, L17, X17, hQ17, st17⟩ := own_callS X15 hx hZ (y := (⟨"com/example/ferret/ferret/frontend/Ast$Position", "of", "(Lcom/example/ferret/ferret/frontend/Token;)Lcom/example/ferret/ferret/frontend/Ast$Position;"⟩ : MethodName)) hown (hw _ (List.mem_of_getElem? (i := 65) rfl)) (hw _ (List.mem_of_getElem? (i := 66) rfl)) (hw _ (List.mem_of_getElem? (i := 67) rfl)) (hw _ (List.mem_of_getElem? (i := 68) rfl)) (by decide) (rm10 l Z a0 hw [] b13 p0 p1 T15.heap n0 (Nat.le_trans (Nat.le_trans (Nat.le_trans (Nat.le_trans (Nat.le_trans (Nat.le_trans Z0 E3.1) (Keep.of_wr W6).1) (Keep.of_wr W9).1) E12.1) E13.1) Kq15.1) (A13.keep Kq15) Fq15_0 Fq15_1) rfl (g := (mkF m 97 #[.val (.int p0), .val (.int p1), .val (.int p2), .val (.int p3), .val (.ref kd), .val (.int (0 : Int32)), .val (.ref b3), .val (.ref la12), .val (.ref b13), .unset] [(.ref b13)])) rfl (by rw [hml]; rfl) [(.ref b13)] [] rfl (lenOf pd__Lcom_example_ferret_ferret_frontend_Token__Lcom_example_ferret_ferret_frontend_Ast_Position_ rfl) rfl 0 (by show 2 * 0 + _ ≤ _; exact Nat.le_of_eq rfl) (hb hby at_97) (by decide) (by decide) (by decide) (by decide)
      obtain ⟨pb17, rfl, N17q, Kq17, Eq17, Fl17, Fc17⟩ := hQ17
      refine own_goW st17 ?_
      have N17 := Fr.app N15 N17q
      have Iv17 := Iv15.keep Kq17 Skk16
      show own_EndsW _ _ _ _ _ _ _ _ _ T17 (mkF m 100 #[.val (.int p0), .val (.int p1), .val (.int p2), .val (.int p3), .val (.ref kd), .val (.int (0 : Int32)), .val (.ref b3), .val (.ref la12), .val (.ref b13), .unset] [(.ref pb17)])
      refine own_goW (fun t_ k_ => XS.astore X17.here hx rfl (hb hby at_100) rfl rfl (l' := #[.val (.int p0), .val (.int p1), .val (.int p2), .val (.int p3), .val (.ref kd), .val (.int (0 : Int32)), .val (.ref b3), .val (.ref la12), .val (.ref b13), .val (.ref pb17)]) rfl k_) ?_
      show own_EndsW _ _ _ _ _ _ _ _ _ T17 (mkF m 102 #[.val (.int p0), .val (.int p1), .val (.int p2), .val (.int p3), .val (.ref kd), .val (.int (0 : Int32)), .val (.ref b3), .val (.ref la12), .val (.ref b13), .val (.ref pb17)] [])
      refine own_goW (fun t_ k_ => XS.aload X17.here hx rfl (hb hby at_102) rfl rfl  k_) ?_
      show own_EndsW _ _ _ _ _ _ _ _ _ T17 (mkF m 104 #[.val (.int p0), .val (.int p1), .val (.int p2), .val (.int p3), .val (.ref kd), .val (.int (0 : Int32)), .val (.ref b3), .val (.ref la12), .val (.ref b13), .val (.ref pb17)] [(.ref pb17)])
      obtain ⟨T18, v18, L18, X18, hQ18, st18⟩ := own_callV X17 hx hZ (y := (⟨"com/example/ferret/ferret/frontend/Ast$Position", "line", "()I"⟩ : MethodName)) (z := (⟨"com/example/ferret/ferret/frontend/Ast$Position", "line", "()I"⟩ : MethodName)) hown (hw _ (List.mem_of_getElem? (i := 89) rfl)) (hw _ (List.mem_of_getElem? (i := 90) rfl)) (notFace_of_selects (args := #[]) (mvT hZ (hw _ (List.mem_of_getElem? (i := 92) rfl)))) (hw _ (List.mem_of_getElem? (i := 92) rfl)) (hw _ (List.mem_of_getElem? (i := 91) rfl)) (hw _ (List.mem_of_getElem? (i := 67) rfl)) (hw _ (List.mem_of_getElem? (i := 93) rfl)) (by decide) (rm14 l Z a0 hw [] pb17 p0 T17.heap n0 (Nat.le_trans (Nat.le_trans (Nat.le_trans (Nat.le_trans (Nat.le_trans (Nat.le_trans (Nat.le_trans Z0 E3.1) (Keep.of_wr W6).1) (Keep.of_wr W9).1) E12.1) E13.1) Kq15.1) Kq17.1) Fl17) rfl (g := (mkF m 104 #[.val (.int p0), .val (.int p1), .val (.int p2), .val (.int p3), .val (.ref kd), .val (.int (0 : Int32)), .val (.ref b3), .val (.ref la12), .val (.ref b13), .val (.ref pb17)] [(.ref pb17)])) rfl (by rw [hml]; rfl) pb17 Eq17 [] [] rfl (lenOf pd___I rfl) rfl 0 (by show 2 * 0 + _ ≤ _; exact Nat.le_of_eq rfl) (hb hby at_104) (by decide) (by decide) (by decide) (by decide)
      obtain ⟨rfl, N18q, e18⟩ := hQ18
      refine own_goW st18 ?_
      have N18 := Fr.app N17 N18q
      show own_EndsW _ _ _ _ _ _ _ _ _ T18 (mkF m 107 #[.val (.int p0), .val (.int p1), .val (.int p2), .val (.int p3), .val (.ref kd), .val (.int (0 : Int32)), .val (.ref b3), .val (.ref la12), .val (.ref b13), .val (.ref pb17)] [(.int p0)])
      refine own_goW (fun t_ k_ => XS.iloadN X18.here hx rfl (hb hby at_107) rfl  k_) ?_
      show own_EndsW _ _ _ _ _ _ _ _ _ T18 (mkF m 108 #[.val (.int p0), .val (.int p1), .val (.int p2), .val (.int p3), .val (.ref kd), .val (.int (0 : Int32)), .val (.ref b3), .val (.ref la12), .val (.ref b13), .val (.ref pb17)] [(.int p0), (.int p0)])
      refine own_goW (fun t_ k_ => XS.icmpNo X18.here hx rfl (hb hby at_108) rfl (teq rfl).2 k_) ?_
      show own_EndsW _ _ _ _ _ _ _ _ _ T18 (mkF m 111 #[.val (.int p0), .val (.int p1), .val (.int p2), .val (.int p3), .val (.ref kd), .val (.int (0 : Int32)), .val (.ref b3), .val (.ref la12), .val (.ref b13), .val (.ref pb17)] [])
      refine own_goW (fun t_ k_ => XS.aload X18.here hx rfl (hb hby at_111) rfl rfl  k_) ?_
      show own_EndsW _ _ _ _ _ _ _ _ _ T18 (mkF m 113 #[.val (.int p0), .val (.int p1), .val (.int p2), .val (.int p3), .val (.ref kd), .val (.int (0 : Int32)), .val (.ref b3), .val (.ref la12), .val (.ref b13), .val (.ref pb17)] [(.ref pb17)])
      obtain ⟨T19, v19, L19, X19, hQ19, st19⟩ := own_callV X18 hx hZ (y := (⟨"com/example/ferret/ferret/frontend/Ast$Position", "column", "()I"⟩ : MethodName)) (z := (⟨"com/example/ferret/ferret/frontend/Ast$Position", "column", "()I"⟩ : MethodName)) hown (hw _ (List.mem_of_getElem? (i := 94) rfl)) (hw _ (List.mem_of_getElem? (i := 95) rfl)) (notFace_of_selects (args := #[]) (mvT hZ (hw _ (List.mem_of_getElem? (i := 97) rfl)))) (hw _ (List.mem_of_getElem? (i := 97) rfl)) (hw _ (List.mem_of_getElem? (i := 96) rfl)) (hw _ (List.mem_of_getElem? (i := 67) rfl)) (hw _ (List.mem_of_getElem? (i := 98) rfl)) (by decide) (rm15 l Z a0 hw [] pb17 p1 T17.heap n0 (Nat.le_trans (Nat.le_trans (Nat.le_trans (Nat.le_trans (Nat.le_trans (Nat.le_trans (Nat.le_trans Z0 E3.1) (Keep.of_wr W6).1) (Keep.of_wr W9).1) E12.1) E13.1) Kq15.1) Kq17.1) Fc17) e18 (g := (mkF m 113 #[.val (.int p0), .val (.int p1), .val (.int p2), .val (.int p3), .val (.ref kd), .val (.int (0 : Int32)), .val (.ref b3), .val (.ref la12), .val (.ref b13), .val (.ref pb17)] [(.ref pb17)])) rfl (by rw [hml]; rfl) pb17 Eq17 [] [] rfl (lenOf pd___I rfl) rfl 0 (by show 2 * 0 + _ ≤ _; exact Nat.le_of_eq rfl) (hb hby at_113) (by decide) (by decide) (by decide) (by decide)
      obtain ⟨rfl, N19q, e19⟩ := hQ19
      refine own_goW st19 ?_
      have N19 := Fr.app N18 N19q
      show own_EndsW _ _ _ _ _ _ _ _ _ T19 (mkF m 116 #[.val (.int p0), .val (.int p1), .val (.int p2), .val (.int p3), .val (.ref kd), .val (.int (0 : Int32)), .val (.ref b3), .val (.ref la12), .val (.ref b13), .val (.ref pb17)] [(.int p1)])
      refine own_goW (fun t_ k_ => XS.iloadN X19.here hx rfl (hb hby at_116) rfl  k_) ?_
      show own_EndsW _ _ _ _ _ _ _ _ _ T19 (mkF m 117 #[.val (.int p0), .val (.int p1), .val (.int p2), .val (.int p3), .val (.ref kd), .val (.int (0 : Int32)), .val (.ref b3), .val (.ref la12), .val (.ref b13), .val (.ref pb17)] [(.int p1), (.int p1)])
      refine own_goW (fun t_ k_ => XS.icmpNo X19.here hx rfl (hb hby at_117) rfl (teq rfl).2 k_) ?_
      show own_EndsW _ _ _ _ _ _ _ _ _ T19 (mkF m 120 #[.val (.int p0), .val (.int p1), .val (.int p2), .val (.int p3), .val (.ref kd), .val (.int (0 : Int32)), .val (.ref b3), .val (.ref la12), .val (.ref b13), .val (.ref pb17)] [])
      refine own_goW (fun t_ k_ => XS.iconst X19.here hx rfl (hb hby at_120) k_) ?_
      show own_EndsW _ _ _ _ _ _ _ _ _ T19 (mkF m 121 #[.val (.int p0), .val (.int p1), .val (.int p2), .val (.int p3), .val (.ref kd), .val (.int (0 : Int32)), .val (.ref b3), .val (.ref la12), .val (.ref b13), .val (.ref pb17)] [(.int (1 : Int32))])
      refine own_goW (fun t_ k_ => XS.goto X19.here hx rfl (pc0 := 121) (pc' := 125) rfl (hb hby at_121) (by decide) (by decide) k_) ?_
      show own_EndsW _ _ _ _ _ _ _ _ _ T19 (mkF m 125 #[.val (.int p0), .val (.int p1), .val (.int p2), .val (.int p3), .val (.ref kd), .val (.int (0 : Int32)), .val (.ref b3), .val (.ref la12), .val (.ref b13), .val (.ref pb17)] [(.int (1 : Int32))])
      refine own_retNW X19 hZ (own_EW hw) Iv17 hx hlk (t := .boolean) hret (by simp) (hb hby at_125) e19 (by decide) (by decide) ?_
      exact ⟨rfl, N19⟩
    · refine own_goW (fun t_ k_ => XT.acmpYes X10.here hx rfl (pc0 := 57) (pc' := 65) rfl (hb hby at_57) rfl rfl rfl (XT.aa_ne_t (fun q => hc11 (Value.ref.inj q))) (by decide) (by decide) k_) ?_
      show own_EndsW _ _ _ _ _ _ _ _ _ T10 (mkF m 65 #[.val (.int p0), .val (.int p1), .val (.int p2), .val (.int p3), .val (.ref kd), .val (.int (0 : Int32)), .val (.ref b3), .unset, .unset, .unset] [])
      obtain ⟨T20, h20, X20, e20, E20, A20, D20, -, st20⟩ := newO X10 hx hZ hown (hw _ (List.mem_of_getElem? (i := 12) rfl)) (hw _ (List.mem_of_getElem? (i := 13) rfl)) (hw _ (List.mem_of_getElem? (i := 14) rfl)) e10 (g := (mkF m 65 #[.val (.int p0), .val (.int p1), .val (.int p2), .val (.int p3), .val (.ref kd), .val (.int (0 : Int32)), .val (.ref b3), .unset, .unset, .unset] [])) rfl (hb hby at_65) (by decide) (by decide)
      obtain ⟨b20, g20⟩ : ∃ z, z = h9.size := ⟨_, rfl⟩
      rw [← g20] at A20 D20 st20
      refine own_goW st20 ?_
      have g_b20 : n0 ≤ b20 := Nat.le_trans (Nat.le_trans (Nat.le_trans (Nat.le_trans Z0 E3.1) (Keep.of_wr W6).1) (Keep.of_wr W9).1) (Nat.le_of_eq g20.symm)
      have Iv20 := Iv9.ext E20
      have F20_coder : Fld Z h20 b20 "java/lang/String" "coder" "B" (.int (0 : Int32)) := D20 (Or.inr (hw _ (List.mem_of_getElem? (i := 38) rfl))) (ty := .byte) (by decide)
      have F20_value : Fld Z h20 b20 "java/lang/String" "value" "[B" .null := D20 (Or.inr (hw _ (List.mem_of_getElem? (i := 40) rfl))) (ty := (.array .byte)) (by decide)
      show own_EndsW _ _ _ _ _ _ _ _ _ T20 (mkF m 68 #[.val (.int p0), .val (.int p1), .val (.int p2), .val (.int p3), .val (.ref kd), .val (.int (0 : Int32)), .val (.ref b3), .unset, .unset, .unset] [(.ref b20)])
      refine own_goW (fun t_ k_ => XS.dup X20.here hx rfl (hb hby at_68) rfl rfl k_) ?_
      show own_EndsW _ _ _ _ _ _ _ _ _ T20 (mkF m 69 #[.val (.int p0), .val (.int p1), .val (.int p2), .val (.int p3), .val (.ref kd), .val (.int (0 : Int32)), .val (.ref b3), .unset, .unset, .unset] [(.ref b20), (.ref b20)])
      refine own_goW (fun t_ k_ => XS.aload X20.here hx rfl (hb hby at_69) rfl rfl  k_) ?_
      show own_EndsW _ _ _ _ _ _ _ _ _ T20 (mkF m 71 #[.val (.int p0), .val (.int p1), .val (.int p2), .val (.int p3), .val (.ref kd), .val (.int (0 : Int32)), .val (.ref b3), .unset, .unset, .unset] [(.ref b3), (.ref b20), (.ref b20)])
      have hl21 : ∀ c ∈ [(nar .char ((p3 &&& (255 : Int32)).toUInt32.toUInt16.toUInt32.toInt32)), (nar .char (((XT.ushr p3 (8 : Int32)) &&& (255 : Int32)).toUInt32.toUInt16.toUInt32.toInt32))], ¬ c < 0 ∧ ¬ (255 : Int32) < c := by
        intro c hc
        simp only [List.mem_cons, List.not_mem_nil, or_false] at hc
        rcases hc with rfl | rfl
        · exact own_latc (own_and255 _).1 (own_and255 _).2
        · exact own_latc (own_and255 _).1 (own_and255 _).2
      have Nsk22 : ∀ x ∈ ([b20] : List Addr), ∀ cell : Cell, h20[x]? = some cell → cell.vm.isStatics = false := (nsS (Exa.nostat A20) ns0)
      have Skk22 : ∀ x ∈ ([b20] : List Addr), Safe Z [] s.vm h20 x := (sfS own_safe0 sf0)
      obtain ⟨T23, v23, L23, X23, hQ23, st23⟩ := own_callNB X20 hx hZ (y := (⟨"java/lang/String", "<init>", "([C)V"⟩ : MethodName)) (rc := 1) (rs := 2) rfl hown (hw _ (List.mem_of_getElem? (i := 15) rfl)) (hw _ (List.mem_of_getElem? (i := 16) rfl)) (hw _ (List.mem_of_getElem? (i := 17) rfl)) (by decide) (StrChars.Road.backV (W := 1) hZ (own_hws hw) (kI := 4) (hw _ (List.mem_of_getElem? (i := 13) rfl)) (cs := [(nar .char ((p3 &&& (255 : Int32)).toUInt32.toUInt16.toUInt32.toInt32)), (nar .char (((XT.ushr p3 (8 : Int32)) &&& (255 : Int32)).toUInt32.toUInt16.toUInt32.toInt32))]) (bs := [((nar .char ((p3 &&& (255 : Int32)).toUInt32.toUInt16.toUInt32.toInt32))).toInt8.toInt32, ((nar .char (((XT.ushr p3 (8 : Int32)) &&& (255 : Int32)).toUInt32.toUInt16.toUInt32.toInt32))).toInt8.toInt32]) (n := 2) g_b20 (Nat.le_trans (Nat.le_trans (Nat.le_trans (Nat.le_trans Z0 E3.1) (Keep.of_wr W6).1) (Keep.of_wr W9).1) E20.1) A20 F20_value F20_coder (V9.ext E20) ((((SC.ext E3).wr W6).wr W9).ext E20) hzc rfl rfl (by decide) (by decide) hl21 rfl (by decide) (by decide)) e20 (g := (mkF m 71 #[.val (.int p0), .val (.int p1), .val (.int p2), .val (.int p3), .val (.ref kd), .val (.int (0 : Int32)), .val (.ref b3), .unset, .unset, .unset] [(.ref b3), (.ref b20), (.ref b20)])) rfl (by rw [hml]; rfl) b20 [(.ref b3)] [(.ref b20)] rfl (lenOf pd___C_V rfl) rfl (by show 2 * 0 + _ ≤ _; exact Nat.le_of_eq rfl) (hb hby at_71) (by decide) (by decide)
      obtain ⟨rfl, N23q, Kq23, Eq23, Cq23, tb23, kb23, -, -, -, Vq23, Aq23⟩ := hQ23
      refine own_goW st23 ?_
      have N23 := Fr.app N9 N23q
      have Iv23 := Iv20.keep Kq23 Skk22
      show own_EndsW _ _ _ _ _ _ _ _ _ T23 (mkF m 74 #[.val (.int p0), .val (.int p1), .val (.int p2), .val (.int p3), .val (.ref kd), .val (.int (0 : Int32)), .val (.ref b3), .unset, .unset, .unset] [(.ref b20)])
      refine own_goW (fun t_ k_ => XS.astore X23.here hx rfl (hb hby at_74) rfl rfl (l' := #[.val (.int p0), .val (.int p1), .val (.int p2), .val (.int p3), .val (.ref kd), .val (.int (0 : Int32)), .val (.ref b3), .val (.ref b20), .unset, .unset]) rfl k_) ?_
      show own_EndsW _ _ _ _ _ _ _ _ _ T23 (mkF m 76 #[.val (.int p0), .val (.int p1), .val (.int p2), .val (.int p3), .val (.ref kd), .val (.int (0 : Int32)), .val (.ref b3), .val (.ref b20), .unset, .unset] [])
      obtain ⟨T24, h24, X24, e24, E24, A24, D24, -, st24⟩ := newO X23 hx hZ hown (hw _ (List.mem_of_getElem? (i := 41) rfl)) (hw _ (List.mem_of_getElem? (i := 42) rfl)) (hw _ (List.mem_of_getElem? (i := 43) rfl)) rfl (g := (mkF m 76 #[.val (.int p0), .val (.int p1), .val (.int p2), .val (.int p3), .val (.ref kd), .val (.int (0 : Int32)), .val (.ref b3), .val (.ref b20), .unset, .unset] [])) rfl (hb hby at_76) (by decide) (by decide)
      obtain ⟨b24, g24⟩ : ∃ z, z = T23.heap.size := ⟨_, rfl⟩
      rw [← g24] at A24 D24 st24
      refine own_goW st24 ?_
      have g_b24 : n0 ≤ b24 := Nat.le_trans (Nat.le_trans (Nat.le_trans (Nat.le_trans (Nat.le_trans (Nat.le_trans Z0 E3.1) (Keep.of_wr W6).1) (Keep.of_wr W9).1) E20.1) Kq23.1) (Nat.le_of_eq g24.symm)
      have Iv24 := Iv23.ext E24
      have F24_kind : Fld Z h24 b24 "com/example/ferret/ferret/frontend/Token" "kind" "Lcom/example/ferret/ferret/frontend/Token$Kind;" .null := D24 (Or.inr (hw _ (List.mem_of_getElem? (i := 54) rfl))) (ty := (.object "com/example/ferret/ferret/frontend/Token$Kind")) (by decide)
      have F24_text : Fld Z h24 b24 "com/example/ferret/ferret/frontend/Token" "text" "Ljava/lang/String;" .null := D24 (Or.inr (hw _ (List.mem_of_getElem? (i := 56) rfl))) (ty := (.object "java/lang/String")) (by decide)
      have F24_line : Fld Z h24 b24 "com/example/ferret/ferret/frontend/Token" "line" "I" (.int (0 : Int32)) := D24 (Or.inr (hw _ (List.mem_of_getElem? (i := 58) rfl))) (ty := .int) (by decide)
      have F24_column : Fld Z h24 b24 "com/example/ferret/ferret/frontend/Token" "column" "I" (.int (0 : Int32)) := D24 (Or.inr (hw _ (List.mem_of_getElem? (i := 60) rfl))) (ty := .int) (by decide)
      have F24_spelling : Fld Z h24 b24 "com/example/ferret/ferret/frontend/Token" "spelling" "Ljava/lang/String;" .null := D24 (Or.inr (hw _ (List.mem_of_getElem? (i := 62) rfl))) (ty := (.object "java/lang/String")) (by decide)
      have F24_spaced : Fld Z h24 b24 "com/example/ferret/ferret/frontend/Token" "spaced" "Z" (.int (0 : Int32)) := D24 (Or.inr (hw _ (List.mem_of_getElem? (i := 64) rfl))) (ty := .boolean) (by decide)
      show own_EndsW _ _ _ _ _ _ _ _ _ T24 (mkF m 79 #[.val (.int p0), .val (.int p1), .val (.int p2), .val (.int p3), .val (.ref kd), .val (.int (0 : Int32)), .val (.ref b3), .val (.ref b20), .unset, .unset] [(.ref b24)])
      refine own_goW (fun t_ k_ => XS.dup X24.here hx rfl (hb hby at_79) rfl rfl k_) ?_
      show own_EndsW _ _ _ _ _ _ _ _ _ T24 (mkF m 80 #[.val (.int p0), .val (.int p1), .val (.int p2), .val (.int p3), .val (.ref kd), .val (.int (0 : Int32)), .val (.ref b3), .val (.ref b20), .unset, .unset] [(.ref b24), (.ref b24)])
      refine own_goW (fun t_ k_ => XS.aload X24.here hx rfl (hb hby at_80) rfl rfl  k_) ?_
      show own_EndsW _ _ _ _ _ _ _ _ _ T24 (mkF m 82 #[.val (.int p0), .val (.int p1), .val (.int p2), .val (.int p3), .val (.ref kd), .val (.int (0 : Int32)), .val (.ref b3), .val (.ref b20), .unset, .unset] [(.ref kd), (.ref b24), (.ref b24)])
      refine own_goW (fun t_ k_ => XS.aload X24.here hx rfl (hb hby at_82) rfl rfl  k_) ?_
      show own_EndsW _ _ _ _ _ _ _ _ _ T24 (mkF m 84 #[.val (.int p0), .val (.int p1), .val (.int p2), .val (.int p3), .val (.ref kd), .val (.int (0 : Int32)), .val (.ref b3), .val (.ref b20), .unset, .unset] [(.ref b20), (.ref kd), (.ref b24), (.ref b24)])
      refine own_goW (fun t_ k_ => XS.iloadN X24.here hx rfl (hb hby at_84) rfl  k_) ?_
      show own_EndsW _ _ _ _ _ _ _ _ _ T24 (mkF m 85 #[.val (.int p0), .val (.int p1), .val (.int p2), .val (.int p3), .val (.ref kd), .val (.int (0 : Int32)), .val (.ref b3), .val (.ref b20), .unset, .unset] [(.int p0), (.ref b20), (.ref kd), (.ref b24), (.ref b24)])
      refine own_goW (fun t_ k_ => XS.iloadN X24.here hx rfl (hb hby at_85) rfl  k_) ?_
      show own_EndsW _ _ _ _ _ _ _ _ _ T24 (mkF m 86 #[.val (.int p0), .val (.int p1), .val (.int p2), .val (.int p3), .val (.ref kd), .val (.int (0 : Int32)), .val (.ref b3), .val (.ref b20), .unset, .unset] [(.int p1), (.int p0), (.ref b20), (.ref kd), (.ref b24), (.ref b24)])
      refine own_goW (fun t_ k_ => XS.aload X24.here hx rfl (hb hby at_86) rfl rfl  k_) ?_
      show own_EndsW _ _ _ _ _ _ _ _ _ T24 (mkF m 88 #[.val (.int p0), .val (.int p1), .val (.int p2), .val (.int p3), .val (.ref kd), .val (.int (0 : Int32)), .val (.ref b3), .val (.ref b20), .unset, .unset] [(.ref b20), (.int p1), (.int p0), (.ref b20), (.ref kd), (.ref b24), (.ref b24)])
      refine own_goW (fun t_ k_ => XS.iload X24.here hx rfl (hb hby at_88) rfl  k_) ?_
      show own_EndsW _ _ _ _ _ _ _ _ _ T24 (mkF m 90 #[.val (.int p0), .val (.int p1), .val (.int p2), .val (.int p3), .val (.ref kd), .val (.int (0 : Int32)), .val (.ref b3), .val (.ref b20), .unset, .unset] [(.int (0 : Int32)), (.ref b20), (.int p1), (.int p0), (.ref b20), (.ref kd), (.ref b24), (.ref b24)])
      have Nsk25 : ∀ x ∈ ([b24] : List Addr), ∀ cell : Cell, h24[x]? = some cell → cell.vm.isStatics = false := (nsS (Exa.nostat A24) ns0)
      have Skk25 : ∀ x ∈ ([b24] : List Addr), Safe Z [] s.vm h24 x := (sfS own_safe0 sf0)
      obtain ⟨T26, v26, L26, X26, hQ26, st26⟩ := own_callN X24 hx hZ (y := (⟨"com/example/ferret/ferret/frontend/Token", "<init>", "(Lcom/example/ferret/ferret/frontend/Token$Kind;Ljava/lang/String;IILjava/lang/String;Z)V"⟩ : MethodName)) rfl hown (hw _ (List.mem_of_getElem? (i := 44) rfl)) (hw _ (List.mem_of_getElem? (i := 45) rfl)) (hw _ (List.mem_of_getElem? (i := 43) rfl)) (hw _ (List.mem_of_getElem? (i := 46) rfl)) (by decide) (rm8 l Z a0 hw [] b24 kd b20 p0 p1 b20 (0 : Int32) h24 n0 (Nat.le_trans (Nat.le_trans (Nat.le_trans (Nat.le_trans (Nat.le_trans (Nat.le_trans Z0 E3.1) (Keep.of_wr W6).1) (Keep.of_wr W9).1) E20.1) Kq23.1) E24.1)  A24 F24_kind F24_text F24_line F24_column F24_spelling F24_spaced g_b24) e24 (g := (mkF m 90 #[.val (.int p0), .val (.int p1), .val (.int p2), .val (.int p3), .val (.ref kd), .val (.int (0 : Int32)), .val (.ref b3), .val (.ref b20), .unset, .unset] [(.int (0 : Int32)), (.ref b20), (.int p1), (.int p0), (.ref b20), (.ref kd), (.ref b24), (.ref b24)])) rfl (by rw [hml]; rfl) b24 [(.ref kd), (.ref b20), (.int p0), (.int p1), (.ref b20), (.int (0 : Int32))] [(.ref b24)] rfl (lenOf pd__Lcom_example_ferret_ferret_frontend_Token_Kind_Ljava_lang_String_IILjava_lang_String_Z_V rfl) rfl 1 (by show 2 * 0 + _ ≤ _; exact Nat.le_of_eq rfl) (hb hby at_90) (by decide) (by decide) (by decide) (by decide)
      obtain ⟨rfl, N26q, Kq26, Eq26, Fq26_0, Fq26_1⟩ := hQ26
      refine own_goW st26 ?_
      have N26 := Fr.app N23 N26q
      have Iv26 := Iv24.keep Kq26 Skk25
      show own_EndsW _ _ _ _ _ _ _ _ _ T26 (mkF m 93 #[.val (.int p0), .val (.int p1), .val (.int p2), .val (.int p3), .val (.ref kd), .val (.int (0 : Int32)), .val (.ref b3), .val (.ref b20), .unset, .unset] [(.ref b24)])
      refine own_goW (fun t_ k_ => XS.astore X26.here hx rfl (hb hby at_93) rfl rfl (l' := #[.val (.int p0), .val (.int p1), .val (.int p2), .val (.int p3), .val (.ref kd), .val (.int (0 : Int32)), .val (.ref b3), .val (.ref b20), .val (.ref b24), .unset]) rfl k_) ?_
      show own_EndsW _ _ _ _ _ _ _ _ _ T26 (mkF m 95 #[.val (.int p0), .val (.int p1), .val (.int p2), .val (.int p3), .val (.ref kd), .val (.int (0 : Int32)), .val (.ref b3), .val (.ref b20), .val (.ref b24), .unset] [])
      refine own_goW (fun t_ k_ => XS.aload X26.here hx rfl (hb hby at_95) rfl rfl  k_) ?_
      show own_EndsW _ _ _ _ _ _ _ _ _ T26 (mkF m 97 #[.val (.int p0), .val (.int p1), .val (.int p2), .val (.int p3), .val (.ref kd), .val (.int (0 : Int32)), .val (.ref b3), .val (.ref b20), .val (.ref b24), .unset] [(.ref b24)])
      have Nsk27 : ∀ x ∈ ([] : List Addr), ∀ cell : Cell, T26.heap[x]? = some cell → cell.vm.isStatics = false := ns0
      have Skk27 : ∀ x ∈ ([] : List Addr), Safe Z [] s.vm T26.heap x := sf0
      obtain ⟨T28, v28, L28, X28, hQ28, st28⟩ := own_callS X26 hx hZ (y := (⟨"com/example/ferret/ferret/frontend/Ast$Position", "of", "(Lcom/example/ferret/ferret/frontend/Token;)Lcom/example/ferret/ferret/frontend/Ast$Position;"⟩ : MethodName)) hown (hw _ (List.mem_of_getElem? (i := 65) rfl)) (hw _ (List.mem_of_getElem? (i := 66) rfl)) (hw _ (List.mem_of_getElem? (i := 67) rfl)) (hw _ (List.mem_of_getElem? (i := 68) rfl)) (by decide) (rm10 l Z a0 hw [] b24 p0 p1 T26.heap n0 (Nat.le_trans (Nat.le_trans (Nat.le_trans (Nat.le_trans (Nat.le_trans (Nat.le_trans (Nat.le_trans Z0 E3.1) (Keep.of_wr W6).1) (Keep.of_wr W9).1) E20.1) Kq23.1) E24.1) Kq26.1) (A24.keep Kq26) Fq26_0 Fq26_1) rfl (g := (mkF m 97 #[.val (.int p0), .val (.int p1), .val (.int p2), .val (.int p3), .val (.ref kd), .val (.int (0 : Int32)), .val (.ref b3), .val (.ref b20), .val (.ref b24), .unset] [(.ref b24)])) rfl (by rw [hml]; rfl) [(.ref b24)] [] rfl (lenOf pd__Lcom_example_ferret_ferret_frontend_Token__Lcom_example_ferret_ferret_frontend_Ast_Position_ rfl) rfl 0 (by show 2 * 0 + _ ≤ _; exact Nat.le_of_eq rfl) (hb hby at_97) (by decide) (by decide) (by decide) (by decide)
      obtain ⟨pb28, rfl, N28q, Kq28, Eq28, Fl28, Fc28⟩ := hQ28
      refine own_goW st28 ?_
      have N28 := Fr.app N26 N28q
      have Iv28 := Iv26.keep Kq28 Skk27
      show own_EndsW _ _ _ _ _ _ _ _ _ T28 (mkF m 100 #[.val (.int p0), .val (.int p1), .val (.int p2), .val (.int p3), .val (.ref kd), .val (.int (0 : Int32)), .val (.ref b3), .val (.ref b20), .val (.ref b24), .unset] [(.ref pb28)])
      refine own_goW (fun t_ k_ => XS.astore X28.here hx rfl (hb hby at_100) rfl rfl (l' := #[.val (.int p0), .val (.int p1), .val (.int p2), .val (.int p3), .val (.ref kd), .val (.int (0 : Int32)), .val (.ref b3), .val (.ref b20), .val (.ref b24), .val (.ref pb28)]) rfl k_) ?_
      show own_EndsW _ _ _ _ _ _ _ _ _ T28 (mkF m 102 #[.val (.int p0), .val (.int p1), .val (.int p2), .val (.int p3), .val (.ref kd), .val (.int (0 : Int32)), .val (.ref b3), .val (.ref b20), .val (.ref b24), .val (.ref pb28)] [])
      refine own_goW (fun t_ k_ => XS.aload X28.here hx rfl (hb hby at_102) rfl rfl  k_) ?_
      show own_EndsW _ _ _ _ _ _ _ _ _ T28 (mkF m 104 #[.val (.int p0), .val (.int p1), .val (.int p2), .val (.int p3), .val (.ref kd), .val (.int (0 : Int32)), .val (.ref b3), .val (.ref b20), .val (.ref b24), .val (.ref pb28)] [(.ref pb28)])
      obtain ⟨T29, v29, L29, X29, hQ29, st29⟩ := own_callV X28 hx hZ (y := (⟨"com/example/ferret/ferret/frontend/Ast$Position", "line", "()I"⟩ : MethodName)) (z := (⟨"com/example/ferret/ferret/frontend/Ast$Position", "line", "()I"⟩ : MethodName)) hown (hw _ (List.mem_of_getElem? (i := 89) rfl)) (hw _ (List.mem_of_getElem? (i := 90) rfl)) (notFace_of_selects (args := #[]) (mvT hZ (hw _ (List.mem_of_getElem? (i := 92) rfl)))) (hw _ (List.mem_of_getElem? (i := 92) rfl)) (hw _ (List.mem_of_getElem? (i := 91) rfl)) (hw _ (List.mem_of_getElem? (i := 67) rfl)) (hw _ (List.mem_of_getElem? (i := 93) rfl)) (by decide) (rm14 l Z a0 hw [] pb28 p0 T28.heap n0 (Nat.le_trans (Nat.le_trans (Nat.le_trans (Nat.le_trans (Nat.le_trans (Nat.le_trans (Nat.le_trans (Nat.le_trans Z0 E3.1) (Keep.of_wr W6).1) (Keep.of_wr W9).1) E20.1) Kq23.1) E24.1) Kq26.1) Kq28.1) Fl28) rfl (g := (mkF m 104 #[.val (.int p0), .val (.int p1), .val (.int p2), .val (.int p3), .val (.ref kd), .val (.int (0 : Int32)), .val (.ref b3), .val (.ref b20), .val (.ref b24), .val (.ref pb28)] [(.ref pb28)])) rfl (by rw [hml]; rfl) pb28 Eq28 [] [] rfl (lenOf pd___I rfl) rfl 0 (by show 2 * 0 + _ ≤ _; exact Nat.le_of_eq rfl) (hb hby at_104) (by decide) (by decide) (by decide) (by decide)
      obtain ⟨rfl, N29q, e29⟩ := hQ29
      refine own_goW st29 ?_
      have N29 := Fr.app N28 N29q
      show own_EndsW _ _ _ _ _ _ _ _ _ T29 (mkF m 107 #[.val (.int p0), .val (.int p1), .val (.int p2), .val (.int p3), .val (.ref kd), .val (.int (0 : Int32)), .val (.ref b3), .val (.ref b20), .val (.ref b24), .val (.ref pb28)] [(.int p0)])
      refine own_goW (fun t_ k_ => XS.iloadN X29.here hx rfl (hb hby at_107) rfl  k_) ?_
      show own_EndsW _ _ _ _ _ _ _ _ _ T29 (mkF m 108 #[.val (.int p0), .val (.int p1), .val (.int p2), .val (.int p3), .val (.ref kd), .val (.int (0 : Int32)), .val (.ref b3), .val (.ref b20), .val (.ref b24), .val (.ref pb28)] [(.int p0), (.int p0)])
      refine own_goW (fun t_ k_ => XS.icmpNo X29.here hx rfl (hb hby at_108) rfl (teq rfl).2 k_) ?_
      show own_EndsW _ _ _ _ _ _ _ _ _ T29 (mkF m 111 #[.val (.int p0), .val (.int p1), .val (.int p2), .val (.int p3), .val (.ref kd), .val (.int (0 : Int32)), .val (.ref b3), .val (.ref b20), .val (.ref b24), .val (.ref pb28)] [])
      refine own_goW (fun t_ k_ => XS.aload X29.here hx rfl (hb hby at_111) rfl rfl  k_) ?_
      show own_EndsW _ _ _ _ _ _ _ _ _ T29 (mkF m 113 #[.val (.int p0), .val (.int p1), .val (.int p2), .val (.int p3), .val (.ref kd), .val (.int (0 : Int32)), .val (.ref b3), .val (.ref b20), .val (.ref b24), .val (.ref pb28)] [(.ref pb28)])
      obtain ⟨T30, v30, L30, X30, hQ30, st30⟩ := own_callV X29 hx hZ (y := (⟨"com/example/ferret/ferret/frontend/Ast$Position", "column", "()I"⟩ : MethodName)) (z := (⟨"com/example/ferret/ferret/frontend/Ast$Position", "column", "()I"⟩ : MethodName)) hown (hw _ (List.mem_of_getElem? (i := 94) rfl)) (hw _ (List.mem_of_getElem? (i := 95) rfl)) (notFace_of_selects (args := #[]) (mvT hZ (hw _ (List.mem_of_getElem? (i := 97) rfl)))) (hw _ (List.mem_of_getElem? (i := 97) rfl)) (hw _ (List.mem_of_getElem? (i := 96) rfl)) (hw _ (List.mem_of_getElem? (i := 67) rfl)) (hw _ (List.mem_of_getElem? (i := 98) rfl)) (by decide) (rm15 l Z a0 hw [] pb28 p1 T28.heap n0 (Nat.le_trans (Nat.le_trans (Nat.le_trans (Nat.le_trans (Nat.le_trans (Nat.le_trans (Nat.le_trans (Nat.le_trans Z0 E3.1) (Keep.of_wr W6).1) (Keep.of_wr W9).1) E20.1) Kq23.1) E24.1) Kq26.1) Kq28.1) Fc28) e29 (g := (mkF m 113 #[.val (.int p0), .val (.int p1), .val (.int p2), .val (.int p3), .val (.ref kd), .val (.int (0 : Int32)), .val (.ref b3), .val (.ref b20), .val (.ref b24), .val (.ref pb28)] [(.ref pb28)])) rfl (by rw [hml]; rfl) pb28 Eq28 [] [] rfl (lenOf pd___I rfl) rfl 0 (by show 2 * 0 + _ ≤ _; exact Nat.le_of_eq rfl) (hb hby at_113) (by decide) (by decide) (by decide) (by decide)
      obtain ⟨rfl, N30q, e30⟩ := hQ30
      refine own_goW st30 ?_
      have N30 := Fr.app N29 N30q
      show own_EndsW _ _ _ _ _ _ _ _ _ T30 (mkF m 116 #[.val (.int p0), .val (.int p1), .val (.int p2), .val (.int p3), .val (.ref kd), .val (.int (0 : Int32)), .val (.ref b3), .val (.ref b20), .val (.ref b24), .val (.ref pb28)] [(.int p1)])
      refine own_goW (fun t_ k_ => XS.iloadN X30.here hx rfl (hb hby at_116) rfl  k_) ?_
      show own_EndsW _ _ _ _ _ _ _ _ _ T30 (mkF m 117 #[.val (.int p0), .val (.int p1), .val (.int p2), .val (.int p3), .val (.ref kd), .val (.int (0 : Int32)), .val (.ref b3), .val (.ref b20), .val (.ref b24), .val (.ref pb28)] [(.int p1), (.int p1)])
      refine own_goW (fun t_ k_ => XS.icmpNo X30.here hx rfl (hb hby at_117) rfl (teq rfl).2 k_) ?_
      show own_EndsW _ _ _ _ _ _ _ _ _ T30 (mkF m 120 #[.val (.int p0), .val (.int p1), .val (.int p2), .val (.int p3), .val (.ref kd), .val (.int (0 : Int32)), .val (.ref b3), .val (.ref b20), .val (.ref b24), .val (.ref pb28)] [])
      refine own_goW (fun t_ k_ => XS.iconst X30.here hx rfl (hb hby at_120) k_) ?_
      show own_EndsW _ _ _ _ _ _ _ _ _ T30 (mkF m 121 #[.val (.int p0), .val (.int p1), .val (.int p2), .val (.int p3), .val (.ref kd), .val (.int (0 : Int32)), .val (.ref b3), .val (.ref b20), .val (.ref b24), .val (.ref pb28)] [(.int (1 : Int32))])
      refine own_goW (fun t_ k_ => XS.goto X30.here hx rfl (pc0 := 121) (pc' := 125) rfl (hb hby at_121) (by decide) (by decide) k_) ?_
      show own_EndsW _ _ _ _ _ _ _ _ _ T30 (mkF m 125 #[.val (.int p0), .val (.int p1), .val (.int p2), .val (.int p3), .val (.ref kd), .val (.int (0 : Int32)), .val (.ref b3), .val (.ref b20), .val (.ref b24), .val (.ref pb28)] [(.int (1 : Int32))])
      refine own_retNW X30 hZ (own_EW hw) Iv28 hx hlk (t := .boolean) hret (by simp) (hb hby at_125) e30 (by decide) (by decide) ?_
      exact ⟨rfl, N30⟩
  · refine own_goW (fun t_ k_ => XS.ifNo X1.here hx rfl (hb hby at_16) rfl ((if0 _ _).trans (feq hc2).1) k_) ?_
    show own_EndsW _ _ _ _ _ _ _ _ _ T1 (mkF m 19 #[.val (.int p0), .val (.int p1), .val (.int p2), .val (.int p3), .val (.ref kd), .unset, .unset, .unset, .unset, .unset] [])
    refine own_goW (fun t_ k_ => XS.iconst X1.here hx rfl (hb hby at_19) k_) ?_
    show own_EndsW _ _ _ _ _ _ _ _ _ T1 (mkF m 20 #[.val (.int p0), .val (.int p1), .val (.int p2), .val (.int p3), .val (.ref kd), .unset, .unset, .unset, .unset, .unset] [(.int (1 : Int32))])
    refine own_goW (fun t_ k_ => XS.goto X1.here hx rfl (pc0 := 20) (pc' := 24) rfl (hb hby at_20) (by decide) (by decide) k_) ?_
    show own_EndsW _ _ _ _ _ _ _ _ _ T1 (mkF m 24 #[.val (.int p0), .val (.int p1), .val (.int p2), .val (.int p3), .val (.ref kd), .unset, .unset, .unset, .unset, .unset] [(.int (1 : Int32))])
    refine own_goW (fun t_ k_ => XS.istore X1.here hx rfl (hb hby at_24) rfl (l' := #[.val (.int p0), .val (.int p1), .val (.int p2), .val (.int p3), .val (.ref kd), .val (.int (1 : Int32)), .unset, .unset, .unset, .unset]) rfl k_) ?_
    show own_EndsW _ _ _ _ _ _ _ _ _ T1 (mkF m 26 #[.val (.int p0), .val (.int p1), .val (.int p2), .val (.int p3), .val (.ref kd), .val (.int (1 : Int32)), .unset, .unset, .unset, .unset] [])
    refine own_goW (fun t_ k_ => XS.iconst X1.here hx rfl (hb hby at_26) k_) ?_
    show own_EndsW _ _ _ _ _ _ _ _ _ T1 (mkF m 27 #[.val (.int p0), .val (.int p1), .val (.int p2), .val (.int p3), .val (.ref kd), .val (.int (1 : Int32)), .unset, .unset, .unset, .unset] [(.int (2 : Int32))])
    obtain ⟨T31, h31, k31, X31, e31, E31, A31, st31⟩ := newP X1 hx hZ (hw _ (List.mem_of_getElem? (i := 9) rfl)) e1 (g := (mkF m 27 #[.val (.int p0), .val (.int p1), .val (.int p2), .val (.int p3), .val (.ref kd), .val (.int (1 : Int32)), .unset, .unset, .unset, .unset] [(.int (2 : Int32))])) rfl (hb hby at_27) rfl (by decide) (cap := 2) (by decide) (by decide) (by decide) (by decide)
    obtain ⟨b31, g31⟩ : ∃ z, z = h0.size := ⟨_, rfl⟩
    rw [← g31] at A31 st31
    refine own_goW st31 ?_
    have V31 : Arv Z h31 b31 k31 .char (2 : Int32) [(.int (0 : Int32)), (.int (0 : Int32))] (.int (0 : Int32)) := (Arv.new A31 (by decide)).pad (pad_rep [] (.int (0 : Int32)) 2)
    have g_b31 : n0 ≤ b31 := Nat.le_trans Z0 (Nat.le_of_eq g31.symm)
    have Iv31 := Iv0.ext E31
    show own_EndsW _ _ _ _ _ _ _ _ _ T31 (mkF m 29 #[.val (.int p0), .val (.int p1), .val (.int p2), .val (.int p3), .val (.ref kd), .val (.int (1 : Int32)), .unset, .unset, .unset, .unset] [(.ref b31)])
    refine own_goW (fun t_ k_ => XS.dup X31.here hx rfl (hb hby at_29) rfl rfl k_) ?_
    show own_EndsW _ _ _ _ _ _ _ _ _ T31 (mkF m 30 #[.val (.int p0), .val (.int p1), .val (.int p2), .val (.int p3), .val (.ref kd), .val (.int (1 : Int32)), .unset, .unset, .unset, .unset] [(.ref b31), (.ref b31)])
    refine own_goW (fun t_ k_ => XS.iconst X31.here hx rfl (hb hby at_30) k_) ?_
    show own_EndsW _ _ _ _ _ _ _ _ _ T31 (mkF m 31 #[.val (.int p0), .val (.int p1), .val (.int p2), .val (.int p3), .val (.ref kd), .val (.int (1 : Int32)), .unset, .unset, .unset, .unset] [(.int (0 : Int32)), (.ref b31), (.ref b31)])
    refine own_goW (fun t_ k_ => XS.iloadN X31.here hx rfl (hb hby at_31) rfl  k_) ?_
    show own_EndsW _ _ _ _ _ _ _ _ _ T31 (mkF m 32 #[.val (.int p0), .val (.int p1), .val (.int p2), .val (.int p3), .val (.ref kd), .val (.int (1 : Int32)), .unset, .unset, .unset, .unset] [(.int p3), (.int (0 : Int32)), (.ref b31), (.ref b31)])
    refine own_goW (fun t_ k_ => XS.sipush X31.here hx rfl (hb hby at_32) k_) ?_
    show own_EndsW _ _ _ _ _ _ _ _ _ T31 (mkF m 35 #[.val (.int p0), .val (.int p1), .val (.int p2), .val (.int p3), .val (.ref kd), .val (.int (1 : Int32)), .unset, .unset, .unset, .unset] [(.int (255 : Int32)), (.int p3), (.int (0 : Int32)), (.ref b31), (.ref b31)])
    refine own_goW (fun t_ k_ => XS.iand X31.here hx rfl (hb hby at_35) rfl k_) ?_
    show own_EndsW _ _ _ _ _ _ _ _ _ T31 (mkF m 36 #[.val (.int p0), .val (.int p1), .val (.int p2), .val (.int p3), .val (.ref kd), .val (.int (1 : Int32)), .unset, .unset, .unset, .unset] [(.int (p3 &&& (255 : Int32))), (.int (0 : Int32)), (.ref b31), (.ref b31)])
    refine own_goW (fun t_ k_ => XT.i2c X31.here hx rfl (hb hby at_36) rfl k_) ?_
    show own_EndsW _ _ _ _ _ _ _ _ _ T31 (mkF m 37 #[.val (.int p0), .val (.int p1), .val (.int p2), .val (.int p3), .val (.ref kd), .val (.int (1 : Int32)), .unset, .unset, .unset, .unset] [(.int ((p3 &&& (255 : Int32)).toUInt32.toUInt16.toUInt32.toInt32)), (.int (0 : Int32)), (.ref b31), (.ref b31)])
    have Swp32 : Safe Z [] s.vm h31 b31 := own_safe0
    obtain ⟨cl33, Ar33, q33, S33, Ng33, Hs33, G33⟩ := (id V31)
    obtain ⟨T34, h34, X34, e34, W34, st34⟩ := stC X31 hx hZ e31 Ar33 (j := (0 : Int32)) (inb_of S33 ⟨by decide, by decide⟩) (g := (mkF m 37 #[.val (.int p0), .val (.int p1), .val (.int p2), .val (.int p3), .val (.ref kd), .val (.int (1 : Int32)), .unset, .unset, .unset, .unset] [(.int ((p3 &&& (255 : Int32)).toUInt32.toUInt16.toUInt32.toInt32)), (.int (0 : Int32)), (.ref b31), (.ref b31)])) rfl rfl (hb hby at_37)
    refine own_goW st34 ?_
    have V34 : Arv Z h34 b31 k31 .char (2 : Int32) [(.int (nar .char ((p3 &&& (255 : Int32)).toUInt32.toUInt16.toUInt32.toInt32))), (.int (0 : Int32))] (.int (0 : Int32)) := Arv.set Ar33 q33 S33 Ng33 Hs33 G33 (fits_nar_char _) W34 0 rfl (Nat.le_of_ble_eq_true rfl)
    have Iv34 := Iv31.wr W34 Swp32
    have N34 := Fr.snoc X34 N1 g_b31
    show own_EndsW _ _ _ _ _ _ _ _ _ T34 (mkF m 38 #[.val (.int p0), .val (.int p1), .val (.int p2), .val (.int p3), .val (.ref kd), .val (.int (1 : Int32)), .unset, .unset, .unset, .unset] [(.ref b31)])
    refine own_goW (fun t_ k_ => XS.dup X34.here hx rfl (hb hby at_38) rfl rfl k_) ?_
    show own_EndsW _ _ _ _ _ _ _ _ _ T34 (mkF m 39 #[.val (.int p0), .val (.int p1), .val (.int p2), .val (.int p3), .val (.ref kd), .val (.int (1 : Int32)), .unset, .unset, .unset, .unset] [(.ref b31), (.ref b31)])
    refine own_goW (fun t_ k_ => XS.iconst X34.here hx rfl (hb hby at_39) k_) ?_
    show own_EndsW _ _ _ _ _ _ _ _ _ T34 (mkF m 40 #[.val (.int p0), .val (.int p1), .val (.int p2), .val (.int p3), .val (.ref kd), .val (.int (1 : Int32)), .unset, .unset, .unset, .unset] [(.int (1 : Int32)), (.ref b31), (.ref b31)])
    refine own_goW (fun t_ k_ => XS.iloadN X34.here hx rfl (hb hby at_40) rfl  k_) ?_
    show own_EndsW _ _ _ _ _ _ _ _ _ T34 (mkF m 41 #[.val (.int p0), .val (.int p1), .val (.int p2), .val (.int p3), .val (.ref kd), .val (.int (1 : Int32)), .unset, .unset, .unset, .unset] [(.int p3), (.int (1 : Int32)), (.ref b31), (.ref b31)])
    refine own_goW (fun t_ k_ => XS.bipush X34.here hx rfl (hb hby at_41) k_) ?_
    show own_EndsW _ _ _ _ _ _ _ _ _ T34 (mkF m 43 #[.val (.int p0), .val (.int p1), .val (.int p2), .val (.int p3), .val (.ref kd), .val (.int (1 : Int32)), .unset, .unset, .unset, .unset] [(.int (8 : Int32)), (.int p3), (.int (1 : Int32)), (.ref b31), (.ref b31)])
    refine own_goW (fun t_ k_ => XT.iushr X34.here hx rfl (hb hby at_43) rfl k_) ?_
    show own_EndsW _ _ _ _ _ _ _ _ _ T34 (mkF m 44 #[.val (.int p0), .val (.int p1), .val (.int p2), .val (.int p3), .val (.ref kd), .val (.int (1 : Int32)), .unset, .unset, .unset, .unset] [(.int (XT.ushr p3 (8 : Int32))), (.int (1 : Int32)), (.ref b31), (.ref b31)])
    refine own_goW (fun t_ k_ => XS.sipush X34.here hx rfl (hb hby at_44) k_) ?_
    show own_EndsW _ _ _ _ _ _ _ _ _ T34 (mkF m 47 #[.val (.int p0), .val (.int p1), .val (.int p2), .val (.int p3), .val (.ref kd), .val (.int (1 : Int32)), .unset, .unset, .unset, .unset] [(.int (255 : Int32)), (.int (XT.ushr p3 (8 : Int32))), (.int (1 : Int32)), (.ref b31), (.ref b31)])
    refine own_goW (fun t_ k_ => XS.iand X34.here hx rfl (hb hby at_47) rfl k_) ?_
    show own_EndsW _ _ _ _ _ _ _ _ _ T34 (mkF m 48 #[.val (.int p0), .val (.int p1), .val (.int p2), .val (.int p3), .val (.ref kd), .val (.int (1 : Int32)), .unset, .unset, .unset, .unset] [(.int ((XT.ushr p3 (8 : Int32)) &&& (255 : Int32))), (.int (1 : Int32)), (.ref b31), (.ref b31)])
    refine own_goW (fun t_ k_ => XT.i2c X34.here hx rfl (hb hby at_48) rfl k_) ?_
    show own_EndsW _ _ _ _ _ _ _ _ _ T34 (mkF m 49 #[.val (.int p0), .val (.int p1), .val (.int p2), .val (.int p3), .val (.ref kd), .val (.int (1 : Int32)), .unset, .unset, .unset, .unset] [(.int (((XT.ushr p3 (8 : Int32)) &&& (255 : Int32)).toUInt32.toUInt16.toUInt32.toInt32)), (.int (1 : Int32)), (.ref b31), (.ref b31)])
    have Swp35 : Safe Z [] s.vm h34 b31 := own_safe0
    obtain ⟨cl36, Ar36, q36, S36, Ng36, Hs36, G36⟩ := (id V34)
    obtain ⟨T37, h37, X37, e37, W37, st37⟩ := stC X34 hx hZ e34 Ar36 (j := (1 : Int32)) (inb_of S36 ⟨by decide, by decide⟩) (g := (mkF m 49 #[.val (.int p0), .val (.int p1), .val (.int p2), .val (.int p3), .val (.ref kd), .val (.int (1 : Int32)), .unset, .unset, .unset, .unset] [(.int (((XT.ushr p3 (8 : Int32)) &&& (255 : Int32)).toUInt32.toUInt16.toUInt32.toInt32)), (.int (1 : Int32)), (.ref b31), (.ref b31)])) rfl rfl (hb hby at_49)
    refine own_goW st37 ?_
    have V37 : Arv Z h37 b31 k31 .char (2 : Int32) [(.int (nar .char ((p3 &&& (255 : Int32)).toUInt32.toUInt16.toUInt32.toInt32))), (.int (nar .char (((XT.ushr p3 (8 : Int32)) &&& (255 : Int32)).toUInt32.toUInt16.toUInt32.toInt32)))] (.int (0 : Int32)) := Arv.set Ar36 q36 S36 Ng36 Hs36 G36 (fits_nar_char _) W37 1 rfl (Nat.le_of_ble_eq_true rfl)
    have Iv37 := Iv34.wr W37 Swp35
    have N37 := Fr.snoc X37 N34 g_b31
    show own_EndsW _ _ _ _ _ _ _ _ _ T37 (mkF m 50 #[.val (.int p0), .val (.int p1), .val (.int p2), .val (.int p3), .val (.ref kd), .val (.int (1 : Int32)), .unset, .unset, .unset, .unset] [(.ref b31)])
    refine own_goW (fun t_ k_ => XS.astore X37.here hx rfl (hb hby at_50) rfl rfl (l' := #[.val (.int p0), .val (.int p1), .val (.int p2), .val (.int p3), .val (.ref kd), .val (.int (1 : Int32)), .val (.ref b31), .unset, .unset, .unset]) rfl k_) ?_
    show own_EndsW _ _ _ _ _ _ _ _ _ T37 (mkF m 52 #[.val (.int p0), .val (.int p1), .val (.int p2), .val (.int p3), .val (.ref kd), .val (.int (1 : Int32)), .val (.ref b31), .unset, .unset, .unset] [])
    refine own_goW (fun t_ k_ => XS.aload X37.here hx rfl (hb hby at_52) rfl rfl  k_) ?_
    show own_EndsW _ _ _ _ _ _ _ _ _ T37 (mkF m 54 #[.val (.int p0), .val (.int p1), .val (.int p2), .val (.int p3), .val (.ref kd), .val (.int (1 : Int32)), .val (.ref b31), .unset, .unset, .unset] [(.ref kd)])
    obtain ⟨T38, X38, e38, st38⟩ := getS2 X37 hx hZ hown (host := "") (Or.inl (hw _ (List.mem_of_getElem? (i := 10) rfl))) Via.refl e37 (((S6.ext E31).wr W34).wr W37) (g := (mkF m 54 #[.val (.int p0), .val (.int p1), .val (.int p2), .val (.int p3), .val (.ref kd), .val (.int (1 : Int32)), .val (.ref b31), .unset, .unset, .unset] [(.ref kd)])) rfl (hb hby at_54)
    refine own_goW st38 ?_
    show own_EndsW _ _ _ _ _ _ _ _ _ T38 (mkF m 57 #[.val (.int p0), .val (.int p1), .val (.int p2), .val (.int p3), .val (.ref kd), .val (.int (1 : Int32)), .val (.ref b31), .unset, .unset, .unset] [(.ref w6), (.ref kd)])
    by_cases hc39 : kd = w6
    · refine own_goW (fun t_ k_ => XT.acmpNo X38.here hx rfl (hb hby at_57) rfl rfl rfl (XT.aa_ne_f (congrArg Value.ref hc39)) k_) ?_
      show own_EndsW _ _ _ _ _ _ _ _ _ T38 (mkF m 60 #[.val (.int p0), .val (.int p1), .val (.int p2), .val (.int p3), .val (.ref kd), .val (.int (1 : Int32)), .val (.ref b31), .unset, .unset, .unset] [])
      obtain ⟨la40, T40, h40, X40, e40, E40, Iv40, hZ, hown, CH40, st40⟩ := own_ldcO X38 hx hZ (hown) (own_EW hw) (own_wS hw) (hw _ (List.mem_of_getElem? (i := 109) rfl)) e38 Iv37 (g := (mkF m 60 #[.val (.int p0), .val (.int p1), .val (.int p2), .val (.int p3), .val (.ref kd), .val (.int (1 : Int32)), .val (.ref b31), .unset, .unset, .unset] [])) rfl (hb hby at_60) 0 (by decide) (by decide) (by decide) (by decide)
      refine own_goW st40 ?_
      show own_EndsW _ _ _ _ _ _ _ _ _ T40 (mkF m 62 #[.val (.int p0), .val (.int p1), .val (.int p2), .val (.int p3), .val (.ref kd), .val (.int (1 : Int32)), .val (.ref b31), .unset, .unset, .unset] [(.ref la40)])
      refine own_goW (fun t_ k_ => XS.goto X40.here hx rfl (pc0 := 62) (pc' := 74) rfl (hb hby at_62) (by decide) (by decide) k_) ?_
      show own_EndsW _ _ _ _ _ _ _ _ _ T40 (mkF m 74 #[.val (.int p0), .val (.int p1), .val (.int p2), .val (.int p3), .val (.ref kd), .val (.int (1 : Int32)), .val (.ref b31), .unset, .unset, .unset] [(.ref la40)])
      refine own_goW (fun t_ k_ => XS.astore X40.here hx rfl (hb hby at_74) rfl rfl (l' := #[.val (.int p0), .val (.int p1), .val (.int p2), .val (.int p3), .val (.ref kd), .val (.int (1 : Int32)), .val (.ref b31), .val (.ref la40), .unset, .unset]) rfl k_) ?_
      show own_EndsW _ _ _ _ _ _ _ _ _ T40 (mkF m 76 #[.val (.int p0), .val (.int p1), .val (.int p2), .val (.int p3), .val (.ref kd), .val (.int (1 : Int32)), .val (.ref b31), .val (.ref la40), .unset, .unset] [])
      obtain ⟨T41, h41, X41, e41, E41, A41, D41, -, st41⟩ := newO X40 hx hZ hown (hw _ (List.mem_of_getElem? (i := 41) rfl)) (hw _ (List.mem_of_getElem? (i := 42) rfl)) (hw _ (List.mem_of_getElem? (i := 43) rfl)) e40 (g := (mkF m 76 #[.val (.int p0), .val (.int p1), .val (.int p2), .val (.int p3), .val (.ref kd), .val (.int (1 : Int32)), .val (.ref b31), .val (.ref la40), .unset, .unset] [])) rfl (hb hby at_76) (by decide) (by decide)
      obtain ⟨b41, g41⟩ : ∃ z, z = h40.size := ⟨_, rfl⟩
      rw [← g41] at A41 D41 st41
      refine own_goW st41 ?_
      have g_b41 : n0 ≤ b41 := Nat.le_trans (Nat.le_trans (Nat.le_trans (Nat.le_trans (Nat.le_trans Z0 E31.1) (Keep.of_wr W34).1) (Keep.of_wr W37).1) E40.1) (Nat.le_of_eq g41.symm)
      have Iv41 := Iv40.ext E41
      have F41_kind : Fld Z h41 b41 "com/example/ferret/ferret/frontend/Token" "kind" "Lcom/example/ferret/ferret/frontend/Token$Kind;" .null := D41 (Or.inr (hw _ (List.mem_of_getElem? (i := 54) rfl))) (ty := (.object "com/example/ferret/ferret/frontend/Token$Kind")) (by decide)
      have F41_text : Fld Z h41 b41 "com/example/ferret/ferret/frontend/Token" "text" "Ljava/lang/String;" .null := D41 (Or.inr (hw _ (List.mem_of_getElem? (i := 56) rfl))) (ty := (.object "java/lang/String")) (by decide)
      have F41_line : Fld Z h41 b41 "com/example/ferret/ferret/frontend/Token" "line" "I" (.int (0 : Int32)) := D41 (Or.inr (hw _ (List.mem_of_getElem? (i := 58) rfl))) (ty := .int) (by decide)
      have F41_column : Fld Z h41 b41 "com/example/ferret/ferret/frontend/Token" "column" "I" (.int (0 : Int32)) := D41 (Or.inr (hw _ (List.mem_of_getElem? (i := 60) rfl))) (ty := .int) (by decide)
      have F41_spelling : Fld Z h41 b41 "com/example/ferret/ferret/frontend/Token" "spelling" "Ljava/lang/String;" .null := D41 (Or.inr (hw _ (List.mem_of_getElem? (i := 62) rfl))) (ty := (.object "java/lang/String")) (by decide)
      have F41_spaced : Fld Z h41 b41 "com/example/ferret/ferret/frontend/Token" "spaced" "Z" (.int (0 : Int32)) := D41 (Or.inr (hw _ (List.mem_of_getElem? (i := 64) rfl))) (ty := .boolean) (by decide)
      show own_EndsW _ _ _ _ _ _ _ _ _ T41 (mkF m 79 #[.val (.int p0), .val (.int p1), .val (.int p2), .val (.int p3), .val (.ref kd), .val (.int (1 : Int32)), .val (.ref b31), .val (.ref la40), .unset, .unset] [(.ref b41)])
      refine own_goW (fun t_ k_ => XS.dup X41.here hx rfl (hb hby at_79) rfl rfl k_) ?_
      show own_EndsW _ _ _ _ _ _ _ _ _ T41 (mkF m 80 #[.val (.int p0), .val (.int p1), .val (.int p2), .val (.int p3), .val (.ref kd), .val (.int (1 : Int32)), .val (.ref b31), .val (.ref la40), .unset, .unset] [(.ref b41), (.ref b41)])
      refine own_goW (fun t_ k_ => XS.aload X41.here hx rfl (hb hby at_80) rfl rfl  k_) ?_
      show own_EndsW _ _ _ _ _ _ _ _ _ T41 (mkF m 82 #[.val (.int p0), .val (.int p1), .val (.int p2), .val (.int p3), .val (.ref kd), .val (.int (1 : Int32)), .val (.ref b31), .val (.ref la40), .unset, .unset] [(.ref kd), (.ref b41), (.ref b41)])
      refine own_goW (fun t_ k_ => XS.aload X41.here hx rfl (hb hby at_82) rfl rfl  k_) ?_
      show own_EndsW _ _ _ _ _ _ _ _ _ T41 (mkF m 84 #[.val (.int p0), .val (.int p1), .val (.int p2), .val (.int p3), .val (.ref kd), .val (.int (1 : Int32)), .val (.ref b31), .val (.ref la40), .unset, .unset] [(.ref la40), (.ref kd), (.ref b41), (.ref b41)])
      refine own_goW (fun t_ k_ => XS.iloadN X41.here hx rfl (hb hby at_84) rfl  k_) ?_
      show own_EndsW _ _ _ _ _ _ _ _ _ T41 (mkF m 85 #[.val (.int p0), .val (.int p1), .val (.int p2), .val (.int p3), .val (.ref kd), .val (.int (1 : Int32)), .val (.ref b31), .val (.ref la40), .unset, .unset] [(.int p0), (.ref la40), (.ref kd), (.ref b41), (.ref b41)])
      refine own_goW (fun t_ k_ => XS.iloadN X41.here hx rfl (hb hby at_85) rfl  k_) ?_
      show own_EndsW _ _ _ _ _ _ _ _ _ T41 (mkF m 86 #[.val (.int p0), .val (.int p1), .val (.int p2), .val (.int p3), .val (.ref kd), .val (.int (1 : Int32)), .val (.ref b31), .val (.ref la40), .unset, .unset] [(.int p1), (.int p0), (.ref la40), (.ref kd), (.ref b41), (.ref b41)])
      refine own_goW (fun t_ k_ => XS.aload X41.here hx rfl (hb hby at_86) rfl rfl  k_) ?_
      show own_EndsW _ _ _ _ _ _ _ _ _ T41 (mkF m 88 #[.val (.int p0), .val (.int p1), .val (.int p2), .val (.int p3), .val (.ref kd), .val (.int (1 : Int32)), .val (.ref b31), .val (.ref la40), .unset, .unset] [(.ref la40), (.int p1), (.int p0), (.ref la40), (.ref kd), (.ref b41), (.ref b41)])
      refine own_goW (fun t_ k_ => XS.iload X41.here hx rfl (hb hby at_88) rfl  k_) ?_
      show own_EndsW _ _ _ _ _ _ _ _ _ T41 (mkF m 90 #[.val (.int p0), .val (.int p1), .val (.int p2), .val (.int p3), .val (.ref kd), .val (.int (1 : Int32)), .val (.ref b31), .val (.ref la40), .unset, .unset] [(.int (1 : Int32)), (.ref la40), (.int p1), (.int p0), (.ref la40), (.ref kd), (.ref b41), (.ref b41)])
      have Nsk42 : ∀ x ∈ ([b41] : List Addr), ∀ cell : Cell, h41[x]? = some cell → cell.vm.isStatics = false := (nsS (Exa.nostat A41) ns0)
      have Skk42 : ∀ x ∈ ([b41] : List Addr), Safe Z [] T40.vm h41 x := (sfS own_safe0 sf0)
      obtain ⟨T43, v43, L43, X43, hQ43, st43⟩ := own_callN X41 hx hZ (y := (⟨"com/example/ferret/ferret/frontend/Token", "<init>", "(Lcom/example/ferret/ferret/frontend/Token$Kind;Ljava/lang/String;IILjava/lang/String;Z)V"⟩ : MethodName)) rfl hown (hw _ (List.mem_of_getElem? (i := 44) rfl)) (hw _ (List.mem_of_getElem? (i := 45) rfl)) (hw _ (List.mem_of_getElem? (i := 43) rfl)) (hw _ (List.mem_of_getElem? (i := 46) rfl)) (by decide) (rm8 l Z a0 hw [] b41 kd la40 p0 p1 la40 (1 : Int32) h41 n0 (Nat.le_trans (Nat.le_trans (Nat.le_trans (Nat.le_trans (Nat.le_trans Z0 E31.1) (Keep.of_wr W34).1) (Keep.of_wr W37).1) E40.1) E41.1)  A41 F41_kind F41_text F41_line F41_column F41_spelling F41_spaced g_b41) e41 (g := (mkF m 90 #[.val (.int p0), .val (.int p1), .val (.int p2), .val (.int p3), .val (.ref kd), .val (.int (1 : Int32)), .val (.ref b31), .val (.ref la40), .unset, .unset] [(.int (1 : Int32)), (.ref la40), (.int p1), (.int p0), (.ref la40), (.ref kd), (.ref b41), (.ref b41)])) rfl (by rw [hml]; rfl) b41 [(.ref kd), (.ref la40), (.int p0), (.int p1), (.ref la40), (.int (1 : Int32))] [(.ref b41)] rfl (lenOf pd__Lcom_example_ferret_ferret_frontend_Token_Kind_Ljava_lang_String_IILjava_lang_String_Z_V rfl) rfl 1 (by show 2 * 0 + _ ≤ _; exact Nat.le_of_eq rfl) (hb hby at_90) (by decide) (by decide) (by decide) (by decide)
      obtain ⟨rfl, N43q, Kq43, Eq43, Fq43_0, Fq43_1⟩ := hQ43
      refine own_goW st43 ?_
      have N43 := Fr.app N37 N43q
      have Iv43 := Iv41.keep Kq43 Skk42
      show own_EndsW _ _ _ _ _ _ _ _ _ T43 (mkF m 93 #[.val (.int p0), .val (.int p1), .val (.int p2), .val (.int p3), .val (.ref kd), .val (.int (1 : Int32)), .val (.ref b31), .val (.ref la40), .unset, .unset] [(.ref b41)])
      refine own_goW (fun t_ k_ => XS.astore X43.here hx rfl (hb hby at_93) rfl rfl (l' := #[.val (.int p0), .val (.int p1), .val (.int p2), .val (.int p3), .val (.ref kd), .val (.int (1 : Int32)), .val (.ref b31), .val (.ref la40), .val (.ref b41), .unset]) rfl k_) ?_
      show own_EndsW _ _ _ _ _ _ _ _ _ T43 (mkF m 95 #[.val (.int p0), .val (.int p1), .val (.int p2), .val (.int p3), .val (.ref kd), .val (.int (1 : Int32)), .val (.ref b31), .val (.ref la40), .val (.ref b41), .unset] [])
      refine own_goW (fun t_ k_ => XS.aload X43.here hx rfl (hb hby at_95) rfl rfl  k_) ?_
      show own_EndsW _ _ _ _ _ _ _ _ _ T43 (mkF m 97 #[.val (.int p0), .val (.int p1), .val (.int p2), .val (.int p3), .val (.ref kd), .val (.int (1 : Int32)), .val (.ref b31), .val (.ref la40), .val (.ref b41), .unset] [(.ref b41)])
      have Nsk44 : ∀ x ∈ ([] : List Addr), ∀ cell : Cell, T43.heap[x]? = some cell → cell.vm.isStatics = false := ns0
      have Skk44 : ∀ x ∈ ([] : List Addr), Safe Z [] T40.vm T43.heap x := sf0
      obtain ⟨T45, v45, L45, X45, hQ45, st45⟩ := own_callS X43 hx hZ (y := (⟨"com/example/ferret/ferret/frontend/Ast$Position", "of", "(Lcom/example/ferret/ferret/frontend/Token;)Lcom/example/ferret/ferret/frontend/Ast$Position;"⟩ : MethodName)) hown (hw _ (List.mem_of_getElem? (i := 65) rfl)) (hw _ (List.mem_of_getElem? (i := 66) rfl)) (hw _ (List.mem_of_getElem? (i := 67) rfl)) (hw _ (List.mem_of_getElem? (i := 68) rfl)) (by decide) (rm10 l Z a0 hw [] b41 p0 p1 T43.heap n0 (Nat.le_trans (Nat.le_trans (Nat.le_trans (Nat.le_trans (Nat.le_trans (Nat.le_trans Z0 E31.1) (Keep.of_wr W34).1) (Keep.of_wr W37).1) E40.1) E41.1) Kq43.1) (A41.keep Kq43) Fq43_0 Fq43_1) rfl (g := (mkF m 97 #[.val (.int p0), .val (.int p1), .val (.int p2), .val (.int p3), .val (.ref kd), .val (.int (1 : Int32)), .val (.ref b31), .val (.ref la40), .val (.ref b41), .unset] [(.ref b41)])) rfl (by rw [hml]; rfl) [(.ref b41)] [] rfl (lenOf pd__Lcom_example_ferret_ferret_frontend_Token__Lcom_example_ferret_ferret_frontend_Ast_Position_ rfl) rfl 0 (by show 2 * 0 + _ ≤ _; exact Nat.le_of_eq rfl) (hb hby at_97) (by decide) (by decide) (by decide) (by decide)
      obtain ⟨pb45, rfl, N45q, Kq45, Eq45, Fl45, Fc45⟩ := hQ45
      refine own_goW st45 ?_
      have N45 := Fr.app N43 N45q
      have Iv45 := Iv43.keep Kq45 Skk44
      show own_EndsW _ _ _ _ _ _ _ _ _ T45 (mkF m 100 #[.val (.int p0), .val (.int p1), .val (.int p2), .val (.int p3), .val (.ref kd), .val (.int (1 : Int32)), .val (.ref b31), .val (.ref la40), .val (.ref b41), .unset] [(.ref pb45)])
      refine own_goW (fun t_ k_ => XS.astore X45.here hx rfl (hb hby at_100) rfl rfl (l' := #[.val (.int p0), .val (.int p1), .val (.int p2), .val (.int p3), .val (.ref kd), .val (.int (1 : Int32)), .val (.ref b31), .val (.ref la40), .val (.ref b41), .val (.ref pb45)]) rfl k_) ?_
      show own_EndsW _ _ _ _ _ _ _ _ _ T45 (mkF m 102 #[.val (.int p0), .val (.int p1), .val (.int p2), .val (.int p3), .val (.ref kd), .val (.int (1 : Int32)), .val (.ref b31), .val (.ref la40), .val (.ref b41), .val (.ref pb45)] [])
      refine own_goW (fun t_ k_ => XS.aload X45.here hx rfl (hb hby at_102) rfl rfl  k_) ?_
      show own_EndsW _ _ _ _ _ _ _ _ _ T45 (mkF m 104 #[.val (.int p0), .val (.int p1), .val (.int p2), .val (.int p3), .val (.ref kd), .val (.int (1 : Int32)), .val (.ref b31), .val (.ref la40), .val (.ref b41), .val (.ref pb45)] [(.ref pb45)])
      obtain ⟨T46, v46, L46, X46, hQ46, st46⟩ := own_callV X45 hx hZ (y := (⟨"com/example/ferret/ferret/frontend/Ast$Position", "line", "()I"⟩ : MethodName)) (z := (⟨"com/example/ferret/ferret/frontend/Ast$Position", "line", "()I"⟩ : MethodName)) hown (hw _ (List.mem_of_getElem? (i := 89) rfl)) (hw _ (List.mem_of_getElem? (i := 90) rfl)) (notFace_of_selects (args := #[]) (mvT hZ (hw _ (List.mem_of_getElem? (i := 92) rfl)))) (hw _ (List.mem_of_getElem? (i := 92) rfl)) (hw _ (List.mem_of_getElem? (i := 91) rfl)) (hw _ (List.mem_of_getElem? (i := 67) rfl)) (hw _ (List.mem_of_getElem? (i := 93) rfl)) (by decide) (rm14 l Z a0 hw [] pb45 p0 T45.heap n0 (Nat.le_trans (Nat.le_trans (Nat.le_trans (Nat.le_trans (Nat.le_trans (Nat.le_trans (Nat.le_trans Z0 E31.1) (Keep.of_wr W34).1) (Keep.of_wr W37).1) E40.1) E41.1) Kq43.1) Kq45.1) Fl45) rfl (g := (mkF m 104 #[.val (.int p0), .val (.int p1), .val (.int p2), .val (.int p3), .val (.ref kd), .val (.int (1 : Int32)), .val (.ref b31), .val (.ref la40), .val (.ref b41), .val (.ref pb45)] [(.ref pb45)])) rfl (by rw [hml]; rfl) pb45 Eq45 [] [] rfl (lenOf pd___I rfl) rfl 0 (by show 2 * 0 + _ ≤ _; exact Nat.le_of_eq rfl) (hb hby at_104) (by decide) (by decide) (by decide) (by decide)
      obtain ⟨rfl, N46q, e46⟩ := hQ46
      refine own_goW st46 ?_
      have N46 := Fr.app N45 N46q
      show own_EndsW _ _ _ _ _ _ _ _ _ T46 (mkF m 107 #[.val (.int p0), .val (.int p1), .val (.int p2), .val (.int p3), .val (.ref kd), .val (.int (1 : Int32)), .val (.ref b31), .val (.ref la40), .val (.ref b41), .val (.ref pb45)] [(.int p0)])
      refine own_goW (fun t_ k_ => XS.iloadN X46.here hx rfl (hb hby at_107) rfl  k_) ?_
      show own_EndsW _ _ _ _ _ _ _ _ _ T46 (mkF m 108 #[.val (.int p0), .val (.int p1), .val (.int p2), .val (.int p3), .val (.ref kd), .val (.int (1 : Int32)), .val (.ref b31), .val (.ref la40), .val (.ref b41), .val (.ref pb45)] [(.int p0), (.int p0)])
      refine own_goW (fun t_ k_ => XS.icmpNo X46.here hx rfl (hb hby at_108) rfl (teq rfl).2 k_) ?_
      show own_EndsW _ _ _ _ _ _ _ _ _ T46 (mkF m 111 #[.val (.int p0), .val (.int p1), .val (.int p2), .val (.int p3), .val (.ref kd), .val (.int (1 : Int32)), .val (.ref b31), .val (.ref la40), .val (.ref b41), .val (.ref pb45)] [])
      refine own_goW (fun t_ k_ => XS.aload X46.here hx rfl (hb hby at_111) rfl rfl  k_) ?_
      show own_EndsW _ _ _ _ _ _ _ _ _ T46 (mkF m 113 #[.val (.int p0), .val (.int p1), .val (.int p2), .val (.int p3), .val (.ref kd), .val (.int (1 : Int32)), .val (.ref b31), .val (.ref la40), .val (.ref b41), .val (.ref pb45)] [(.ref pb45)])
      obtain ⟨T47, v47, L47, X47, hQ47, st47⟩ := own_callV X46 hx hZ (y := (⟨"com/example/ferret/ferret/frontend/Ast$Position", "column", "()I"⟩ : MethodName)) (z := (⟨"com/example/ferret/ferret/frontend/Ast$Position", "column", "()I"⟩ : MethodName)) hown (hw _ (List.mem_of_getElem? (i := 94) rfl)) (hw _ (List.mem_of_getElem? (i := 95) rfl)) (notFace_of_selects (args := #[]) (mvT hZ (hw _ (List.mem_of_getElem? (i := 97) rfl)))) (hw _ (List.mem_of_getElem? (i := 97) rfl)) (hw _ (List.mem_of_getElem? (i := 96) rfl)) (hw _ (List.mem_of_getElem? (i := 67) rfl)) (hw _ (List.mem_of_getElem? (i := 98) rfl)) (by decide) (rm15 l Z a0 hw [] pb45 p1 T45.heap n0 (Nat.le_trans (Nat.le_trans (Nat.le_trans (Nat.le_trans (Nat.le_trans (Nat.le_trans (Nat.le_trans Z0 E31.1) (Keep.of_wr W34).1) (Keep.of_wr W37).1) E40.1) E41.1) Kq43.1) Kq45.1) Fc45) e46 (g := (mkF m 113 #[.val (.int p0), .val (.int p1), .val (.int p2), .val (.int p3), .val (.ref kd), .val (.int (1 : Int32)), .val (.ref b31), .val (.ref la40), .val (.ref b41), .val (.ref pb45)] [(.ref pb45)])) rfl (by rw [hml]; rfl) pb45 Eq45 [] [] rfl (lenOf pd___I rfl) rfl 0 (by show 2 * 0 + _ ≤ _; exact Nat.le_of_eq rfl) (hb hby at_113) (by decide) (by decide) (by decide) (by decide)
      obtain ⟨rfl, N47q, e47⟩ := hQ47
      refine own_goW st47 ?_
      have N47 := Fr.app N46 N47q
      show own_EndsW _ _ _ _ _ _ _ _ _ T47 (mkF m 116 #[.val (.int p0), .val (.int p1), .val (.int p2), .val (.int p3), .val (.ref kd), .val (.int (1 : Int32)), .val (.ref b31), .val (.ref la40), .val (.ref b41), .val (.ref pb45)] [(.int p1)])
      refine own_goW (fun t_ k_ => XS.iloadN X47.here hx rfl (hb hby at_116) rfl  k_) ?_
      show own_EndsW _ _ _ _ _ _ _ _ _ T47 (mkF m 117 #[.val (.int p0), .val (.int p1), .val (.int p2), .val (.int p3), .val (.ref kd), .val (.int (1 : Int32)), .val (.ref b31), .val (.ref la40), .val (.ref b41), .val (.ref pb45)] [(.int p1), (.int p1)])
      refine own_goW (fun t_ k_ => XS.icmpNo X47.here hx rfl (hb hby at_117) rfl (teq rfl).2 k_) ?_
      show own_EndsW _ _ _ _ _ _ _ _ _ T47 (mkF m 120 #[.val (.int p0), .val (.int p1), .val (.int p2), .val (.int p3), .val (.ref kd), .val (.int (1 : Int32)), .val (.ref b31), .val (.ref la40), .val (.ref b41), .val (.ref pb45)] [])
      refine own_goW (fun t_ k_ => XS.iconst X47.here hx rfl (hb hby at_120) k_) ?_
      show own_EndsW _ _ _ _ _ _ _ _ _ T47 (mkF m 121 #[.val (.int p0), .val (.int p1), .val (.int p2), .val (.int p3), .val (.ref kd), .val (.int (1 : Int32)), .val (.ref b31), .val (.ref la40), .val (.ref b41), .val (.ref pb45)] [(.int (1 : Int32))])
      refine own_goW (fun t_ k_ => XS.goto X47.here hx rfl (pc0 := 121) (pc' := 125) rfl (hb hby at_121) (by decide) (by decide) k_) ?_
      show own_EndsW _ _ _ _ _ _ _ _ _ T47 (mkF m 125 #[.val (.int p0), .val (.int p1), .val (.int p2), .val (.int p3), .val (.ref kd), .val (.int (1 : Int32)), .val (.ref b31), .val (.ref la40), .val (.ref b41), .val (.ref pb45)] [(.int (1 : Int32))])
      refine own_retNW X47 hZ (own_EW hw) Iv45 hx hlk (t := .boolean) hret (by simp) (hb hby at_125) e47 (by decide) (by decide) ?_
      exact ⟨rfl, N47⟩
    · refine own_goW (fun t_ k_ => XT.acmpYes X38.here hx rfl (pc0 := 57) (pc' := 65) rfl (hb hby at_57) rfl rfl rfl (XT.aa_ne_t (fun q => hc39 (Value.ref.inj q))) (by decide) (by decide) k_) ?_
      show own_EndsW _ _ _ _ _ _ _ _ _ T38 (mkF m 65 #[.val (.int p0), .val (.int p1), .val (.int p2), .val (.int p3), .val (.ref kd), .val (.int (1 : Int32)), .val (.ref b31), .unset, .unset, .unset] [])
      obtain ⟨T48, h48, X48, e48, E48, A48, D48, -, st48⟩ := newO X38 hx hZ hown (hw _ (List.mem_of_getElem? (i := 12) rfl)) (hw _ (List.mem_of_getElem? (i := 13) rfl)) (hw _ (List.mem_of_getElem? (i := 14) rfl)) e38 (g := (mkF m 65 #[.val (.int p0), .val (.int p1), .val (.int p2), .val (.int p3), .val (.ref kd), .val (.int (1 : Int32)), .val (.ref b31), .unset, .unset, .unset] [])) rfl (hb hby at_65) (by decide) (by decide)
      obtain ⟨b48, g48⟩ : ∃ z, z = h37.size := ⟨_, rfl⟩
      rw [← g48] at A48 D48 st48
      refine own_goW st48 ?_
      have g_b48 : n0 ≤ b48 := Nat.le_trans (Nat.le_trans (Nat.le_trans (Nat.le_trans Z0 E31.1) (Keep.of_wr W34).1) (Keep.of_wr W37).1) (Nat.le_of_eq g48.symm)
      have Iv48 := Iv37.ext E48
      have F48_coder : Fld Z h48 b48 "java/lang/String" "coder" "B" (.int (0 : Int32)) := D48 (Or.inr (hw _ (List.mem_of_getElem? (i := 38) rfl))) (ty := .byte) (by decide)
      have F48_value : Fld Z h48 b48 "java/lang/String" "value" "[B" .null := D48 (Or.inr (hw _ (List.mem_of_getElem? (i := 40) rfl))) (ty := (.array .byte)) (by decide)
      show own_EndsW _ _ _ _ _ _ _ _ _ T48 (mkF m 68 #[.val (.int p0), .val (.int p1), .val (.int p2), .val (.int p3), .val (.ref kd), .val (.int (1 : Int32)), .val (.ref b31), .unset, .unset, .unset] [(.ref b48)])
      refine own_goW (fun t_ k_ => XS.dup X48.here hx rfl (hb hby at_68) rfl rfl k_) ?_
      show own_EndsW _ _ _ _ _ _ _ _ _ T48 (mkF m 69 #[.val (.int p0), .val (.int p1), .val (.int p2), .val (.int p3), .val (.ref kd), .val (.int (1 : Int32)), .val (.ref b31), .unset, .unset, .unset] [(.ref b48), (.ref b48)])
      refine own_goW (fun t_ k_ => XS.aload X48.here hx rfl (hb hby at_69) rfl rfl  k_) ?_
      show own_EndsW _ _ _ _ _ _ _ _ _ T48 (mkF m 71 #[.val (.int p0), .val (.int p1), .val (.int p2), .val (.int p3), .val (.ref kd), .val (.int (1 : Int32)), .val (.ref b31), .unset, .unset, .unset] [(.ref b31), (.ref b48), (.ref b48)])
      have hl49 : ∀ c ∈ [(nar .char ((p3 &&& (255 : Int32)).toUInt32.toUInt16.toUInt32.toInt32)), (nar .char (((XT.ushr p3 (8 : Int32)) &&& (255 : Int32)).toUInt32.toUInt16.toUInt32.toInt32))], ¬ c < 0 ∧ ¬ (255 : Int32) < c := by
        intro c hc
        simp only [List.mem_cons, List.not_mem_nil, or_false] at hc
        rcases hc with rfl | rfl
        · exact own_latc (own_and255 _).1 (own_and255 _).2
        · exact own_latc (own_and255 _).1 (own_and255 _).2
      have Nsk50 : ∀ x ∈ ([b48] : List Addr), ∀ cell : Cell, h48[x]? = some cell → cell.vm.isStatics = false := (nsS (Exa.nostat A48) ns0)
      have Skk50 : ∀ x ∈ ([b48] : List Addr), Safe Z [] s.vm h48 x := (sfS own_safe0 sf0)
      obtain ⟨T51, v51, L51, X51, hQ51, st51⟩ := own_callNB X48 hx hZ (y := (⟨"java/lang/String", "<init>", "([C)V"⟩ : MethodName)) (rc := 1) (rs := 2) rfl hown (hw _ (List.mem_of_getElem? (i := 15) rfl)) (hw _ (List.mem_of_getElem? (i := 16) rfl)) (hw _ (List.mem_of_getElem? (i := 17) rfl)) (by decide) (StrChars.Road.backV (W := 1) hZ (own_hws hw) (kI := 4) (hw _ (List.mem_of_getElem? (i := 13) rfl)) (cs := [(nar .char ((p3 &&& (255 : Int32)).toUInt32.toUInt16.toUInt32.toInt32)), (nar .char (((XT.ushr p3 (8 : Int32)) &&& (255 : Int32)).toUInt32.toUInt16.toUInt32.toInt32))]) (bs := [((nar .char ((p3 &&& (255 : Int32)).toUInt32.toUInt16.toUInt32.toInt32))).toInt8.toInt32, ((nar .char (((XT.ushr p3 (8 : Int32)) &&& (255 : Int32)).toUInt32.toUInt16.toUInt32.toInt32))).toInt8.toInt32]) (n := 2) g_b48 (Nat.le_trans (Nat.le_trans (Nat.le_trans (Nat.le_trans Z0 E31.1) (Keep.of_wr W34).1) (Keep.of_wr W37).1) E48.1) A48 F48_value F48_coder (V37.ext E48) ((((SC.ext E31).wr W34).wr W37).ext E48) hzc rfl rfl (by decide) (by decide) hl49 rfl (by decide) (by decide)) e48 (g := (mkF m 71 #[.val (.int p0), .val (.int p1), .val (.int p2), .val (.int p3), .val (.ref kd), .val (.int (1 : Int32)), .val (.ref b31), .unset, .unset, .unset] [(.ref b31), (.ref b48), (.ref b48)])) rfl (by rw [hml]; rfl) b48 [(.ref b31)] [(.ref b48)] rfl (lenOf pd___C_V rfl) rfl (by show 2 * 0 + _ ≤ _; exact Nat.le_of_eq rfl) (hb hby at_71) (by decide) (by decide)
      obtain ⟨rfl, N51q, Kq51, Eq51, Cq51, tb51, kb51, -, -, -, Vq51, Aq51⟩ := hQ51
      refine own_goW st51 ?_
      have N51 := Fr.app N37 N51q
      have Iv51 := Iv48.keep Kq51 Skk50
      show own_EndsW _ _ _ _ _ _ _ _ _ T51 (mkF m 74 #[.val (.int p0), .val (.int p1), .val (.int p2), .val (.int p3), .val (.ref kd), .val (.int (1 : Int32)), .val (.ref b31), .unset, .unset, .unset] [(.ref b48)])
      refine own_goW (fun t_ k_ => XS.astore X51.here hx rfl (hb hby at_74) rfl rfl (l' := #[.val (.int p0), .val (.int p1), .val (.int p2), .val (.int p3), .val (.ref kd), .val (.int (1 : Int32)), .val (.ref b31), .val (.ref b48), .unset, .unset]) rfl k_) ?_
      show own_EndsW _ _ _ _ _ _ _ _ _ T51 (mkF m 76 #[.val (.int p0), .val (.int p1), .val (.int p2), .val (.int p3), .val (.ref kd), .val (.int (1 : Int32)), .val (.ref b31), .val (.ref b48), .unset, .unset] [])
      obtain ⟨T52, h52, X52, e52, E52, A52, D52, -, st52⟩ := newO X51 hx hZ hown (hw _ (List.mem_of_getElem? (i := 41) rfl)) (hw _ (List.mem_of_getElem? (i := 42) rfl)) (hw _ (List.mem_of_getElem? (i := 43) rfl)) rfl (g := (mkF m 76 #[.val (.int p0), .val (.int p1), .val (.int p2), .val (.int p3), .val (.ref kd), .val (.int (1 : Int32)), .val (.ref b31), .val (.ref b48), .unset, .unset] [])) rfl (hb hby at_76) (by decide) (by decide)
      obtain ⟨b52, g52⟩ : ∃ z, z = T51.heap.size := ⟨_, rfl⟩
      rw [← g52] at A52 D52 st52
      refine own_goW st52 ?_
      have g_b52 : n0 ≤ b52 := Nat.le_trans (Nat.le_trans (Nat.le_trans (Nat.le_trans (Nat.le_trans (Nat.le_trans Z0 E31.1) (Keep.of_wr W34).1) (Keep.of_wr W37).1) E48.1) Kq51.1) (Nat.le_of_eq g52.symm)
      have Iv52 := Iv51.ext E52
      have F52_kind : Fld Z h52 b52 "com/example/ferret/ferret/frontend/Token" "kind" "Lcom/example/ferret/ferret/frontend/Token$Kind;" .null := D52 (Or.inr (hw _ (List.mem_of_getElem? (i := 54) rfl))) (ty := (.object "com/example/ferret/ferret/frontend/Token$Kind")) (by decide)
      have F52_text : Fld Z h52 b52 "com/example/ferret/ferret/frontend/Token" "text" "Ljava/lang/String;" .null := D52 (Or.inr (hw _ (List.mem_of_getElem? (i := 56) rfl))) (ty := (.object "java/lang/String")) (by decide)
      have F52_line : Fld Z h52 b52 "com/example/ferret/ferret/frontend/Token" "line" "I" (.int (0 : Int32)) := D52 (Or.inr (hw _ (List.mem_of_getElem? (i := 58) rfl))) (ty := .int) (by decide)
      have F52_column : Fld Z h52 b52 "com/example/ferret/ferret/frontend/Token" "column" "I" (.int (0 : Int32)) := D52 (Or.inr (hw _ (List.mem_of_getElem? (i := 60) rfl))) (ty := .int) (by decide)
      have F52_spelling : Fld Z h52 b52 "com/example/ferret/ferret/frontend/Token" "spelling" "Ljava/lang/String;" .null := D52 (Or.inr (hw _ (List.mem_of_getElem? (i := 62) rfl))) (ty := (.object "java/lang/String")) (by decide)
      have F52_spaced : Fld Z h52 b52 "com/example/ferret/ferret/frontend/Token" "spaced" "Z" (.int (0 : Int32)) := D52 (Or.inr (hw _ (List.mem_of_getElem? (i := 64) rfl))) (ty := .boolean) (by decide)
      show own_EndsW _ _ _ _ _ _ _ _ _ T52 (mkF m 79 #[.val (.int p0), .val (.int p1), .val (.int p2), .val (.int p3), .val (.ref kd), .val (.int (1 : Int32)), .val (.ref b31), .val (.ref b48), .unset, .unset] [(.ref b52)])
      refine own_goW (fun t_ k_ => XS.dup X52.here hx rfl (hb hby at_79) rfl rfl k_) ?_
      show own_EndsW _ _ _ _ _ _ _ _ _ T52 (mkF m 80 #[.val (.int p0), .val (.int p1), .val (.int p2), .val (.int p3), .val (.ref kd), .val (.int (1 : Int32)), .val (.ref b31), .val (.ref b48), .unset, .unset] [(.ref b52), (.ref b52)])
      refine own_goW (fun t_ k_ => XS.aload X52.here hx rfl (hb hby at_80) rfl rfl  k_) ?_
      show own_EndsW _ _ _ _ _ _ _ _ _ T52 (mkF m 82 #[.val (.int p0), .val (.int p1), .val (.int p2), .val (.int p3), .val (.ref kd), .val (.int (1 : Int32)), .val (.ref b31), .val (.ref b48), .unset, .unset] [(.ref kd), (.ref b52), (.ref b52)])
      refine own_goW (fun t_ k_ => XS.aload X52.here hx rfl (hb hby at_82) rfl rfl  k_) ?_
      show own_EndsW _ _ _ _ _ _ _ _ _ T52 (mkF m 84 #[.val (.int p0), .val (.int p1), .val (.int p2), .val (.int p3), .val (.ref kd), .val (.int (1 : Int32)), .val (.ref b31), .val (.ref b48), .unset, .unset] [(.ref b48), (.ref kd), (.ref b52), (.ref b52)])
      refine own_goW (fun t_ k_ => XS.iloadN X52.here hx rfl (hb hby at_84) rfl  k_) ?_
      show own_EndsW _ _ _ _ _ _ _ _ _ T52 (mkF m 85 #[.val (.int p0), .val (.int p1), .val (.int p2), .val (.int p3), .val (.ref kd), .val (.int (1 : Int32)), .val (.ref b31), .val (.ref b48), .unset, .unset] [(.int p0), (.ref b48), (.ref kd), (.ref b52), (.ref b52)])
      refine own_goW (fun t_ k_ => XS.iloadN X52.here hx rfl (hb hby at_85) rfl  k_) ?_
      show own_EndsW _ _ _ _ _ _ _ _ _ T52 (mkF m 86 #[.val (.int p0), .val (.int p1), .val (.int p2), .val (.int p3), .val (.ref kd), .val (.int (1 : Int32)), .val (.ref b31), .val (.ref b48), .unset, .unset] [(.int p1), (.int p0), (.ref b48), (.ref kd), (.ref b52), (.ref b52)])
      refine own_goW (fun t_ k_ => XS.aload X52.here hx rfl (hb hby at_86) rfl rfl  k_) ?_
      show own_EndsW _ _ _ _ _ _ _ _ _ T52 (mkF m 88 #[.val (.int p0), .val (.int p1), .val (.int p2), .val (.int p3), .val (.ref kd), .val (.int (1 : Int32)), .val (.ref b31), .val (.ref b48), .unset, .unset] [(.ref b48), (.int p1), (.int p0), (.ref b48), (.ref kd), (.ref b52), (.ref b52)])
      refine own_goW (fun t_ k_ => XS.iload X52.here hx rfl (hb hby at_88) rfl  k_) ?_
      show own_EndsW _ _ _ _ _ _ _ _ _ T52 (mkF m 90 #[.val (.int p0), .val (.int p1), .val (.int p2), .val (.int p3), .val (.ref kd), .val (.int (1 : Int32)), .val (.ref b31), .val (.ref b48), .unset, .unset] [(.int (1 : Int32)), (.ref b48), (.int p1), (.int p0), (.ref b48), (.ref kd), (.ref b52), (.ref b52)])
      have Nsk53 : ∀ x ∈ ([b52] : List Addr), ∀ cell : Cell, h52[x]? = some cell → cell.vm.isStatics = false := (nsS (Exa.nostat A52) ns0)
      have Skk53 : ∀ x ∈ ([b52] : List Addr), Safe Z [] s.vm h52 x := (sfS own_safe0 sf0)
      obtain ⟨T54, v54, L54, X54, hQ54, st54⟩ := own_callN X52 hx hZ (y := (⟨"com/example/ferret/ferret/frontend/Token", "<init>", "(Lcom/example/ferret/ferret/frontend/Token$Kind;Ljava/lang/String;IILjava/lang/String;Z)V"⟩ : MethodName)) rfl hown (hw _ (List.mem_of_getElem? (i := 44) rfl)) (hw _ (List.mem_of_getElem? (i := 45) rfl)) (hw _ (List.mem_of_getElem? (i := 43) rfl)) (hw _ (List.mem_of_getElem? (i := 46) rfl)) (by decide) (rm8 l Z a0 hw [] b52 kd b48 p0 p1 b48 (1 : Int32) h52 n0 (Nat.le_trans (Nat.le_trans (Nat.le_trans (Nat.le_trans (Nat.le_trans (Nat.le_trans Z0 E31.1) (Keep.of_wr W34).1) (Keep.of_wr W37).1) E48.1) Kq51.1) E52.1)  A52 F52_kind F52_text F52_line F52_column F52_spelling F52_spaced g_b52) e52 (g := (mkF m 90 #[.val (.int p0), .val (.int p1), .val (.int p2), .val (.int p3), .val (.ref kd), .val (.int (1 : Int32)), .val (.ref b31), .val (.ref b48), .unset, .unset] [(.int (1 : Int32)), (.ref b48), (.int p1), (.int p0), (.ref b48), (.ref kd), (.ref b52), (.ref b52)])) rfl (by rw [hml]; rfl) b52 [(.ref kd), (.ref b48), (.int p0), (.int p1), (.ref b48), (.int (1 : Int32))] [(.ref b52)] rfl (lenOf pd__Lcom_example_ferret_ferret_frontend_Token_Kind_Ljava_lang_String_IILjava_lang_String_Z_V rfl) rfl 1 (by show 2 * 0 + _ ≤ _; exact Nat.le_of_eq rfl) (hb hby at_90) (by decide) (by decide) (by decide) (by decide)
      obtain ⟨rfl, N54q, Kq54, Eq54, Fq54_0, Fq54_1⟩ := hQ54
      refine own_goW st54 ?_
      have N54 := Fr.app N51 N54q
      have Iv54 := Iv52.keep Kq54 Skk53
      show own_EndsW _ _ _ _ _ _ _ _ _ T54 (mkF m 93 #[.val (.int p0), .val (.int p1), .val (.int p2), .val (.int p3), .val (.ref kd), .val (.int (1 : Int32)), .val (.ref b31), .val (.ref b48), .unset, .unset] [(.ref b52)])
      refine own_goW (fun t_ k_ => XS.astore X54.here hx rfl (hb hby at_93) rfl rfl (l' := #[.val (.int p0), .val (.int p1), .val (.int p2), .val (.int p3), .val (.ref kd), .val (.int (1 : Int32)), .val (.ref b31), .val (.ref b48), .val (.ref b52), .unset]) rfl k_) ?_
      show own_EndsW _ _ _ _ _ _ _ _ _ T54 (mkF m 95 #[.val (.int p0), .val (.int p1), .val (.int p2), .val (.int p3), .val (.ref kd), .val (.int (1 : Int32)), .val (.ref b31), .val (.ref b48), .val (.ref b52), .unset] [])
      refine own_goW (fun t_ k_ => XS.aload X54.here hx rfl (hb hby at_95) rfl rfl  k_) ?_
      show own_EndsW _ _ _ _ _ _ _ _ _ T54 (mkF m 97 #[.val (.int p0), .val (.int p1), .val (.int p2), .val (.int p3), .val (.ref kd), .val (.int (1 : Int32)), .val (.ref b31), .val (.ref b48), .val (.ref b52), .unset] [(.ref b52)])
      have Nsk55 : ∀ x ∈ ([] : List Addr), ∀ cell : Cell, T54.heap[x]? = some cell → cell.vm.isStatics = false := ns0
      have Skk55 : ∀ x ∈ ([] : List Addr), Safe Z [] s.vm T54.heap x := sf0
      obtain ⟨T56, v56, L56, X56, hQ56, st56⟩ := own_callS X54 hx hZ (y := (⟨"com/example/ferret/ferret/frontend/Ast$Position", "of", "(Lcom/example/ferret/ferret/frontend/Token;)Lcom/example/ferret/ferret/frontend/Ast$Position;"⟩ : MethodName)) hown (hw _ (List.mem_of_getElem? (i := 65) rfl)) (hw _ (List.mem_of_getElem? (i := 66) rfl)) (hw _ (List.mem_of_getElem? (i := 67) rfl)) (hw _ (List.mem_of_getElem? (i := 68) rfl)) (by decide) (rm10 l Z a0 hw [] b52 p0 p1 T54.heap n0 (Nat.le_trans (Nat.le_trans (Nat.le_trans (Nat.le_trans (Nat.le_trans (Nat.le_trans (Nat.le_trans Z0 E31.1) (Keep.of_wr W34).1) (Keep.of_wr W37).1) E48.1) Kq51.1) E52.1) Kq54.1) (A52.keep Kq54) Fq54_0 Fq54_1) rfl (g := (mkF m 97 #[.val (.int p0), .val (.int p1), .val (.int p2), .val (.int p3), .val (.ref kd), .val (.int (1 : Int32)), .val (.ref b31), .val (.ref b48), .val (.ref b52), .unset] [(.ref b52)])) rfl (by rw [hml]; rfl) [(.ref b52)] [] rfl (lenOf pd__Lcom_example_ferret_ferret_frontend_Token__Lcom_example_ferret_ferret_frontend_Ast_Position_ rfl) rfl 0 (by show 2 * 0 + _ ≤ _; exact Nat.le_of_eq rfl) (hb hby at_97) (by decide) (by decide) (by decide) (by decide)
      obtain ⟨pb56, rfl, N56q, Kq56, Eq56, Fl56, Fc56⟩ := hQ56
      refine own_goW st56 ?_
      have N56 := Fr.app N54 N56q
      have Iv56 := Iv54.keep Kq56 Skk55
      show own_EndsW _ _ _ _ _ _ _ _ _ T56 (mkF m 100 #[.val (.int p0), .val (.int p1), .val (.int p2), .val (.int p3), .val (.ref kd), .val (.int (1 : Int32)), .val (.ref b31), .val (.ref b48), .val (.ref b52), .unset] [(.ref pb56)])
      refine own_goW (fun t_ k_ => XS.astore X56.here hx rfl (hb hby at_100) rfl rfl (l' := #[.val (.int p0), .val (.int p1), .val (.int p2), .val (.int p3), .val (.ref kd), .val (.int (1 : Int32)), .val (.ref b31), .val (.ref b48), .val (.ref b52), .val (.ref pb56)]) rfl k_) ?_
      show own_EndsW _ _ _ _ _ _ _ _ _ T56 (mkF m 102 #[.val (.int p0), .val (.int p1), .val (.int p2), .val (.int p3), .val (.ref kd), .val (.int (1 : Int32)), .val (.ref b31), .val (.ref b48), .val (.ref b52), .val (.ref pb56)] [])
      refine own_goW (fun t_ k_ => XS.aload X56.here hx rfl (hb hby at_102) rfl rfl  k_) ?_
      show own_EndsW _ _ _ _ _ _ _ _ _ T56 (mkF m 104 #[.val (.int p0), .val (.int p1), .val (.int p2), .val (.int p3), .val (.ref kd), .val (.int (1 : Int32)), .val (.ref b31), .val (.ref b48), .val (.ref b52), .val (.ref pb56)] [(.ref pb56)])
      obtain ⟨T57, v57, L57, X57, hQ57, st57⟩ := own_callV X56 hx hZ (y := (⟨"com/example/ferret/ferret/frontend/Ast$Position", "line", "()I"⟩ : MethodName)) (z := (⟨"com/example/ferret/ferret/frontend/Ast$Position", "line", "()I"⟩ : MethodName)) hown (hw _ (List.mem_of_getElem? (i := 89) rfl)) (hw _ (List.mem_of_getElem? (i := 90) rfl)) (notFace_of_selects (args := #[]) (mvT hZ (hw _ (List.mem_of_getElem? (i := 92) rfl)))) (hw _ (List.mem_of_getElem? (i := 92) rfl)) (hw _ (List.mem_of_getElem? (i := 91) rfl)) (hw _ (List.mem_of_getElem? (i := 67) rfl)) (hw _ (List.mem_of_getElem? (i := 93) rfl)) (by decide) (rm14 l Z a0 hw [] pb56 p0 T56.heap n0 (Nat.le_trans (Nat.le_trans (Nat.le_trans (Nat.le_trans (Nat.le_trans (Nat.le_trans (Nat.le_trans (Nat.le_trans Z0 E31.1) (Keep.of_wr W34).1) (Keep.of_wr W37).1) E48.1) Kq51.1) E52.1) Kq54.1) Kq56.1) Fl56) rfl (g := (mkF m 104 #[.val (.int p0), .val (.int p1), .val (.int p2), .val (.int p3), .val (.ref kd), .val (.int (1 : Int32)), .val (.ref b31), .val (.ref b48), .val (.ref b52), .val (.ref pb56)] [(.ref pb56)])) rfl (by rw [hml]; rfl) pb56 Eq56 [] [] rfl (lenOf pd___I rfl) rfl 0 (by show 2 * 0 + _ ≤ _; exact Nat.le_of_eq rfl) (hb hby at_104) (by decide) (by decide) (by decide) (by decide)
      obtain ⟨rfl, N57q, e57⟩ := hQ57
      refine own_goW st57 ?_
      have N57 := Fr.app N56 N57q
      show own_EndsW _ _ _ _ _ _ _ _ _ T57 (mkF m 107 #[.val (.int p0), .val (.int p1), .val (.int p2), .val (.int p3), .val (.ref kd), .val (.int (1 : Int32)), .val (.ref b31), .val (.ref b48), .val (.ref b52), .val (.ref pb56)] [(.int p0)])
      refine own_goW (fun t_ k_ => XS.iloadN X57.here hx rfl (hb hby at_107) rfl  k_) ?_
      show own_EndsW _ _ _ _ _ _ _ _ _ T57 (mkF m 108 #[.val (.int p0), .val (.int p1), .val (.int p2), .val (.int p3), .val (.ref kd), .val (.int (1 : Int32)), .val (.ref b31), .val (.ref b48), .val (.ref b52), .val (.ref pb56)] [(.int p0), (.int p0)])
      refine own_goW (fun t_ k_ => XS.icmpNo X57.here hx rfl (hb hby at_108) rfl (teq rfl).2 k_) ?_
      show own_EndsW _ _ _ _ _ _ _ _ _ T57 (mkF m 111 #[.val (.int p0), .val (.int p1), .val (.int p2), .val (.int p3), .val (.ref kd), .val (.int (1 : Int32)), .val (.ref b31), .val (.ref b48), .val (.ref b52), .val (.ref pb56)] [])
      refine own_goW (fun t_ k_ => XS.aload X57.here hx rfl (hb hby at_111) rfl rfl  k_) ?_
      show own_EndsW _ _ _ _ _ _ _ _ _ T57 (mkF m 113 #[.val (.int p0), .val (.int p1), .val (.int p2), .val (.int p3), .val (.ref kd), .val (.int (1 : Int32)), .val (.ref b31), .val (.ref b48), .val (.ref b52), .val (.ref pb56)] [(.ref pb56)])
      obtain ⟨T58, v58, L58, X58, hQ58, st58⟩ := own_callV X57 hx hZ (y := (⟨"com/example/ferret/ferret/frontend/Ast$Position", "column", "()I"⟩ : MethodName)) (z := (⟨"com/example/ferret/ferret/frontend/Ast$Position", "column", "()I"⟩ : MethodName)) hown (hw _ (List.mem_of_getElem? (i := 94) rfl)) (hw _ (List.mem_of_getElem? (i := 95) rfl)) (notFace_of_selects (args := #[]) (mvT hZ (hw _ (List.mem_of_getElem? (i := 97) rfl)))) (hw _ (List.mem_of_getElem? (i := 97) rfl)) (hw _ (List.mem_of_getElem? (i := 96) rfl)) (hw _ (List.mem_of_getElem? (i := 67) rfl)) (hw _ (List.mem_of_getElem? (i := 98) rfl)) (by decide) (rm15 l Z a0 hw [] pb56 p1 T56.heap n0 (Nat.le_trans (Nat.le_trans (Nat.le_trans (Nat.le_trans (Nat.le_trans (Nat.le_trans (Nat.le_trans (Nat.le_trans Z0 E31.1) (Keep.of_wr W34).1) (Keep.of_wr W37).1) E48.1) Kq51.1) E52.1) Kq54.1) Kq56.1) Fc56) e57 (g := (mkF m 113 #[.val (.int p0), .val (.int p1), .val (.int p2), .val (.int p3), .val (.ref kd), .val (.int (1 : Int32)), .val (.ref b31), .val (.ref b48), .val (.ref b52), .val (.ref pb56)] [(.ref pb56)])) rfl (by rw [hml]; rfl) pb56 Eq56 [] [] rfl (lenOf pd___I rfl) rfl 0 (by show 2 * 0 + _ ≤ _; exact Nat.le_of_eq rfl) (hb hby at_113) (by decide) (by decide) (by decide) (by decide)
      obtain ⟨rfl, N58q, e58⟩ := hQ58
      refine own_goW st58 ?_
      have N58 := Fr.app N57 N58q
      show own_EndsW _ _ _ _ _ _ _ _ _ T58 (mkF m 116 #[.val (.int p0), .val (.int p1), .val (.int p2), .val (.int p3), .val (.ref kd), .val (.int (1 : Int32)), .val (.ref b31), .val (.ref b48), .val (.ref b52), .val (.ref pb56)] [(.int p1)])
      refine own_goW (fun t_ k_ => XS.iloadN X58.here hx rfl (hb hby at_116) rfl  k_) ?_
      show own_EndsW _ _ _ _ _ _ _ _ _ T58 (mkF m 117 #[.val (.int p0), .val (.int p1), .val (.int p2), .val (.int p3), .val (.ref kd), .val (.int (1 : Int32)), .val (.ref b31), .val (.ref b48), .val (.ref b52), .val (.ref pb56)] [(.int p1), (.int p1)])
      refine own_goW (fun t_ k_ => XS.icmpNo X58.here hx rfl (hb hby at_117) rfl (teq rfl).2 k_) ?_
      show own_EndsW _ _ _ _ _ _ _ _ _ T58 (mkF m 120 #[.val (.int p0), .val (.int p1), .val (.int p2), .val (.int p3), .val (.ref kd), .val (.int (1 : Int32)), .val (.ref b31), .val (.ref b48), .val (.ref b52), .val (.ref pb56)] [])
      refine own_goW (fun t_ k_ => XS.iconst X58.here hx rfl (hb hby at_120) k_) ?_
      show own_EndsW _ _ _ _ _ _ _ _ _ T58 (mkF m 121 #[.val (.int p0), .val (.int p1), .val (.int p2), .val (.int p3), .val (.ref kd), .val (.int (1 : Int32)), .val (.ref b31), .val (.ref b48), .val (.ref b52), .val (.ref pb56)] [(.int (1 : Int32))])
      refine own_goW (fun t_ k_ => XS.goto X58.here hx rfl (pc0 := 121) (pc' := 125) rfl (hb hby at_121) (by decide) (by decide) k_) ?_
      show own_EndsW _ _ _ _ _ _ _ _ _ T58 (mkF m 125 #[.val (.int p0), .val (.int p1), .val (.int p2), .val (.int p3), .val (.ref kd), .val (.int (1 : Int32)), .val (.ref b31), .val (.ref b48), .val (.ref b52), .val (.ref pb56)] [(.int (1 : Int32))])
      refine own_retNW X58 hZ (own_EW hw) Iv56 hx hlk (t := .boolean) hret (by simp) (hb hby at_125) e58 (by decide) (by decide) ?_
      exact ⟨rfl, N58⟩
set_option maxRecDepth 65536 in
set_option maxHeartbeats 40000000 in
theorem comes_1 {Post : Tables → Env → Array Value → State → Outcome → State → Prop} (hpost : ∀ tb e args s v u, (limb_1_1.after args s (.returned v) u = true ∧ limb_1_2.after args s (.returned v) u = true ∧ True) → ReturnedEndW s (.returned v) u (Jvm.fieldLocs frame_1_writes args s ++ Jvm.arrayLocs frame_1_arrays args s ++ Jvm.staticLocs frame_1_statics s) 24 1152 → Post tb e args s (.returned v) u) :
    ArmFor flags0 classFile x code maxLocals ret World_1 tables_1 room_1 Calls_1 rest_1 Pre_1 Post := by
  intro l hfl _ _ p e ha hc hk s m args below hf hA hF happ hP
  obtain ⟨hcalls, hrest, hpre⟩ := hP
  obtain ⟨-, -, -, hnamed, -, -, -, hat⟩ := (Spec.applies_iff hf).mp happ
  obtain ⟨hg, hn⟩ := and_e (Cond.before_iff.mp (show (Jvm.Cond.and given_1 narrow_1).before args s = true from hpre))
  obtain ⟨g1, g2⟩ := and_e hg
  obtain ⟨g3, g4⟩ := and_e g2
  obtain ⟨g5, g6⟩ := and_e g4
  obtain ⟨g7, g8⟩ := and_e g6
  obtain ⟨w0, w1, w2, w3, rfl⟩ : ∃ w0 w1 w2 w3 : Value, args = #[w0, w1, w2, w3] := by
    have hs : args.size = 4 := by simpa [Cond.value, given_1] using g1
    obtain ⟨L⟩ := args
    match L, hs with
    | [w0, w1, w2, w3], _ => exact ⟨w0, w1, w2, w3, rfl⟩
  have hw := fun d (hd : d ∈ tables_1) => atoms_spec (ws := Jvm.Cond.code x code maxLocals ret :: tables_1) hat d (List.mem_cons_of_mem _ hd)
  have hfit : Fit s := fun {y c} hc i hi => by
    obtain ⟨ha, rfl⟩ := Array.getElem?_eq_some_iff.mp hc
    have q := List.all_eq_true.mp ((Array.all_eq_true_iff_forall_mem.mp hF) _ (Array.getElem_mem ha)) i (List.mem_range.mpr hi)
    simpa [Array.getElem?_eq_getElem hi] using q
  obtain ⟨hsets, hown0⟩ := atoms_of _ (rest_1_c_eq ▸ (show rest_1_c.before _ s = true from hrest))
  obtain ⟨i0, ei0⟩ := is_v g3
  obtain rfl : w0 = (.int i0) := Option.some.inj ei0
  obtain ⟨i1, ei1⟩ := is_v g5
  obtain rfl : w1 = (.int i1) := Option.some.inj ei1
  obtain ⟨i2, ei2⟩ := is_v g7
  obtain rfl : w2 = (.int i2) := Option.some.inj ei2
  obtain ⟨i3, ei3⟩ := is_v g8
  obtain rfl : w3 = (.int i3) := Option.some.inj ei3
  unfold narrow_1 at hn
  obtain ⟨g9, g10⟩ := and_e hn
  obtain ⟨g11, g12⟩ := and_e g10
  obtain ⟨g13, g14⟩ := and_e g12
  obtain ⟨g15, g16⟩ := and_e g14
  obtain ⟨g17, g18⟩ := and_e g16
  obtain ⟨g19, g20⟩ := and_e g18
  obtain ⟨g21, g22⟩ := and_e g20
  obtain ⟨g23, g24⟩ := and_e g22
  obtain ⟨g25, g26⟩ := and_e g24
  obtain ⟨g27, g28⟩ := and_e g26
  obtain ⟨g29, g30⟩ := and_e g28
  obtain ⟨g31, g32⟩ := and_e g30
  obtain ⟨g33, g34⟩ := and_e g32
  obtain ⟨a_NUMBER, ev_NUMBER⟩ := exa_v g9
  have E_NUMBER := Exa.start ev_NUMBER g9
  have S_NUMBER := Sta.start ev_NUMBER (Or.inr ⟨(hw _ (List.mem_of_getElem? (i := 6) rfl)), (hw _ (List.mem_of_getElem? (i := 7) rfl))⟩)
  obtain ⟨a_END, ev_END⟩ := exa_v g11
  have E_END := Exa.start ev_END g11
  have S_END := Sta.start ev_END (Or.inr ⟨(hw _ (List.mem_of_getElem? (i := 6) rfl)), (hw _ (List.mem_of_getElem? (i := 11) rfl))⟩)
  have F_NUMBER_ordinal := own_fldI ev_NUMBER g13
  have F_END_ordinal := own_fldI ev_END g15
  obtain ⟨a_STRING, ev_STRING⟩ := exa_v g17
  have E_STRING := Exa.start ev_STRING g17
  have S_STRING := Sta.start ev_STRING (Or.inr ⟨(hw _ (List.mem_of_getElem? (i := 6) rfl)), (hw _ (List.mem_of_getElem? (i := 100) rfl))⟩)
  have F_STRING_ordinal := own_fldI ev_STRING g19
  obtain ⟨a_PUNCTUATOR, ev_PUNCTUATOR⟩ := exa_v g21
  have E_PUNCTUATOR := Exa.start ev_PUNCTUATOR g21
  have S_PUNCTUATOR := Sta.start ev_PUNCTUATOR (Or.inr ⟨(hw _ (List.mem_of_getElem? (i := 6) rfl)), (hw _ (List.mem_of_getElem? (i := 102) rfl))⟩)
  have F_PUNCTUATOR_ordinal := own_fldI ev_PUNCTUATOR g23
  obtain ⟨a_KEYWORD, ev_KEYWORD⟩ := exa_v g25
  have E_KEYWORD := Exa.start ev_KEYWORD g25
  have S_KEYWORD := Sta.start ev_KEYWORD (Or.inr ⟨(hw _ (List.mem_of_getElem? (i := 6) rfl)), (hw _ (List.mem_of_getElem? (i := 104) rfl))⟩)
  have F_KEYWORD_ordinal := own_fldI ev_KEYWORD g27
  obtain ⟨a_CHARACTER, ev_CHARACTER⟩ := exa_v g29
  have E_CHARACTER := Exa.start ev_CHARACTER g29
  have S_CHARACTER := Sta.start ev_CHARACTER (Or.inr ⟨(hw _ (List.mem_of_getElem? (i := 6) rfl)), (hw _ (List.mem_of_getElem? (i := 106) rfl))⟩)
  have F_CHARACTER_ordinal := own_fldI ev_CHARACTER g31
  obtain ⟨a_IDENTIFIER, ev_IDENTIFIER⟩ := exa_v g33
  have E_IDENTIFIER := Exa.start ev_IDENTIFIER g33
  have S_IDENTIFIER := Sta.start ev_IDENTIFIER (Or.inr ⟨(hw _ (List.mem_of_getElem? (i := 6) rfl)), (hw _ (List.mem_of_getElem? (i := 108) rfl))⟩)
  have F_IDENTIFIER_ordinal := own_fldI ev_IDENTIFIER g34
  obtain ⟨zc, evc⟩ := is_v (Cond.before_iff.mp (hsets _ (List.mem_of_getElem? (i := 1) rfl)))
  have SC := Sta.start evc (Or.inl (hsets _ (List.mem_of_getElem? (i := 0) rfl)))
  have hzc : ¬ zc = 0 := own_nz evc (Cond.before_iff.mp (hsets _ (List.mem_of_getElem? (i := 2) rfl)))
  obtain ⟨n, o, h1, h2, h3, _, L, rfl, ⟨rfl, N⟩, -, hq⟩ := rm0 l s _ hw tables_1 i0 i1 i2 i3 a_IDENTIFIER a_KEYWORD a_NUMBER a_CHARACTER a_STRING a_PUNCTUATOR a_END zc s.heap s.heap.size (Nat.le_refl _) S_IDENTIFIER S_KEYWORD S_NUMBER S_CHARACTER S_STRING S_PUNCTUATOR S_END SC hzc p e ha hc hk s m _ below hf ((Spec.applies_iff_loose hf).mp happ).1 ⟨rfl, State.Warmed39.refl s, rfl, own_ch0⟩ trivial
  refine ⟨n, _, h1, h2, h3, hpost _ _ _ _ _ _ ⟨Cond.after_iff.mpr rfl, Cond.after_iff.mpr (eq_i res_at (Term.int_eval (1)) rfl), trivial⟩ ⟨hq.1, hq.2.1, hq.2.2.1, (hq.2.2.2.sift fun y hy => Or.inr (N y hy)).mono (by decide) (by decide)⟩⟩
theorem main_1_1 : Claimed_1_1 := comes_1 fun _ _ _ _ _ _ h hF => ⟨h.1, hF⟩
theorem main_1_2 : Claimed_1_2 := comes_1 fun _ _ _ _ _ _ h hF => ⟨h.2.1, hF⟩
end Jvm.Pilot.@@N@@
namespace Jvm.Pilot.@@N@@
open Jvm Jvm.ClassFile Sem Op Lib Jvm.Free Jvm.Stand Jvm.Pilot.@@N@@.Jvm.D
/-! MADE BY PROGRAM (witnessworld.py) out of the Statement's table words and the real class files: 24 classes; the members and pool entries that the words name. The judged class is class 1, her method 2. -/
namespace start1
open Jvm.ClassFile
def u (s : String) : CpInfo := .utf8 (stringToUtf16 s)
/-- a pool by its gaps: so many unusable entries, then the entry; so many at the end -/
def gap : Nat → List CpInfo → List CpInfo
  | 0, r => r
  | n + 1, r => .unusable :: gap n r
def poolList (es : List (Nat × CpInfo)) (last : Nat) : List CpInfo := es.foldr (fun e r => gap e.1 (e.2 :: r)) (gap last [])
def pool (es : List (Nat × CpInfo)) (last : Nat) : Array CpInfo := ⟨poolList es last⟩
def fileOf (pool : Array CpInfo) (this : Nat) (attrs : Array Attribute := #[]) (ms : Array MethodInfo := #[]) (fl : Nat := 33) (sup : Nat := 0) (ifs : Array Nat := #[]) (fds : Array FieldInfo := #[]) : ClassFile where
  minorVersion := 0
  majorVersion := 65
  constantPool := pool
  accessFlags := fl
  thisClass := this
  superClass := sup
  interfaces := ifs
  fields := fds
  methods := ms
  attributes := attrs
def plain (name : String) (sup : Option ClassId) : Class where
  name := name
  kind := .ordinary
  loader := none
  accessFlags := 33
  super := sup
  interfaces := #[]
  cf := none
  fields := #[]
  methods := #[]
  instanceTypes := #[]
  staticTypes := #[]
  resolved := #[]
  callSites := []
  init := .initialized
  statics := none
  mirror := none

def pool0 : Array CpInfo := pool [(5, u "<init>"), (0, u "()V"), (1, .class_ 10), (1, u "java/lang/Object")] 113

def k0c0 : Code := { maxStack := 0, maxLocals := 1, code := object_method_1_code, exceptionTable := #[], attributes := #[] }
def k0m0 : Method := { name := "<init>", desc := "()V", sig := { parameters := [], returnType := none }, accessFlags := 1, code := some k0c0 }
/-- java/lang/Object -/
def k0 : Class := { plain "java/lang/Object" none with
  accessFlags := 33
  interfaces := #[]
  cf := some (fileOf pool0 8 #[] #[{ accessFlags := 1, nameIndex := 5, descriptorIndex := 6, attributes := #[] }] 33 0 #[] #[])
  fields := #[]
  methods := #[k0m0]
  instanceTypes := #[]
  staticTypes := #[]
  resolved := Array.replicate 124 none
  statics := none }

def pool1 : Array CpInfo := pool [(2, .class_ 4), (1, u "java/lang/Object"), (0, u "<init>"), (0, u "()V"), (0, .fieldref 8 9), (0, .class_ 10), (0, .nameAndType 11 12), (0, u "com/example/ferret/ferret/frontend/Token$Kind"), (0, u "IDENTIFIER"), (0, u "Lcom/example/ferret/ferret/frontend/Token$Kind;"), (0, .fieldref 8 14), (0, .nameAndType 15 12), (0, u "KEYWORD"), (0, .fieldref 8 17), (0, .nameAndType 18 12), (0, u "NUMBER"), (0, .fieldref 8 20), (0, .nameAndType 21 12), (0, u "CHARACTER"), (0, .fieldref 8 23), (0, .nameAndType 24 12), (0, u "STRING"), (0, .fieldref 8 26), (0, .nameAndType 27 12), (0, u "PUNCTUATOR"), (0, .fieldref 8 29), (0, .nameAndType 30 12), (0, u "END"), (0, .integer 2147483647), (0, .methodref 33 34), (0, .class_ 35), (0, .nameAndType 36 37), (0, u "com/example/ferret/ferret/frontend/PositionOfPinLaw"), (0, u "kindOf"), (0, u "(I)Lcom/example/ferret/ferret/frontend/Token$Kind;"), (0, .integer 65536), (0, .string 40), (0, u ""), (0, .class_ 42), (0, u "java/lang/String"), (0, .methodref 41 44), (0, .nameAndType 5 45), (0, u "([C)V"), (0, .class_ 47), (0, u "com/example/ferret/ferret/frontend/Token"), (0, .methodref 46 49), (0, .nameAndType 5 50), (0, u "(Lcom/example/ferret/ferret/frontend/Token$Kind;Ljava/lang/String;IILjava/lang/String;Z)V"), (0, .methodref 52 53), (0, .class_ 54), (0, .nameAndType 55 56), (0, u "com/example/ferret/ferret/frontend/Ast$Position"), (0, u "of"), (0, u "(Lcom/example/ferret/ferret/frontend/Token;)Lcom/example/ferret/ferret/frontend/Ast$Position;"), (0, .methodref 52 58), (0, .nameAndType 59 60), (0, u "line"), (0, u "()I"), (0, .methodref 52 62), (0, .nameAndType 63 60), (0, u "column"), (3, u "law"), (0, u "(IIII)Z")] 9

def k1m0 : Method := { name := "<init>", desc := "()V", sig := { parameters := [], returnType := none }, accessFlags := 2, code := none }
def k1c1 : Code := { maxStack := 2, maxLocals := 1, code := method_2_code, exceptionTable := #[], attributes := #[] }
def k1m1 : Method := { name := "kindOf", desc := "(I)Lcom/example/ferret/ferret/frontend/Token$Kind;", sig := { parameters := [.int], returnType := some (.object "com/example/ferret/ferret/frontend/Token$Kind") }, accessFlags := 10, code := some k1c1 }
def k1c2 : Code := { maxStack := 8, maxLocals := 10, code := code, exceptionTable := #[], attributes := #[] }
def k1m2 : Method := { name := "law", desc := "(IIII)Z", sig := { parameters := [.int, .int, .int, .int], returnType := some .boolean }, accessFlags := 9, code := some k1c2 }
/-- com/example/ferret/ferret/frontend/PositionOfPinLaw -/
def k1 : Class := { plain "com/example/ferret/ferret/frontend/PositionOfPinLaw" (some 0) with
  accessFlags := 49
  interfaces := #[]
  cf := some (fileOf pool1 33 #[] #[{ accessFlags := 2, nameIndex := 5, descriptorIndex := 6, attributes := #[] }, { accessFlags := 10, nameIndex := 36, descriptorIndex := 37, attributes := #[] }, { accessFlags := 9, nameIndex := 67, descriptorIndex := 68, attributes := #[] }] 49 2 #[] #[])
  fields := #[]
  methods := #[k1m0, k1m1, k1m2]
  instanceTypes := #[]
  staticTypes := #[]
  resolved := Array.replicate 78 none
  statics := none }

def pool2 : Array CpInfo := pool [(1, .class_ 2), (0, u "java/lang/constant/Constable"), (0, .class_ 4), (0, u "java/lang/Object")] 6

/-- java/lang/constant/Constable -/
def k2 : Class := { plain "java/lang/constant/Constable" (some 0) with
  accessFlags := 1537
  interfaces := #[]
  cf := some (fileOf pool2 1 #[] #[] 1537 3 #[] #[])
  fields := #[]
  methods := #[]
  instanceTypes := #[]
  staticTypes := #[]
  resolved := Array.replicate 11 none
  statics := none }

def pool3 : Array CpInfo := pool [(1, .class_ 2), (0, u "java/lang/Comparable"), (0, .class_ 4), (0, u "java/lang/Object")] 7

/-- java/lang/Comparable -/
def k3 : Class := { plain "java/lang/Comparable" (some 0) with
  accessFlags := 1537
  interfaces := #[]
  cf := some (fileOf pool3 1 #[] #[] 1537 3 #[] #[])
  fields := #[]
  methods := #[]
  instanceTypes := #[]
  staticTypes := #[]
  resolved := Array.replicate 12 none
  statics := none }

def pool4 : Array CpInfo := pool [(1, .class_ 2), (0, u "java/io/Serializable"), (0, .class_ 4), (0, u "java/lang/Object")] 2

/-- java/io/Serializable -/
def k4 : Class := { plain "java/io/Serializable" (some 0) with
  accessFlags := 1537
  interfaces := #[]
  cf := some (fileOf pool4 1 #[] #[] 1537 3 #[] #[])
  fields := #[]
  methods := #[]
  instanceTypes := #[]
  staticTypes := #[]
  resolved := Array.replicate 7 none
  statics := none }

def pool5 : Array CpInfo := pool [(2, .class_ 4), (1, u "java/lang/Enum"), (0, u "name"), (0, u "Ljava/lang/String;"), (2, u "ordinal"), (0, u "I"), (1, .class_ 14), (1, u "java/lang/Object"), (4, u "hash"), (86, .class_ 108), (1, u "java/lang/Enum$EnumDesc"), (2, .class_ 112), (0, u "java/lang/constant/Constable"), (0, .class_ 114), (0, u "java/lang/Comparable"), (0, .class_ 116), (0, u "java/io/Serializable")] 87

/-- java/lang/Enum -/
def k5 : Class := { plain "java/lang/Enum" (some 0) with
  accessFlags := 1057
  interfaces := #[2, 3, 4]
  cf := some (fileOf pool5 2 #[.nestMembers #[106]] #[] 1057 12 #[111, 113, 115] #[{ accessFlags := 18, nameIndex := 5, descriptorIndex := 6, attributes := #[] }, { accessFlags := 18, nameIndex := 9, descriptorIndex := 10, attributes := #[] }, { accessFlags := 2, nameIndex := 19, descriptorIndex := 10, attributes := #[] }])
  fields := #[{ name := "name", type := (.object "java/lang/String"), accessFlags := 18, slot := 0, constantValue := 0 }, { name := "ordinal", type := .int, accessFlags := 18, slot := 1, constantValue := 0 }, { name := "hash", type := .int, accessFlags := 2, slot := 2, constantValue := 0 }]
  methods := #[]
  instanceTypes := #[(.object "java/lang/String"), .int, .int]
  staticTypes := #[]
  resolved := Array.replicate 204 none
  statics := none }

def pool6 : Array CpInfo := pool [(1, .class_ 2), (0, u "com/example/ferret/ferret/frontend/Token$Kind"), (2, u "IDENTIFIER"), (0, u "Lcom/example/ferret/ferret/frontend/Token$Kind;"), (2, u "KEYWORD"), (2, u "NUMBER"), (2, u "CHARACTER"), (2, u "STRING"), (2, u "PUNCTUATOR"), (2, u "END"), (2, u "$VALUES"), (0, u "[Lcom/example/ferret/ferret/frontend/Token$Kind;"), (6, .class_ 37), (1, u "java/lang/Enum"), (30, .class_ 69), (0, u "com/example/ferret/ferret/frontend/Token")] 2

/-- com/example/ferret/ferret/frontend/Token$Kind -/
def k6 : Class := { plain "com/example/ferret/ferret/frontend/Token$Kind" (some 5) with
  accessFlags := 16432
  interfaces := #[]
  cf := some (fileOf pool6 1 #[.nestHost 68] #[] 16432 35 #[] #[{ accessFlags := 16409, nameIndex := 5, descriptorIndex := 6, attributes := #[] }, { accessFlags := 16409, nameIndex := 9, descriptorIndex := 6, attributes := #[] }, { accessFlags := 16409, nameIndex := 12, descriptorIndex := 6, attributes := #[] }, { accessFlags := 16409, nameIndex := 15, descriptorIndex := 6, attributes := #[] }, { accessFlags := 16409, nameIndex := 18, descriptorIndex := 6, attributes := #[] }, { accessFlags := 16409, nameIndex := 21, descriptorIndex := 6, attributes := #[] }, { accessFlags := 16409, nameIndex := 24, descriptorIndex := 6, attributes := #[] }, { accessFlags := 4122, nameIndex := 27, descriptorIndex := 28, attributes := #[] }])
  fields := #[{ name := "IDENTIFIER", type := (.object "com/example/ferret/ferret/frontend/Token$Kind"), accessFlags := 16409, slot := 0, constantValue := 0 }, { name := "KEYWORD", type := (.object "com/example/ferret/ferret/frontend/Token$Kind"), accessFlags := 16409, slot := 1, constantValue := 0 }, { name := "NUMBER", type := (.object "com/example/ferret/ferret/frontend/Token$Kind"), accessFlags := 16409, slot := 2, constantValue := 0 }, { name := "CHARACTER", type := (.object "com/example/ferret/ferret/frontend/Token$Kind"), accessFlags := 16409, slot := 3, constantValue := 0 }, { name := "STRING", type := (.object "com/example/ferret/ferret/frontend/Token$Kind"), accessFlags := 16409, slot := 4, constantValue := 0 }, { name := "PUNCTUATOR", type := (.object "com/example/ferret/ferret/frontend/Token$Kind"), accessFlags := 16409, slot := 5, constantValue := 0 }, { name := "END", type := (.object "com/example/ferret/ferret/frontend/Token$Kind"), accessFlags := 16409, slot := 6, constantValue := 0 }, { name := "$VALUES", type := (.array (.object "com/example/ferret/ferret/frontend/Token$Kind")), accessFlags := 4122, slot := 7, constantValue := 0 }]
  methods := #[]
  instanceTypes := #[(.object "java/lang/String"), .int, .int]
  staticTypes := #[(.object "com/example/ferret/ferret/frontend/Token$Kind"), (.object "com/example/ferret/ferret/frontend/Token$Kind"), (.object "com/example/ferret/ferret/frontend/Token$Kind"), (.object "com/example/ferret/ferret/frontend/Token$Kind"), (.object "com/example/ferret/ferret/frontend/Token$Kind"), (.object "com/example/ferret/ferret/frontend/Token$Kind"), (.object "com/example/ferret/ferret/frontend/Token$Kind"), (.array (.object "com/example/ferret/ferret/frontend/Token$Kind"))]
  resolved := Array.replicate 72 none
  statics := some 0 }

def pool7 : Array CpInfo := pool [(2, .class_ 4), (1, u "java/lang/CharSequence"), (42, .class_ 48), (0, u "java/lang/CharSequence$1CodePointIterator"), (10, .class_ 60), (0, u "java/lang/CharSequence$1CharIterator"), (5, .class_ 67), (0, u "java/lang/Object")] 63

/-- java/lang/CharSequence -/
def k7 : Class := { plain "java/lang/CharSequence" (some 0) with
  accessFlags := 1537
  interfaces := #[]
  cf := some (fileOf pool7 2 #[.nestMembers #[47, 59]] #[] 1537 66 #[] #[])
  fields := #[]
  methods := #[]
  instanceTypes := #[]
  staticTypes := #[]
  resolved := Array.replicate 131 none
  statics := none }

def pool8 : Array CpInfo := pool [(1, .class_ 2), (0, u "java/lang/constant/ConstantDesc"), (0, .class_ 4), (0, u "java/lang/Object")] 32

/-- java/lang/constant/ConstantDesc -/
def k8 : Class := { plain "java/lang/constant/ConstantDesc" (some 0) with
  accessFlags := 1537
  interfaces := #[]
  cf := some (fileOf pool8 1 #[] #[] 1537 3 #[] #[])
  fields := #[]
  methods := #[]
  instanceTypes := #[]
  staticTypes := #[]
  resolved := Array.replicate 37 none
  statics := none }

def pool9 : Array CpInfo := pool [(1, .methodref 2 3), (0, .class_ 4), (0, .nameAndType 5 6), (0, u "java/lang/Object"), (0, u "<init>"), (0, u "()V"), (2, .fieldref 10 11), (0, .class_ 12), (0, .nameAndType 13 14), (0, u "java/lang/String"), (0, u "value"), (0, u "[B"), (0, .fieldref 10 16), (0, .nameAndType 17 18), (0, u "coder"), (0, u "B"), (2, u "hash"), (0, u "I"), (2, u "hashIsZero"), (0, u "Z"), (0, .methodref 10 28), (0, .nameAndType 5 29), (0, u "([CIILjava/lang/Void;)V"), (8, .fieldref 10 39), (0, .nameAndType 40 26), (0, u "COMPACT_STRINGS"), (1, .class_ 44), (1, u "java/lang/StringUTF16"), (0, u "compress"), (1, .methodref 42 48), (0, .nameAndType 49 50), (0, u "coderFromArrayLen"), (0, u "([BI)B"), (126, .methodref 42 178), (0, .nameAndType 45 179), (0, u "([CII)[B"), (395, .class_ 576), (0, u "java/lang/CharSequence"), (22, u "CASE_INSENSITIVE_ORDER"), (0, u "Ljava/util/Comparator;"), (409, u "([C)V"), (90, u "serialPersistentFields"), (0, u "[Ljava/io/ObjectStreamField;"), (0, .class_ 1104), (0, u "java/lang/String$CaseInsensitiveComparator"), (1, .class_ 1107), (0, u "java/io/Serializable"), (0, .class_ 1109), (0, u "java/lang/Comparable"), (0, .class_ 1111), (0, u "java/lang/constant/Constable"), (0, .class_ 1113), (0, u "java/lang/constant/ConstantDesc"), (2, u "serialVersionUID"), (0, u "J"), (3, u "REPL"), (0, u "C"), (2, u "LATIN1"), (1, u "UTF16")] 323

def k9m0 : Method := { name := "<init>", desc := "()V", sig := { parameters := [], returnType := none }, accessFlags := 1, code := none }
def k9c1 : Code := { maxStack := 5, maxLocals := 2, code := jdk_42_method_3_code, exceptionTable := #[], attributes := #[] }
def k9m1 : Method := { name := "<init>", desc := "([C)V", sig := { parameters := [(.array .char)], returnType := none }, accessFlags := 1, code := some k9c1 }
def k9c2 : Code := { maxStack := 4, maxLocals := 6, code := jdk_42_method_149_code, exceptionTable := #[], attributes := #[] }
def k9m2 : Method := { name := "<init>", desc := "([CIILjava/lang/Void;)V", sig := { parameters := [(.array .char), .int, .int, (.object "java/lang/Void")], returnType := none }, accessFlags := 2, code := some k9c2 }
/-- java/lang/String -/
def k9 : Class := { plain "java/lang/String" (some 0) with
  accessFlags := 49
  interfaces := #[4, 3, 7, 2, 8]
  cf := some (fileOf pool9 10 #[.nestMembers #[1103]] #[{ accessFlags := 1, nameIndex := 5, descriptorIndex := 6, attributes := #[] }, { accessFlags := 1, nameIndex := 5, descriptorIndex := 1010, attributes := #[] }, { accessFlags := 2, nameIndex := 5, descriptorIndex := 29, attributes := #[] }] 49 2 #[1106, 1108, 575, 1110, 1112] #[{ accessFlags := 18, nameIndex := 13, descriptorIndex := 14, attributes := #[] }, { accessFlags := 18, nameIndex := 17, descriptorIndex := 18, attributes := #[] }, { accessFlags := 2, nameIndex := 21, descriptorIndex := 22, attributes := #[] }, { accessFlags := 2, nameIndex := 25, descriptorIndex := 26, attributes := #[] }, { accessFlags := 26, nameIndex := 1116, descriptorIndex := 1117, attributes := #[] }, { accessFlags := 24, nameIndex := 40, descriptorIndex := 26, attributes := #[] }, { accessFlags := 26, nameIndex := 1101, descriptorIndex := 1102, attributes := #[] }, { accessFlags := 26, nameIndex := 1121, descriptorIndex := 1122, attributes := #[] }, { accessFlags := 25, nameIndex := 599, descriptorIndex := 600, attributes := #[] }, { accessFlags := 24, nameIndex := 1125, descriptorIndex := 18, attributes := #[] }, { accessFlags := 24, nameIndex := 1127, descriptorIndex := 18, attributes := #[] }])
  fields := #[{ name := "value", type := (.array .byte), accessFlags := 18, slot := 0, constantValue := 0 }, { name := "coder", type := .byte, accessFlags := 18, slot := 1, constantValue := 0 }, { name := "hash", type := .int, accessFlags := 2, slot := 2, constantValue := 0 }, { name := "hashIsZero", type := .boolean, accessFlags := 2, slot := 3, constantValue := 0 }, { name := "serialVersionUID", type := .long, accessFlags := 26, slot := 0, constantValue := 0 }, { name := "COMPACT_STRINGS", type := .boolean, accessFlags := 24, slot := 1, constantValue := 0 }, { name := "serialPersistentFields", type := (.array (.object "java/io/ObjectStreamField")), accessFlags := 26, slot := 2, constantValue := 0 }, { name := "REPL", type := .char, accessFlags := 26, slot := 3, constantValue := 0 }, { name := "CASE_INSENSITIVE_ORDER", type := (.object "java/util/Comparator"), accessFlags := 25, slot := 4, constantValue := 0 }, { name := "LATIN1", type := .byte, accessFlags := 24, slot := 5, constantValue := 0 }, { name := "UTF16", type := .byte, accessFlags := 24, slot := 6, constantValue := 0 }]
  methods := #[k9m0, k9m1, k9m2]
  instanceTypes := #[(.array .byte), .byte, .int, .boolean]
  staticTypes := #[.long, .boolean, (.array (.object "java/io/ObjectStreamField")), .char, (.object "java/util/Comparator"), .byte, .byte]
  resolved := Array.replicate 1451 none
  statics := some 1 }

def pool10 : Array CpInfo := pool [(6, .class_ 8), (1, u "java/lang/Object"), (0, u "<init>"), (0, u "()V"), (1, .class_ 14), (1, u "java/lang/StringUTF16"), (31, u "$assertionsDisabled"), (0, u "Z"), (13, u "HI_BYTE_SHIFT"), (0, u "I"), (2, u "LO_BYTE_SHIFT"), (49, .methodref 12 116), (0, .nameAndType 117 118), (0, u "compress"), (0, u "([CI[BII)I"), (3, u "([CII)[B"), (138, u "coderFromArrayLen"), (0, u "([BI)B"), (106, .class_ 371), (1, u "java/lang/StringUTF16$LinesSpliterator"), (58, u "MAX_LENGTH"), (196, .class_ 628), (0, u "java/lang/StringUTF16$CodePointsSpliterator"), (0, .class_ 630), (0, u "java/lang/StringUTF16$CharsSpliterator")] 4

def k10m0 : Method := { name := "<init>", desc := "()V", sig := { parameters := [], returnType := none }, accessFlags := 0, code := none }
def k10c1 : Code := { maxStack := 2, maxLocals := 2, code := jdk_52_method_15_code, exceptionTable := #[], attributes := #[] }
def k10m1 : Method := { name := "coderFromArrayLen", desc := "([BI)B", sig := { parameters := [(.array .byte), .int], returnType := some .byte }, accessFlags := 8, code := some k10c1 }
def k10c2 : Code := { maxStack := 5, maxLocals := 6, code := jdk_52_method_16_code, exceptionTable := #[], attributes := #[] }
def k10m2 : Method := { name := "compress", desc := "([CII)[B", sig := { parameters := [(.array .char), .int, .int], returnType := some (.array .byte) }, accessFlags := 9, code := some k10c2 }
def k10c3 : Code := { maxStack := 3, maxLocals := 7, code := jdk_52_method_21_code, exceptionTable := #[], attributes := #[] }
def k10m3 : Method := { name := "compress", desc := "([CI[BII)I", sig := { parameters := [(.array .char), .int, (.array .byte), .int, .int], returnType := some .int }, accessFlags := 9, code := some k10c3 }
/-- java/lang/StringUTF16 -/
def k10 : Class := { plain "java/lang/StringUTF16" (some 0) with
  accessFlags := 48
  interfaces := #[]
  cf := some (fileOf pool10 12 #[.nestMembers #[627, 629, 369]] #[{ accessFlags := 0, nameIndex := 9, descriptorIndex := 10, attributes := #[] }, { accessFlags := 8, nameIndex := 261, descriptorIndex := 262, attributes := #[] }, { accessFlags := 9, nameIndex := 117, descriptorIndex := 122, attributes := #[] }, { accessFlags := 9, nameIndex := 117, descriptorIndex := 118, attributes := #[] }] 48 6 #[] #[{ accessFlags := 26, nameIndex := 61, descriptorIndex := 62, attributes := #[] }, { accessFlags := 26, nameIndex := 65, descriptorIndex := 62, attributes := #[] }, { accessFlags := 24, nameIndex := 430, descriptorIndex := 62, attributes := #[] }, { accessFlags := 4120, nameIndex := 46, descriptorIndex := 47, attributes := #[] }])
  fields := #[{ name := "HI_BYTE_SHIFT", type := .int, accessFlags := 26, slot := 0, constantValue := 0 }, { name := "LO_BYTE_SHIFT", type := .int, accessFlags := 26, slot := 1, constantValue := 0 }, { name := "MAX_LENGTH", type := .int, accessFlags := 24, slot := 2, constantValue := 0 }, { name := "$assertionsDisabled", type := .boolean, accessFlags := 4120, slot := 3, constantValue := 0 }]
  methods := #[k10m0, k10m1, k10m2, k10m3]
  instanceTypes := #[]
  staticTypes := #[.int, .int, .int, .boolean]
  resolved := Array.replicate 635 none
  statics := none }

def pool11 : Array CpInfo := pool [(1, .methodref 2 3), (0, .class_ 4), (0, .nameAndType 5 6), (0, u "java/lang/Object"), (0, u "<init>"), (0, u "()V"), (0, .class_ 8), (0, u "java/lang/Record")] 13

def k11c0 : Code := { maxStack := 1, maxLocals := 1, code := jdk_30_method_1_code, exceptionTable := #[], attributes := #[] }
def k11m0 : Method := { name := "<init>", desc := "()V", sig := { parameters := [], returnType := none }, accessFlags := 4, code := some k11c0 }
/-- java/lang/Record -/
def k11 : Class := { plain "java/lang/Record" (some 0) with
  accessFlags := 1057
  interfaces := #[]
  cf := some (fileOf pool11 7 #[] #[{ accessFlags := 4, nameIndex := 5, descriptorIndex := 6, attributes := #[] }] 1057 2 #[] #[])
  fields := #[]
  methods := #[k11m0]
  instanceTypes := #[]
  staticTypes := #[]
  resolved := Array.replicate 22 none
  statics := none }

def pool12 : Array CpInfo := pool [(1, .methodref 2 3), (0, .class_ 4), (0, .nameAndType 5 6), (0, u "java/lang/Record"), (0, u "<init>"), (0, u "()V"), (0, .fieldref 8 9), (0, .class_ 10), (0, .nameAndType 11 12), (0, u "com/example/ferret/ferret/frontend/Token"), (0, u "kind"), (0, u "Lcom/example/ferret/ferret/frontend/Token$Kind;"), (0, .fieldref 8 14), (0, .nameAndType 15 16), (0, u "text"), (0, u "Ljava/lang/String;"), (0, .fieldref 8 18), (0, .nameAndType 19 20), (0, u "line"), (0, u "I"), (0, .fieldref 8 22), (0, .nameAndType 23 20), (0, u "column"), (0, .fieldref 8 25), (0, .nameAndType 26 16), (0, u "spelling"), (0, .fieldref 8 28), (0, .nameAndType 29 30), (0, u "spaced"), (0, u "Z"), (1, .class_ 34), (1, u "com/example/ferret/ferret/frontend/Token$Kind"), (30, u "(Lcom/example/ferret/ferret/frontend/Token$Kind;Ljava/lang/String;IILjava/lang/String;Z)V"), (8, u "()I")] 37

def k12c0 : Code := { maxStack := 2, maxLocals := 7, code := prog_119_method_1_code, exceptionTable := #[], attributes := #[] }
def k12m0 : Method := { name := "<init>", desc := "(Lcom/example/ferret/ferret/frontend/Token$Kind;Ljava/lang/String;IILjava/lang/String;Z)V", sig := { parameters := [(.object "com/example/ferret/ferret/frontend/Token$Kind"), (.object "java/lang/String"), .int, .int, (.object "java/lang/String"), .boolean], returnType := none }, accessFlags := 0, code := some k12c0 }
def k12c1 : Code := { maxStack := 1, maxLocals := 1, code := prog_119_method_9_code, exceptionTable := #[], attributes := #[] }
def k12m1 : Method := { name := "line", desc := "()I", sig := { parameters := [], returnType := some .int }, accessFlags := 1, code := some k12c1 }
def k12c2 : Code := { maxStack := 1, maxLocals := 1, code := prog_119_method_10_code, exceptionTable := #[], attributes := #[] }
def k12m2 : Method := { name := "column", desc := "()I", sig := { parameters := [], returnType := some .int }, accessFlags := 1, code := some k12c2 }
/-- com/example/ferret/ferret/frontend/Token -/
def k12 : Class := { plain "com/example/ferret/ferret/frontend/Token" (some 11) with
  accessFlags := 48
  interfaces := #[]
  cf := some (fileOf pool12 8 #[.nestMembers #[32]] #[{ accessFlags := 0, nameIndex := 5, descriptorIndex := 65, attributes := #[] }, { accessFlags := 1, nameIndex := 19, descriptorIndex := 74, attributes := #[] }, { accessFlags := 1, nameIndex := 23, descriptorIndex := 74, attributes := #[] }] 48 2 #[] #[{ accessFlags := 18, nameIndex := 11, descriptorIndex := 12, attributes := #[] }, { accessFlags := 18, nameIndex := 15, descriptorIndex := 16, attributes := #[] }, { accessFlags := 18, nameIndex := 19, descriptorIndex := 20, attributes := #[] }, { accessFlags := 18, nameIndex := 23, descriptorIndex := 20, attributes := #[] }, { accessFlags := 18, nameIndex := 26, descriptorIndex := 16, attributes := #[] }, { accessFlags := 18, nameIndex := 29, descriptorIndex := 30, attributes := #[] }])
  fields := #[{ name := "kind", type := (.object "com/example/ferret/ferret/frontend/Token$Kind"), accessFlags := 18, slot := 0, constantValue := 0 }, { name := "text", type := (.object "java/lang/String"), accessFlags := 18, slot := 1, constantValue := 0 }, { name := "line", type := .int, accessFlags := 18, slot := 2, constantValue := 0 }, { name := "column", type := .int, accessFlags := 18, slot := 3, constantValue := 0 }, { name := "spelling", type := (.object "java/lang/String"), accessFlags := 18, slot := 4, constantValue := 0 }, { name := "spaced", type := .boolean, accessFlags := 18, slot := 5, constantValue := 0 }]
  methods := #[k12m0, k12m1, k12m2]
  instanceTypes := #[(.object "com/example/ferret/ferret/frontend/Token$Kind"), (.object "java/lang/String"), .int, .int, (.object "java/lang/String"), .boolean]
  staticTypes := #[]
  resolved := Array.replicate 112 none
  statics := none }

def pool13 : Array CpInfo := pool [(1, .methodref 2 3), (0, .class_ 4), (0, .nameAndType 5 6), (0, u "java/lang/Record"), (0, u "<init>"), (0, u "()V"), (0, .fieldref 8 9), (0, .class_ 10), (0, .nameAndType 11 12), (0, u "com/example/ferret/ferret/frontend/Ast$Position"), (0, u "line"), (0, u "I"), (0, .fieldref 8 14), (0, .nameAndType 15 12), (0, u "column"), (0, .methodref 17 18), (0, .class_ 19), (0, .nameAndType 11 20), (0, u "com/example/ferret/ferret/frontend/Token"), (0, u "()I"), (0, .methodref 17 22), (0, .nameAndType 15 20), (0, .methodref 8 24), (0, .nameAndType 5 25), (0, u "(II)V"), (15, u "of"), (0, u "(Lcom/example/ferret/ferret/frontend/Token;)Lcom/example/ferret/ferret/frontend/Ast$Position;"), (5, .class_ 49), (0, u "com/example/ferret/ferret/frontend/Ast")] 20

def k13c0 : Code := { maxStack := 2, maxLocals := 3, code := prog_49_method_1_code, exceptionTable := #[], attributes := #[] }
def k13m0 : Method := { name := "<init>", desc := "(II)V", sig := { parameters := [.int, .int], returnType := none }, accessFlags := 0, code := some k13c0 }
def k13c1 : Code := { maxStack := 4, maxLocals := 1, code := prog_49_method_2_code, exceptionTable := #[], attributes := #[] }
def k13m1 : Method := { name := "of", desc := "(Lcom/example/ferret/ferret/frontend/Token;)Lcom/example/ferret/ferret/frontend/Ast$Position;", sig := { parameters := [(.object "com/example/ferret/ferret/frontend/Token")], returnType := some (.object "com/example/ferret/ferret/frontend/Ast$Position") }, accessFlags := 8, code := some k13c1 }
def k13c2 : Code := { maxStack := 1, maxLocals := 1, code := prog_49_method_6_code, exceptionTable := #[], attributes := #[] }
def k13m2 : Method := { name := "line", desc := "()I", sig := { parameters := [], returnType := some .int }, accessFlags := 1, code := some k13c2 }
def k13c3 : Code := { maxStack := 1, maxLocals := 1, code := prog_49_method_7_code, exceptionTable := #[], attributes := #[] }
def k13m3 : Method := { name := "column", desc := "()I", sig := { parameters := [], returnType := some .int }, accessFlags := 1, code := some k13c3 }
/-- com/example/ferret/ferret/frontend/Ast$Position -/
def k13 : Class := { plain "com/example/ferret/ferret/frontend/Ast$Position" (some 11) with
  accessFlags := 48
  interfaces := #[]
  cf := some (fileOf pool13 8 #[.nestHost 48] #[{ accessFlags := 0, nameIndex := 5, descriptorIndex := 25, attributes := #[] }, { accessFlags := 8, nameIndex := 41, descriptorIndex := 42, attributes := #[] }, { accessFlags := 1, nameIndex := 11, descriptorIndex := 20, attributes := #[] }, { accessFlags := 1, nameIndex := 15, descriptorIndex := 20, attributes := #[] }] 48 2 #[] #[{ accessFlags := 18, nameIndex := 11, descriptorIndex := 12, attributes := #[] }, { accessFlags := 18, nameIndex := 15, descriptorIndex := 12, attributes := #[] }])
  fields := #[{ name := "line", type := .int, accessFlags := 18, slot := 0, constantValue := 0 }, { name := "column", type := .int, accessFlags := 18, slot := 1, constantValue := 0 }]
  methods := #[k13m0, k13m1, k13m2, k13m3]
  instanceTypes := #[.int, .int]
  staticTypes := #[]
  resolved := Array.replicate 70 none
  statics := none }

def pool14 : Array CpInfo := pool [(4, .class_ 6), (1, u "java/lang/Object"), (0, u "<init>"), (0, u "()V"), (5, .class_ 16), (1, u "java/lang/StringLatin1"), (104, u "$assertionsDisabled"), (0, u "Z"), (98, .class_ 223), (1, u "java/lang/StringLatin1$LinesSpliterator"), (166, .class_ 391), (0, u "java/lang/StringLatin1$CharsSpliterator")] 3

def k14m0 : Method := { name := "<init>", desc := "()V", sig := { parameters := [], returnType := none }, accessFlags := 0, code := none }
/-- java/lang/StringLatin1 -/
def k14 : Class := { plain "java/lang/StringLatin1" (some 0) with
  accessFlags := 48
  interfaces := #[]
  cf := some (fileOf pool14 14 #[.nestMembers #[390, 221]] #[{ accessFlags := 0, nameIndex := 7, descriptorIndex := 8, attributes := #[] }] 48 4 #[] #[{ accessFlags := 4120, nameIndex := 121, descriptorIndex := 122, attributes := #[] }])
  fields := #[{ name := "$assertionsDisabled", type := .boolean, accessFlags := 4120, slot := 0, constantValue := 0 }]
  methods := #[k14m0]
  instanceTypes := #[]
  staticTypes := #[.boolean]
  resolved := Array.replicate 395 none
  statics := none }

def pool15 : Array CpInfo := pool [(2, .class_ 4), (1, u "java/lang/Object"), (0, u "<init>"), (0, u "()V"), (17, .class_ 26), (1, u "jdk/internal/util/Preconditions"), (28, .class_ 56), (0, u "jdk/internal/util/Preconditions$4"), (57, .class_ 115), (0, u "jdk/internal/util/Preconditions$1"), (7, u "SIOOBE_FORMATTER"), (0, u "Ljava/util/function/BiFunction;"), (0, .class_ 126), (0, u "jdk/internal/util/Preconditions$2"), (3, u "AIOOBE_FORMATTER"), (0, .class_ 132), (0, u "jdk/internal/util/Preconditions$3"), (3, u "IOOBE_FORMATTER")] 57

def k15m0 : Method := { name := "<init>", desc := "()V", sig := { parameters := [], returnType := none }, accessFlags := 1, code := none }
/-- jdk/internal/util/Preconditions -/
def k15 : Class := { plain "jdk/internal/util/Preconditions" (some 0) with
  accessFlags := 33
  interfaces := #[]
  cf := some (fileOf pool15 24 #[.nestMembers #[55, 131, 125, 114]] #[{ accessFlags := 1, nameIndex := 5, descriptorIndex := 6, attributes := #[] }] 33 2 #[] #[{ accessFlags := 25, nameIndex := 123, descriptorIndex := 124, attributes := #[] }, { accessFlags := 25, nameIndex := 130, descriptorIndex := 124, attributes := #[] }, { accessFlags := 25, nameIndex := 136, descriptorIndex := 124, attributes := #[] }])
  fields := #[{ name := "SIOOBE_FORMATTER", type := (.object "java/util/function/BiFunction"), accessFlags := 25, slot := 0, constantValue := 0 }, { name := "AIOOBE_FORMATTER", type := (.object "java/util/function/BiFunction"), accessFlags := 25, slot := 1, constantValue := 0 }, { name := "IOOBE_FORMATTER", type := (.object "java/util/function/BiFunction"), accessFlags := 25, slot := 2, constantValue := 0 }]
  methods := #[k15m0]
  instanceTypes := #[]
  staticTypes := #[(.object "java/util/function/BiFunction"), (.object "java/util/function/BiFunction"), (.object "java/util/function/BiFunction")]
  resolved := Array.replicate 194 none
  statics := some 2 }

def pool16 : Array CpInfo := pool [(9, u "<init>"), (6, .class_ 18), (1, u "java/lang/Object"), (0, u "()V"), (1, .class_ 23), (1, u "jdk/internal/util/ArraysSupport"), (0, u "LOG2_ARRAY_LONG_INDEX_SCALE"), (0, u "I"), (2, u "U"), (0, u "Ljdk/internal/misc/Unsafe;"), (8, u "BIG_ENDIAN"), (0, u "Z"), (8, u "LOG2_BYTE_BIT_SIZE"), (4, u "LOG2_ARRAY_INT_INDEX_SCALE"), (54, u "JLA"), (0, u "Ljdk/internal/access/JavaLangAccess;"), (11, u "LOG2_ARRAY_BOOLEAN_INDEX_SCALE"), (9, u "LOG2_ARRAY_BYTE_INDEX_SCALE"), (5, u "LOG2_ARRAY_CHAR_INDEX_SCALE"), (5, u "LOG2_ARRAY_SHORT_INDEX_SCALE"), (18, u "LOG2_ARRAY_FLOAT_INDEX_SCALE"), (24, u "LOG2_ARRAY_DOUBLE_INDEX_SCALE"), (89, u "T_BOOLEAN"), (2, u "T_CHAR"), (1, u "T_FLOAT"), (1, u "T_DOUBLE"), (1, u "T_BYTE"), (1, u "T_SHORT"), (1, u "T_INT"), (1, u "T_LONG"), (1, u "SOFT_MAX_ARRAY_LENGTH")] 83

def k16m0 : Method := { name := "<init>", desc := "()V", sig := { parameters := [], returnType := none }, accessFlags := 2, code := none }
/-- jdk/internal/util/ArraysSupport -/
def k16 : Class := { plain "jdk/internal/util/ArraysSupport" (some 0) with
  accessFlags := 33
  interfaces := #[]
  cf := some (fileOf pool16 21 #[] #[{ accessFlags := 2, nameIndex := 9, descriptorIndex := 19, attributes := #[] }] 33 16 #[] #[{ accessFlags := 24, nameIndex := 28, descriptorIndex := 29, attributes := #[] }, { accessFlags := 26, nameIndex := 38, descriptorIndex := 39, attributes := #[] }, { accessFlags := 25, nameIndex := 121, descriptorIndex := 25, attributes := #[] }, { accessFlags := 25, nameIndex := 131, descriptorIndex := 25, attributes := #[] }, { accessFlags := 25, nameIndex := 137, descriptorIndex := 25, attributes := #[] }, { accessFlags := 25, nameIndex := 143, descriptorIndex := 25, attributes := #[] }, { accessFlags := 25, nameIndex := 53, descriptorIndex := 25, attributes := #[] }, { accessFlags := 25, nameIndex := 24, descriptorIndex := 25, attributes := #[] }, { accessFlags := 25, nameIndex := 162, descriptorIndex := 25, attributes := #[] }, { accessFlags := 25, nameIndex := 187, descriptorIndex := 25, attributes := #[] }, { accessFlags := 26, nameIndex := 48, descriptorIndex := 25, attributes := #[] }, { accessFlags := 25, nameIndex := 277, descriptorIndex := 25, attributes := #[] }, { accessFlags := 25, nameIndex := 280, descriptorIndex := 25, attributes := #[] }, { accessFlags := 25, nameIndex := 282, descriptorIndex := 25, attributes := #[] }, { accessFlags := 25, nameIndex := 284, descriptorIndex := 25, attributes := #[] }, { accessFlags := 25, nameIndex := 286, descriptorIndex := 25, attributes := #[] }, { accessFlags := 25, nameIndex := 288, descriptorIndex := 25, attributes := #[] }, { accessFlags := 25, nameIndex := 290, descriptorIndex := 25, attributes := #[] }, { accessFlags := 25, nameIndex := 292, descriptorIndex := 25, attributes := #[] }, { accessFlags := 26, nameIndex := 108, descriptorIndex := 109, attributes := #[] }, { accessFlags := 25, nameIndex := 294, descriptorIndex := 25, attributes := #[] }])
  fields := #[{ name := "U", type := (.object "jdk/internal/misc/Unsafe"), accessFlags := 24, slot := 0, constantValue := 0 }, { name := "BIG_ENDIAN", type := .boolean, accessFlags := 26, slot := 1, constantValue := 0 }, { name := "LOG2_ARRAY_BOOLEAN_INDEX_SCALE", type := .int, accessFlags := 25, slot := 2, constantValue := 0 }, { name := "LOG2_ARRAY_BYTE_INDEX_SCALE", type := .int, accessFlags := 25, slot := 3, constantValue := 0 }, { name := "LOG2_ARRAY_CHAR_INDEX_SCALE", type := .int, accessFlags := 25, slot := 4, constantValue := 0 }, { name := "LOG2_ARRAY_SHORT_INDEX_SCALE", type := .int, accessFlags := 25, slot := 5, constantValue := 0 }, { name := "LOG2_ARRAY_INT_INDEX_SCALE", type := .int, accessFlags := 25, slot := 6, constantValue := 0 }, { name := "LOG2_ARRAY_LONG_INDEX_SCALE", type := .int, accessFlags := 25, slot := 7, constantValue := 0 }, { name := "LOG2_ARRAY_FLOAT_INDEX_SCALE", type := .int, accessFlags := 25, slot := 8, constantValue := 0 }, { name := "LOG2_ARRAY_DOUBLE_INDEX_SCALE", type := .int, accessFlags := 25, slot := 9, constantValue := 0 }, { name := "LOG2_BYTE_BIT_SIZE", type := .int, accessFlags := 26, slot := 10, constantValue := 0 }, { name := "T_BOOLEAN", type := .int, accessFlags := 25, slot := 11, constantValue := 0 }, { name := "T_CHAR", type := .int, accessFlags := 25, slot := 12, constantValue := 0 }, { name := "T_FLOAT", type := .int, accessFlags := 25, slot := 13, constantValue := 0 }, { name := "T_DOUBLE", type := .int, accessFlags := 25, slot := 14, constantValue := 0 }, { name := "T_BYTE", type := .int, accessFlags := 25, slot := 15, constantValue := 0 }, { name := "T_SHORT", type := .int, accessFlags := 25, slot := 16, constantValue := 0 }, { name := "T_INT", type := .int, accessFlags := 25, slot := 17, constantValue := 0 }, { name := "T_LONG", type := .int, accessFlags := 25, slot := 18, constantValue := 0 }, { name := "JLA", type := (.object "jdk/internal/access/JavaLangAccess"), accessFlags := 26, slot := 19, constantValue := 0 }, { name := "SOFT_MAX_ARRAY_LENGTH", type := .int, accessFlags := 25, slot := 20, constantValue := 0 }]
  methods := #[k16m0]
  instanceTypes := #[]
  staticTypes := #[(.object "jdk/internal/misc/Unsafe"), .boolean, .int, .int, .int, .int, .int, .int, .int, .int, .int, .int, .int, .int, .int, .int, .int, .int, .int, (.object "jdk/internal/access/JavaLangAccess"), .int]
  resolved := Array.replicate 378 none
  statics := none }

def pool17 : Array CpInfo := pool [(1, u "java/lang/Cloneable"), (0, .class_ 1), (0, u "java/lang/Object"), (0, .class_ 3)] 3

/-- java/lang/Cloneable -/
def k17 : Class := { plain "java/lang/Cloneable" (some 0) with
  accessFlags := 1537
  interfaces := #[]
  cf := some (fileOf pool17 2 #[] #[] 1537 4 #[] #[])
  fields := #[]
  methods := #[]
  instanceTypes := #[]
  staticTypes := #[]
  resolved := Array.replicate 8 none
  statics := none }

/-- the primitive byte -/
def k18 : Class := { plain "byte" none with kind := .primitive 'B', accessFlags := 0x411 }
/-- [B -/
def k19 : Class := { plain "[B" (some 0) with kind := .array 18 .byte, interfaces := #[17, 4], accessFlags := 1041 }

/-- the primitive char -/
def k20 : Class := { plain "char" none with kind := .primitive 'C', accessFlags := 0x411 }
/-- [C -/
def k21 : Class := { plain "[C" (some 0) with kind := .array 20 .char, interfaces := #[17, 4], accessFlags := 1041 }

/-- the primitive int -/
def k22 : Class := { plain "int" none with kind := .primitive 'I', accessFlags := 0x411 }
/-- [I -/
def k23 : Class := { plain "[I" (some 0) with kind := .array 22 .int, interfaces := #[17, 4], accessFlags := 1041 }

def heap : Heap := #[{ cls := 6, slots := #[.ref 3, .ref 4, .ref 5, .ref 6, .ref 7, .ref 8, .ref 9, .null], vm := .statics 6 },
  { cls := 9, slots := #[.long 0, .int 1, .null, .int 0, .null, .int 0, .int 0], vm := .statics 9 },
  { cls := 15, slots := #[.null, .null, .null], vm := .statics 15 },
  { cls := 6, slots := #[.null, .int 0, .int 0], vm := .none },
  { cls := 6, slots := #[.null, .int 1, .int 0], vm := .none },
  { cls := 6, slots := #[.null, .int 2, .int 0], vm := .none },
  { cls := 6, slots := #[.null, .int 3, .int 0], vm := .none },
  { cls := 6, slots := #[.null, .int 4, .int 0], vm := .none },
  { cls := 6, slots := #[.null, .int 5, .int 0], vm := .none },
  { cls := 6, slots := #[.null, .int 6, .int 0], vm := .none }]
def classes : Array Class := #[k0, k1, k2, k3, k4, k5, k6, k7, k8, k9, k10, k11, k12, k13, k14, k15, k16, k17, k18, k19, k20, k21, k22, k23]
def interned : List (Array UInt16 × Addr) := []
def slotsUsed : Nat := 39
def theMethod : MethodId := ⟨1, 2⟩
def args0 : Array Value := #[.int 5, .int 3, .int 1, .int 1]
def aboutOver (below : List Frame) : State where
  vm := { classes := classes, interned := interned.toArray }
  heap := heap
  slotsUsed := slotsUsed
  threads := #[{ frames := .invoking theMethod args0 :: below }]
def below0 : List Frame := [.native { method := ⟨0, 0⟩, args := #[] }]
def about1 : State := aboutOver below0
def p0 : Program := .bare "" "" ""
def e0 : Env := launch0.env 0 0 0
theorem w_frames : about1.frames = Frame.invoking theMethod args0 :: below0 := rfl
set_option maxRecDepth 65536 in
theorem w_args : argsFit about1.vm theMethod args0 = true := by decide +kernel
set_option maxRecDepth 65536 in
theorem w_heap : heapFits about1 = true := by decide +kernel
set_option maxRecDepth 65536 in
theorem w_runnable : about1.curStatus? = some .runnable := by decide +kernel
set_option maxRecDepth 65536 in
theorem w_alone : about1.alone = true := by decide +kernel
set_option maxRecDepth 65536 in
theorem w_named : about1.methodNamed? x = some theMethod := by decide +kernel
set_option maxRecDepth 65536 in
theorem w_hears : about1.hears theMethod below0 = true := by decide +kernel
set_option maxRecDepth 65536 in
theorem w_ripe : about1.ripe theMethod args0 below0 = true := by decide +kernel
theorem w_running : about1.status = .running := rfl
set_option maxRecDepth 65536 in
theorem w_room : about1.hasRoom e0.platform room_1 = true :=
  launch0.hasRoom_least _ room_1 (by decide +kernel) (by decide +kernel) (by decide +kernel) (by decide +kernel) (by decide +kernel) (by decide +kernel)
theorem allAtoms_all (ts : List Jvm.Cond) (a : Array Jvm.Value) (st : Jvm.State) : (allAtoms ts).before a st = ts.all (fun c => c.before a st) := by
  induction ts with
  | nil => rfl
  | cons c t ih =>
    show (Jvm.Cond.and c (allAtoms t)).before a st = _
    rw [Jvm.Cond.before_and, ih, List.all_cons]
def words1 : List Jvm.Cond := Jvm.Cond.code x code maxLocals ret :: tables_1
/-- a 'code' word, met by the world's own term for the bytes: nothing is compared byte by byte -/
theorem code_word {y : MethodName} {bytes : ByteArray} {mx : Nat} {rt : Option FieldType} {a : Array Value} {s : State} {m : MethodId} {meth : Method} {c : Code} (h1 : s.methodNamed? y = some m) (h2 : s.vm.method? m = some meth) (h3 : meth.code = some c) (h4 : c.code = bytes)
    (h5 : (c.maxLocals == mx && c.exceptionTable.isEmpty && decide (c.maxStack ≤ mostOperands) && decide (meth.sig.returnType = rt) && !meth.locks && decide (parseMethodDescriptor y.desc = some meth.sig)) = true) : (Jvm.Cond.code y bytes mx rt).before a s = true := by
  simp only [Bool.and_eq_true, beq_iff_eq, Bool.not_eq_true', decide_eq_true_eq] at h5
  obtain ⟨⟨⟨⟨⟨g1, g2⟩, g3⟩, g4⟩, g5⟩, g6⟩ := h5
  simp [Cond.before, Cond.holds, Cond.value, h1, h2, h3, h4, g1, g2, g3, g4, g5, g6]
def isCode : Jvm.Cond → Bool
  | .code _ _ _ _ => true
  | _ => false
theorem all_split {L : List Jvm.Cond} {P : Jvm.Cond → Bool} (h1 : L.all (fun c => isCode c || P c) = true) (h2 : ∀ c ∈ L.filter isCode, P c = true) : L.all P = true := by
  refine List.all_eq_true.mpr fun c hc => ?_
  have h := List.all_eq_true.mp h1 c hc
  rcases Bool.eq_false_or_eq_true (isCode c) with hi | hi
  · exact h2 c (List.mem_filter.mpr ⟨hc, hi⟩)
  · simpa [hi] using h
set_option maxRecDepth 65536 in
theorem w_c0 : (Jvm.Cond.code x code maxLocals ret).before args0 about1 = true := code_word (m := ⟨1, 2⟩) (meth := k1m2) (c := k1c2) (by decide +kernel) rfl rfl rfl (by decide +kernel)
set_option maxRecDepth 65536 in
theorem w_c1 : (Jvm.Cond.code ({ cls := "com/example/ferret/ferret/frontend/PositionOfPinLaw", name := "kindOf", desc := "(I)Lcom/example/ferret/ferret/frontend/Token$Kind;" } : Jvm.MethodName) method_2_code (1 : Nat) (Option.some (Jvm.ClassFile.FieldType.object "com/example/ferret/ferret/frontend/Token$Kind"))).before args0 about1 = true := code_word (m := ⟨1, 1⟩) (meth := k1m1) (c := k1c1) (by decide +kernel) rfl rfl rfl (by decide +kernel)
set_option maxRecDepth 65536 in
theorem w_c2 : (Jvm.Cond.code ({ cls := "java/lang/String", name := "<init>", desc := "([C)V" } : Jvm.MethodName) jdk_42_method_3_code (2 : Nat) (Option.none : Option Jvm.ClassFile.FieldType)).before args0 about1 = true := code_word (m := ⟨9, 1⟩) (meth := k9m1) (c := k9c1) (by decide +kernel) rfl rfl rfl (by decide +kernel)
set_option maxRecDepth 65536 in
theorem w_c3 : (Jvm.Cond.code ({ cls := "java/lang/String", name := "<init>", desc := "([CIILjava/lang/Void;)V" } : Jvm.MethodName) jdk_42_method_149_code (6 : Nat) (Option.none : Option Jvm.ClassFile.FieldType)).before args0 about1 = true := code_word (m := ⟨9, 2⟩) (meth := k9m2) (c := k9c2) (by decide +kernel) rfl rfl rfl (by decide +kernel)
set_option maxRecDepth 65536 in
theorem w_c4 : (Jvm.Cond.code ({ cls := "java/lang/Object", name := "<init>", desc := "()V" } : Jvm.MethodName) object_method_1_code (1 : Nat) (Option.none : Option Jvm.ClassFile.FieldType)).before args0 about1 = true := code_word (m := ⟨0, 0⟩) (meth := k0m0) (c := k0c0) (by decide +kernel) rfl rfl rfl (by decide +kernel)
set_option maxRecDepth 65536 in
theorem w_c5 : (Jvm.Cond.code ({ cls := "java/lang/StringUTF16", name := "compress", desc := "([CII)[B" } : Jvm.MethodName) jdk_52_method_16_code (6 : Nat) (Option.some (Jvm.ClassFile.FieldType.array Jvm.ClassFile.FieldType.byte))).before args0 about1 = true := code_word (m := ⟨10, 2⟩) (meth := k10m2) (c := k10c2) (by decide +kernel) rfl rfl rfl (by decide +kernel)
set_option maxRecDepth 65536 in
theorem w_c6 : (Jvm.Cond.code ({ cls := "java/lang/StringUTF16", name := "compress", desc := "([CI[BII)I" } : Jvm.MethodName) jdk_52_method_21_code (7 : Nat) (Option.some Jvm.ClassFile.FieldType.int)).before args0 about1 = true := code_word (m := ⟨10, 3⟩) (meth := k10m3) (c := k10c3) (by decide +kernel) rfl rfl rfl (by decide +kernel)
set_option maxRecDepth 65536 in
theorem w_c7 : (Jvm.Cond.code ({ cls := "java/lang/StringUTF16", name := "coderFromArrayLen", desc := "([BI)B" } : Jvm.MethodName) jdk_52_method_15_code (2 : Nat) (Option.some Jvm.ClassFile.FieldType.byte)).before args0 about1 = true := code_word (m := ⟨10, 1⟩) (meth := k10m1) (c := k10c1) (by decide +kernel) rfl rfl rfl (by decide +kernel)
set_option maxRecDepth 65536 in
theorem w_c8 : (Jvm.Cond.code ({ cls := "com/example/ferret/ferret/frontend/Token", name := "<init>", desc := "(Lcom/example/ferret/ferret/frontend/Token$Kind;Ljava/lang/String;IILjava/lang/String;Z)V" } : Jvm.MethodName) prog_119_method_1_code (7 : Nat) (Option.none : Option Jvm.ClassFile.FieldType)).before args0 about1 = true := code_word (m := ⟨12, 0⟩) (meth := k12m0) (c := k12c0) (by decide +kernel) rfl rfl rfl (by decide +kernel)
set_option maxRecDepth 65536 in
theorem w_c9 : (Jvm.Cond.code ({ cls := "java/lang/Record", name := "<init>", desc := "()V" } : Jvm.MethodName) jdk_30_method_1_code (1 : Nat) (Option.none : Option Jvm.ClassFile.FieldType)).before args0 about1 = true := code_word (m := ⟨11, 0⟩) (meth := k11m0) (c := k11c0) (by decide +kernel) rfl rfl rfl (by decide +kernel)
set_option maxRecDepth 65536 in
theorem w_c10 : (Jvm.Cond.code ({ cls := "com/example/ferret/ferret/frontend/Ast$Position", name := "of", desc := "(Lcom/example/ferret/ferret/frontend/Token;)Lcom/example/ferret/ferret/frontend/Ast$Position;" } : Jvm.MethodName) prog_49_method_2_code (1 : Nat) (Option.some (Jvm.ClassFile.FieldType.object "com/example/ferret/ferret/frontend/Ast$Position"))).before args0 about1 = true := code_word (m := ⟨13, 1⟩) (meth := k13m1) (c := k13c1) (by decide +kernel) rfl rfl rfl (by decide +kernel)
set_option maxRecDepth 65536 in
theorem w_c11 : (Jvm.Cond.code ({ cls := "com/example/ferret/ferret/frontend/Token", name := "line", desc := "()I" } : Jvm.MethodName) prog_119_method_9_code (1 : Nat) (Option.some Jvm.ClassFile.FieldType.int)).before args0 about1 = true := code_word (m := ⟨12, 1⟩) (meth := k12m1) (c := k12c1) (by decide +kernel) rfl rfl rfl (by decide +kernel)
set_option maxRecDepth 65536 in
theorem w_c12 : (Jvm.Cond.code ({ cls := "com/example/ferret/ferret/frontend/Token", name := "column", desc := "()I" } : Jvm.MethodName) prog_119_method_10_code (1 : Nat) (Option.some Jvm.ClassFile.FieldType.int)).before args0 about1 = true := code_word (m := ⟨12, 2⟩) (meth := k12m2) (c := k12c2) (by decide +kernel) rfl rfl rfl (by decide +kernel)
set_option maxRecDepth 65536 in
theorem w_c13 : (Jvm.Cond.code ({ cls := "com/example/ferret/ferret/frontend/Ast$Position", name := "<init>", desc := "(II)V" } : Jvm.MethodName) prog_49_method_1_code (3 : Nat) (Option.none : Option Jvm.ClassFile.FieldType)).before args0 about1 = true := code_word (m := ⟨13, 0⟩) (meth := k13m0) (c := k13c0) (by decide +kernel) rfl rfl rfl (by decide +kernel)
set_option maxRecDepth 65536 in
theorem w_c14 : (Jvm.Cond.code ({ cls := "com/example/ferret/ferret/frontend/Ast$Position", name := "line", desc := "()I" } : Jvm.MethodName) prog_49_method_6_code (1 : Nat) (Option.some Jvm.ClassFile.FieldType.int)).before args0 about1 = true := code_word (m := ⟨13, 2⟩) (meth := k13m2) (c := k13c2) (by decide +kernel) rfl rfl rfl (by decide +kernel)
set_option maxRecDepth 65536 in
theorem w_c15 : (Jvm.Cond.code ({ cls := "com/example/ferret/ferret/frontend/Ast$Position", name := "column", desc := "()I" } : Jvm.MethodName) prog_49_method_7_code (1 : Nat) (Option.some Jvm.ClassFile.FieldType.int)).before args0 about1 = true := code_word (m := ⟨13, 3⟩) (meth := k13m3) (c := k13c3) (by decide +kernel) rfl rfl rfl (by decide +kernel)
def codes1 : List Jvm.Cond := [Jvm.Cond.code x code maxLocals ret, Jvm.Cond.code ({ cls := "com/example/ferret/ferret/frontend/PositionOfPinLaw", name := "kindOf", desc := "(I)Lcom/example/ferret/ferret/frontend/Token$Kind;" } : Jvm.MethodName) method_2_code (1 : Nat) (Option.some (Jvm.ClassFile.FieldType.object "com/example/ferret/ferret/frontend/Token$Kind")), Jvm.Cond.code ({ cls := "java/lang/String", name := "<init>", desc := "([C)V" } : Jvm.MethodName) jdk_42_method_3_code (2 : Nat) (Option.none : Option Jvm.ClassFile.FieldType), Jvm.Cond.code ({ cls := "java/lang/String", name := "<init>", desc := "([CIILjava/lang/Void;)V" } : Jvm.MethodName) jdk_42_method_149_code (6 : Nat) (Option.none : Option Jvm.ClassFile.FieldType), Jvm.Cond.code ({ cls := "java/lang/Object", name := "<init>", desc := "()V" } : Jvm.MethodName) object_method_1_code (1 : Nat) (Option.none : Option Jvm.ClassFile.FieldType), Jvm.Cond.code ({ cls := "java/lang/StringUTF16", name := "compress", desc := "([CII)[B" } : Jvm.MethodName) jdk_52_method_16_code (6 : Nat) (Option.some (Jvm.ClassFile.FieldType.array Jvm.ClassFile.FieldType.byte)), Jvm.Cond.code ({ cls := "java/lang/StringUTF16", name := "compress", desc := "([CI[BII)I" } : Jvm.MethodName) jdk_52_method_21_code (7 : Nat) (Option.some Jvm.ClassFile.FieldType.int), Jvm.Cond.code ({ cls := "java/lang/StringUTF16", name := "coderFromArrayLen", desc := "([BI)B" } : Jvm.MethodName) jdk_52_method_15_code (2 : Nat) (Option.some Jvm.ClassFile.FieldType.byte), Jvm.Cond.code ({ cls := "com/example/ferret/ferret/frontend/Token", name := "<init>", desc := "(Lcom/example/ferret/ferret/frontend/Token$Kind;Ljava/lang/String;IILjava/lang/String;Z)V" } : Jvm.MethodName) prog_119_method_1_code (7 : Nat) (Option.none : Option Jvm.ClassFile.FieldType), Jvm.Cond.code ({ cls := "java/lang/Record", name := "<init>", desc := "()V" } : Jvm.MethodName) jdk_30_method_1_code (1 : Nat) (Option.none : Option Jvm.ClassFile.FieldType), Jvm.Cond.code ({ cls := "com/example/ferret/ferret/frontend/Ast$Position", name := "of", desc := "(Lcom/example/ferret/ferret/frontend/Token;)Lcom/example/ferret/ferret/frontend/Ast$Position;" } : Jvm.MethodName) prog_49_method_2_code (1 : Nat) (Option.some (Jvm.ClassFile.FieldType.object "com/example/ferret/ferret/frontend/Ast$Position")), Jvm.Cond.code ({ cls := "com/example/ferret/ferret/frontend/Token", name := "line", desc := "()I" } : Jvm.MethodName) prog_119_method_9_code (1 : Nat) (Option.some Jvm.ClassFile.FieldType.int), Jvm.Cond.code ({ cls := "com/example/ferret/ferret/frontend/Token", name := "column", desc := "()I" } : Jvm.MethodName) prog_119_method_10_code (1 : Nat) (Option.some Jvm.ClassFile.FieldType.int), Jvm.Cond.code ({ cls := "com/example/ferret/ferret/frontend/Ast$Position", name := "<init>", desc := "(II)V" } : Jvm.MethodName) prog_49_method_1_code (3 : Nat) (Option.none : Option Jvm.ClassFile.FieldType), Jvm.Cond.code ({ cls := "com/example/ferret/ferret/frontend/Ast$Position", name := "line", desc := "()I" } : Jvm.MethodName) prog_49_method_6_code (1 : Nat) (Option.some Jvm.ClassFile.FieldType.int), Jvm.Cond.code ({ cls := "com/example/ferret/ferret/frontend/Ast$Position", name := "column", desc := "()I" } : Jvm.MethodName) prog_49_method_7_code (1 : Nat) (Option.some Jvm.ClassFile.FieldType.int)]
set_option maxRecDepth 65536 in
theorem codes_eq : words1.filter isCode = codes1 := rfl
theorem w_codes : ∀ c ∈ words1.filter isCode, c.before args0 about1 = true := by
  rw [codes_eq]
  intro c hc
  simp only [codes1, List.mem_cons, List.not_mem_nil, or_false] at hc
  rcases hc with rfl | rfl | rfl | rfl | rfl | rfl | rfl | rfl | rfl | rfl | rfl | rfl | rfl | rfl | rfl | rfl
  · exact w_c0
  · exact w_c1
  · exact w_c2
  · exact w_c3
  · exact w_c4
  · exact w_c5
  · exact w_c6
  · exact w_c7
  · exact w_c8
  · exact w_c9
  · exact w_c10
  · exact w_c11
  · exact w_c12
  · exact w_c13
  · exact w_c14
  · exact w_c15
set_option maxRecDepth 65536 in
theorem w_t1 : (words1.take 24).all (fun c => isCode c || c.before args0 about1) = true := by decide +kernel
set_option maxRecDepth 65536 in
theorem w_t2 : ((words1.drop 24).take 24).all (fun c => isCode c || c.before args0 about1) = true := by decide +kernel
set_option maxRecDepth 65536 in
theorem w_t3 : (((words1.drop 24).drop 24).take 24).all (fun c => isCode c || c.before args0 about1) = true := by decide +kernel
set_option maxRecDepth 65536 in
theorem w_t4 : ((((words1.drop 24).drop 24).drop 24).take 24).all (fun c => isCode c || c.before args0 about1) = true := by decide +kernel
set_option maxRecDepth 65536 in
theorem w_t5 : ((((words1.drop 24).drop 24).drop 24).drop 24).all (fun c => isCode c || c.before args0 about1) = true := by decide +kernel
theorem w_tables : (allAtoms (Jvm.Cond.code x code maxLocals ret :: tables_1)).before args0 about1 = true := by
  rw [allAtoms_all]
  show words1.all (fun c => c.before args0 about1) = true
  refine all_split ?_ w_codes
  rw [← List.take_append_drop 24 words1, List.all_append, w_t1, ← List.take_append_drop 24 (words1.drop 24), List.all_append, w_t2, ← List.take_append_drop 24 ((words1.drop 24).drop 24), List.all_append, w_t3, ← List.take_append_drop 24 (((words1.drop 24).drop 24).drop 24), List.all_append, w_t4, w_t5]
  rfl
set_option maxRecDepth 65536 in
theorem w_rest : rest_1_c.before args0 about1 = true := by decide +kernel
set_option maxRecDepth 65536 in
theorem w_case : (Jvm.Cond.and given_1 narrow_1).before args0 about1 = true := by decide +kernel
theorem w_applies : (headSpec (Jvm.Cond.code x code maxLocals ret :: tables_1) room_1).applies x e0.platform about1 = true :=
  (Spec.applies_iff w_frames).mpr ⟨w_running, w_runnable, w_alone, w_named, w_hears, w_ripe, w_room, w_tables⟩
theorem atStart : AtStart classFile x code maxLocals ret World_1 tables_1 room_1 Calls_1 rest_1 Pre_1 launch0 p0 e0 about1 theMethod args0 below0 :=
  ⟨lists_1, trivial, launch0.admits_env _ _ _, launch0.least_env, fairChoices_fair.cas, fairChoices_fair.clock, w_frames, w_args, w_heap, w_applies, trivial, w_rest, w_case⟩
end start1
theorem witness_1 : WitnessClaimed_1 := ⟨start1.p0, start1.e0, start1.about1, start1.theMethod, start1.args0, start1.below0, start1.atStart⟩
end Jvm.Pilot.@@N@@
